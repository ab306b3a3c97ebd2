import PyProof.Rows.All
import Wide.All
import OpenK.AllK
import Wide.FinOn
import KE.KTryDeepN
import PyProof.CompFree
import KE.KEqSeq
import KE.KLam
import PyProof.ListIndexNeg
import PyProof.ForAny
import KE.KPairComp
import KE.KSlice
import PyProof.Rows.FactsExc_ZeroDivisionError
import PyProof.Rows.RaiseClass
import PySem.Challenge.RW_rs0144_01
section -- Top144
open PySem PySem.W PyProof.Rows
set_option Elab.async false
set_option maxRecDepth 100000
set_option maxHeartbeats 8000000
namespace Mine
/- the head: the looks one by one, the run of the top by one look of the kernel; the kit's road lays twins of every object -/
theorem said_ok : OpenLaw.wellSaid PySem.Challenge.rw_rs0144_01 = true := by
  unfold OpenLaw.wellSaid OpenRow.wellSaid OpenRow.partSaid looksOpen
  repeat (refine look_both ?_ (by decide +kernel))
  decide +kernel
def vw : Program := { PySem.Challenge.pw_rs0144_01 with main := { PySem.Challenge.pw_rs0144_01.main with body := (PySem.Challenge.pw_rs0144_01.main.body.drop 5).take 7 ++ ((PySem.Challenge.pw_rs0144_01.main.body.drop 13).take 5 ++ PySem.Challenge.pw_rs0144_01.main.body.drop 19) } }
set_option hygiene false in
local macro_rules | `(tactic| o_law) => `(tactic| refine holds_law said_ok fun said => ?_)
set_option hygiene false in
local macro_rules | `(tactic| o_head $H) => `(tactic| (refine holds_open (q := vw) (loose := ["insort_right", "bisect_right", "bisect_left"]) (Xt := fun s => xlAt vw [] s && recOk (RowW.records (OpenRow.toRowW (OpenLaw.row PySem.Challenge.rw_rs0144_01))) s) (XP := XL vw []) (Yf := Hook.obs $H) (Ya := Hook.val $H) (YP := Hook.says $H) (N := 1430) ?hl (Hook.of $H) (Hook.keeps $H) (fun s e => xl_of s (Bool.and_eq_true_iff.mp e).1) XL.keeps (by rfl) (by rfl) (by rfl) (fun s e => recFacts_of (Bool.and_eq_true_iff.mp e).2) (by rfl) (by first | assumption | decide +kernel) (by decide +kernel) ⟨rfl, rfl, rfl, rfl, rfl, by decide +kernel⟩ ?hw ?hc; (case hl => intro w; kernel_rfl)))
open_top hd for PySem.Challenge.rw_rs0144_01
end Mine
end -- Top144
section -- L1
open PySem PySem.W PyProof.Rows PySem.Calls
set_option Elab.async false
set_option maxRecDepth 100000
set_option maxHeartbeats 4000000
namespace Mine

def Bs (w : World) (B : Heap) : Prop := (hd.heap_1 w.params).In B ∧ ∃ p loose mg mb, TopRead p loose mg mb B ∧
  ∃ bm ob, mg "__builtins__" = some (.ref bm) ∧ bm ≠ builtinsNs ∧ B.get? bm = some ob ∧ ob.cls = .type "module" ∧ ob.dict = some builtinsNs ∧ ob.data = .plain
theorem Bs.keeps {w : World} {h h' : Heap} (X : Bs w h) (hk : h.StaysIn h') : Bs w h' :=
  let ⟨X, p, l, mg, mb, T, bm, ob, b1, b2, b3, r⟩ := X
  ⟨X.keeps hk, p, l, mg, mb, T.keeps hk, bm, ob, b1, b2, hk _ _ b3, r⟩
theorem hide {G : Prop} (h : ∀ K : Prop, (G → K) → K) : G := h G id

structure St (B : Heap) (L : Addr) (h : Heap) (l : List (Str × Value)) (own tl : List (Addr × Obj)) : Prop where
  fr : ∃ m, Fr B L h m ∧ ∀ x v, l.lookup x = some v → m x = some v
  nw : News B L h (own ++ tl)
  nd : ((own ++ tl).map (·.1)).Nodup

inductive LInv {σ : Type} (B : Heap) (L : Addr) (g : Array GenState) (d : Drawn) (o : OsState) (n : Nat) (lf : σ → List (Str × Value)) (of tf : σ → List (Addr × Obj)) (P : Nat → σ → Prop) (It : Nat → Obj → Prop) (I : Addr) : Nat → Shared → Prop
  | mk (i : Nat) (y : σ) (h : Heap) (tk : Nat) (oI : Obj) : i ≤ n → P i y → It i oI → St B L h (lf y) ((I, oI) :: of y) (tf y) → LInv B L g d o n lf of tf P It I (n + 1 - i) ⟨h, g, d, tk, o⟩
section
variable {B : Heap} {L : Addr} {h h' : Heap} {l l' : List (Str × Value)} {own own' tl : List (Addr × Obj)}

theorem St.keep (S : St B L h l own tl) : ∀ b o, B.get? b = some o → h.get? b = some o := let ⟨_, F, _⟩ := S.fr; F.keep
theorem St.weak (S : St B L h l own tl) (hl : ∀ p ∈ l', l.lookup p.1 = some p.2) : St B L h l' own tl := by
  obtain ⟨m, F, hm⟩ := S.fr
  refine ⟨⟨m, F, fun x v e => hm x v ?_⟩, S.nw, S.nd⟩
  have : (x, v) ∈ l' := by
    clear hl
    induction l' with
    | nil => cases e
    | cons p r ih =>
      rw [List.lookup_cons] at e
      split at e
      · rename_i q
        have := beq_iff_eq.mp q
        cases e
        subst this
        exact .head _
      · exact .tail _ (ih e)
  exact hl _ this
theorem St.sub (S : St B L h l own tl) (hs : own'.Sublist own) : St B L h l own' tl :=
  ⟨S.fr, fun p hp => S.nw p ((hs.append (List.Sublist.refl tl)).subset hp), S.nd.sublist ((hs.append (List.Sublist.refl tl)).map _)⟩
theorem St.perm (S : St B L h l own tl) (hs : own'.Perm own) : St B L h l own' tl :=
  ⟨S.fr, fun p hp => S.nw p ((hs.append_right tl).mem_iff.mp hp), ((hs.append_right tl).map _).nodup_iff.mpr S.nd⟩
theorem St.has {a : Addr} {o : Obj} (S : St B L h l own tl) (hm : (a, o) ∈ own) : h.get? a = some o ∧ a ≠ L ∧ B.get? a = none := S.nw _ (List.mem_append_left _ hm)
theorem St.get {a : Addr} {o : Obj} (S : St B L h l own tl) (hm : (a, o) ∈ own) : h.get? a = some o := (S.has hm).1
theorem St.new {a : Addr} {o : Obj} (S : St B L h l own tl) (hm : (a, o) ∈ own) : B.get? a = none := (S.has hm).2.2
theorem St.upd {a : Addr} {o o' : Obj} (S : St B L h l ((a, o) :: own) tl) (hs : Heap.SameBut a h h') (ho : h'.get? a = some o') : St B L h' l ((a, o') :: own) tl := by
  obtain ⟨m, F, hm⟩ := S.fr
  have z := S.has (.head _)
  have nd := S.nd
  rw [List.cons_append, List.map_cons, List.nodup_cons] at nd
  refine ⟨⟨m, F.change hs z.2.1 z.2.2, hm⟩, fun p hp => ?_, by rw [List.cons_append, List.map_cons, List.nodup_cons]; exact nd⟩
  rw [List.cons_append] at hp
  rcases List.mem_cons.mp hp with rfl | hp
  · exact ⟨ho, z.2⟩
  · have y := S.nw p (.tail _ hp)
    exact ⟨(hs.2 _ fun e => nd.1 (e ▸ List.mem_map_of_mem (f := (·.1)) hp)).trans y.1, y.2⟩
theorem St.push (S : St B L h l own tl) (o : Obj) (hf : o.isFreed = false := by rfl) : St B L (h.push o) l ((h.objs.size, o) :: own) tl := by
  obtain ⟨m, F, hm⟩ := S.fr
  refine ⟨⟨m, F.push _, hm⟩, News.push F S.nw o hf, ?_⟩
  rw [List.cons_append, List.map_cons, List.nodup_cons]
  refine ⟨fun hmem => ?_, S.nd⟩
  obtain ⟨p, hp, e⟩ := List.mem_map.mp hmem
  exact absurd (Heap.lt_size (S.nw p hp).1) (by rw [e]; exact Nat.lt_irrefl _)
theorem St.stays (S : St B L h l own tl) (hk : h.StaysIn h') : St B L h' l own tl := by
  obtain ⟨m, F, hm⟩ := S.fr
  exact ⟨⟨m, ⟨F.ns.keeps hk, fun b o e => hk _ _ (F.keep b o e), F.above⟩, hm⟩, fun p hp => ⟨hk _ _ (S.nw p hp).1, (S.nw p hp).2⟩, S.nd⟩
theorem St.isList {a : Addr} {its : Array Value} {n : Nat} (S : St B L h l own tl) (hm : (a, listOf its n) ∈ own) : h.IsList a its := ⟨_, S.get hm, rfl, n, rfl⟩
end

section
variable {prog : Program} {w : World} {M : Model} {A : Around} {E : Value → Shared → Prop} {env : Env} {B : Heap} {L : Addr} {h : Heap} {g : Array GenState} {d : Drawn} {tk : Nat} {o : OsState} {l : List (Str × Value)} {own tl : List (Addr × Obj)}

theorem r_ld {x : Str} {pos : Pos} {v : Value} {Q : Value → Shared → Prop} (S : St B L h l own tl) (hL : env.locals = L) (hv : l.lookup x = some v) (hk : env.scope.kind = .function) (hl : env.kindOf x = some .local) (hd : (x == ("__debug__" : Str)) = false)
    (hq : Q v ⟨h, g, d, tk, o⟩) : wpAny M A (eval (.Name x pos) env) Q E ⟨h, g, d, tk, o⟩ :=
  let ⟨_, F, hm⟩ := S.fr
  wpAny_Name (wpAny_loadName_local hk hl (hL ▸ F.ns) (hm _ _ hv) hq) hd
theorem r_ldn {x : Str} {v : Value} {Q : Value → Shared → Prop} (S : St B L h l own tl) (hL : env.locals = L) (hv : l.lookup x = some v) (hk : env.scope.kind = .function) (hl : env.kindOf x = some .local)
    (hq : Q v ⟨h, g, d, tk, o⟩) : wpAny M A (loadName env x) Q E ⟨h, g, d, tk, o⟩ :=
  let ⟨_, F, hm⟩ := S.fr
  wpAny_loadName_local hk hl (hL ▸ F.ns) (hm _ _ hv) hq
theorem r_st {x : Str} {v : Value} {Q : Unit → Shared → Prop} (S : St B L h l own tl) (hL : env.locals = L) (hk : env.scope.kind = .function) (hl : env.kindOf x = some .local)
    (hq : ∀ h' tk', St B L h' ((x, v) :: l) own tl → Q () ⟨h', g, d, tk', o⟩) : wpAny M A (storeName env x v) Q E ⟨h, g, d, tk, o⟩ := by
  subst hL
  obtain ⟨m, F, hm⟩ := S.fr
  refine wpAny_storeName_local hl F.ns (fun h' hn hs => hq h' _ ⟨⟨_, F.set hn hs, fun y u e => ?_⟩, S.nw.set hs, S.nd⟩) (by rw [hk]; rfl)
  rw [List.lookup_cons] at e
  split at e
  · rename_i q
    rw [if_pos (beq_iff_eq.mp q)]; exact e
  · rename_i q
    rw [if_neg (fun z => by rw [beq_iff_eq.mpr z] at q; cases q)]; exact hm _ _ e

theorem r_gl {x : Str} {pos : Pos} {v : Value} {Q : Value → Shared → Prop} (S : St B L h l own tl) (X : Bs w B)
    (e : nsIn (hd.heap_1 w.params) mainGlobals x = some (some v)) (hk : env.scope.kind = .function) (hg : env.globals = mainGlobals) (hx : env.kindOf x = some .globalImplicit) (hd : (x == ("__debug__" : Str)) = false)
    (hq : Q v ⟨h, g, d, tk, o⟩) : wpAny M A (eval (.Name x pos) env) Q E ⟨h, g, d, tk, o⟩ :=
  let ⟨X, _, _, _, _, T, _⟩ := X
  Name_function_global hk hx (loadGlobal_global (env := env) (by rw [hg]; exact T.g.keeps S.keep) (mg_of X T.g e) hq) hd
theorem r_bi {x : Str} {pos : Pos} {v : Value} {Q : Value → Shared → Prop} (S : St B L h l own tl) (X : Bs w B)
    (e : nsIn (hd.heap_1 w.params) mainGlobals x = some none) (hv : bootBuiltins x = some v) (hn : x ≠ "__name__") (hk : env.scope.kind = .function) (hg : env.globals = mainGlobals) (hb : env.builtins = builtinsNs) (hx : env.kindOf x = some .globalImplicit) (hd : (x == ("__debug__" : Str)) = false)
    (hq : Q v ⟨h, g, d, tk, o⟩) : wpAny M A (eval (.Name x pos) env) Q E ⟨h, g, d, tk, o⟩ :=
  let ⟨X, _, _, _, _, T, _⟩ := X
  Name_function_global hk hx (loadGlobal_builtin (env := env) (by rw [hg]; exact T.g.keeps S.keep) (mg_none_of X T.g e) (by rw [hb]; exact T.b.keeps S.keep) ((T.builtins x hn).trans hv) hq) hd
end
end Mine
end -- L1
section -- L2
open PySem PySem.W PyProof.Rows PySem.Calls
set_option Elab.async false
set_option maxRecDepth 100000
set_option maxHeartbeats 4000000
namespace Mine
section
variable {prog : Program} {w : World} {M : Model} {A : Around} {E : Value → Shared → Prop} {env : Env} {B : Heap} {h : Heap} {g : Array GenState} {d : Drawn} {tk : Nat} {o : OsState} {l : List (Str × Value)} {own : List (Addr × Obj)}
  {a b : Int} {t u : Tok} {Q : Value → Shared → Prop}

theorem i_add  (hq : Q (.int (a + b) tk) ⟨h, g, d, tk.succ, o⟩) : wpAny (model prog w) A (binaryOp .Add (.int a t) (.int b u)) Q E ⟨h, g, d, tk, o⟩ := PyProof.Rows.add_int hq
theorem i_sub  (hq : Q (.int (a - b) tk) ⟨h, g, d, tk.succ, o⟩) : wpAny (model prog w) A (binaryOp .Sub (.int a t) (.int b u)) Q E ⟨h, g, d, tk, o⟩ := PyProof.Rows.sub_int hq
theorem i_mul (hm : IntMulOk a b) (hq : Q (.int (a * b) tk) ⟨h, g, d, tk.succ, o⟩) : wpAny (model prog w) A (binaryOp .Mult (.int a t) (.int b u)) Q E ⟨h, g, d, tk, o⟩ := PyProof.Rows.mul_int hq hm
theorem i_fdiv (hb : b ≠ 0) (hp : Builtin.divisionGoesByPylong a b = false) (hq : Q (.int (a.fdiv b) tk) ⟨h, g, d, tk.succ, o⟩) : wpAny (model prog w) A (binaryOp .FloorDiv (.int a t) (.int b u)) Q E ⟨h, g, d, tk, o⟩ := PyProof.Rows.floordiv_int hb hq (Or.inl hp)
theorem i_fmod (hb : b ≠ 0) (hq : Q (.int (a.fmod b) tk) ⟨h, g, d, tk.succ, o⟩) : wpAny (model prog w) A (binaryOp .Mod (.int a t) (.int b u)) Q E ⟨h, g, d, tk, o⟩ := PyProof.Rows.mod_int hb hq
theorem i_shl (hn : 0 ≤ b) (hsz : (Builtin.Int.intBits a : Int) + b ≤ 2 ^ 27) (hq : Q (.int (a * 2 ^ b.toNat) tk) ⟨h, g, d, tk.succ, o⟩) : wpAny (model prog w) A (binaryOp .LShift (.int a t) (.int b u)) Q E ⟨h, g, d, tk, o⟩ := PyProof.Rows.lshift_int hn hsz hq
theorem i_shr (hn : 0 ≤ b) (hq : Q (.int (a.fdiv (2 ^ b.toNat)) tk) ⟨h, g, d, tk.succ, o⟩) : wpAny (model prog w) A (binaryOp .RShift (.int a t) (.int b u)) Q E ⟨h, g, d, tk, o⟩ := PyProof.Rows.rshift_int hn hq
theorem i_and  (hq : Q (.int (Builtin.bitAnd a b) tk) ⟨h, g, d, tk.succ, o⟩) : wpAny (model prog w) A (binaryOp .BitAnd (.int a t) (.int b u)) Q E ⟨h, g, d, tk, o⟩ := PyProof.Rows.and_int hq
theorem i_or  (hq : Q (.int (Builtin.bitOr a b) tk) ⟨h, g, d, tk.succ, o⟩) : wpAny (model prog w) A (binaryOp .BitOr (.int a t) (.int b u)) Q E ⟨h, g, d, tk, o⟩ := PyProof.Rows.or_int hq
theorem i_xor  (hq : Q (.int (Builtin.bitXor a b) tk) ⟨h, g, d, tk.succ, o⟩) : wpAny (model prog w) A (binaryOp .BitXor (.int a t) (.int b u)) Q E ⟨h, g, d, tk, o⟩ := PyProof.Rows.xor_int hq
theorem i_iadd  (hq : Q (.int (a + b) tk) ⟨h, g, d, tk.succ, o⟩) : wpAny (model prog w) A (inplaceOp .Add (.int a t) (.int b u)) Q E ⟨h, g, d, tk, o⟩ := PyProof.Rows.iadd_int hq
theorem i_isub  (hq : Q (.int (a - b) tk) ⟨h, g, d, tk.succ, o⟩) : wpAny (model prog w) A (inplaceOp .Sub (.int a t) (.int b u)) Q E ⟨h, g, d, tk, o⟩ := PyProof.Rows.isub_int hq
theorem i_ishl (hn : 0 ≤ b) (hsz : (Builtin.Int.intBits a : Int) + b ≤ 2 ^ 27) (hq : Q (.int (a * 2 ^ b.toNat) tk) ⟨h, g, d, tk.succ, o⟩) : wpAny (model prog w) A (inplaceOp .LShift (.int a t) (.int b u)) Q E ⟨h, g, d, tk, o⟩ := PyProof.Rows.ilshift_int hn hsz hq
theorem i_ishr (hn : 0 ≤ b) (hq : Q (.int (a.fdiv (2 ^ b.toNat)) tk) ⟨h, g, d, tk.succ, o⟩) : wpAny (model prog w) A (inplaceOp .RShift (.int a t) (.int b u)) Q E ⟨h, g, d, tk, o⟩ := PyProof.Rows.irshift_int hn hq
theorem i_lt (hq : Q (.bool (decide (a < b))) ⟨h, g, d, tk, o⟩) : wpAny (model prog w) A (compareOp .Lt (.int a t) (.int b u)) Q E ⟨h, g, d, tk, o⟩ := PyProof.Rows.lt_int hq
theorem i_gt (hq : Q (.bool (decide (b < a))) ⟨h, g, d, tk, o⟩) : wpAny (model prog w) A (compareOp .Gt (.int a t) (.int b u)) Q E ⟨h, g, d, tk, o⟩ := PyProof.Rows.gt_int hq
theorem i_le (hq : Q (.bool (decide (a ≤ b))) ⟨h, g, d, tk, o⟩) : wpAny (model prog w) A (compareOp .LtE (.int a t) (.int b u)) Q E ⟨h, g, d, tk, o⟩ := PyProof.Rows.le_int hq
theorem i_ge (hq : Q (.bool (decide (b ≤ a))) ⟨h, g, d, tk, o⟩) : wpAny (model prog w) A (compareOp .GtE (.int a t) (.int b u)) Q E ⟨h, g, d, tk, o⟩ := PyProof.Rows.ge_int hq
theorem i_eq (hq : Q (.bool (decide (a = b))) ⟨h, g, d, tk, o⟩) : wpAny (model prog w) A (compareOp .Eq (.int a t) (.int b u)) Q E ⟨h, g, d, tk, o⟩ := PyProof.Rows.eq_int hq
theorem i_ne (hq : Q (.bool (!decide (a = b))) ⟨h, g, d, tk, o⟩) : wpAny (model prog w) A (compareOp .NotEq (.int a t) (.int b u)) Q E ⟨h, g, d, tk, o⟩ := PyProof.Rows.ne_int hq
theorem i_neg (hq : Q (.int (-a) tk) ⟨h, g, d, tk.succ, o⟩) : wpAny (model prog w) A (unaryOp .USub (.int a t)) Q E ⟨h, g, d, tk, o⟩ := PyProof.Rows.neg_int hq
theorem i_inv (hq : Q (.int (Builtin.bitNot a) tk) ⟨h, g, d, tk.succ, o⟩) : wpAny (model prog w) A (unaryOp .Invert (.int a t)) Q E ⟨h, g, d, tk, o⟩ := PyProof.Rows.invert_int hq
theorem i_const {i : Int} {k : Nat} {pos : Pos} (hq : Q (.int i tk) ⟨h, g, d, tk.succ, o⟩) : wpAny M A (eval (.Constant (.int i) k pos) env) Q E ⟨h, g, d, tk, o⟩ := wpAny_Constant_int hq
theorem i_bits (hq : Q (.int (Builtin.Int.intBits a) tk) ⟨h, g, d, tk.succ, o⟩) : wpAny (model prog w) A (call (.builtin "int.bit_length") [.int a t]) Q E ⟨h, g, d, tk, o⟩ := call_int_bit_length hq
theorem c_none {k : Nat} {pos : Pos} (hq : Q .none ⟨h, g, d, tk, o⟩) : wpAny M A (eval (.Constant .none k pos) env) Q E ⟨h, g, d, tk, o⟩ := wpAny_pure hq
theorem c_bool {x : Bool} {k : Nat} {pos : Pos} (hq : Q (.bool x) ⟨h, g, d, tk, o⟩) : wpAny M A (eval (.Constant (.bool x) k pos) env) Q E ⟨h, g, d, tk, o⟩ := wpAny_pure hq
theorem ite_b {p : Prop} [Decidable p] {P P' : Prop} (h1 : p → P) (h2 : ¬ p → P') : if decide p = true then P else P' := by
  by_cases hp : p
  · rw [if_pos (by simpa using hp)]; exact h1 hp
  · rw [if_neg (by simpa using hp)]; exact h2 hp
theorem ite_nb {p : Prop} [Decidable p] {P P' : Prop} (h1 : ¬ p → P) (h2 : p → P') : if (!decide p) = true then P else P' := by
  by_cases hp : p
  · rw [if_neg (by simpa using hp)]; exact h2 hp
  · rw [if_pos (by simpa using hp)]; exact h1 hp
end
end Mine
end -- L2
section -- L3
open PySem PySem.W PyProof.Rows PySem.Calls
set_option Elab.async false
set_option maxRecDepth 100000
set_option maxHeartbeats 4000000
namespace Mine

noncomputable abbrev pg : Program := Challenge.rw_rs0144_01.row.prog
abbrev retOf (f : Flow) : Value := match f with | .ret v => v | _ => .none

def Then (P : Shared → Prop) (Q : Flow → Shared → Prop) : Flow → Shared → Prop
  | .next, s => P s
  | f, s => Q f s
def LoopQ (J : Shared → Prop) (Q : Flow → Shared → Prop) : Flow → Shared → Prop
  | .next, s => J s
  | .cont, s => J s
  | .brk, s => Q .next s
  | .ret v, s => Q (.ret v) s
theorem then_next {P : Shared → Prop} {Q : Flow → Shared → Prop} {s : Shared} (h : P s) : Then P Q .next s := h
theorem then_ret {P : Shared → Prop} {Q : Flow → Shared → Prop} {s : Shared} {v : Value} (h : Q (.ret v) s) : Then P Q (.ret v) s := h
theorem then_cont {P : Shared → Prop} {Q : Flow → Shared → Prop} {s : Shared} (h : Q .cont s) : Then P Q .cont s := h
theorem loop_next {J : Shared → Prop} {Q : Flow → Shared → Prop} {s : Shared} (h : J s) : LoopQ J Q .next s := h
theorem loop_cont {J : Shared → Prop} {Q : Flow → Shared → Prop} {s : Shared} (h : J s) : LoopQ J Q .cont s := h
theorem loop_ret {J : Shared → Prop} {Q : Flow → Shared → Prop} {s : Shared} {v : Value} (h : Q (.ret v) s) : LoopQ J Q (.ret v) s := h
theorem r_seq {M : Model} {A : Around} {E : Value → Shared → Prop} {env : Env} {st : Stmt} {rest : List Stmt} {Q : Flow → Shared → Prop} {s : Shared}
    (h : wpAny M A (exec st env) (Then (fun s' => wpAny M A (execs rest env) Q E s') Q) E s) : wpAny M A (execs (st :: rest) env) Q E s :=
  wpAny_execs_cons (wpAny_mono h (fun f _ q => by cases f <;> exact q) fun _ _ q => q)

section
variable {prog : Program} {w : World} {M : Model} {A : Around} {E : Value → Shared → Prop} {env : Env} {B : Heap} {L : Addr} {h : Heap} {g : Array GenState} {d : Drawn} {tk : Nat} {o : OsState} {l : List (Str × Value)} {own tl : List (Addr × Obj)}

theorem r_enter {Q : Value → Shared → Prop} {name qual : Str} {params : Arguments} {body : List Stmt} {scope : Scope} {dV kV doc pm cdv ct oc : Value} {an od : Option Addr} {osl : Array (Option Value)} {f : Addr} {pos : List Value} {kw : List (Str × Value)}
    (binds : List (Str × Value)) (X : Bs w h) (hroom : A.depth < recursionLimit)
    (ho : (hd.heap_1 w.params).lookup f = some ⟨oc, od, .func (fnOf name qual params body scope dV kV doc pm an cdv ct), osl⟩) (hcd : codeIn (hd.heap_1 w.params) cdv qual = true)
    (hbind : BindsTo ⟨h, g, d, tk, o⟩ (fnOf name qual params body scope dV kV doc pm an cdv ct) ⟨pos, kw⟩ binds)
    (hloc : ∀ y ∈ binds, scope.names.lookup y.1 = some .local)
    (hco : scope.isCoroutine = false) (hgen : scope.isGenerator = false) (hk : scope.kind = .function) (hcell : ∀ x ∈ scope.names, x.2 ≠ .cell)
    (hb : ∀ h₁ tk₁, St h h.objs.size h₁ binds.reverse [] [] →
      wpAny (model pg w) (A.deeper (envOf qual scope h.objs.size f cdv)) (execs body (envOf qual scope h.objs.size f cdv)) (fun fl s' => Q (retOf fl) s') (fun _ _ => False) ⟨h₁, g, d, tk₁, o⟩) :
    wpAny (model pg w) A (call (.ref f) pos kw) Q E ⟨h, g, d, tk, o⟩ := by
  refine hide fun Kz kz => ?_
  obtain ⟨X, p, lo, mg, mb, T, _⟩ := X
  refine kz ?_
  clear kz Kz
  refine wpAny_call (codeAny_call_def (fd := fnOf name qual params body scope dV kV doc pm an cdv ct) (body := body) (binds := binds) hroom (X _ _ ho) rfl T.nolimit (codeRec_of X hcd) rfl hbind hcell hloc (fun h₁ hns hk₁ => ?_) hco hgen hk)
  exact wpAny_mono (hb h₁ _ ⟨⟨_, ⟨hns, hk₁, Nat.le_refl _⟩, fun _ _ e => e⟩, News.nil, List.nodup_nil⟩) (fun fl s' q => q) fun _ _ q => q.elim

theorem r_while {test : Expr} {body orelse : List Stmt} {pos : Pos} {Q : Flow → Shared → Prop} {σ : Type} (lf : σ → List (Str × Value)) (of tf : σ → List (Addr × Obj)) (P : σ → Prop) (μ : σ → Nat) (x₀ : σ)
    (S : St B L h (lf x₀) (of x₀) (tf x₀)) (hP : P x₀)
    (turn : ∀ x h tk, P x → St B L h (lf x) (of x) (tf x) → ∀ (Kp : Shared → Prop), (∀ x' h' tk', μ x' < μ x → P x' → St B L h' (lf x') (of x') (tf x') → Kp ⟨h', g, d, tk', o⟩) → ∀ (Qv : Flow → Shared → Prop), (∀ f s, Q f s → Qv f s) →
      wpAny (model prog w) A (isTrue test env (eval test env)) (fun b s₂ =>
        if b then wpAny (model prog w) A (execs body env) (LoopQ Kp Qv) (fun _ _ => False) s₂
        else wpAny (model prog w) A (execs orelse env) Qv (fun _ _ => False) s₂) (fun _ _ => False) ⟨h, g, d, tk, o⟩) :
    wpAny (model prog w) A (exec (.While test body orelse pos) env) Q E ⟨h, g, d, tk, o⟩ := by
  refine wpAny_While (codeAny_whileLoop (fun n s => ∃ x h' tk', s = ⟨h', g, d, tk', o⟩ ∧ n = μ x ∧ P x ∧ St B L h' (lf x) (of x) (tf x)) ?_ (μ x₀) ⟨x₀, h, tk, rfl, rfl, hP, S⟩)
  rintro n s ⟨x, h', tk', rfl, rfl, hx, Sx⟩
  refine wpAny_mono (turn x h' tk' hx Sx (fun s₃ => ∃ x' h' tk', s₃ = ⟨h', g, d, tk', o⟩ ∧ μ x' < μ x ∧ P x' ∧ St B L h' (lf x') (of x') (tf x')) (fun x' h' tk' a b c => ⟨x', h', tk', rfl, a, b, c⟩) Q (fun _ _ q => q)) (fun b s₂ h₂ => ?_) fun _ _ e => e.elim
  cases b with
  | false => exact wpAny_mono h₂ (fun _ _ q => q) fun _ _ e => e.elim
  | true =>
    refine wpAny_mono h₂ (fun f s₃ h₃ => ?_) fun _ _ e => e.elim
    cases f with
    | next => obtain ⟨x', h'', tk'', rfl, hm, hp, hs⟩ := h₃; exact ⟨_, hm, x', h'', tk'', rfl, rfl, hp, hs⟩
    | cont => obtain ⟨x', h'', tk'', rfl, hm, hp, hs⟩ := h₃; exact ⟨_, hm, x', h'', tk'', rfl, rfl, hp, hs⟩
    | brk => exact h₃
    | ret v => exact h₃

theorem St.drop {a : Addr} {oa : Obj} {h' : Heap} (S : St B L h l ((a, oa) :: own) tl) (hk : Heap.ExtBut a h h') : St B L h' l own tl := by
  refine hide fun Kz kz => ?_
  obtain ⟨m, F, hm⟩ := S.fr
  refine kz ?_
  clear kz Kz
  have z := S.has (.head _)
  have nd := S.nd
  rw [List.cons_append, List.map_cons, List.nodup_cons] at nd
  refine ⟨⟨m, ⟨F.ns.extBut hk (Ne.symm z.2.1), fun b ob e => hk b ob (fun q => ?_) (F.keep b ob e), F.above⟩, hm⟩, fun p hp => ?_, nd.2⟩
  · have := z.2.2
    rw [← q, e] at this; cases this
  · have y := S.nw p (.tail _ hp)
    exact ⟨hk _ _ (fun e => nd.1 (e ▸ List.mem_map_of_mem (f := (·.1)) hp)) y.1, y.2⟩

structure Itr (prog : Program) (w : World) (A : Around) (I : Addr) (n : Nat) (LF : Heap → Prop) (val : Nat → Value → Prop) (It : Nat → Obj → Prop) : Prop where
  item : ∀ i h oI g d tk o (Q : Option Value → Shared → Prop) (E : Value → Shared → Prop), i < n → It i oI → h.get? I = some oI → LF h →
    (∀ v h' oI' tk', val i v → It (i + 1) oI' → h'.get? I = some oI' → Heap.SameBut I h h' → Q (some v) ⟨h', g, d, tk', o⟩) → wpAny (model prog w) A (pyNext (.ref I)) Q E ⟨h, g, d, tk, o⟩
  done : ∀ h oI g d tk o (Q : Option Value → Shared → Prop) (E : Value → Shared → Prop), It n oI → h.get? I = some oI → LF h →
    (∀ h' tk', Heap.ExtBut I h h' → Q none ⟨h', g, d, tk', o⟩) → wpAny (model prog w) A (pyNext (.ref I)) Q E ⟨h, g, d, tk, o⟩

theorem Itr.list (hh : A.handled = none) (I a : Addr) (items : Array Value) :
    Itr prog w A I items.size (fun h => h.IsList a items) (fun i v => items[i]? = some v) (fun i oI => oI.cls = .type "list_iterator" ∧ oI.data = .fields #[.ref a, .int i 0]) where
  item := fun i h oI g d tk o Q E hi hI ho hl hQ => by
    have hv : items[i]? = some items[i] := Array.getElem?_eq_getElem hi
    refine wpAny_pyNext_list_item ⟨_, ho, hI.1, hI.2⟩ hl hv fun h₂ hit₂ hs₂ => ?_
    refine hide fun Kz kz => ?_
    obtain ⟨o', ho', hc', hd'⟩ := hit₂
    refine kz ?_
    clear kz Kz
    exact hQ _ h₂ o' _ hv ⟨hc', hd'⟩ ho' hs₂
  done := fun h oI g d tk o Q E hI ho hl hQ => wpAny_pyNext_list_end hh ⟨_, ho, hI.1, hI.2⟩ hl (by simp) fun h₂ he₂ => hQ h₂ _ he₂

theorem Itr.rev (hh : A.handled = none) (I a : Addr) (items : Array Value) :
    Itr prog w A I items.size (fun h => h.IsList a items) (fun i v => items[items.size - 1 - i]? = some v) (fun i oI => i ≤ items.size ∧ oI.cls = .type "list_reverseiterator" ∧ oI.data = .fields #[.ref a, rawInt ((items.size : Int) - 1 - i)]) where
  item := fun i h oI g d tk o Q E hi hI ho hl hQ => by
    have hv : items[items.size - 1 - i]? = some (items[items.size - 1 - i]'(by omega)) := Array.getElem?_eq_getElem (by omega)
    have e : (items.size : Int) - 1 - (i : Int) = ((items.size - 1 - i : Nat) : Int) := by omega
    refine wpAny_pyNext_rev_item (l := a) (i := items.size - 1 - i) ⟨_, ho, hI.2.1, by rw [hI.2.2, e]⟩ hl hv fun h₂ hit₂ hs₂ => ?_
    refine hide fun Kz kz => ?_
    obtain ⟨o', ho', hc', hd'⟩ := hit₂
    refine kz ?_
    clear kz Kz
    refine hQ _ h₂ o' _ hv ⟨hi, hc', ?_⟩ ho' hs₂
    rw [hd']
    have e2 : ((items.size - 1 - i : Nat) : Int) - 1 = (items.size : Int) - 1 - ((i + 1 : Nat) : Int) := by omega
    rw [e2]
  done := fun h oI g d tk o Q E hI ho hl hQ => by
    have e : (items.size : Int) - 1 - (items.size : Int) = -1 := by omega
    exact wpAny_pyNext_rev_end (l := a) hh ⟨_, ho, hI.2.1, by rw [hI.2.2, e]⟩ fun h₂ he₂ => hQ h₂ _ he₂

abbrev itRg (x left : Int) : Obj := { cls := .type "range_iterator", data := .fields #[rawInt x, rawInt left, rawInt 1] }
theorem Itr.range (hh : A.handled = none) (I : Addr) (a : Int) (n : Nat) :
    Itr prog w A I n (fun _ => True) (fun i v => ∃ t, v = .int (a + i) t) (fun i oI => oI = itRg (a + i) (n - i)) where
  item := fun i h oI g d tk o Q E hi hI ho _ hQ => by
    subst hI
    refine wpAny_pyNext_range_item (x := a + i) (left := n - i) (step := 1) ho (by omega) fun h₂ hit₂ hs₂ => ?_
    refine hQ _ h₂ _ _ ⟨_, rfl⟩ rfl ?_ hs₂
    have e1 : a + ((i + 1 : Nat) : Int) = a + (i : Int) + 1 := by omega
    have e2 : (n : Int) - ((i + 1 : Nat) : Int) = (n : Int) - (i : Int) - 1 := by omega
    rw [e1, e2]; exact hit₂
  done := fun h oI g d tk o Q E hI ho _ hQ => by
    subst hI
    exact wpAny_pyNext_range_end (x := a + n) (left := n - n) (step := 1) hh ho (by omega) fun h₂ he₂ => hQ h₂ _ he₂

theorem r_for {target : Expr} {pos : Pos} {iter : Expr} {body : List Stmt} {Q : Flow → Shared → Prop} {σ : Type} {n : Nat} {LF : Heap → Prop} {val : Nat → Value → Prop} {It : Nat → Obj → Prop}
    (lf : σ → List (Str × Value)) (of tf : σ → List (Addr × Obj)) (P : Nat → σ → Prop) (x₀ : σ)
    (hs : ∀ y, foldedSetIterable iter env y = pure y) (ht : ∀ it v, letOwnedTupleGo target it v = pure ())
    (hl : ∀ i y h I oI, P i y → St B L h (lf y) ((I, oI) :: of y) (tf y) → LF h)
    (hP : P 0 x₀) (W : ∀ I, Itr prog w A I n LF val It)
    (he : ∀ Ki : Value → Shared → Prop, (∀ I oI h₁ tk₁, It 0 oI → St B L h₁ (lf x₀) ((I, oI) :: of x₀) (tf x₀) → Ki (.ref I) ⟨h₁, g, d, tk₁, o⟩) → wpAny (model prog w) A (eval iter env) (fun v s₁ => wpAny (model prog w) A (pyIter v) Ki E s₁) E ⟨h, g, d, tk, o⟩)
    (step : ∀ i y h tk v I oI, P i y → i < n → val i v → It (i + 1) oI → St B L h (lf y) ((I, oI) :: of y) (tf y) → ∀ (Kp : Shared → Prop), (∀ y' h' tk', P (i + 1) y' → St B L h' (lf y') ((I, oI) :: of y') (tf y') → Kp ⟨h', g, d, tk', o⟩) → ∀ (Qv : Flow → Shared → Prop), (∀ f s, Q f s → Qv f s) →
      wpAny (model prog w) A (assign target env v) (fun _ s₂ => wpAny (model prog w) A (execs body env) (LoopQ Kp Qv) (fun _ _ => False) s₂) (fun _ _ => False) ⟨h, g, d, tk, o⟩)
    (done : ∀ y h tk, P n y → St B L h (lf y) (of y) (tf y) → Q .next ⟨h, g, d, tk, o⟩) :
    wpAny (model prog w) A (exec (.For target iter body [] pos) env) Q E ⟨h, g, d, tk, o⟩ := by
  refine wpAny_For (wpAny_mono (he (fun it s₂ => ∃ I oI h₁ tk₁, it = .ref I ∧ It 0 oI ∧ s₂ = ⟨h₁, g, d, tk₁, o⟩ ∧ St B L h₁ (lf x₀) ((I, oI) :: of x₀) (tf x₀)) fun I oI h₁ tk₁ a b => ⟨I, oI, h₁, tk₁, rfl, a, rfl, b⟩) (fun v s₁ h₁ => wpAny_mono h₁ ?_ fun _ _ e => e) fun _ _ e => e) hs
  rintro _ _ ⟨I, oI, h₁, tk₁, rfl, hI, rfl, S⟩
  refine codeAny_forLoop (LInv B L g d o n lf of tf P It I) ?_ (n + 1)
    (.mk 0 x₀ _ _ oI (Nat.zero_le _) hP hI S) (ht _)
  rintro k s ⟨i, y, h', tk', oI, hi, hp, hIt, Sy⟩
  have hla := hl i y h' _ _ hp Sy
  by_cases hlt : i < n
  · refine (W I).item i h' oI _ _ _ _ _ _ hlt hIt (Sy.get (.head _)) hla fun v h₂ oI' tk₂ hv hIt' hI' hs₂ => ?_
    refine wpAny_mono (step i y h₂ tk₂ v I oI' hp hlt hv hIt' (Sy.upd hs₂ hI') (LInv B L g d o n lf of tf P It I (n + 1 - (i + 1))) (fun y' h' tk' a b => .mk (i + 1) y' h' tk' oI' hlt a hIt' b) Q (fun _ _ q => q)) (fun _ s₂ h₂ => wpAny_mono h₂ (fun f s₃ h₃ => ?_) fun _ _ e => e.elim) fun _ _ e => e.elim
    cases f with
    | next => exact ⟨_, by omega, h₃⟩
    | cont => exact ⟨_, by omega, h₃⟩
    | brk => exact h₃
    | ret v => exact h₃
  · have hin : i = n := by omega
    subst hin
    refine (W I).done h' oI _ _ _ _ _ _ hIt (Sy.get (.head _)) hla fun h₂ tk₂ he₂ => wpAny_execs_nil ?_
    exact done y h₂ _ hp (Sy.drop he₂)
end
end Mine
end -- L3
section -- L4
open PySem PySem.W PyProof.Rows PySem.Calls
set_option Elab.async false
set_option maxRecDepth 100000
set_option maxHeartbeats 4000000
namespace Mine
theorem binds_dk {s : Shared} {fd : FuncData} {args : Args} {binds : List (Str × Value)} {T kd : Addr} {o ok : Obj} {items : Array Value} {n : Nat} {part : Option Value}
    {k : Option (Array Value) → Sem (List (Str × Value))} {k2 : Obj → Sem (List (Str × Value))} (hd : fd.defaults = .ref T) (ho : s.heap.get? T = some o) (hs : o.data = .seq items n)
    (hok : s.heap.get? kd = some ok)
    (h₁ : bindArgs fd args = seqItems? fd.defaults >>= k) (h₂ : k (some items) = Sem.load kd part k2) (h₃ : k2 ok = pure binds) : BindsTo s fd args binds :=
  fun M A E Q hq => by
    rw [h₁, hd]
    refine wpAny_bind (wpAny_seqItems ho hs ?_)
    rw [h₂]
    refine wpAny_bind (m := loadPart kd part) (f := k2) (wpAny_loadPart hok ?_)
    rw [h₃]
    exact wpAny_pure hq
theorem bi_len : bootBuiltins (Str.ofString "len") = some (.builtin "len") := rfl
theorem bi_sum : bootBuiltins (Str.ofString "sum") = some (.builtin "sum") := rfl
theorem bi_divmod : bootBuiltins (Str.ofString "divmod") = some (.builtin "divmod") := rfl
theorem bi_range : bootBuiltins (Str.ofString "range") = some (.type "range") := rfl
theorem bi_list : bootBuiltins (Str.ofString "list") = some (.type "list") := rfl
theorem bi_reversed : bootBuiltins (Str.ofString "reversed") = some (.type "reversed") := rfl
theorem bi_zip : bootBuiltins (Str.ofString "zip") = some (.type "zip") := rfl
theorem bi_zero : bootBuiltins (Str.ofString "ZeroDivisionError") = some (.type "ZeroDivisionError") := rfl

def Has (l : List (Str × Value)) : List (Str × Value) → Prop
  | [] => True
  | p :: r => l.lookup p.1 = some p.2 ∧ Has l r
theorem Has.mem {l : List (Str × Value)} : ∀ {l' : List (Str × Value)}, Has l l' → ∀ p ∈ l', l.lookup p.1 = some p.2
  | _ :: _, h, _, .head _ => h.1
  | _ :: _, h, p, .tail _ m => Has.mem h.2 p m
theorem St.as {B : Heap} {L : Addr} {h : Heap} {l l' : List (Str × Value)} {own tl : List (Addr × Obj)} (S : St B L h l own tl) (hl : Has l l') : St B L h l' own tl := S.weak hl.mem
theorem St.base {B : Heap} {L : Addr} {h : Heap} {l : List (Str × Value)} {own tl : List (Addr × Obj)} (S : St B L h l own tl) : B.StaysIn h := S.keep
theorem ints_get : ∀ {vs : List Value} {ns : List Int} {i : Nat}, IntsAre vs ns → (hi : i < ns.length) → ∃ t, vs[i]? = some (.int ns[i] t)
  | _, _, 0, .cons k t _, _ => ⟨t, rfl⟩
  | _, _, i + 1, .cons k t hr, hi => by
    obtain ⟨u, hu⟩ := ints_get (i := i) hr (by simpa using hi)
    exact ⟨u, by simpa using hu⟩
section
variable {prog : Program} {w : World} {M : Model} {A : Around} {E : Value → Shared → Prop} {env : Env} {B : Heap} {L : Addr} {h : Heap} {g : Array GenState} {d : Drawn} {tk : Nat} {o : OsState} {l : List (Str × Value)} {own tl : List (Addr × Obj)} {Q : Value → Shared → Prop} {s : Shared}

theorem r_call0 {func : Expr} {args : List Expr} {pos : Pos}
    (h : wpAny M A (eval func env) (fun f s₁ => wpAny M A (callWith pos f [] (backTo pos (starEach args env)) []) Q E s₁) E s)
    (he : eval (.Call func args [] pos) env = (do callWith pos (← eval func env) [] (backTo pos (starEach args env)) (backToKw pos (keywordEach [] env)))) :
    wpAny M A (eval (.Call func args [] pos) env) Q E s := Call_ h he

theorem r_callK {f : Addr} {ob : Obj} {fd : FuncData} {e : Expr} {rest : List Expr} {pos : Pos} (X : Bs w B) (el : (hd.heap_1 w.params).lookup f = some ob) (hdat : ob.data = .func fd)
    (he : starEach (e :: rest) env = (false, eval e env) :: starEach rest env)
    (h : wpAny M A (spliced (backTo pos (starEach (e :: rest) env))) (fun vs s₁ => B.StaysIn s₁.heap ∧ wpAny M A (call (.ref f) vs) Q E s₁) E s) :
    wpAny M A (callWith pos (.ref f) [] (backTo pos (starEach (e :: rest) env)) []) Q E s :=
  callWith_def hdat (wpAny_mono h (fun _ _ q => ⟨q.1 _ _ (X.1 _ _ el), q.2⟩) fun _ _ q => q) he
theorem r_callF {f : Addr} {ob : Obj} {fd : FuncData} {e : Expr} {rest : List Expr} {pos : Pos} (hf : B.get? f = some ob) (hdat : ob.data = .func fd)
    (he : starEach (e :: rest) env = (false, eval e env) :: starEach rest env)
    (h : wpAny M A (spliced (backTo pos (starEach (e :: rest) env))) (fun vs s₁ => B.StaysIn s₁.heap ∧ wpAny M A (call (.ref f) vs) Q E s₁) E s) :
    wpAny M A (callWith pos (.ref f) [] (backTo pos (starEach (e :: rest) env)) []) Q E s :=
  callWith_def hdat (wpAny_mono h (fun _ _ q => ⟨q.1 _ _ hf, q.2⟩) fun _ _ q => q) he
theorem r_callKW1 {f : Addr} {ob : Obj} {fd : FuncData} {e ek : Expr} {rest : List Expr} {pos kp p : Pos} {id n : Str} (S : wpAny M A (eval (.Name id p) env) (fun v s₁ => v = .ref f ∧ s₁ = s) E s)
    (X : Bs w B) (el : (hd.heap_1 w.params).lookup f = some ob) (hdat : ob.data = .func fd)
    (he : starEach (e :: rest) env = (false, eval e env) :: starEach rest env)
    (h : wpAny M A (spliced (backTo pos (starEach (e :: rest) env))) (fun vs s₁ => wpAny M A (eval ek env) (fun kv s₂ => B.StaysIn s₂.heap ∧ wpAny M A (call (.ref f) vs [(n, kv)]) Q E s₂) E s₁) E s) :
    wpAny M A (eval (.Call (.Name id p) (e :: rest) [⟨some n, ek, kp⟩] pos) env) Q E s := by
  refine wpAny_Call_Name_kw (wpAny_mono S ?_ fun _ _ q => q)
  rintro _ _ ⟨rfl, rfl⟩
  refine callWith_function_kw (o := ob) (fd := fd) ?_
  have h' := h
  rw [he] at h' ⊢
  refine evalArgs_kw rfl (wpAny_mono h' (fun vs s₁ h₁ => ?_) fun _ _ q => q)
  refine wpAny_evalAll_cons (wpAny_bind (wpAny_mono h₁ (fun kv s₂ h₂ => ?_) fun _ _ q => q))
  refine wpAny_bind (wpAny_standAt (wpAny_pure (wpAny_evalAll_nil ?_)))
  exact ⟨⟨h₂.1 _ _ (X.1 _ _ el), hdat⟩, h₂.2⟩

theorem r_arg0 {pos : Pos} {Q : List Value → Shared → Prop} (h : Q [] s) : wpAny M A (spliced (backTo pos (starEach [] env))) Q E s := spliced_nil h
theorem r_arg1 {e : Expr} {rest : List Expr} {pos : Pos} {Q : List Value → Shared → Prop} (he : starEach (e :: rest) env = (false, eval e env) :: starEach rest env)
    (h : wpAny M A (eval e env) (fun v s₁ => wpAny M A (spliced (backTo pos (starEach rest env))) (fun vs s₂ => Q (v :: vs) s₂) E s₁) E s) : wpAny M A (spliced (backTo pos (starEach (e :: rest) env))) Q E s := args_cons h he
theorem r_callB {id : String} {e : Expr} {rest : List Expr} {pos : Pos} (he : starEach (e :: rest) env = (false, eval e env) :: starEach rest env) (hplain : (backTo pos (starEach rest env)).any (·.1) = false)
    (h : wpAny M A (spliced (backTo pos (starEach (e :: rest) env))) (fun vs s₁ => wpAny M A (call (.builtin id) vs) Q E s₁) E s) :
    wpAny M A (callWith pos (.builtin id) [] (backTo pos (starEach (e :: rest) env)) []) Q E s := PyProof.Rows.callWith_builtin1 h he hplain
theorem r_callT {T : String} {e : Expr} {rest : List Expr} {pos : Pos} (he : starEach (e :: rest) env = (false, eval e env) :: starEach rest env) (hplain : (backTo pos (starEach rest env)).any (·.1) = false)
    (h : wpAny M A (spliced (backTo pos (starEach (e :: rest) env))) (fun vs s₁ => wpAny M A (call (.type T) vs) Q E s₁) E s) :
    wpAny M A (callWith pos (.type T) [] (backTo pos (starEach (e :: rest) env)) []) Q E s := PyProof.Rows.callWith_type1 h he hplain

theorem r_isnn (hq : Q (.bool true) s) : wpAny M A (compareOp .Is .none .none) Q E s := is_none_none hq
theorem r_isin {a : Int} {t : Tok} (hq : Q (.bool false) s) : wpAny M A (compareOp .Is (.int a t) .none) Q E s := is_int_none hq
theorem r_isrn {a : Addr} (hq : Q (.bool false) s) : wpAny M A (compareOp .Is (.ref a) .none) Q E s := is_ref_none hq
theorem r_iftrue {P P' : Prop} (hq : P) : if true = true then P else P' := by rw [if_pos rfl]; exact hq
theorem r_iffalse {P P' : Prop} (hq : P') : if false = true then P else P' := by rw [if_neg Bool.false_ne_true]; exact hq

theorem r_len {a : Addr} {items : Array Value} (hl : h.IsList a items) (hfit : (items.size : Int) < 2 ^ 63) (hq : ∀ t tk', Q (.int items.size t) ⟨h, g, d, tk', o⟩) :
    wpAny (model prog w) A (call (.builtin "len") [.ref a]) Q E ⟨h, g, d, tk, o⟩ := PySem.Calls.call_len_list hl hfit (hq _ _)

theorem r_sub {value slice : Expr} {pos : Pos} (hq : wpAny M A (eval value env) (fun ov s₁ => wpAny M A (eval slice env) (fun i s₂ => wpAny M A (subscriptTail value slice ov i) Q E s₂) E s₁) E s) :
    wpAny M A (eval (.Subscript value slice pos) env) Q E s := Subscript_ hq
theorem r_itemL {value slice : Expr} {a : Addr} {items : Array Value} {k : Int} {u : Tok} {v : Value} (hl : h.IsList a items) (h0 : 0 ≤ k) (hfit : k < 2 ^ 63) (hx : items[k.toNat]? = some v)
    (hs : subscripted slice false (.ref a) (.int k u) = operate [.ref a, .int k u] (getItem (.ref a) (.int k u)))
    (hq : Q v ⟨h, g, d, tk, o⟩) : wpAny (model prog w) A (subscriptTail value slice (.ref a) (.int k u)) Q E ⟨h, g, d, tk, o⟩ :=
  tail_any hl.typeIs slot_list_getitem.lookup (wpAny_getItem_list hl h0 hfit hx hq) hs
theorem r_itemT {value slice : Expr} {a : Addr} {items : Array Value} {k : Int} {u : Tok} {j : Nat} {v : Value} (hl : IsTup h a items) (hlo : -(2 ^ 63) ≤ k) (hhi : k < 2 ^ 63) (hj : seqIndex? k items.size = some j) (hx : items[j]? = some v)
    (hs : subscripted slice false (.ref a) (.int k u) = operate [.ref a, .int k u] (getItem (.ref a) (.int k u)))
    (hq : Q v ⟨h, g, d, tk, o⟩) : wpAny (model prog w) A (subscriptTail value slice (.ref a) (.int k u)) Q E ⟨h, g, d, tk, o⟩ :=
  tail_any hl.typeIs slot_tuple_getitem.lookup (getItem_tuple hl hlo hhi hj hx hq) hs
end
end Mine
end -- L4
section -- L5
open PySem PySem.W PyProof.Rows PySem.Calls
set_option Elab.async false
set_option maxRecDepth 100000
set_option maxHeartbeats 4000000
namespace Mine
abbrev lst (vs : List Value) (n : Nat) : Obj := { cls := .type "list", data := .seq vs.toArray n }
abbrev tup (vs : List Value) : Obj := { cls := .type "tuple", data := .seq vs.toArray }

inductive At (a : Addr) (x y : Obj) : List (Addr × Obj) → List (Addr × Obj) → Prop
  | head {r} : At a x y ((a, x) :: r) ((a, y) :: r)
  | tail {p r r'} : At a x y r r' → At a x y (p :: r) (p :: r')
theorem At.mem {a : Addr} {x y : Obj} : ∀ {own own' : List (Addr × Obj)}, At a x y own own' → (a, x) ∈ own
  | _, _, .head => .head _
  | _, _, .tail U => .tail _ U.mem
theorem At.addrs {a : Addr} {x y : Obj} : ∀ {own own' : List (Addr × Obj)}, At a x y own own' → own'.map (·.1) = own.map (·.1)
  | _, _, .head => rfl
  | _, _, .tail U => by rw [List.map_cons, List.map_cons, U.addrs]
theorem At.old {a : Addr} {x y : Obj} {own own' : List (Addr × Obj)} (U : At a x y own own') : (own.map (·.1)).Nodup → ∀ p ∈ own', p = (a, y) ∨ (p ∈ own ∧ p.1 ≠ a) := by
  induction U with
  | head =>
    intro nd p hp
    rw [List.map_cons, List.nodup_cons] at nd
    rcases List.mem_cons.mp hp with rfl | m
    · exact .inl rfl
    · exact .inr ⟨.tail _ m, fun e => nd.1 (e ▸ List.mem_map_of_mem (f := (·.1)) m)⟩
  | tail U ih =>
    intro nd p hp
    rw [List.map_cons, List.nodup_cons] at nd
    rcases List.mem_cons.mp hp with rfl | m
    · exact .inr ⟨.head _, fun e => nd.1 (e ▸ List.mem_map_of_mem (f := (·.1)) U.mem)⟩
    · rcases ih nd.2 p m with h | h
      · exact .inl h
      · exact .inr ⟨.tail _ h.1, h.2⟩

theorem At.app {a : Addr} {x y : Obj} {own own' : List (Addr × Obj)} (tl : List (Addr × Obj)) (U : At a x y own own') : At a x y (own ++ tl) (own' ++ tl) := by
  induction U with
  | head => exact .head
  | tail _ ih => exact .tail ih

section
variable {B : Heap} {L : Addr} {h h' : Heap} {l : List (Str × Value)} {own own' tl : List (Addr × Obj)}
theorem St.at {a : Addr} {x y : Obj} (S : St B L h l own tl) (U : At a x y own own') (hs : Heap.ExtBut a h h') (ho : h'.get? a = some y) : St B L h' l own' tl := by
  refine hide fun Kz kz => ?_
  obtain ⟨m, F, hm⟩ := S.fr
  refine kz ?_
  clear kz Kz
  have z := S.has U.mem
  refine ⟨⟨m, ⟨F.ns.extBut hs (Ne.symm z.2.1), fun b ob e => hs b ob (fun q => ?_) (F.keep b ob e), F.above⟩, hm⟩, fun p hp => ?_, by rw [(U.app tl).addrs]; exact S.nd⟩
  · have := z.2.2
    rw [← q, e] at this; cases this
  · rcases (U.app tl).old S.nd p hp with rfl | ⟨hp', hne⟩
    · exact ⟨ho, z.2⟩
    · have y := S.nw p hp'
      exact ⟨hs _ _ hne y.1, y.2⟩
theorem St.adopt {a : Addr} {x : Obj} (S : St B L h l own tl) (hk : h.StaysIn h') (hn : h.get? a = none) (ho : h'.get? a = some x) : St B L h' l ((a, x) :: own) tl := by
  have S' := S.stays hk
  refine ⟨S'.fr, fun p hp => ?_, ?_⟩
  · rw [List.cons_append] at hp
    rcases List.mem_cons.mp hp with rfl | hp
    · refine ⟨ho, fun e => ?_, ?_⟩
      · refine hide fun Kz kz => ?_
        obtain ⟨m, F, _⟩ := S.fr
        obtain ⟨_, _, _, q, _⟩ := F.ns
        refine kz ?_
        clear kz Kz
        dsimp only at e
        rw [e, q] at hn; cases hn
      · cases q : B.get? a with
        | none => rfl
        | some ob => rw [S.keep _ _ q] at hn; cases hn
    · exact S'.nw p hp
  · rw [List.cons_append, List.map_cons, List.nodup_cons]
    refine ⟨fun hmem => ?_, S.nd⟩
    refine hide fun Kz kz => ?_
    obtain ⟨p, hp, e⟩ := List.mem_map.mp hmem
    refine kz ?_
    clear kz Kz
    have := (S.nw p hp).1
    dsimp only at e
    rw [e, hn] at this; cases this
theorem none_size (h : Heap) : h.get? h.objs.size = none := by
  cases q : h.get? h.objs.size with
  | none => rfl
  | some o => exact absurd (Heap.lt_size q) (Nat.lt_irrefl _)
end

section
variable {prog : Program} {w : World} {M : Model} {A : Around} {E : Value → Shared → Prop} {env : Env} {B : Heap} {L : Addr} {h : Heap} {g : Array GenState} {d : Drawn} {tk : Nat} {o : OsState} {l : List (Str × Value)} {own own' tl : List (Addr × Obj)} {Q : Value → Shared → Prop} {s : Shared}

theorem r_enterH {Q : Value → Shared → Prop} {name qual : Str} {params : Arguments} {body : List Stmt} {scope : Scope} {dV kV doc pm cdv ct oc : Value} {an od : Option Addr} {osl : Array (Option Value)} {f : Addr} {pos : List Value} {kw : List (Str × Value)}
    (binds : List (Str × Value)) (own₀ : List (Addr × Obj)) (X : Bs w (hideAll h (own₀.map (·.1)))) (hown : ∀ p ∈ own₀, h.get? p.1 = some p.2) (hnd : (own₀.map (·.1)).Nodup) (hroom : A.depth < recursionLimit)
    (ho : (hd.heap_1 w.params).lookup f = some ⟨oc, od, .func (fnOf name qual params body scope dV kV doc pm an cdv ct), osl⟩) (hcd : codeIn (hd.heap_1 w.params) cdv qual = true)
    (hbind : BindsTo ⟨h, g, d, tk, o⟩ (fnOf name qual params body scope dV kV doc pm an cdv ct) ⟨pos, kw⟩ binds)
    (hloc : ∀ y ∈ binds, scope.names.lookup y.1 = some .local)
    (hco : scope.isCoroutine = false) (hgen : scope.isGenerator = false) (hk : scope.kind = .function) (hcell : ∀ x ∈ scope.names, x.2 ≠ .cell)
    (hb : ∀ h₁ tk₁, St (hideAll h (own₀.map (·.1))) h.objs.size h₁ binds.reverse own₀ [] →
      wpAny (model pg w) (A.deeper (envOf qual scope h.objs.size f cdv)) (execs body (envOf qual scope h.objs.size f cdv)) (fun fl s' => Q (retOf fl) s') (fun _ _ => False) ⟨h₁, g, d, tk₁, o⟩) :
    wpAny (model pg w) A (call (.ref f) pos kw) Q E ⟨h, g, d, tk, o⟩ := by
  have X' : Bs w h := X.keeps fun b ob e => of_hideAll _ e
  refine hide fun Kz kz => ?_
  obtain ⟨X, p, lo, mg, mb, T, _⟩ := X'
  refine kz ?_
  clear kz Kz
  refine wpAny_call (codeAny_call_def (fd := fnOf name qual params body scope dV kV doc pm an cdv ct) (body := body) (binds := binds) hroom (X _ _ ho) rfl T.nolimit (codeRec_of X hcd) rfl hbind hcell hloc (fun h₁ hns hk₁ => ?_) hco hgen hk)
  refine wpAny_mono (hb h₁ _ ⟨⟨_, ⟨hns, fun b ob e => hk₁ _ _ (of_hideAll _ e), Nat.le_of_eq (hideAll_size _ _)⟩, fun _ _ e => e⟩, fun p hp => ?_, by rw [List.append_nil]; exact hnd⟩) (fun fl s' q => q) fun _ _ q => q.elim
  rw [List.append_nil] at hp
  exact ⟨hk₁ _ _ (hown p hp), Nat.ne_of_lt (Heap.lt_size (hown p hp)), hideAll_none _ (List.mem_map_of_mem hp)⟩

theorem r_meth {x name : Str} {p apos pos : Pos} {args : List Expr} (hform : methodCallForm (args.length + ([] : List Keyword).length) (backTo pos (starEach args env)) (backToKw pos (keywordEach [] env)) = true) (hline : (apos.endLine == pos.line) = true)
    (h : wpAny M A (eval (.Name x p) env) (fun ov s₁ => wpAny M A (getMethod ov name (do return (← importBound (.Name x p) env).getD true)) (fun fx s₂ => wpAny M A (callWith pos fx.1 fx.2 (backTo pos (starEach args env)) []) Q E s₂) E s₁) E s) :
    wpAny M A (eval (.Call (.Attribute (.Name x p) name apos) args [] pos) env) Q E s := by
  rw [arm_eval_Call]
  have hbase : attributeBase (.Name x p) name env (eval (.Name x p) env) = eval (.Name x p) env := rfl
  rw [hbase]
  refine wpAny_bind (wpAny_mono h (fun ov s₁ h₁ => ?_) fun _ _ e => e)
  refine wpAny_bind (wpAny_standAt ?_)
  have hpos : methodCallPos true (.Name x p) env apos pos = pure pos := by unfold methodCallPos; simp [hline]
  unfold methodCall
  rw [hform]
  refine wpAny_bind (wpAny_holding (wpAny_mono h₁ (fun fx s₂ h₂ => ?_) fun _ _ e => e))
  exact wpAny_bind (wpAny_of_eq hpos h₂)
theorem r_callM0 {pos : Pos} {id : String} {first : List Value} (h : wpAny M A (call (.builtin id) first) Q E s) :
    wpAny M A (callWith pos (Value.builtin id, first).1 (Value.builtin id, first).2 (backTo pos (starEach [] env)) []) Q E s := callWith_method0 h
theorem r_callM1 {pos : Pos} {id : String} {first : List Value} {e : Expr} {rest : List Expr} (he : starEach (e :: rest) env = (false, eval e env) :: starEach rest env) (hplain : (backTo pos (starEach rest env)).any (·.1) = false)
    (h : wpAny M A (spliced (backTo pos (starEach (e :: rest) env))) (fun vs s₁ => wpAny M A (call (.builtin id) (first ++ vs)) Q E s₁) E s) :
    wpAny M A (callWith pos (Value.builtin id, first).1 (Value.builtin id, first).2 (backTo pos (starEach (e :: rest) env)) []) Q E s := callWith_method1 h he hplain
theorem r_gm_bits {a : Int} {t : Tok} {pl : Sem Bool} {Q : Value × List Value → Shared → Prop} (h : Q (.builtin "int.bit_length", [.int a t]) s) :
    wpAny M A (getMethod (.int a t) (Str.ofString "bit_length") pl) Q E s := getMethod_int_bit_length h
theorem r_gm {name : Str} {id : String} {pl : Sem Bool} {Q : Value × List Value → Shared → Prop} {D : Addr} {its : Array Value} {n : Nat} (S : St B L h l own tl) (hm : (D, listOf its n) ∈ own) (slot : Slot "list" name id)
    (hty : typeOf (.builtin id) = pure (.type "method_descriptor")) (hq : Q (.builtin id, [.ref D]) ⟨h, g, d, tk, o⟩) : wpAny (model prog w) A (getMethod (.ref D) name pl) Q E ⟨h, g, d, tk, o⟩ := kl_method S.nw (List.mem_append_left _ hm) slot hty hq

theorem r_append {D : Addr} {vs : List Value} {n : Nat} {x : Value} (S : St B L h l own tl) (U : At D (lst vs n) (lst (vs ++ [x]) (n + 1)) own own') (hz : vs.length ≤ sizeLine)
    (hq : ∀ h', St B L h' l own' tl → Q .none ⟨h', g, d, tk, o⟩) : wpAny (model prog w) A (call (.builtin "list.append") ([.ref D] ++ [x])) Q E ⟨h, g, d, tk, o⟩ :=
  append_at (hsz := by simpa using hz) (S.get U.mem) fun h' hs ho' => hq h' (S.at U hs.extBut (by simpa using ho'))
theorem r_pop {D : Addr} {vs : List Value} {n : Nat} {x : Value} (S : St B L h l own tl) (U : At D (lst (vs ++ [x]) n) (lst vs (n + 1)) own own') (hz : vs.length < sizeLine)
    (hq : ∀ h', St B L h' l own' tl → Q x ⟨h', g, d, tk, o⟩) : wpAny (model prog w) A (call (.builtin "list.pop") [.ref D]) Q E ⟨h, g, d, tk, o⟩ :=
  PyProof.Rows.Copied.pop_at (hsz := by rw [List.size_toArray, List.length_append]; exact hz) (y := x) (S.get U.mem) (by simp) fun h' hs ho' => hq h' (S.at U hs.extBut (by simpa using ho'))
theorem insert_at {D : Addr} {its : Array Value} {n : Nat} {z : Int} {u : Tok} {x : Value} (ho : h.get? D = some (listOf its n)) (hf : ¬(!Builtin.List.listFitsIndex z) = true) (hz1 : its.size ≤ sizeLine)
    (hq : Q .none ⟨h.update D (Obj.mapSeq fun xs => have k := if z < 0 then (z + (xs.size : Int)).toNat else min z.toNat xs.size; (xs.extract 0 k).push x ++ xs.extract k), g, d, tk, o⟩) :
    wpAny (model prog w) A (call (.builtin "list.insert") [.ref D, .int z u, x]) Q E ⟨h, g, d, tk, o⟩ :=
  call_meets PySem.F.slot_list_insert ⟨_, ho, rfl⟩ PySem.F.entry_list_insert (PySem.F.args_list_insert_3 _ _ _) (PySem.AutoSeq1.list_insert_list_int_val_1 D its n z u x hf hz1) ⟨ho, hq⟩
theorem r_insert {D : Addr} {vs : List Value} {n : Nat} {z : Int} {u : Tok} {x : Value} (S : St B L h l own tl) (h0 : 0 ≤ z) (hk : z ≤ vs.length) (U : At D (lst vs n) (lst (vs.take z.toNat ++ x :: vs.drop z.toNat) (n + 1)) own own') (hz : vs.length < 1000000)
    (hq : ∀ h', St B L h' l own' tl → Q .none ⟨h', g, d, tk, o⟩) : wpAny (model prog w) A (call (.builtin "list.insert") ([.ref D] ++ [.int z u, x])) Q E ⟨h, g, d, tk, o⟩ := by
  have ho := S.get U.mem
  have hz1 : vs.toArray.size ≤ sizeLine := by rw [List.size_toArray, sizeLine_eq]; omega
  have hf : ¬(!Builtin.List.listFitsIndex z) = true := by
    rw [fitsIndex_of h0 (by omega)]; decide
  have e : (if z < 0 then (z + (vs.toArray.size : Int)).toNat else min z.toNat vs.toArray.size) = z.toNat := by
    rw [if_neg (by omega), List.size_toArray]; omega
  refine insert_at ho hf hz1 (hq _ (S.at U (Heap.SameBut.update ..).extBut ?_))
  have q := PySem.IsL.update ho (fun xs => have k := if z < 0 then (z + (xs.size : Int)).toNat else min z.toNat xs.size; (xs.extract 0 k).push x ++ xs.extract k)
  refine q.trans ?_
  simp only [e, kl_ins_eq]
  rw [if_neg (by simp; omega)]
theorem r_reverse {D : Addr} {vs : List Value} {n : Nat} (S : St B L h l own tl) (U : At D (lst vs n) (lst vs.reverse n) own own') (hz : vs.length ≤ sizeLine)
    (hq : ∀ h', St B L h' l own' tl → Q .none ⟨h', g, d, tk, o⟩) : wpAny (model prog w) A (call (.builtin "list.reverse") [.ref D]) Q E ⟨h, g, d, tk, o⟩ := by
  have ho := S.get U.mem
  refine call_meets PySem.F.slot_list_reverse ⟨_, ho, rfl⟩ PySem.F.entry_list_reverse (PySem.F.args_list_reverse_1 _) (PySem.AutoSeq1.list_reverse_list_0 D _ n (by simpa using hz)) ⟨ho, hq _ (S.at U (Heap.SameBut.update ..).extBut ?_)⟩
  have q := PySem.IsL.update ho (fun x => x.reverse)
  rw [if_pos (by simp)] at q
  simpa using q
theorem r_tuple {vs : List Value} (S : St B L h l own tl) (hz : vs.length ≤ sizeLine) (hq : ∀ r h', St B L h' l ((r, tup vs) :: own) tl → h.StaysIn h' → h.get? r = none → Q (.ref r) ⟨h', g, d, tk, o⟩) : wpAny M A (newTuple vs) Q E ⟨h, g, d, tk, o⟩ :=
  wpAny_newObj_type (hq _ _ (S.push (tup vs)) (fun _ _ e => Heap.get?_push_of_some _ e) (none_size h)) (by show vs.toArray.size ≤ sizeLine; rw [List.size_toArray]; exact hz)
theorem r_list {vs : List Value} (S : St B L h l own tl) (hz : vs.length ≤ sizeLine) (hq : ∀ r h', St B L h' l ((r, lst vs 0) :: own) tl → h.StaysIn h' → h.get? r = none → Q (.ref r) ⟨h', g, d, tk, o⟩) : wpAny M A (newList vs) Q E ⟨h, g, d, tk, o⟩ :=
  wpAny_newObj_type (hq _ _ (S.push (lst vs 0)) (fun _ _ e => Heap.get?_push_of_some _ e) (none_size h)) (by show vs.toArray.size ≤ sizeLine; rw [List.size_toArray]; exact hz)
end
end Mine
end -- L5
section -- L6
open PySem PySem.W PyProof.Rows PySem.Calls
set_option Elab.async false
set_option maxRecDepth 100000
set_option maxHeartbeats 4000000
namespace Mine
section
variable {prog : Program} {w : World} {M : Model} {A : Around} {E : Value → Shared → Prop} {env : Env} {B : Heap} {L : Addr} {h : Heap} {g : Array GenState} {d : Drawn} {tk : Nat} {o : OsState} {l : List (Str × Value)} {own own' tl : List (Addr × Obj)} {s : Shared}

theorem stays_new {h h' : Heap} (he : Heap.ExtBut h.objs.size h h') : h.StaysIn h' := fun b ob e => he b ob (Nat.ne_of_lt (Heap.lt_size e)) e

theorem isTup_own {a : Addr} {vs : List Value} (S : St B L h l own tl) (hm : (a, tup vs) ∈ own) : IsTup h a vs.toArray := ⟨_, S.get hm, rfl, 0, rfl⟩

theorem r_asT {elts : List Expr} {k : Nat} {tpos : Pos} {value : Expr} {pos : Pos} {Q : Flow → Shared → Prop}
    (hs : swapsWithSole [.Tuple elts k tpos] value pos.line env = pure false) (hw : swappedStores [.Tuple elts k tpos] value env = pure none)
    (h : wpAny M A (eval value env) (fun v s₁ => wpAny M A (assign (.Tuple elts k tpos) env v) (fun _ => Q .next) E s₁) E s) :
    wpAny M A (exec (.Assign [.Tuple elts k tpos] value pos) env) Q E s := Assign_Tuple h hs hw
theorem r_asw2 {a b : Str} {pa pb : Pos} {k : Nat} {tpos : Pos} {value : Expr} {pos : Pos} {Q : Flow → Shared → Prop}
    (hs : swapsWithSole [.Tuple [.Name a pa, .Name b pb] k tpos] value pos.line env = pure false) (hw : swappedStores [.Tuple [.Name a pa, .Name b pb] k tpos] value env = pure (some [a, b]))
    (h : wpAny M A (eval value env) (fun v s₁ => wpAny M A (unpackItems v 2 none) (fun items s₂ => wpAny M A (assignInOrder [bindName env b, bindName env a] items.reverse) (fun _ => Q .next) E s₂) E s₁) E s) :
    wpAny M A (exec (.Assign [.Tuple [.Name a pa, .Name b pb] k tpos] value pos) env) Q E s := by
  refine Assign_Tuple_swapped (names := [a, b]) ?_ hs hw
  simp only [List.length_cons, List.length_nil, Nat.zero_add, Nat.reduceAdd, List.reverse_cons, List.reverse_nil, List.nil_append, List.cons_append, List.map_cons, List.map_nil]
  with_reducible exact h
theorem r_asw3 {a b c : Str} {pa pb pc : Pos} {k : Nat} {tpos : Pos} {value : Expr} {pos : Pos} {Q : Flow → Shared → Prop}
    (hs : swapsWithSole [.Tuple [.Name a pa, .Name b pb, .Name c pc] k tpos] value pos.line env = pure false) (hw : swappedStores [.Tuple [.Name a pa, .Name b pb, .Name c pc] k tpos] value env = pure (some [a, b, c]))
    (h : wpAny M A (eval value env) (fun v s₁ => wpAny M A (unpackItems v 3 none) (fun items s₂ => wpAny M A (assignInOrder [bindName env c, bindName env b, bindName env a] items.reverse) (fun _ => Q .next) E s₂) E s₁) E s) :
    wpAny M A (exec (.Assign [.Tuple [.Name a pa, .Name b pb, .Name c pc] k tpos] value pos) env) Q E s := by
  refine Assign_Tuple_swapped (names := [a, b, c]) ?_ hs hw
  simp only [List.length_cons, List.length_nil, Nat.zero_add, Nat.reduceAdd, List.reverse_cons, List.reverse_nil, List.nil_append, List.cons_append, List.map_cons, List.map_nil]
  with_reducible exact h
theorem r_ui {t : Addr} {vs : List Value} {n : Nat} {Q : List Value → Shared → Prop} (S : St B L h l own tl) (hh : A.handled = none) (ht : IsTup h t vs.toArray) (hn : n = vs.length)
    (hq : ∀ h', St B L h' l own tl → h.StaysIn h' → Q vs ⟨h', g, d, tk, o⟩) : wpAny (model prog w) A (unpackItems (.ref t) n none) Q E ⟨h, g, d, tk, o⟩ := by
  have e : n = vs.toArray.size := by rw [hn, List.size_toArray]
  subst e
  exact unpackItems_tuple hh ht fun h' he => by simpa using hq h' (S.stays (stays_new he)) (stays_new he)
theorem r_ao2 {a b : Str} {u v : Value} {Q : Unit → Shared → Prop} (hq : wpAny M A (storeName env b v) (fun _ s₁ => wpAny M A (storeName env a u) Q E s₁) E s) :
    wpAny M A (assignInOrder [bindName env b, bindName env a] [u, v].reverse) Q E s :=
  assignInOrder_cons (bindName_ (wpAny_mono hq (fun _ _ q => assignInOrder_cons (bindName_ (wpAny_mono q (fun _ _ q => assignInOrder_nil q) fun _ _ q => q))) fun _ _ q => q))
theorem r_ao3 {a b c : Str} {u v x : Value} {Q : Unit → Shared → Prop} (hq : wpAny M A (storeName env c x) (fun _ s₁ => wpAny M A (storeName env b v) (fun _ s₁ => wpAny M A (storeName env a u) Q E s₁) E s₁) E s) :
    wpAny M A (assignInOrder [bindName env c, bindName env b, bindName env a] [u, v, x].reverse) Q E s :=
  assignInOrder_cons (bindName_ (wpAny_mono hq (fun _ _ q => assignInOrder_cons (bindName_ (wpAny_mono q (fun _ _ q => assignInOrder_cons (bindName_ (wpAny_mono q (fun _ _ q => assignInOrder_nil q) fun _ _ q => q))) fun _ _ q => q))) fun _ _ q => q))
theorem r_unT {elts : List Expr} {k : Nat} {pos : Pos} {t : Addr} {vs : List Value} {Q : Unit → Shared → Prop} (S : St B L h l own tl) (hh : A.handled = none) (ht : IsTup h t vs.toArray)
    (hn : (assignEach elts env).length = vs.length) (hstar : (assignEach elts env).findIdx? (·.1) = none)
    (hq : ∀ h', St B L h' l own tl → h.StaysIn h' → wpAny (model prog w) A (assignInOrder ((assignEach elts env).map (·.2)) vs) Q E ⟨h', g, d, tk, o⟩) :
    wpAny (model prog w) A (assign (.Tuple elts k pos) env (.ref t)) Q E ⟨h, g, d, tk, o⟩ :=
  assign_Tuple_tuple hh ht (by rw [hn, List.size_toArray]) hstar fun h' he => by simpa using hq h' (S.stays (stays_new he)) (stays_new he)
theorem r_aoc {x : Str} {p : Pos} {rest : List Expr} {v : Value} {vs : List Value} {Q : Unit → Shared → Prop} (hq : wpAny M A (storeName env x v) (fun _ s₁ => wpAny M A (assignInOrder ((assignEach rest env).map (·.2)) vs) Q E s₁) E s) :
    wpAny M A (assignInOrder ((assignEach (.Name x p :: rest) env).map (·.2)) (v :: vs)) Q E s := by
  have e : assignEach (.Name x p :: rest) env = (false, assign (.Name x p) env) :: assignEach rest env := rfl
  rw [e, List.map_cons]
  exact assignInOrder_cons (assign_Name hq)
theorem r_aon {vs : List Value} {Q : Unit → Shared → Prop} (hq : Q () s) : wpAny M A (assignInOrder ((assignEach [] env).map (·.2)) vs) Q E s := assignInOrder_nil hq
theorem r_asN {x : Str} {p : Pos} {v : Value} {Q : Unit → Shared → Prop} (hq : wpAny M A (storeName env x v) Q E s) : wpAny M A (assign (.Name x p) env v) Q E s := assign_Name hq

theorem r_isN {x : Str} {p : Pos} {Q : Bool → Shared → Prop} (h : wpAny M A (eval (.Name x p) env) (fun v s₁ => wpAny M A (truthy v) Q E s₁) E s) : wpAny M A (isTrue (.Name x p) env (eval (.Name x p) env)) Q E s := isTrue_plain h rfl
theorem r_isC {c : Const} {k : Nat} {p : Pos} {Q : Bool → Shared → Prop} (h : wpAny M A (eval (.Constant c k p) env) (fun v s₁ => wpAny M A (truthy v) Q E s₁) E s) : wpAny M A (isTrue (.Constant c k p) env (eval (.Constant c k p) env)) Q E s := isTrue_plain h rfl
theorem r_tint {a : Int} {t : Tok} {Q : Bool → Shared → Prop} (hq : Q (!decide (a = 0)) s) : wpAny (model prog w) A (truthy (.int a t)) Q E s := PyProof.Rows.truthy_int hq
theorem r_ifexp {test body orelse : Expr} {pos : Pos} {Q : Value → Shared → Prop}
    (h : wpAny M A (isTrue test env (eval test env)) (fun c s₂ => if c then wpAny M A (eval body env) Q E s₂ else wpAny M A (eval orelse env) Q E s₂) E s) :
    wpAny M A (eval (.IfExp test body orelse pos) env) Q E s := IfExp_ h
theorem r_cut {st : Stmt} {rest : List Stmt} {Q : Flow → Shared → Prop} (J : Shared → Prop) (h1 : ∀ Kc : Flow → Shared → Prop, (∀ s', J s' → Kc .next s') → wpAny M A (exec st env) Kc E s) (h2 : ∀ s', J s' → wpAny M A (execs rest env) Q E s') :
    wpAny M A (execs (st :: rest) env) Q E s :=
  r_seq (wpAny_mono (h1 (fun f s' => f = .next ∧ J s') fun _ q => ⟨rfl, q⟩) (fun f s' q => by obtain ⟨rfl, q⟩ := q; exact h2 s' q) fun _ _ q => q)
theorem r_divmod {a b : Int} {t u : Tok} {Q : Value → Shared → Prop} (S : St B L h l own tl) (hb : b ≠ 0) (hp : Builtin.divisionGoesByPylong a b = false)
    (hq : ∀ r h' t1 t2 tk', St B L h' l ((r, tup [.int (a.fdiv b) t1, .int (a.fmod b) t2]) :: own) tl → h.StaysIn h' → h.get? r = none → Q (.ref r) ⟨h', g, d, tk', o⟩) :
    wpAny (model prog w) A (call (.builtin "divmod") [.int a t, .int b u]) Q E ⟨h, g, d, tk, o⟩ :=
  divmod_int hb (hq _ _ _ _ _ (S.push (tup [.int (a.fdiv b) tk, .int (a.fmod b) (tk + 1)])) (fun _ _ e => Heap.get?_push_of_some _ e) (none_size h)) (Or.inl hp)
end
end Mine
end -- L6
section -- L7
open PySem PySem.W PyProof.Rows PySem.Calls
set_option Elab.async false
set_option maxRecDepth 100000
set_option maxHeartbeats 4000000
namespace Mine
def tabAs : List Addr := [57, 64, 125]
def codeObj (q : Str) (ob : Obj) : Prop := ∃ vs t, ob.data = .fields vs ∧ vs[1]? = some (.str q t)
structure Info where
  P : Addr
  line : Nat
  col : Nat
  q : Str
def i1 : Info := ⟨57, 79, 4, Str.ofString "_int2digits.<locals>.inner"⟩
def i2 : Info := ⟨64, 94, 4, Str.ofString "_digits2int.<locals>.inner"⟩
def i3 : Info := ⟨125, 178, 54, Str.ofString "_law_back.<locals>.<lambda>"⟩
def filled (i : Info) (c : Addr) : Array Value := #[rawInt (i.line : Int), rawInt (i.col : Int), .ref c]
theorem filled_ne {i : Info} {c : Addr} : filled i c ≠ #[] := by unfold filled; simp
abbrev tabL (p1 p2 p3 : Array Value) (ex : List (Addr × Obj)) : List (Addr × Obj) := (57, tabObj p1) :: (64, tabObj p2) :: (125, tabObj p3) :: ex
def TV (i : Info) (B : Heap) (ex : List (Addr × Obj)) (p0 p : Array Value) : Prop :=
  (p = p0 ∧ (p0 = #[] ∨ ∃ c oc, p0 = filled i c ∧ c ∉ tabAs ∧ B.get? c = some oc ∧ codeObj i.q oc)) ∨ (p0 = #[] ∧ ∃ c oc, p = filled i c ∧ (c, oc) ∈ ex ∧ codeObj i.q oc)
def TH (i : Info) (h : Heap) : Prop := ∃ p, h.get? i.P = some (tabObj p) ∧ (p = #[] ∨ ∃ c oc, p = filled i c ∧ c ∉ tabAs ∧ h.get? c = some oc ∧ codeObj i.q oc)
def TabsH (h : Heap) : Prop := TH i1 h ∧ TH i2 h ∧ TH i3 h
def TP (i : Info) (h h' : Heap) : Prop :=
  h'.get? i.P = h.get? i.P ∨ (h.get? i.P = some (tabObj #[]) ∧ ∃ c oc, h'.get? i.P = some (tabObj (filled i c)) ∧ h.get? c = none ∧ h'.get? c = some oc ∧ codeObj i.q oc)
def SB (h h' : Heap) : Prop := ∀ b o, b ∉ tabAs → h.get? b = some o → h'.get? b = some o
structure TabsP (h h' : Heap) : Prop where
  sb : SB h h'
  t1 : TP i1 h h'
  t2 : TP i2 h h'
  t3 : TP i3 h h'
theorem tabObj_inj {p q : Array Value} (e : tabObj p = tabObj q) : p = q := by
  injection e with _ _ e _
  injection e
theorem codeObj_q {q q' : Str} {ob : Obj} (h : codeObj q ob) (h' : codeObj q' ob) : q = q' := by
  refine hide fun Kz kz => ?_
  obtain ⟨vs, t, e1, e2⟩ := h
  obtain ⟨vs', t', e1', e2'⟩ := h'
  refine kz ?_
  clear kz Kz
  rw [e1] at e1'
  injection e1' with e
  subst e
  rw [e2] at e2'
  injection e2' with e
  injection e
theorem codeObj_rec {q : Str} {h : Heap} {c : Addr} {oc : Obj} (hc : h.get? c = some oc) (x : codeObj q oc) : h.CodeRec (.ref c) q :=
  let ⟨vs, t, e1, e2⟩ := x
  ⟨c, oc, vs, t, rfl, hc, e1, e2⟩

section
variable {B : Heap} {L : Addr} {h h' : Heap} {l : List (Str × Value)} {own tl : List (Addr × Obj)} {p1 p2 p3 q1 q2 q3 : Array Value} {ex : List (Addr × Obj)} {w : World}

theorem St.tab {a : Addr} {ob : Obj} (S : St B L h l own tl) (hm : (a, ob) ∈ tl) : h.get? a = some ob ∧ a ≠ L ∧ B.get? a = none := S.nw _ (List.mem_append_right _ hm)

theorem St.hideT (S : St B L h l own (tabL p1 p2 p3 ex)) : B.StaysIn (hideAll h tabAs) := fun b ob e => hideAll_get _ (S.keep b ob e) fun hm => by
  have h1 := (S.tab (.head _)).2.2
  have h2 := (S.tab (.tail _ (.head _))).2.2
  have h3 := (S.tab (.tail _ (.tail _ (.head _)))).2.2
  simp only [tabAs, List.mem_cons, List.not_mem_nil, or_false] at hm
  rcases hm with rfl | rfl | rfl
  · rw [h1] at e; cases e
  · rw [h2] at e; cases e
  · rw [h3] at e; cases e
theorem St.exNot (S : St B L h l own (tabL p1 p2 p3 ex)) {c : Addr} {oc : Obj} (hm : (c, oc) ∈ ex) : c ∉ tabAs := fun hc => by
  have nd := S.nd
  rw [List.map_append, List.nodup_append] at nd
  have nd := nd.2.1
  simp only [List.map_cons, List.nodup_cons, List.mem_cons] at nd
  have hm' : c ∈ ex.map (·.1) := List.mem_map_of_mem (f := (·.1)) hm
  simp only [tabAs, List.mem_cons, List.not_mem_nil, or_false] at hc
  rcases hc with rfl | rfl | rfl
  · exact nd.1 (.inr (.inr hm'))
  · exact nd.2.1 (.inr hm')
  · exact nd.2.2.1 hm'
theorem St.th {i : Info} {p0 p : Array Value} (S : St B L h l own (tabL p1 p2 p3 ex)) (V : TV i B ex p0 p) (hm : h.get? i.P = some (tabObj p)) : TH i h := by
  refine ⟨p, hm, ?_⟩
  rcases V with ⟨rfl, h0 | ⟨c, oc, e, n, hc, x⟩⟩ | ⟨_, c, oc, e, hc, x⟩
  · exact .inl h0
  · exact .inr ⟨c, oc, e, n, S.keep _ _ hc, x⟩
  · exact .inr ⟨c, oc, e, S.exNot hc, (S.tab (.tail _ (.tail _ (.tail _ hc)))).1, x⟩
theorem St.tabsH (S : St B L h l own (tabL p1 p2 p3 ex)) (V1 : TV i1 B ex q1 p1) (V2 : TV i2 B ex q2 p2) (V3 : TV i3 B ex q3 p3) : TabsH h :=
  ⟨S.th V1 (S.tab (.head _)).1, S.th V2 (S.tab (.tail _ (.head _))).1, S.th V3 (S.tab (.tail _ (.tail _ (.head _)))).1⟩

theorem TP.split {i : Info} (x : TP i h h') {p : Array Value} (hp : h.get? i.P = some (tabObj p)) :
    ∃ p' ns, h'.get? i.P = some (tabObj p') ∧ (∀ q ∈ ns, h.get? q.1 = none ∧ h'.get? q.1 = some q.2 ∧ codeObj i.q q.2) ∧ (ns = [] ∨ ∃ q, ns = [q]) ∧ ∀ B ex ex' p0, (∀ q ∈ ex, q ∈ ex') → (∀ q ∈ ns, q ∈ ex') → TV i B ex p0 p → TV i B ex' p0 p' := by
  rcases x with x | ⟨x, c, oc, e, n, hc, y⟩
  · refine ⟨p, [], by rw [x]; exact hp, (fun _ hq => nomatch hq), .inl rfl, fun B ex ex' p0 hs _ V => ?_⟩
    rcases V with V | ⟨a, c, oc, b, m, y⟩
    · exact .inl V
    · exact .inr ⟨a, c, oc, b, hs _ m, y⟩
  · refine ⟨filled i c, [(c, oc)], e, fun q hq => ?_, .inr ⟨_, rfl⟩, fun B ex ex' p0 _ hn V => ?_⟩
    · rw [List.mem_singleton.mp hq]; exact ⟨n, hc, y⟩
    · rw [hp] at x
      have e0 := tabObj_inj (Option.some.inj x)
      subst e0
      rcases V with ⟨a, _⟩ | ⟨_, c', oc', b, _⟩
      · exact .inr ⟨a.symm, c, oc, rfl, hn _ (List.mem_singleton.mpr rfl), y⟩
      · exact absurd b.symm filled_ne
theorem one_nodup {ns : List (Addr × Obj)} (x : ns = [] ∨ ∃ q, ns = [q]) : (ns.map (·.1)).Nodup := by
  rcases x with rfl | ⟨q, rfl⟩
  · exact List.nodup_nil
  · simp
theorem disj_q {q q' : Str} {ns ns' : List (Addr × Obj)} (hne : q ≠ q') (x : ∀ r ∈ ns, h.get? r.1 = none ∧ h'.get? r.1 = some r.2 ∧ codeObj q r.2) (y : ∀ r ∈ ns', h.get? r.1 = none ∧ h'.get? r.1 = some r.2 ∧ codeObj q' r.2) :
    ∀ a ∈ ns.map (·.1), ∀ b ∈ ns'.map (·.1), a ≠ b := by
  intro a ha b hb e
  refine hide fun Kz kz => ?_
  obtain ⟨r, hr, rfl⟩ := List.mem_map.mp ha
  obtain ⟨r', hr', rfl⟩ := List.mem_map.mp hb
  refine kz ?_
  clear kz Kz
  have h1 := (x r hr).2
  have h2 := (y r' hr').2
  rw [e, h2.1] at h1
  have := Option.some.inj h1.1
  exact hne (codeObj_q h1.2 (this ▸ h2.2))
theorem St.backT (S : St B L h l own (tabL p1 p2 p3 ex)) (V1 : TV i1 B ex q1 p1) (V2 : TV i2 B ex q2 p2) (V3 : TV i3 B ex q3 p3) (x : TabsP h h') :
    ∃ p1' p2' p3' ex', St B L h' l own (tabL p1' p2' p3' ex') ∧ TV i1 B ex' q1 p1' ∧ TV i2 B ex' q2 p2' ∧ TV i3 B ex' q3 p3' ∧ ∀ p ∈ ex', p ∈ ex ∨ (h.get? p.1 = none ∧ ∃ q, codeObj q p.2) := by
  have g1 := S.tab (.head _)
  have g2 := S.tab (.tail _ (.head _))
  have g3 := S.tab (.tail _ (.tail _ (.head _)))
  refine hide fun Kz kz => ?_
  obtain ⟨p1', n1, a1, b1, c1, d1⟩ := x.t1.split g1.1
  obtain ⟨p2', n2, a2, b2, c2, d2⟩ := x.t2.split g2.1
  obtain ⟨p3', n3, a3, b3, c3, d3⟩ := x.t3.split g3.1
  refine kz ?_
  clear kz Kz
  have q12 : i1.q ≠ i2.q := by decide
  have q13 : i1.q ≠ i3.q := by decide
  have q23 : i2.q ≠ i3.q := by decide
  have nb : ∀ r ∈ n1 ++ (n2 ++ n3), h.get? r.1 = none ∧ h'.get? r.1 = some r.2 := fun r hr => by
    rcases List.mem_append.mp hr with hr | hr
    · exact ⟨(b1 r hr).1, (b1 r hr).2.1⟩
    · rcases List.mem_append.mp hr with hr | hr
      · exact ⟨(b2 r hr).1, (b2 r hr).2.1⟩
      · exact ⟨(b3 r hr).1, (b3 r hr).2.1⟩
  have nn : ((n1 ++ (n2 ++ n3)).map (·.1)).Nodup := by
    rw [List.map_append, List.map_append, List.nodup_append, List.nodup_append]
    refine ⟨one_nodup c1, ⟨one_nodup c2, one_nodup c3, disj_q q23 b2 b3⟩, fun a ha b hb => ?_⟩
    rcases List.mem_append.mp hb with hb | hb
    · exact disj_q q12 b1 b2 a ha b hb
    · exact disj_q q13 b1 b3 a ha b hb
  have tabOf : ∀ b, b ∈ tabAs → b = 57 ∨ b = 64 ∨ b = 125 := fun b hb => by simpa [tabAs] using hb
  refine hide fun Kz kz => ?_
  obtain ⟨m, F, hm⟩ := S.fr
  refine kz ?_
  clear kz Kz
  have keepB : ∀ b ob, B.get? b = some ob → h'.get? b = some ob := fun b ob e => x.sb b ob (fun hb => by
    rcases tabOf b hb with rfl | rfl | rfl
    · rw [g1.2.2] at e; cases e
    · rw [g2.2.2] at e; cases e
    · rw [g3.2.2] at e; cases e) (F.keep b ob e)
  have hL : L ∉ tabAs := fun hb => by
    rcases tabOf L hb with e | e | e
    · exact g1.2.1 e.symm
    · exact g2.2.1 e.symm
    · exact g3.2.1 e.symm
  have hnd := S.nd
  refine ⟨p1', p2', p3', ex ++ (n1 ++ (n2 ++ n3)), ⟨⟨m, ⟨?_, keepB, F.above⟩, hm⟩, fun p hp => ?_, ?_⟩, ?_, ?_, ?_, ?_⟩
  · refine hide fun Kz kz => ?_
    obtain ⟨oL, es, ep, e, r⟩ := F.ns
    refine kz ?_
    clear kz Kz
    exact ⟨oL, es, ep, x.sb _ _ hL e, r⟩
  · have old : ∀ p, p ∈ own ++ tabL p1 p2 p3 ex → p.1 ∉ tabAs → h'.get? p.1 = some p.2 ∧ p.1 ≠ L ∧ B.get? p.1 = none := fun p hp hn => ⟨x.sb _ _ hn (S.nw p hp).1, (S.nw p hp).2⟩
    rcases List.mem_append.mp hp with hp | hp
    · refine old p (List.mem_append_left _ hp) fun hb => ?_
      rw [List.map_append, List.nodup_append] at hnd
      have hd := hnd.2.2 p.1 (List.mem_map_of_mem (f := (·.1)) hp)
      rcases tabOf _ hb with e | e | e
      · exact hd 57 (by simp) e
      · exact hd 64 (by simp) e
      · exact hd 125 (by simp) e
    · rcases List.mem_cons.mp hp with rfl | hp
      · exact ⟨a1, g1.2⟩
      · rcases List.mem_cons.mp hp with rfl | hp
        · exact ⟨a2, g2.2⟩
        · rcases List.mem_cons.mp hp with rfl | hp
          · exact ⟨a3, g3.2⟩
          · rcases List.mem_append.mp hp with hp | hp
            · exact old p (List.mem_append_right _ (.tail _ (.tail _ (.tail _ hp)))) (S.exNot (oc := p.2) hp)
            · refine ⟨(nb p hp).2, fun e => ?_, ?_⟩
              · refine hide fun Kz kz => ?_
                obtain ⟨_, _, _, e', _⟩ := F.ns
                refine kz ?_
                clear kz Kz
                rw [← e, (nb p hp).1] at e'; cases e'
              · cases q : B.get? p.1 with
                | none => rfl
                | some ob => have := F.keep _ _ q; rw [(nb p hp).1] at this; cases this
  · have e : (own ++ tabL p1' p2' p3' (ex ++ (n1 ++ (n2 ++ n3)))).map (·.1) = (own ++ tabL p1 p2 p3 ex).map (·.1) ++ (n1 ++ (n2 ++ n3)).map (·.1) := by simp
    rw [e, List.nodup_append]
    refine ⟨hnd, nn, fun a ha b hb e => ?_⟩
    refine hide fun Kz kz => ?_
    obtain ⟨r, hr, rfl⟩ := List.mem_map.mp ha
    obtain ⟨r', hr', rfl⟩ := List.mem_map.mp hb
    refine kz ?_
    clear kz Kz
    have := (S.nw r hr).1
    rw [e, (nb r' hr').1] at this; cases this
  · exact d1 B ex _ q1 (fun q hq => List.mem_append_left _ hq) (fun q hq => List.mem_append_right _ (List.mem_append_left _ hq)) V1
  · exact d2 B ex _ q2 (fun q hq => List.mem_append_left _ hq) (fun q hq => List.mem_append_right _ (List.mem_append_right _ (List.mem_append_left _ hq))) V2
  · exact d3 B ex _ q3 (fun q hq => List.mem_append_left _ hq) (fun q hq => List.mem_append_right _ (List.mem_append_right _ (List.mem_append_right _ hq))) V3
  · intro p hp
    rcases List.mem_append.mp hp with hp | hp
    · exact .inl hp
    · refine .inr ⟨(nb p hp).1, ?_⟩
      rcases List.mem_append.mp hp with hp | hp
      · exact ⟨_, (b1 p hp).2.2⟩
      · rcases List.mem_append.mp hp with hp | hp
        · exact ⟨_, (b2 p hp).2.2⟩
        · exact ⟨_, (b3 p hp).2.2⟩

theorem TV.tp {i : Info} {p0 p : Array Value} (V : TV i (hideAll h tabAs) ex p0 p) (h0 : h.get? i.P = some (tabObj p0)) (h1 : h'.get? i.P = some (tabObj p)) (hx : ∀ c oc, (c, oc) ∈ ex → h.get? c = none ∧ h'.get? c = some oc) : TP i h h' := by
  rcases V with ⟨rfl, _⟩ | ⟨rfl, c, oc, rfl, hc, x⟩
  · exact .inl (h1.trans h0.symm)
  · exact .inr ⟨h0, c, oc, h1, (hx c oc hc).1, (hx c oc hc).2, x⟩
theorem St.endT {hh : Heap} (S : St (hideAll hh tabAs) L h l own (tabL p1 p2 p3 ex)) (V1 : TV i1 (hideAll hh tabAs) ex q1 p1) (V2 : TV i2 (hideAll hh tabAs) ex q2 p2) (V3 : TV i3 (hideAll hh tabAs) ex q3 p3)
    (h1 : hh.get? 57 = some (tabObj q1)) (h2 : hh.get? 64 = some (tabObj q2)) (h3 : hh.get? 125 = some (tabObj q3)) : TabsP hh h := by
  have hx : ∀ c oc, (c, oc) ∈ ex → hh.get? c = none ∧ h.get? c = some oc := fun c oc hm => by
    have g := S.tab (.tail _ (.tail _ (.tail _ hm)))
    refine ⟨?_, g.1⟩
    cases q : hh.get? c with
    | none => rfl
    | some ob => have := hideAll_get tabAs q (S.exNot hm); rw [g.2.2] at this; cases this
  exact ⟨fun b ob hb e => S.keep _ _ (hideAll_get _ e hb), V1.tp h1 (S.tab (.head _)).1 hx, V2.tp h2 (S.tab (.tail _ (.head _))).1 hx, V3.tp h3 (S.tab (.tail _ (.tail _ (.head _)))).1 hx⟩
theorem TH.tv {i : Info} (x : TH i h) : ∃ p, h.get? i.P = some (tabObj p) ∧ TV i (hideAll h tabAs) [] p p :=
  let ⟨p, hp, r⟩ := x
  ⟨p, hp, .inl ⟨rfl, r.imp id fun ⟨c, oc, e, n, hc, y⟩ => ⟨c, oc, e, n, hideAll_get _ hc n, y⟩⟩⟩
end
end Mine
end -- L7
section -- L8
open PySem PySem.W PyProof.Rows PySem.Calls
set_option Elab.async false
set_option maxRecDepth 100000
set_option maxHeartbeats 4000000
namespace Mine
noncomputable def nested (P : Params) (f : Addr) (i : Nat) : Option Stmt := match (hd.heap_1 P).lookup f with
  | some ⟨_, _, .func fd, _⟩ => (match fd.body with
      | .stmts b => b[i]?
      | _ => none)
  | _ => none

inductive AtF (a : Addr) (x : Obj) : List (Addr × Obj) → (Obj → List (Addr × Obj)) → Prop
  | head {r} : AtF a x ((a, x) :: r) (fun y => (a, y) :: r)
  | tail {p r F} : AtF a x r F → AtF a x (p :: r) (fun y => p :: F y)
theorem AtF.at {a : Addr} {x : Obj} {own : List (Addr × Obj)} {F : Obj → List (Addr × Obj)} (U : AtF a x own F) (y : Obj) : At a x y own (F y) := by
  induction U with
  | head => exact .head
  | tail _ ih => exact .tail ih
section
variable {prog : Program} {w : World} {M : Model} {A : Around} {E : Value → Shared → Prop} {env : Env} {B : Heap} {L : Addr} {h : Heap} {g : Array GenState} {d : Drawn} {tk : Nat} {o : OsState} {l : List (Str × Value)} {own own' tl : List (Addr × Obj)} {Q : Value → Shared → Prop} {s : Shared}

theorem r_ldc {x : Str} {pos : Pos} {c : Addr} {ob : Obj} {v : Value} (S : St B L h l own tl) (hk : env.scope.kind = .function) (hl : env.kindOf x = some .cell) (hc : env.cells.lookup x = some c) (hm : (c, ob) ∈ own) (hv : ob.data = .cell (some v)) (hd : (x == ("__debug__" : Str)) = false)
    (hq : Q v ⟨h, g, d, tk, o⟩) : wpAny M A (eval (.Name x pos) env) Q E ⟨h, g, d, tk, o⟩ := wpAny_Name (wpAny_loadName_cell hk hl hc ⟨ob, S.get hm, hv⟩ hq) hd
theorem r_ldf {x : Str} {pos : Pos} {c : Addr} {v : Value} (S : St B L h l own tl) (hk : env.scope.kind = .function) (hl : env.kindOf x = some .free) (hc : env.cells.lookup x = some c) (hv : B.IsCell c (some v)) (hd : (x == ("__debug__" : Str)) = false) (hn : (x == ("__classdict__" : Str)) = false)
    (hq : Q v ⟨h, g, d, tk, o⟩) : wpAny M A (eval (.Name x pos) env) Q E ⟨h, g, d, tk, o⟩ := wpAny_Name (wpAny_loadName_free hk hl hc (hv.keeps S.keep) hq hn) hd
theorem r_stc {x : Str} {c : Addr} {ob : Obj} {v : Value} {v0 : Option Value} {own' : Obj → List (Addr × Obj)} {Q : Unit → Shared → Prop} (S : St B L h l own tl) (hk : env.scope.kind = .function) (hl : env.kindOf x = some .cell) (hc : env.cells.lookup x = some c) (hv : ob.data = .cell v0)
    (U' : AtF c ob own own') (hq : ∀ h' ob', ob'.data = .cell (some v) → St B L h' l (own' ob') tl → Q () ⟨h', g, d, tk, o⟩) : wpAny M A (storeName env x v) Q E ⟨h, g, d, tk, o⟩ :=
  wpAny_storeName_cell hk hl hc ⟨ob, S.get (U'.at ob).mem, hv⟩ fun h' hc' hs => let ⟨ob', e1, e2⟩ := hc'; hq h' ob' e2 (S.at (U'.at ob') hs.extBut e1)

theorem r_enterT {name qual : Str} {params : Arguments} {body : List Stmt} {scope : Scope} {dV kV doc pm cdv ct oc : Value} {an od : Option Addr} {osl : Array (Option Value)} {f : Addr} {pos : List Value} {kw : List (Str × Value)}
    (binds : List (Str × Value)) (X : Bs w (hideAll h tabAs)) (T : TabsH h) (hroom : A.depth < recursionLimit)
    (ho : (hd.heap_1 w.params).lookup f = some ⟨oc, od, .func (fnOf name qual params body scope dV kV doc pm an cdv ct), osl⟩) (hcd : codeIn (hd.heap_1 w.params) cdv qual = true)
    (hbind : BindsTo ⟨h, g, d, tk, o⟩ (fnOf name qual params body scope dV kV doc pm an cdv ct) ⟨pos, kw⟩ binds)
    (hloc : ∀ y ∈ binds, scope.names.lookup y.1 = some .local)
    (hco : scope.isCoroutine = false) (hgen : scope.isGenerator = false) (hk : scope.kind = .function) (hcell : ∀ x ∈ scope.names, x.2 ≠ .cell)
    (hb : ∀ h₁ tk₁ q1 q2 q3, h.get? 57 = some (tabObj q1) → h.get? 64 = some (tabObj q2) → h.get? 125 = some (tabObj q3) → TV i1 (hideAll h tabAs) [] q1 q1 → TV i2 (hideAll h tabAs) [] q2 q2 → TV i3 (hideAll h tabAs) [] q3 q3 →
      St (hideAll h tabAs) h.objs.size h₁ binds.reverse [] (tabL q1 q2 q3 []) →
      wpAny (model pg w) (A.deeper (envOf qual scope h.objs.size f cdv)) (execs body (envOf qual scope h.objs.size f cdv)) (fun fl s' => Q (retOf fl) s') (fun _ _ => False) ⟨h₁, g, d, tk₁, o⟩) :
    wpAny (model pg w) A (call (.ref f) pos kw) Q E ⟨h, g, d, tk, o⟩ := by
  refine hide fun Kz kz => ?_
  obtain ⟨q1, e1, V1⟩ := T.1.tv
  obtain ⟨q2, e2, V2⟩ := T.2.1.tv
  obtain ⟨q3, e3, V3⟩ := T.2.2.tv
  refine kz ?_
  clear kz Kz
  replace e1 : h.get? 57 = some (tabObj q1) := e1
  replace e2 : h.get? 64 = some (tabObj q2) := e2
  replace e3 : h.get? 125 = some (tabObj q3) := e3
  refine r_enterH binds (tabL q1 q2 q3 []) X (fun p hp => ?_) (by simp) hroom ho hcd hbind hloc hco hgen hk hcell fun h₁ tk₁ S => ?_
  · rcases List.mem_cons.mp hp with rfl | hp
    · exact e1
    · rcases List.mem_cons.mp hp with rfl | hp
      · exact e2
      · rcases List.mem_cons.mp hp with rfl | hp
        · exact e3
        · cases hp
  · refine hb h₁ tk₁ q1 q2 q3 e1 e2 e3 V1 V2 V3 ⟨S.fr, ?_, ?_⟩
    · have := S.nw; rwa [List.append_nil] at this
    · have := S.nd; rwa [List.append_nil] at this

theorem r_enterC {name qual : Str} {params : Arguments} {body : List Stmt} {scope : Scope} {dV kV doc pm cdv ct oc : Value} {an od : Option Addr} {osl : Array (Option Value)} {f : Addr} {pos : List Value} {kw : List (Str × Value)}
    (binds lb : List (Str × Value)) (X : Bs w (hideAll h tabAs)) (T : TabsH h) (hroom : A.depth < recursionLimit)
    (ho : (hd.heap_1 w.params).lookup f = some ⟨oc, od, .func (fnOf name qual params body scope dV kV doc pm an cdv ct), osl⟩) (hcd : codeIn (hd.heap_1 w.params) cdv qual = true)
    (hbind : BindsTo ⟨h, g, d, tk, o⟩ (fnOf name qual params body scope dV kV doc pm an cdv ct) ⟨pos, kw⟩ binds)
    (hkind : (binds.all fun y => scope.names.lookup y.1 == some .local || scope.names.lookup y.1 == some .cell) = true) (hnd : ((cellsFrom 0 scope.names []).map (·.1)).Nodup)
    (hlb : ∀ p ∈ lb, bindL (envOfC qual scope h.objs.size f cdv).kindOf binds (fun _ => none) p.1 = some p.2)
    (hco : scope.isCoroutine = false) (hgen : scope.isGenerator = false) (hk : scope.kind = .function)
    (hb : ∀ h₁ tk₁ q1 q2 q3 cells, h.get? 57 = some (tabObj q1) → h.get? 64 = some (tabObj q2) → h.get? 125 = some (tabObj q3) → TV i1 (hideAll h tabAs) [] q1 q1 → TV i2 (hideAll h tabAs) [] q2 q2 → TV i3 (hideAll h tabAs) [] q3 q3 →
      CellsAre (bindC (envOfC qual scope h.objs.size f cdv).kindOf binds fun _ => none) (cellsFrom (h.objs.size + 1) scope.names []) cells →
      St (hideAll h tabAs) h.objs.size h₁ lb cells (tabL q1 q2 q3 []) →
      wpAny (model pg w) (A.deeper (envOfC qual scope h.objs.size f cdv)) (execs body (envOfC qual scope h.objs.size f cdv)) (fun fl s' => Q (retOf fl) s') (fun _ _ => False) ⟨h₁, g, d, tk₁, o⟩) :
    wpAny (model pg w) A (call (.ref f) pos kw) Q E ⟨h, g, d, tk, o⟩ := by
  refine hide fun Kz kz => ?_
  obtain ⟨q1, e1, V1⟩ := T.1.tv
  obtain ⟨q2, e2, V2⟩ := T.2.1.tv
  obtain ⟨q3, e3, V3⟩ := T.2.2.tv
  refine kz ?_
  clear kz Kz
  replace e1 : h.get? 57 = some (tabObj q1) := e1
  replace e2 : h.get? 64 = some (tabObj q2) := e2
  replace e3 : h.get? 125 = some (tabObj q3) := e3
  have X' : Bs w h := X.keeps fun b ob e => of_hideAll _ e
  refine hide fun Kz kz => ?_
  obtain ⟨X', _, _, _, _, TT, _⟩ := X'
  refine kz ?_
  clear kz Kz
  refine wpAny_call (codeAny_call_function hroom (X' _ _ ho) rfl hco hgen rfl (codeRec_of X' hcd) (hbind _ _ _ _ ?_))
  refine wpAny_newFunctionEnv_cells hk (kindsX hkind _) fun env' he s' x => ?_
  subst he
  refine ⟨TT.nolimit.keeps x.toInCall.keep, codeAny_func ?_⟩
  refine hide fun Kz kz => ?_
  obtain ⟨h₁, tk₁, rfl, hk₁⟩ := x.done
  refine kz ?_
  clear kz Kz
  have hnd' : ((cellsFrom (h.objs.size + 1) scope.names []).map (·.1)).Nodup := cellsFrom_names scope.names 0 (h.objs.size + 1) [] [] rfl ▸ hnd
  refine hide fun Kz kz => ?_
  obtain ⟨cells, NC, Y⟩ := Cl.news (h₀ := h) (L := h.objs.size) (Nat.le_refl _) fun n c hm => ⟨x.cell n c (lookup_of_mem_nodup hnd' hm), x.above n c hm⟩
  refine kz ?_
  clear kz Kz
  have addrs : ∀ {cm : Str → Option Value} {cs : List (Str × Addr)} {cells : List (Addr × Obj)}, CellsAre cm cs cells → cells.map (·.1) = cs.map (·.2) := by
    intro cm cs cells Y
    induction Y with
    | nil => rfl
    | cons _ _ ih => rw [List.map_cons, List.map_cons, ih]
  refine wpAny_mono (hb h₁ tk₁ q1 q2 q3 cells e1 e2 e3 V1 V2 V3 Y ⟨⟨_, ⟨x.toInCall.ns, fun b ob e => hk₁ _ _ (of_hideAll _ e), Nat.le_of_eq (hideAll_size _ _)⟩, fun y v e => ?_⟩, fun p hp => ?_, ?_⟩) (fun fl s' q => q) fun _ _ q => q.elim
  · have : (y, v) ∈ lb := mem_of_lookup e
    exact hlb _ this
  · rcases List.mem_append.mp hp with hp | hp
    · refine ⟨(NC p hp).1, (NC p hp).2.1, ?_⟩
      cases q : (hideAll h tabAs).get? p.1 with
      | none => rfl
      | some ob => have := of_hideAll _ q; rw [(NC p hp).2.2] at this; cases this
    · have hp' : h.get? p.1 = some p.2 ∧ p.1 ∈ tabAs := by
        rcases List.mem_cons.mp hp with rfl | hp
        · exact ⟨e1, show (57 : Addr) ∈ tabAs by decide⟩
        · rcases List.mem_cons.mp hp with rfl | hp
          · exact ⟨e2, show (64 : Addr) ∈ tabAs by decide⟩
          · rcases List.mem_cons.mp hp with rfl | hp
            · exact ⟨e3, show (125 : Addr) ∈ tabAs by decide⟩
            · cases hp
      exact ⟨hk₁ _ _ hp'.1, Nat.ne_of_lt (Heap.lt_size hp'.1), hideAll_none _ hp'.2⟩
  · rw [List.map_append, List.nodup_append]
    refine ⟨?_, by simp, fun a ha b hb' e => ?_⟩
    · rw [addrs Y]
      have := x.apart
      rw [List.Nodup, List.pairwise_map]
      exact this
    · refine hide fun Kz kz => ?_
      obtain ⟨p, hp, rfl⟩ := List.mem_map.mp ha
      refine kz ?_
      clear kz Kz
      have h1 := (NC p hp).2.2
      have hb2 : b = 57 ∨ b = 64 ∨ b = 125 := by simpa using hb'
      rcases hb2 with rfl | rfl | rfl
      · rw [e, e1] at h1; cases h1
      · rw [e, e2] at h1; cases h1
      · rw [e, e3] at h1; cases h1

theorem r_enterX {name qual : Str} {params : Arguments} {body : List Stmt} {scope : Scope} {cl : List (Str × Addr)} {dV kV doc pm cdv ct : Value} {an : Option Addr} {fo : Obj} {f : Addr} {pos : List Value} {kw : List (Str × Value)}
    (binds : List (Str × Value)) (own₀ : List (Addr × Obj)) (X : Bs w (hideAll h (own₀.map (·.1)))) (hown : ∀ p ∈ own₀, h.get? p.1 = some p.2) (hnd : (own₀.map (·.1)).Nodup) (hroom : A.depth < recursionLimit)
    (ho : h.get? f = some fo) (hdat : fo.data = .func (fnX name qual params body scope cl dV kV doc pm an cdv ct)) (hcd : h.CodeRec cdv qual)
    (hbind : BindsTo ⟨h, g, d, tk, o⟩ (fnX name qual params body scope cl dV kV doc pm an cdv ct) ⟨pos, kw⟩ binds)
    (hloc : ∀ y ∈ binds, scope.names.lookup y.1 = some .local)
    (hco : scope.isCoroutine = false) (hgen : scope.isGenerator = false) (hk : scope.kind = .function) (hcell : ∀ x ∈ scope.names, x.2 ≠ .cell)
    (hb : ∀ h₁ tk₁, St (hideAll h (own₀.map (·.1))) h.objs.size h₁ binds.reverse own₀ [] →
      wpAny (model pg w) (A.deeper (envX qual scope h.objs.size f cdv cl)) (execs body (envX qual scope h.objs.size f cdv cl)) (fun fl s' => Q (retOf fl) s') (fun _ _ => False) ⟨h₁, g, d, tk₁, o⟩) :
    wpAny (model pg w) A (call (.ref f) pos kw) Q E ⟨h, g, d, tk, o⟩ := by
  have X' : Bs w h := X.keeps fun b ob e => of_hideAll _ e
  refine hide fun Kz kz => ?_
  obtain ⟨X, p, lo, mg, mb, T, _⟩ := X'
  refine kz ?_
  clear kz Kz
  refine wpAny_call (codeAny_call_def (fd := fnX name qual params body scope cl dV kV doc pm an cdv ct) (body := body) (binds := binds) hroom ho hdat T.nolimit hcd rfl hbind hcell hloc (fun h₁ hns hk₁ => ?_) hco hgen hk)
  refine wpAny_mono (hb h₁ _ ⟨⟨_, ⟨hns, fun b ob e => hk₁ _ _ (of_hideAll _ e), Nat.le_of_eq (hideAll_size _ _)⟩, fun _ _ e => e⟩, fun p hp => ?_, by rw [List.append_nil]; exact hnd⟩) (fun fl s' q => q) fun _ _ q => q.elim
  rw [List.append_nil] at hp
  exact ⟨hk₁ _ _ (hown p hp), Nat.ne_of_lt (Heap.lt_size (hown p hp)), hideAll_none _ (List.mem_map_of_mem hp)⟩
end
end Mine
end -- L8
section -- L9
open PySem PySem.W PyProof.Rows PySem.Calls
set_option Elab.async false
set_option maxRecDepth 100000
set_option maxHeartbeats 4000000
namespace Mine
theorem codeHd1 {w : World} {B : Heap} (X : Bs w B) : CodeHd B 61 57 := ⟨_, _, _, _, _, _, _, _, _, X.1 61 _ rfl, rfl, rfl, rfl, rfl, rfl, rfl, rfl, rfl, by decide⟩
theorem codeHd2 {w : World} {B : Heap} (X : Bs w B) : CodeHd B 68 64 := ⟨_, _, _, _, _, _, _, _, _, X.1 68 _ rfl, rfl, rfl, rfl, rfl, rfl, rfl, rfl, rfl, by decide⟩
theorem codeHd3 {w : World} {B : Heap} (X : Bs w B) : CodeHd B 129 125 := ⟨_, _, _, _, _, _, _, _, _, X.1 129 _ rfl, rfl, rfl, rfl, rfl, rfl, rfl, rfl, rfl, by decide⟩

theorem triples_filled {i : Info} {c : Addr} : TriplesOk (filled i c).toList := trivial
theorem among_filled {i : Info} {c : Addr} {pos : Pos} (h1 : pos.line = i.line) (h2 : pos.col = i.col) : codeAmong pos (filled i c).toList = some (.ref c) := by
  show (if ((i.line : Int) == (pos.line : Int) && (i.col : Int) == (pos.col : Int)) = true then some (Value.ref c) else _) = _
  rw [h1, h2]
  simp

section
variable {M : Model} {A : Around} {E : Value → Shared → Prop} {env : Env} {B : Heap} {L : Addr} {h h' : Heap} {g : Array GenState} {d : Drawn} {tk : Nat} {o : OsState} {l : List (Str × Value)} {own tl : List (Addr × Obj)} {Q : Value → Shared → Prop} {w : World}
  {tl' : Array Value → List (Addr × Obj)} {ex : List (Addr × Obj)} {i : Info} {q p : Array Value}

theorem St.fill {c : Addr} {oc : Obj} {p' : Array Value} (S : St B L h l own tl) (U : At i.P (tabObj p) (tabObj p') tl (tl' p')) (hx : Heap.ExtBut i.P h h') (hP : h'.get? i.P = some (tabObj p')) (hn : h.get? c = none) (hc : h'.get? c = some oc) : St B L h' l own (tl' p' ++ [(c, oc)]) := by
  refine hide fun Kz kz => ?_
  obtain ⟨m, F, hm⟩ := S.fr
  refine kz ?_
  clear kz Kz
  have z := S.tab U.mem
  have U' : At i.P (tabObj p) (tabObj p') (own ++ tl) (own ++ tl' p') := by
    clear S F hm z
    induction own with
    | nil => exact U
    | cons _ _ ih => exact .tail ih
  refine ⟨⟨m, ⟨F.ns.extBut hx (Ne.symm z.2.1), fun b ob e => hx b ob (fun e' => ?_) (F.keep b ob e), F.above⟩, hm⟩, fun r hr => ?_, ?_⟩
  · have := z.2.2
    rw [← e', e] at this; cases this
  · rw [← List.append_assoc] at hr
    rcases List.mem_append.mp hr with hr | hr
    · rcases U'.old S.nd r hr with rfl | ⟨hr', hne⟩
      · exact ⟨hP, z.2⟩
      · have y := S.nw r hr'
        exact ⟨hx _ _ hne y.1, y.2⟩
    · rw [List.mem_singleton.mp hr]
      refine ⟨hc, fun e => ?_, ?_⟩
      · refine hide fun Kz kz => ?_
        obtain ⟨_, _, _, e', _⟩ := F.ns
        refine kz ?_
        clear kz Kz
        dsimp only at e
        rw [e, e'] at hn; cases hn
      · cases e : B.get? c with
        | none => rfl
        | some ob => rw [F.keep _ _ e] at hn; cases hn
  · rw [← List.append_assoc, List.map_append, List.nodup_append]
    refine ⟨by rw [U'.addrs]; exact S.nd, by simp, fun a ha b hb e => ?_⟩
    rw [U'.addrs] at ha
    refine hide fun Kz kz => ?_
    obtain ⟨r, hr, rfl⟩ := List.mem_map.mp ha
    refine kz ?_
    clear kz Kz
    have := (S.nw r hr).1
    have hb' : b = c := by simpa using hb
    rw [e, hb', hn] at this; cases this

theorem mk_side {P : Addr} {ps : Array Value} (X : Bs w B) (S : St B L h l own tl) (hm : (P, tabObj ps) ∈ tl) : ∃ mg, h.Ns mainGlobals mg ∧ mainGlobals ≠ P ∧ h.BuiltinsAt mg P := by
  refine hide fun Kz kz => ?_
  obtain ⟨X, _, _, mg, mb, T, bm, ob, b1, b2, b3, b4, b5, b6⟩ := X
  refine kz ?_
  clear kz Kz
  have z := S.tab hm
  have hgs := T.g.keeps S.keep
  have hgP : mainGlobals ≠ P := fun q => by
    refine hide fun Kz kz => ?_
    obtain ⟨o, es, ep, e, hd, _⟩ := hgs
    refine kz ?_
    clear kz Kz
    rw [q, z.1] at e; cases e; cases hd
  have hbP : bm ≠ P := fun q => by
    have e := S.keep _ _ b3
    rw [q, z.1] at e; cases e; cases b4
  have hbG : bm ≠ mainGlobals := fun q => by
    refine hide fun Kz kz => ?_
    obtain ⟨o, es, ep, e, hd, _⟩ := T.g
    refine kz ?_
    clear kz Kz
    rw [q, e] at b3; cases b3; rw [hd] at b6; cases b6
  exact ⟨mg, hgs, hgP, bm, ob, b1, b2, hbG, hbP, S.keep _ _ b3, b4, b5, b6⟩

theorem r_mkfun {name : Str} {params : Arguments} {body : List Stmt} {scope : Scope} {pos : Pos} {firstLine : Nat} {clos : List (Str × Addr)} {c : Addr} (S : St B L h l own tl) (X : Bs w B) (U : ∀ p', At i.P (tabObj p) (tabObj p') tl (tl' p')) (ht' : tl' p = tl) (V : TV i B ex q p)
    (C : CodeHd B c i.P) (hcode : env.code = .ref c) (hge0 : env.globals = mainGlobals) (hcl : closureFor scope env = pure clos) (hl1 : pos.line = i.line) (hl2 : pos.col = i.col)
    (hq : ∀ f c' doc pm ctv p' nx h' tk' oc, St B L h' l ((f, fnMade name i.q params body scope clos doc pm c' ctv) :: own) (tl' p' ++ nx) → TV i B (ex ++ nx) q p' → codeObj i.q oc → (B.get? c' = some oc ∨ (c', oc) ∈ ex ++ nx) → Q (.ref f) ⟨h', g, d, tk', o⟩) :
    wpAny M A (makeFunction name i.q params (.stmts body) scope env [] [] [] pos firstLine) Q E ⟨h, g, d, tk, o⟩ := by
  refine hide fun Kz kz => ?_
  obtain ⟨mg, hgs, hgP, hb⟩ := mk_side X S (U p).mem
  refine kz ?_
  clear kz Kz
  have z := S.tab (U p).mem
  have hit : ∀ c' oc, p = filled i c' → codeObj i.q oc → (B.get? c' = some oc ∨ (c', oc) ∈ ex) → wpAny M A (makeFunction name i.q params (.stmts body) scope env [] [] [] pos firstLine) Q E ⟨h, g, d, tk, o⟩ := by
    intro c' oc e x y
    subst e
    refine makeFunction_hit (mg := mg) (cv := .ref c') hcl hge0 hgs hcode (C.keeps S.keep) z.1 triples_filled (among_filled hl1 hl2) hb fun ctv doc h' tk' hk hsz => ?_
    have S' := (S.stays hk).push (fnMade name i.q params body scope clos doc ((mg "__name__").getD .none) c' ctv)
    refine hq _ c' doc ((mg "__name__").getD .none) ctv (filled i c') [] _ _ oc ?_ ?_ x ?_
    · rw [List.append_nil, ht']; exact S'
    · rw [List.append_nil]; exact V
    · rw [List.append_nil]; exact y
  have V' := V
  rcases V' with ⟨rfl, h0 | ⟨c', oc, e, n, hc, x⟩⟩ | ⟨_, c', oc, e, hc, x⟩
  · subst h0
    refine makeFunction_K (mg := mg) hcl hge0 hgs hcode (C.keeps S.keep) z.1 trivial rfl hgP hb fun c' ctv doc h' tk' hx hge hlt hrec htb => ?_
    refine hide fun Kz kz => ?_
    obtain ⟨c₂, oc, vs, t, e2, hoc, hd, hv⟩ := hrec
    refine kz ?_
    clear kz Kz
    cases e2
    have htb' : h'.get? i.P = some (tabObj (filled i c')) := by
      rw [htb]
      simp only [filled, hl1, hl2, Array.empty_append]
    have hn : h.get? c' = none := Heap.get?_none_of_le hge
    have S' := (S.fill (tl' := tl') (U _) hx htb' hn hoc).push (fnMade name i.q params body scope clos doc ((mg "__name__").getD .none) c' ctv)
    refine hq _ c' doc _ ctv (filled i c') [(c', oc)] _ _ oc S' (.inr ⟨rfl, c', oc, rfl, List.mem_append_right _ (List.mem_singleton.mpr rfl), ⟨vs, t, hd, hv⟩⟩) ⟨vs, t, hd, hv⟩ (.inr (List.mem_append_right _ (List.mem_singleton.mpr rfl)))
  · exact hit c' oc e x (.inl hc)
  · exact hit c' oc e x (.inr hc)

theorem r_fundef {name : Str} {params : Arguments} {body : List Stmt} {scope : Scope} {pos : Pos} {Q : Flow → Shared → Prop} {s : Shared} {qual : Str} (hd0 : params.defaults = []) (hk0 : params.kw_defaults = []) (ha : annTrees params none env = []) (hqual : qualnameIn env name name = qual)
    (h : wpAny M A (makeFunction name qual params (.stmts body) scope env [] [] [] pos pos.line) (fun v s' => wpAny M A (storeName env name v) (fun _ s'' => Q .next s'') E s') E s) :
    wpAny M A (exec (.FunctionDef name params body [] none [] scope none name pos) env) Q E s := nestDef_K hd0 hk0 ha (by rw [hqual]; exact h)
end
end Mine
end -- L9
section -- L10
open PySem PySem.W PyProof.Rows PySem.Calls
set_option Elab.async false
set_option maxRecDepth 100000
set_option maxHeartbeats 4000000
namespace Mine
theorem cells3 {cm : Str → Option Value} {n n' n'' : Str} {c c' c'' : Addr} {cells : List (Addr × Obj)} (x : CellsAre cm [(n, c), (n', c'), (n'', c'')] cells) :
    ∃ o o' o'', cells = [(c, o), (c', o'), (c'', o'')] ∧ o.data = .cell (cm n) ∧ o'.data = .cell (cm n') ∧ o''.data = .cell (cm n'') := by
  cases x with | cons h r => obtain ⟨o', o'', rfl, h', h''⟩ := r.two; exact ⟨_, o', o'', rfl, h, h', h''⟩
section
variable {prog : Program} {w : World} {M : Model} {A : Around} {E : Value → Shared → Prop} {env : Env} {B : Heap} {L : Addr} {h h' : Heap} {g : Array GenState} {d : Drawn} {tk : Nat} {o : OsState} {l : List (Str × Value)} {own own' tl : List (Addr × Obj)} {Q : Value → Shared → Prop} {s : Shared}

theorem St.mkNew {m : Str → Option Value} {ob : Obj} (S : St B L h l own tl) (hm : ∀ x v, l.lookup x = some v → m x = some v) (F : Fr B L h' m) (N : News B L h' ((h.objs.size, ob) :: (own ++ tl))) : St B L h' l ((h.objs.size, ob) :: own) tl := by
  refine ⟨⟨m, F, hm⟩, N, ?_⟩
  rw [List.cons_append, List.map_cons, List.nodup_cons]
  refine ⟨fun hmem => ?_, S.nd⟩
  obtain ⟨p, hp, e⟩ := List.mem_map.mp hmem
  exact absurd (Heap.lt_size (S.nw p hp).1) (by rw [e]; exact Nat.lt_irrefl _)

theorem St.hideOwn (S : St B L h l own tl) {as : List Addr} (ha : ∀ a ∈ as, ∃ ob, (a, ob) ∈ own ++ tl) : B.StaysIn (hideAll h as) := fun b ob e => hideAll_get _ (S.keep b ob e) fun hm => by
  obtain ⟨ob', hm'⟩ := ha b hm
  have := (S.nw _ hm').2.2
  rw [e] at this; cases this
theorem r_callO {f : Addr} {ob : Obj} {fd : FuncData} {e : Expr} {rest : List Expr} {pos : Pos} (_hf : s.heap.get? f = some ob) (hdat : ob.data = .func fd)
    (he : starEach (e :: rest) env = (false, eval e env) :: starEach rest env)
    (h : wpAny M A (spliced (backTo pos (starEach (e :: rest) env))) (fun vs s₁ => s₁.heap.get? f = some ob ∧ wpAny M A (call (.ref f) vs) Q E s₁) E s) :
    wpAny M A (callWith pos (.ref f) [] (backTo pos (starEach (e :: rest) env)) []) Q E s := callWith_def hdat h he
theorem St.apart {a b : Addr} {x y : Obj} (S : St B L h l own tl) (ha : (a, x) ∈ own ++ tl) (hb : (b, y) ∈ own ++ tl) (hne : x ≠ y) : a ≠ b := fun e => by
  have h1 := (S.nw _ ha).1
  have h2 := (S.nw _ hb).1
  dsimp only at h1 h2
  rw [e, h2] at h1
  exact hne (Option.some.inj h1).symm
theorem St.hid1 {a b : Addr} {x y : Obj} (S : St B L h l own tl) (ha : (a, x) ∈ own ++ tl) (hb : (b, y) ∈ own ++ tl) (hne : x ≠ y) : (hideAll h [b]).get? a = some x :=
  hideAll_get _ (S.nw _ ha).1 (by simpa using S.apart ha hb hne)
theorem r_tlist {D : Addr} {items : Array Value} {Q : Bool → Shared → Prop} (hl : h.IsList D items) (hfit : (items.size : Int) < 2 ^ 63) (hq : ∀ tk', Q (!decide (items.size = 0)) ⟨h, g, d, tk', o⟩) : wpAny (model prog w) A (truthy (.ref D)) Q E ⟨h, g, d, tk, o⟩ :=
  wpAny_truthy_list hl hfit (by
    have e : (!items.isEmpty) = (!decide (items.size = 0)) := by
      cases h0 : items.isEmpty <;> simp_all [Array.isEmpty]
    rw [e]; exact hq _)
theorem r_rev {D : Addr} {items : Array Value} (S : St B L h l own tl) (hl : h.IsList D items)
    (hq : ∀ r h', St B L h' l ((r, revObj D ((items.size : Int) - 1)) :: own) tl → Q (.ref r) ⟨h', g, d, tk, o⟩) : wpAny (model prog w) A (call (.type "reversed") [.ref D]) Q E ⟨h, g, d, tk, o⟩ :=
  call_reversed_list hl (hq _ _ (S.push (revObj D ((items.size : Int) - 1))))
theorem r_iterRev {D : Addr} {i : Int} {I : Addr} (S : St B L h l own tl) (hm : (I, revObj D i) ∈ own) (hq : Q (.ref I) ⟨h, g, d, tk, o⟩) : wpAny (model prog w) A (pyIter (.ref I)) Q E ⟨h, g, d, tk, o⟩ :=
  wpAny_pyIter_revIter ⟨_, S.get hm, rfl, rfl⟩ hq
theorem r_setL {D : Addr} {vs : List Value} {n : Nat} {k : Nat} {t : Tok} {v : Value} {Q : Unit → Shared → Prop} (S : St B L h l own tl) (hk : k < vs.length) (hz : vs.length < 2 ^ 62) (U : At D (lst vs n) (lst (vs.set k v) n) own own')
    (hq : ∀ h', St B L h' l own' tl → Q () ⟨h', g, d, tk, o⟩) : wpAny (model prog w) A (setItem (.ref D) (.int k t) v) Q E ⟨h, g, d, tk, o⟩ := by
  have ho := S.get U.mem
  refine ki_setAt ho (by omega) (by omega) (by simp; omega) (hq _ (S.at U (Heap.SameBut.update ..).extBut ?_))
  have q := PySem.IsL.update ho (fun xs => xs.setIfInBounds (k : Int).toNat v)
  rw [if_pos (by simp)] at q
  simpa using q
theorem r_asub {oe i : Expr} {pos' pos : Pos} {value : Expr} {Q : Flow → Shared → Prop} (hs : swapsWith value (some (.Subscript oe i pos')) pos.line env = pure false)
    (h : wpAny M A (eval value env) (fun v s₁ => wpAny M A (eval oe env) (fun ov s₂ => wpAny M A (eval i env) (fun iv s₃ => wpAny M A (setItem ov iv v) (fun _ => Q .next) E s₃) E s₂) E s₁) E s) :
    wpAny M A (exec (.Assign [.Subscript oe i pos'] value pos) env) Q E s := wpAny_Assign_Subscript h hs
theorem foldl_rep (v : Value) : ∀ (k : Nat) (acc : Array Value), List.foldl (fun x1 x2 => x1 ++ x2) acc (List.replicate k #[v]) = acc ++ (List.replicate k v).toArray
  | 0, acc => by simp
  | k + 1, acc => by
    rw [List.replicate_succ, List.foldl_cons, foldl_rep v k, List.replicate_succ]
    apply Array.toList_inj.mp
    simp
theorem r_mulL {D : Addr} {v : Value} {n : Nat} {k : Nat} {u : Tok} (S : St B L h l own tl) (hm : (D, lst [v] n) ∈ own) (hk : k ≤ 1000000)
    (hq : ∀ r h', St B L h' l ((r, lst (List.replicate k v) 0) :: own) tl → Q (.ref r) ⟨h', g, d, tk, o⟩) : wpAny (model prog w) A (binaryOp .Mult (.ref D) (.int k u)) Q E ⟨h, g, d, tk, o⟩ := by
  obtain ⟨m, F, hm'⟩ := S.fr
  refine mul_list (items := #[v]) (k := n) F S.nw (S.get hm) (by omega) (by omega) (by simp; omega) fun h' F' N' => ?_
  have e : (List.foldl (fun x1 x2 => x1 ++ x2) #[] (List.replicate (if (#[v] : Array Value).isEmpty = true then 0 else (k : Int).toNat) #[v])) = (List.replicate k v).toArray := by
    rw [if_neg (by simp), Int.toNat_natCast, foldl_rep]; simp
  rw [e] at N'
  exact hq _ _ (S.mkNew hm' F' N')
end
end Mine
end -- L10
section -- L11
open PySem PySem.W PyProof.Rows PySem.Calls
set_option Elab.async false
set_option maxRecDepth 100000
set_option maxHeartbeats 4000000
namespace Mine
structure TB (B : Heap) (ex : List (Addr × Obj)) (q1 q2 q3 p1 p2 p3 : Array Value) : Prop where
  v1 : TV i1 B ex q1 p1
  v2 : TV i2 B ex q2 p2
  v3 : TV i3 B ex q3 p3
section
variable {B : Heap} {L : Addr} {h h' : Heap} {l : List (Str × Value)} {own tl : List (Addr × Obj)} {p1 p2 p3 q1 q2 q3 : Array Value} {ex : List (Addr × Obj)} {w : World}
theorem St.tabsB (S : St B L h l own (tabL p1 p2 p3 ex)) (V : TB B ex q1 q2 q3 p1 p2 p3) : TabsH h := S.tabsH V.v1 V.v2 V.v3
theorem St.backB (S : St B L h l own (tabL p1 p2 p3 ex)) (V : TB B ex q1 q2 q3 p1 p2 p3) (x : TabsP h h') :
    ∃ p1' p2' p3' ex', St B L h' l own (tabL p1' p2' p3' ex') ∧ TB B ex' q1 q2 q3 p1' p2' p3' := by
  refine hide fun Kz kz => ?_
  obtain ⟨p1', p2', p3', ex', S', V1', V2', V3', _⟩ := S.backT V.v1 V.v2 V.v3 x
  refine kz ?_
  clear kz Kz
  exact ⟨_, _, _, _, S', V1', V2', V3'⟩
theorem St.backA {a : Addr} {ob : Obj} (S : St B L h l own (tabL p1 p2 p3 ex)) (V : TB B ex q1 q2 q3 p1 p2 p3) (x : TabsP h h') (hn : h.get? a = none) (ha : h'.get? a = some ob) (hd : ∀ vs, ob.data ≠ .fields vs) :
    ∃ p1' p2' p3' ex', St B L h' l ((a, ob) :: own) (tabL p1' p2' p3' ex') ∧ TB B ex' q1 q2 q3 p1' p2' p3' := by
  refine hide fun Kz kz => ?_
  obtain ⟨p1', p2', p3', ex', S', V1', V2', V3', hx⟩ := S.backT V.v1 V.v2 V.v3 x
  refine kz ?_
  clear kz Kz
  refine ⟨_, _, _, _, ⟨S'.fr, fun p hp => ?_, ?_⟩, V1', V2', V3'⟩
  · rw [List.cons_append] at hp
    rcases List.mem_cons.mp hp with rfl | hp
    · refine ⟨ha, fun e => ?_, ?_⟩
      · refine hide fun Kz kz => ?_
        obtain ⟨m, F, _⟩ := S.fr
        obtain ⟨_, _, _, q, _⟩ := F.ns
        refine kz ?_
        clear kz Kz
        dsimp only at e
        rw [e, q] at hn; cases hn
      · cases q : B.get? a with
        | none => rfl
        | some ob => rw [S.keep _ _ q] at hn; cases hn
    · exact S'.nw p hp
  · rw [List.cons_append, List.map_cons, List.nodup_cons]
    refine ⟨fun hmem => ?_, S'.nd⟩
    refine hide fun Kz kz => ?_
    obtain ⟨p, hp, e⟩ := List.mem_map.mp hmem
    refine kz ?_
    clear kz Kz
    dsimp only at e
    have old : ∀ r : Addr × Obj, r ∈ own ++ tabL p1 p2 p3 ex → r.1 ≠ a := fun r hr e => by
      have := (S.nw r hr).1
      rw [e, hn] at this; cases this
    rcases List.mem_append.mp hp with hp | hp
    · exact old p (List.mem_append_left _ hp) e
    · rcases List.mem_cons.mp hp with rfl | hp
      · exact old (57, tabObj p1) (List.mem_append_right _ (.head _)) e
      rcases List.mem_cons.mp hp with rfl | hp
      · exact old (64, tabObj p2) (List.mem_append_right _ (.tail _ (.head _))) e
      rcases List.mem_cons.mp hp with rfl | hp
      · exact old (125, tabObj p3) (List.mem_append_right _ (.tail _ (.tail _ (.head _)))) e
      rcases hx p hp with hp' | ⟨_, q, vs, t, hq, _⟩
      · exact old p (List.mem_append_right _ (.tail _ (.tail _ (.tail _ hp')))) e
      · have := (S'.tab (.tail _ (.tail _ (.tail _ hp)))).1
        rw [e, ha] at this
        rw [← Option.some.inj this] at hq
        exact hd vs hq
theorem St.endB {hh : Heap} (S : St (hideAll hh tabAs) L h l own (tabL p1 p2 p3 ex)) (V : TB (hideAll hh tabAs) ex q1 q2 q3 p1 p2 p3)
    (h1 : hh.get? 57 = some (tabObj q1)) (h2 : hh.get? 64 = some (tabObj q2)) (h3 : hh.get? 125 = some (tabObj q3)) : TabsP hh h := S.endT V.v1 V.v2 V.v3 h1 h2 h3
theorem St.notTab {a : Addr} {ob : Obj} (S : St B L h l own (tabL p1 p2 p3 ex)) (hm : (a, ob) ∈ own) : a ∉ tabAs := fun hb => by
  have hnd := S.nd
  rw [List.map_append, List.nodup_append] at hnd
  have hd := hnd.2.2 a (List.mem_map_of_mem (f := (·.1)) hm)
  simp only [tabAs, List.mem_cons, List.not_mem_nil, or_false] at hb
  rcases hb with e | e | e
  · exact hd 57 (by simp) e
  · exact hd 64 (by simp) e
  · exact hd 125 (by simp) e
theorem St.freshT {hh : Heap} {a : Addr} {ob : Obj} (S : St (hideAll hh tabAs) L h l own (tabL p1 p2 p3 ex)) (hm : (a, ob) ∈ own) : hh.get? a = none := by
  have := S.new hm
  cases q : hh.get? a with
  | none => rfl
  | some ob' => rw [hideAll_get _ q (S.notTab hm)] at this; cases this
theorem St.hidGet {a : Addr} {ob : Obj} (S : St B L h l own (tabL p1 p2 p3 ex)) (hm : (a, ob) ∈ own) : (hideAll h tabAs).get? a = some ob := hideAll_get _ (S.get hm) (S.notTab hm)
theorem St.hidList {a : Addr} {vs : List Value} {n : Nat} (S : St B L h l own (tabL p1 p2 p3 ex)) (hm : (a, lst vs n) ∈ own) : (hideAll h tabAs).IsList a vs.toArray := ⟨_, S.hidGet hm, rfl, n, rfl⟩
end
end Mine
end -- L11
section -- L12
open PySem PySem.W PyProof.Rows PySem.Calls PySem.Spec
set_option Elab.async false
set_option maxRecDepth 100000
set_option maxHeartbeats 4000000
namespace Mine
section
variable {prog : Program} {w : World} {A : Around} {E : Value → Shared → Prop} {h : Heap} {g : Array GenState} {d : Drawn} {tk : Nat} {o : OsState}
theorem r_enterE {Q : Value → Shared → Prop} {name qual : Str} {params : Arguments} {body : List Stmt} {scope : Scope} {dV kV doc pm cdv ct oc : Value} {an od : Option Addr} {osl : Array (Option Value)} {f : Addr} {pos : List Value} {kw : List (Str × Value)}
    (binds : List (Str × Value)) (X : Bs w h) (hroom : A.depth < recursionLimit)
    (ho : (hd.heap_1 w.params).lookup f = some ⟨oc, od, .func (fnOf name qual params body scope dV kV doc pm an cdv ct), osl⟩) (hcd : codeIn (hd.heap_1 w.params) cdv qual = true)
    (hbind : BindsTo ⟨h, g, d, tk, o⟩ (fnOf name qual params body scope dV kV doc pm an cdv ct) ⟨pos, kw⟩ binds)
    (hloc : ∀ y ∈ binds, scope.names.lookup y.1 = some .local)
    (hco : scope.isCoroutine = false) (hgen : scope.isGenerator = false) (hk : scope.kind = .function) (hcell : ∀ x ∈ scope.names, x.2 ≠ .cell)
    (hb : ∀ h₁ tk₁, St h h.objs.size h₁ binds.reverse [] [] →
      wpAny (model pg w) (A.deeper (envOf qual scope h.objs.size f cdv)) (execs body (envOf qual scope h.objs.size f cdv)) (fun fl s' => Q (retOf fl) s')
        (fun e s' => wpAny (model pg w) (A.deeper (envOf qual scope h.objs.size f cdv)) (leaving (envOf qual scope h.objs.size f cdv) e) (fun _ s'' => E e s'') (fun e' s'' => E e' s'') s') ⟨h₁, g, d, tk₁, o⟩) :
    wpAny (model pg w) A (call (.ref f) pos kw) Q E ⟨h, g, d, tk, o⟩ := by
  refine hide fun Kz kz => ?_
  obtain ⟨X, p, lo, mg, mb, T, _⟩ := X
  refine kz ?_
  clear kz Kz
  refine wpAny_call (codeAny_call_def (fd := fnOf name qual params body scope dV kV doc pm an cdv ct) (body := body) (binds := binds) hroom (X _ _ ho) rfl T.nolimit (codeRec_of X hcd) rfl hbind hcell hloc (fun h₁ hns hk₁ => ?_) hco hgen hk)
  exact wpAny_mono (hb h₁ _ ⟨⟨_, ⟨hns, hk₁, Nat.le_refl _⟩, fun _ _ e => e⟩, News.nil, List.nodup_nil⟩) (fun fl s' q => q) fun _ _ q => q

end
section
variable {prog : Program} {w : World} {A₀ : Around} {E : Value → Shared → Prop} {s' : Shared} {B h : Heap} {outer : List Env} {L a e : Addr} {m : Str → Option Value} {name : Str} {scope : Scope} {cd : Value}
  {b₀ : Stmt} {suite : List Stmt} {pos np : Pos} {rest : List ExceptHandler} {Q : Flow → Shared → Prop} {x : Str} {X T' : String}
theorem caught_M (hst : A₀.frames = some outer) (F : Fr B L h m) (hsm : h.UpToSlots s'.heap) (R : RaisedSN B h (envOf name scope L a cd :: outer) e (.type X) [] s'.heap)
    (XB : Bs w B) (ex : nsIn (hd.heap_1 w.params) mainGlobals x = some none) (hv : bootBuiltins x = some (.type T'))
    (hexc : isSubtype (.type T') (.type "BaseException") = pure true) (hnt : isSubtype (.type ((Manifest.find? T').elim "type" fun y => y.metatype)) (.type "tuple") = pure false) (hsub : isSubtype (.type X) (.type T') = pure true)
    (hn : x ≠ "__name__") (hk : scope.kind = .function) (hx : (envOf name scope L a cd).kindOf x = some .globalImplicit) (hd : (x == ("__debug__" : Str)) = false)
    (hE : PassesOwnAt (model prog w) ((A₀.deeper (envOf name scope L a cd)).mark (some (.ref e))) (A₀.deeper (envOf name scope L a cd)) (envOf name scope L a cd) E)
    (k : ∀ h', Fr B L h' m → (∀ b o, h.get? b = some o → b ∉ (envOf name scope L a cd :: outer).filterMap (·.frame) → h'.get? b = some o) → h.UpToSlots h' →
      wpAny (model prog w) ((A₀.deeper (envOf name scope L a cd)).mark (some (.ref e))) (execs (b₀ :: suite) (envOf name scope L a cd)) Q E { s' with heap := h' }) :
    wpAny (model prog w) (A₀.deeper (envOf name scope L a cd)) (noteFrame (.ref e) (envOf name scope L a cd))
      (fun _ s₂ => wpAny (model prog w) (A₀.deeper (envOf name scope L a cd)) (setFlight (.ref e) none) (fun _ s₃ =>
        wpAny (model prog w) (A₀.deeper (envOf name scope L a cd)) (handleBy (.ref e) (envOf name scope L a cd) (.ExceptHandler (some (.Name x np)) none (b₀ :: suite) pos :: rest)) Q E s₃) E s₂) E s' := by
  refine hide fun Kz kz => ?_
  obtain ⟨B', a0, hB, hG, hl, hfl⟩ := R
  obtain ⟨XK, p, lo, mg, mb, T, _⟩ := XB
  refine kz ?_
  clear kz Kz
  refine wpAny_looks_onW (Around.frames_deeper hst) rfl hfl fun h₄ hheld₄ hsm₄ => ?_
  refine wpAny_landsW hheld₄ fun h₅ hheld hsm₅' => ?_
  have hsm₅ := hsm₄.trans hsm₅'
  have hheld' := flyingW_base hB hheld
  have F₅ := F.of_stays hheld'.1 (hsm.trans hsm₅)
  refine hide fun Kz kz => ?_
  obtain ⟨ob, hob, hobc⟩ := hheld'.there
  refine kz ?_
  clear kz Kz
  refine wpAny_handleBy_builtin (X := X) (T := T') (b := true) hexc hnt hsub (ld_builtin_at F₅ T.g (mg_none_of XK T.g ex) T.b ((T.builtins x hn).trans hv) ⟨rfl, ⟨ob, hob, hobc⟩, ?_⟩ hk hx hd)
  refine lands_againW hheld fun h₆ hfl₆ hsm₆ => ?_
  have F₆ := F.of_stays (flyingW_base hB hfl₆).1 ((hsm.trans hsm₅).trans hsm₆)
  exact wpAny_passesOwnAt hE (k h₆ F₆ (fun b o q nm => hfl₆.1 _ _ (hG b o q nm)) ((hsm.trans hsm₅).trans hsm₆))
end
theorem St.frames {A : Around} {B : Heap} {L L1 : Addr} {h : Heap} {l : List (Str × Value)} {own tl : List (Addr × Obj)} {name : Str} {scope : Scope} {a : Addr} {cd : Value} {le : Env} {oL : Obj} (S : St B L h l own tl)
    (hfr : A.frames = some [le]) (hk : scope.kind = .function) (hk1 : le.scope.kind ≠ .module) (hf1 : le.frame = some L1) (hd1 : ∀ vs, oL.data ≠ .fields vs) (hm : (L1, oL) ∈ own) :
    Below (A.deeper (envOf name scope L a cd)) B [envOf name scope L a cd, le] h := by
  refine hide fun Kz kz => ?_
  obtain ⟨m, F, _⟩ := S.fr
  refine kz ?_
  clear kz Kz
  refine ⟨Around.frames_deeper hfr, F.keep, ?_⟩
  exact .cons (by show scope.kind ≠ .module; rw [hk]; decide) rfl F.ns (kts_self F) ⟨hk1, ⟨L1, oL, hf1, S.new hm, S.get hm, hd1⟩, trivial⟩
theorem St.turned {B : Heap} {L L1 : Addr} {h h' : Heap} {l : List (Str × Value)} {m : Str → Option Value} {own tl : List (Addr × Obj)} {oL : Obj} (S : St B L h l (own ++ [(L1, oL)]) tl) (hm : ∀ x v, l.lookup x = some v → m x = some v) (F : Fr B L h' m)
    (hk : ∀ b o, h.get? b = some o → b ≠ L → b ≠ L1 → h'.get? b = some o) (hu : h.UpToSlots h') (hd1 : ∀ vs, oL.data ≠ .fields vs) :
    ∃ sl, St B L h' l (own ++ [(L1, { oL with slots := sl })]) tl := by
  have g1 := S.has (a := L1) (o := oL) (List.mem_append_right _ (.head _))
  obtain ⟨sl, hs⟩ := hu L1 oL g1.1 hd1
  refine ⟨sl, ⟨m, F, hm⟩, fun p hp => ?_, ?_⟩
  · have nd := S.nd
    have oth : ∀ p, p ∈ own ∨ p ∈ tl → p.1 ≠ L1 := fun p hp e => by
      rw [List.append_assoc, List.map_append, List.nodup_append] at nd
      rcases hp with hp | hp
      · exact nd.2.2 p.1 (List.mem_map_of_mem (f := (·.1)) hp) L1 (by simp) e
      · have := nd.2.1
        rw [List.singleton_append, List.map_cons, List.nodup_cons] at this
        exact this.1 (by rw [← e]; exact List.mem_map_of_mem (f := (·.1)) hp)
    rw [List.append_assoc] at hp
    rcases List.mem_append.mp hp with hp | hp
    · have := S.nw p (List.mem_append_left _ (List.mem_append_left _ hp))
      exact ⟨hk _ _ this.1 this.2.1 (oth p (.inl hp)), this.2⟩
    · rw [List.singleton_append] at hp
      rcases List.mem_cons.mp hp with rfl | hp
      · exact ⟨hs, g1.2⟩
      · have := S.nw p (List.mem_append_right _ hp)
        exact ⟨hk _ _ this.1 this.2.1 (oth p (.inr hp)), this.2⟩
  · have := S.nd
    simpa using this
end Mine
end -- L12
section -- L13
open PySem PySem.W PyProof.Rows PySem.Calls
set_option Elab.async false
set_option maxRecDepth 100000
set_option maxHeartbeats 4000000
namespace Mine
structure Fz (B : Heap) (L : Addr) (l : List (Str × Value)) (oL : Obj) : Prop where
  ns : ∃ m, (∀ h : Heap, h.get? L = some oL → h.Ns L m) ∧ ∀ x v, l.lookup x = some v → m x = some v
  above : B.objs.size ≤ L
section
variable {B : Heap} {L C : Addr} {h h' h₁ : Heap} {l lc : List (Str × Value)} {own tl : List (Addr × Obj)} {oL : Obj} {mC : Str → Option Value}
theorem St.fz (S : St B L h l own tl) : ∃ oL, Fz B L l oL ∧ h.get? L = some oL := by
  refine hide fun Kz kz => ?_
  obtain ⟨m, F, hm⟩ := S.fr
  obtain ⟨oL, es, ep, e, r⟩ := F.ns
  refine kz ?_
  clear kz Kz
  exact ⟨oL, ⟨⟨m, fun h' e' => ⟨oL, es, ep, e', r⟩, hm⟩, F.above⟩, e⟩
theorem St.into (S : St B L h l own tl) (hL : h.get? L = some oL) (hk : ∀ b o, h.get? b = some o → h₁.get? b = some o) (hC : h.objs.size ≤ C) (hns : h₁.Ns C mC) : St B C h₁ [] ((L, oL) :: own) tl := by
  refine hide fun Kz kz => ?_
  obtain ⟨m, F, hm⟩ := S.fr
  refine kz ?_
  clear kz Kz
  have nC : ∀ b o, h.get? b = some o → b ≠ C := fun b o e => Nat.ne_of_lt (Nat.lt_of_lt_of_le (Heap.lt_size e) hC)
  refine ⟨⟨mC, ⟨hns, fun b o e => hk _ _ (F.keep b o e), Nat.le_trans F.above (Nat.le_trans (Nat.le_of_lt (Heap.lt_size hL)) hC)⟩, fun _ _ e => by cases e⟩, fun p hp => ?_, ?_⟩
  · rw [List.cons_append] at hp
    rcases List.mem_cons.mp hp with rfl | hp
    · exact ⟨hk _ _ hL, nC _ _ hL, kts_self F⟩
    · have := S.nw p hp
      exact ⟨hk _ _ this.1, nC _ _ this.1, this.2.2⟩
  · rw [List.cons_append, List.map_cons, List.nodup_cons]
    refine ⟨fun hm => ?_, S.nd⟩
    refine hide fun Kz kz => ?_
    obtain ⟨p, hp, e⟩ := List.mem_map.mp hm
    refine kz ?_
    clear kz Kz
    exact (S.nw p hp).2.1 e
theorem St.out (Z : Fz B L l oL) (S : St B C h lc ((L, oL) :: own) tl) : ∃ oC, St B L h l ((C, oC) :: own) tl ∧ ∃ m, ∀ h' : Heap, h'.get? C = some oC → h'.Ns C m := by
  refine hide fun Kz kz => ?_
  obtain ⟨m, F, hm⟩ := S.fr
  obtain ⟨oC, es, ep, e, r⟩ := F.ns
  obtain ⟨⟨mL, hL, hl⟩, ab⟩ := Z
  refine kz ?_
  clear kz Kz
  have nd := S.nd
  rw [List.cons_append, List.map_cons, List.nodup_cons] at nd
  have zL := S.has (.head _)
  refine ⟨oC, ⟨⟨mL, ⟨hL _ zL.1, F.keep, ab⟩, hl⟩, fun p hp => ?_, ?_⟩, m, fun h' e' => ⟨oC, es, ep, e', r⟩⟩
  · rw [List.cons_append] at hp
    rcases List.mem_cons.mp hp with rfl | hp
    · exact ⟨e, Ne.symm zL.2.1, kts_self F⟩
    · have := S.nw p (.tail _ hp)
      exact ⟨this.1, fun q => nd.1 (by rw [← q]; exact List.mem_map_of_mem (f := (·.1)) hp), this.2.2⟩
  · rw [List.cons_append, List.map_cons, List.nodup_cons]
    refine ⟨fun hm => ?_, nd.2⟩
    refine hide fun Kz kz => ?_
    obtain ⟨p, hp, q⟩ := List.mem_map.mp hm
    refine kz ?_
    clear kz Kz
    exact (S.nw p (.tail _ hp)).2.1 q
end
section
variable {prog : Program} {w : World} {A : Around} {E : Value → Shared → Prop} {env : Env} {B : Heap} {L C D : Addr} {h h' : Heap} {g : Array GenState} {d : Drawn} {tk : Nat} {o : OsState} {l lc : List (Str × Value)} {own tl : List (Addr × Obj)} {oL x : Obj} {Q : Value → Shared → Prop} {f : Flow} {scope : Scope} {cl : List (Str × Addr)}
theorem comp_end (Z : Fz B L l oL) (S : St B C h lc ((D, x) :: (L, oL) :: own) tl) (hq : ∀ h', St B L h' l ((D, x) :: own) tl → Q (.ref D) ⟨h', g, d, tk, o⟩) :
    compPost (model prog w) A E none Q (.ref D) C (.ok f) ⟨h, g, d, tk, o⟩ := by
  refine hide fun Kz kz => ?_
  obtain ⟨oC, S', m, hC⟩ := St.out Z (S.perm (own' := (L, oL) :: (D, x) :: own) (.swap ..))
  refine kz ?_
  clear kz Kz
  exact ⟨m, hC _ (S'.get (.head _)), fun h' hs => hq h' (S'.drop hs.extBut)⟩
theorem comp_use {y : Str} {py : Pos} (Z : Fz B L l oL) (S : St B C h lc ((D, x) :: (L, oL) :: own) tl)
    (hq : ∀ oC, St B L h l ((C, oC) :: (D, x) :: own) tl → wpAny (model prog w) A (assign (.Name y py) env (.ref D)) (fun _ s' => ∃ h' tk' l' own' tl', s' = ⟨h', g, d, tk', o⟩ ∧ St B L h' l' ((C, oC) :: own') tl' ∧ ∀ h'', St B L h'' l' own' tl' → Q .none ⟨h'', g, d, tk', o⟩) E ⟨h, g, d, tk, o⟩) :
    compPost (model prog w) A E (some (assign (.Name y py) env)) Q (.ref D) C (.ok f) ⟨h, g, d, tk, o⟩ := by
  refine hide fun Kz kz => ?_
  obtain ⟨oC, S', m, hC⟩ := St.out Z (S.perm (own' := (L, oL) :: (D, x) :: own) (.swap ..))
  refine kz ?_
  clear kz Kz
  refine wpAny_mono (hq oC S') ?_ fun _ _ e => e
  rintro _ _ ⟨h', tk', l', own', tl', rfl, S'', hq'⟩
  exact ⟨m, hC _ (S''.get (.head _)), fun h'' hs => hq' h'' (S''.drop hs.extBut)⟩
theorem comp_in {e : Expr} {it : Value} {use : Option (Value → Sem Unit)} (S : St B L h l own tl) (hcell : ∀ y ∈ scope.names, y.2 ≠ .cell) (hkind : scope.kind = .function)
    (hb : ∀ oL C D h₁ tk₁, Fz B L l oL → St B C h₁ [] ((D, lst [] 0) :: (L, oL) :: own) tl → codeAny (model prog w) A (.compStart e 0 it (.ref D) (compEnvC scope cl C env)) (compPost (model prog w) A E use Q (.ref D) C) ⟨h₁, g, d, tk₁, o⟩) :
    wpAny (model prog w) A (newList []) (fun acc s₃ => wpAny (model prog w) A (newFunctionEnv scope env.globals cl [] env.qual none .none (some env)) (fun cenv s₄ =>
      codeAny (model prog w) A (.compStart e 0 it acc { cenv with scope := relabel scope env }) (compPost (model prog w) A E use Q acc cenv.locals) s₄) E s₃) E ⟨h, g, d, tk, o⟩ := by
  refine wpAny_newObj_type (wpAny_newFunctionEnv hcell (by intro y hy; simp at hy) (fun h₁ hns₁ hsb₁ => ?_) hkind)
  have S1 := S.push (lst [] 0)
  dsimp only at hns₁ hsb₁ ⊢
  have e0 : h.push { cls := .type "list", dict := none, data := .seq ([] : List Value).toArray } = h.push (lst [] 0) := rfl
  rw [e0] at hns₁ hsb₁ ⊢
  refine hide fun Kz kz => ?_
  obtain ⟨oL, Z, hL⟩ := S1.fz
  refine kz ?_
  clear kz Kz
  have hk : ∀ b o, (h.push (lst [] 0)).get? b = some o → h₁.get? b = some o := fun b o e => hsb₁.extBut b o (Nat.ne_of_lt (Heap.lt_size e)) (Heap.get?_push_of_some _ e)
  have S2 := S1.into hL hk (Nat.le_refl _) hns₁
  exact hb oL _ _ h₁ _ Z (S2.perm (.swap ..))
theorem r_comp {elt target iter : Expr} {ifs : List Expr} {rest : List Comprehension} {pos : Pos} (hclos : closureFor scope env = pure cl) (hcell : ∀ y ∈ scope.names, y.2 ≠ .cell) (hkind : scope.kind = .function)
    (hnames : ∀ y ∈ scope.names, y.2 = .local → scope.names.lookup y.1 = some .local) (hs : ∀ x, foldedSetIterable iter env x = pure x)
    (he : ∀ Ki : Value → Shared → Prop, (∀ it h₂ tk₂ l own tl, St B L h₂ l own tl →
      (∀ oL C D h₁ tk₁, Fz B L l oL → St B C h₁ [] ((D, lst [] 0) :: (L, oL) :: own) tl → codeAny (model prog w) A (.compStart (.ListComp elt (⟨target, iter, ifs, 0⟩ :: rest) scope pos) 0 it (.ref D) (compEnvC scope cl C env)) (compPost (model prog w) A E none Q (.ref D) C) ⟨h₁, g, d, tk₁, o⟩) → Ki it ⟨h₂, g, d, tk₂, o⟩) → wpAny (model prog w) A (eval iter env) (fun v s₁ => wpAny (model prog w) A (pyIter v) Ki E s₁) E ⟨h, g, d, tk, o⟩) :
    wpAny (model prog w) A (eval (.ListComp elt (⟨target, iter, ifs, 0⟩ :: rest) scope pos) env) Q E ⟨h, g, d, tk, o⟩ := by
  rw [eval_ListComp]
  refine wpAny_comprehension_free (use := none) rfl hs hclos hkind hnames (wpAny_mono (he (fun it s₂ => ∃ h₂ tk₂ l own tl, s₂ = ⟨h₂, g, d, tk₂, o⟩ ∧ St B L h₂ l own tl ∧
      ∀ oL C D h₁ tk₁, Fz B L l oL → St B C h₁ [] ((D, lst [] 0) :: (L, oL) :: own) tl → codeAny (model prog w) A (.compStart (.ListComp elt (⟨target, iter, ifs, 0⟩ :: rest) scope pos) 0 it (.ref D) (compEnvC scope cl C env)) (compPost (model prog w) A E none Q (.ref D) C) ⟨h₁, g, d, tk₁, o⟩) fun it h₂ tk₂ l own tl a b => ⟨h₂, tk₂, l, own, tl, rfl, a, b⟩) (fun xv s₁ h₁ => wpAny_mono h₁ (fun it s₂ h₂ => ?_) fun _ _ e => e) fun _ _ e => e)
  refine hide fun Kz kz => ?_
  obtain ⟨h₂, tk₂, l, own, tl, rfl, S, hb⟩ := h₂
  refine kz ?_
  clear kz Kz
  exact comp_in S hcell hkind hb
theorem r_compA {elt target iter : Expr} {ifs : List Expr} {rest : List Comprehension} {pos spos py : Pos} {y : Str} {Q : Flow → Shared → Prop} (hsw : swapsWith (.ListComp elt (⟨target, iter, ifs, 0⟩ :: rest) scope pos) (some (.Name y py)) spos.line env = pure true)
    (hclos : closureFor scope env = pure cl) (hcell : ∀ y ∈ scope.names, y.2 ≠ .cell) (hkind : scope.kind = .function)
    (hnames : ∀ y ∈ scope.names, y.2 = .local → scope.names.lookup y.1 = some .local) (hs : ∀ x, foldedSetIterable iter env x = pure x)
    (he : ∀ Ki : Value → Shared → Prop, (∀ it h₂ tk₂ l own tl, St B L h₂ l own tl →
      (∀ oL C D h₁ tk₁, Fz B L l oL → St B C h₁ [] ((D, lst [] 0) :: (L, oL) :: own) tl → codeAny (model prog w) A (.compStart (.ListComp elt (⟨target, iter, ifs, 0⟩ :: rest) scope pos) 0 it (.ref D) (compEnvC scope cl C env)) (compPost (model prog w) A E (some (assign (.Name y py) env)) (fun _ => Q .next) (.ref D) C) ⟨h₁, g, d, tk₁, o⟩) → Ki it ⟨h₂, g, d, tk₂, o⟩) → wpAny (model prog w) A (eval iter env) (fun v s₁ => wpAny (model prog w) A (pyIter v) Ki E s₁) E ⟨h, g, d, tk, o⟩) :
    wpAny (model prog w) A (exec (.Assign [.Name y py] (.ListComp elt (⟨target, iter, ifs, 0⟩ :: rest) scope pos) spos) env) Q E ⟨h, g, d, tk, o⟩ := by
  rw [exec_Assign_Name_used _ _ _ _ hsw]
  refine wpAny_bind (wpAny_standAt (wpAny_bind ?_))
  show wpAny _ A (do let _ ← comprehension (.ListComp elt (⟨target, iter, ifs, 0⟩ :: rest) scope pos) scope env _ (newList []) false (eval iter env) (some (assign (.Name y py) env))) _ _ _
  refine wpAny_bind (wpAny_mono (wpAny_comprehension_free (use := some (assign (.Name y py) env)) (Q := fun _ s' => Q .next s') rfl hs hclos hkind hnames
    (wpAny_mono (he (fun it s₂ => ∃ h₂ tk₂ l own tl, s₂ = ⟨h₂, g, d, tk₂, o⟩ ∧ St B L h₂ l own tl ∧
      ∀ oL C D h₁ tk₁, Fz B L l oL → St B C h₁ [] ((D, lst [] 0) :: (L, oL) :: own) tl → codeAny (model prog w) A (.compStart (.ListComp elt (⟨target, iter, ifs, 0⟩ :: rest) scope pos) 0 it (.ref D) (compEnvC scope cl C env)) (compPost (model prog w) A E (some (assign (.Name y py) env)) (fun _ => Q .next) (.ref D) C) ⟨h₁, g, d, tk₁, o⟩) fun it h₂ tk₂ l own tl a b => ⟨h₂, tk₂, l, own, tl, rfl, a, b⟩) (fun xv s₁ h₁ => wpAny_mono h₁ (fun it s₂ h₂ => ?_) fun _ _ e => e) fun _ _ e => e)) (fun _ s' hq => wpAny_pure (wpAny_pure hq)) fun _ _ e => e)
  refine hide fun Kz kz => ?_
  obtain ⟨h₂, tk₂, l, own, tl, rfl, S, hb⟩ := h₂
  refine kz ?_
  clear kz Kz
  exact comp_in S hcell hkind hb
end
end Mine
end -- L13
section -- L14
open PySem PySem.W PyProof.Rows PySem.Calls
set_option Elab.async false
set_option maxRecDepth 100000
set_option maxHeartbeats 4000000
namespace Mine
theorem compTurn_two0 (elt t0 i0 t1 i1 : Expr) (ifs0 ifs1 : List Expr) (scope : Scope) (pos : Pos) (it acc : Value) (env : Env) :
    compTurn (.ListComp elt [⟨t0, i0, ifs0, 0⟩, ⟨t1, i1, ifs1, 0⟩] scope pos) 0 it acc env = (do
      standAt i0.pos
      match ← pyNext it with
      | none => pure (.done .next)
      | some v =>
        letOwnedTupleGo t0 it v
        assign t0 env v
        let mut ok := true
        for c in ifs0 do
          if ok then ok ← isTrue c env (eval c env)
        if ok then
          let x ← eval i1 env
          standAt i1.pos
          let x ← foldedSetIterable i1 env x
          let it' ← holding [x] (pyIter x)
          let _ ← runOwn (.compStart (.ListComp elt [⟨t0, i0, ifs0, 0⟩, ⟨t1, i1, ifs1, 0⟩] scope pos) 1 it' acc env) env
          again (.compLoop (.ListComp elt [⟨t0, i0, ifs0, 0⟩, ⟨t1, i1, ifs1, 0⟩] scope pos) 0 it acc env)
        else again (.compLoop (.ListComp elt [⟨t0, i0, ifs0, 0⟩, ⟨t1, i1, ifs1, 0⟩] scope pos) 0 it acc env)) := by rfl
theorem compTurn_two1 (elt t0 i0 t1 i1 : Expr) (ifs0 ifs1 : List Expr) (scope : Scope) (pos : Pos) (it acc : Value) (env : Env) :
    compTurn (.ListComp elt [⟨t0, i0, ifs0, 0⟩, ⟨t1, i1, ifs1, 0⟩] scope pos) 1 it acc env = (do
      standAt i1.pos
      match ← pyNext it with
      | none => pure (.done .next)
      | some v =>
        letOwnedTupleGo t1 it v
        assign t1 env v
        let mut ok := true
        for c in ifs1 do
          if ok then ok ← isTrue c env (eval c env)
        if ok then
          (do let _ ← call (.builtin "list.append") [acc, ← eval elt env])
        again (.compLoop (.ListComp elt [⟨t0, i0, ifs0, 0⟩, ⟨t1, i1, ifs1, 0⟩] scope pos) 1 it acc env)) := by rfl
section
variable {prog : Program} {w : World} {A : Around} {E : Value → Shared → Prop} {R : Result → Shared → Prop} {env : Env} {B : Heap} {C D I : Addr} {h : Heap} {g : Array GenState} {d : Drawn} {tk : Nat} {o : OsState} {oI : Obj} {scope : Scope} {pos : Pos}
  {σ : Type} {n : Nat} {LF : Heap → Prop} {val : Nat → Value → Prop} {It : Nat → Obj → Prop}
def tests (ifs : List Expr) (env : Env) : Sem Bool := forIn ifs true fun c r => if r = true then do let ok ← isTrue c env (eval c env); pure (ForInStep.yield ok) else pure (ForInStep.yield r)
theorem tests_nil {s : Shared} {Q : Bool → Shared → Prop} (h : Q true s) : wpAny (model prog w) A (tests [] env) Q E s := wpAny_pure h
theorem tests_one {c : Expr} {s : Shared} {Q : Bool → Shared → Prop} (h : wpAny (model prog w) A (isTrue c env (eval c env)) Q E s) : wpAny (model prog w) A (tests [c] env) Q E s := wpAny_tests_one h
theorem r_cloop {elt target iter : Expr} {ifs : List Expr} (lf : σ → List (Str × Value)) (of tf : σ → List (Addr × Obj)) (P : Nat → σ → Prop) (x₀ : σ)
    (ht : ∀ it v, letOwnedTupleGo target it v = pure ()) (hl : ∀ i y h oI, P i y → St B C h (lf y) ((I, oI) :: of y) (tf y) → LF h)
    (hP : P 0 x₀) (W : Itr prog w A I n LF val It) (hI : It 0 oI) (S : St B C h (lf x₀) ((I, oI) :: of x₀) (tf x₀))
    (hself : ∀ (Q : Value → Shared → Prop) (E : Value → Shared → Prop), Q (.ref I) ⟨h, g, d, tk, o⟩ → wpAny (model prog w) A (pyIter (.ref I)) Q E ⟨h, g, d, tk, o⟩)
    (step : ∀ i y h tk v oI, P i y → i < n → val i v → It (i + 1) oI → St B C h (lf y) ((I, oI) :: of y) (tf y) → ∀ (Kp : Shared → Prop), (∀ y' h' tk', P (i + 1) y' → St B C h' (lf y') ((I, oI) :: of y') (tf y') → Kp ⟨h', g, d, tk', o⟩) →
      wpAny (model prog w) A (assign target env v) (fun _ s₂ => wpAny (model prog w) A (tests ifs env) (fun ok s₃ =>
        if ok = true then wpAny (model prog w) A (eval elt env) (fun x s₄ => wpAny (model prog w) A (call (.builtin "list.append") [.ref D, x]) (fun _ s₅ => Kp s₅) (fun _ _ => False) s₄) (fun _ _ => False) s₃
        else Kp s₃) (fun _ _ => False) s₂) (fun _ _ => False) ⟨h, g, d, tk, o⟩)
    (done : ∀ y h tk, P n y → St B C h (lf y) (of y) (tf y) → R (.ok .next) ⟨h, g, d, tk, o⟩) :
    codeAny (model prog w) A (.compStart (.ListComp elt [⟨target, iter, ifs, 0⟩] scope pos) 0 (.ref I) (.ref D) env) R ⟨h, g, d, tk, o⟩ := by
  have loop : codeAny (model prog w) A (.compLoop (.ListComp elt [⟨target, iter, ifs, 0⟩] scope pos) 0 (.ref I) (.ref D) env) R ⟨h, g, d, tk, o⟩ := by
    refine codeAny_compLoop_tests (LInv B C g d o n lf of tf P It I) ?_ (n + 1)
      (.mk 0 x₀ _ _ oI (Nat.zero_le _) hP hI S) (ht _)
    rintro k s ⟨i, y, h', tk', oI, hi, hp, hIt, Sy⟩
    have hla := hl i y h' _ hp Sy
    by_cases hlt : i < n
    · refine W.item i h' oI _ _ _ _ _ _ hlt hIt (Sy.get (.head _)) hla fun v h₂ oI' tk₂ hv hIt' hI' hs₂ => ?_
      refine wpAny_mono (step i y h₂ tk₂ v oI' hp hlt hv hIt' (Sy.upd hs₂ hI') (LInv B C g d o n lf of tf P It I (n + 1 - (i + 1))) (fun y' h' tk' a b => .mk (i + 1) y' h' tk' oI' hlt a hIt' b)) (fun _ s₂ h₂ => wpAny_mono h₂ (fun ok s₃ h₃ => ?_) fun _ _ e => e.elim) fun _ _ e => e.elim
      have nx : ∀ s₅, LInv B C g d o n lf of tf P It I (n + 1 - (i + 1)) s₅ → ∃ m, m < n + 1 - i ∧ LInv B C g d o n lf of tf P It I m s₅ := fun s₅ z => ⟨_, by omega, z⟩
      cases ok with
      | true => exact wpAny_mono h₃ (fun x s₄ h₄ => wpAny_mono h₄ (fun _ s₅ h₅ => nx s₅ h₅) fun _ _ e => e.elim) fun _ _ e => e.elim
      | false => exact nx _ h₃
    · have hin : i = n := by omega
      subst hin
      refine W.done h' oI _ _ _ _ _ _ hIt (Sy.get (.head _)) hla fun h₂ tk₂ he₂ => ?_
      exact done y h₂ _ hp (Sy.drop he₂)
  exact codeAny_compStart_list loop (hself _ _ loop)

theorem compStart_one {elt t0 i0 t1 i1 : Expr} {ifs0 ifs1 : List Expr} {it acc : Value} {s : Shared}
    (h0 : codeAny (model prog w) A (.compLoop (.ListComp elt [⟨t0, i0, ifs0, 0⟩, ⟨t1, i1, ifs1, 0⟩] scope pos) 1 it acc env) R s)
    (h : wpAny (model prog w) A (pyIter it) (fun it' s' => codeAny (model prog w) A (.compLoop (.ListComp elt [⟨t0, i0, ifs0, 0⟩, ⟨t1, i1, ifs1, 0⟩] scope pos) 1 it' acc env) R s')
      (notedBy (model prog w) A env fun x s' => R (.error x) s') s) :
    codeAny (model prog w) A (.compStart (.ListComp elt [⟨t0, i0, ifs0, 0⟩, ⟨t1, i1, ifs1, 0⟩] scope pos) 1 it acc env) R s := by
  refine codeAny_of_tree ?_
  show wpAny _ _ ((compStart (.ListComp elt [⟨t0, i0, ifs0, 0⟩, ⟨t1, i1, ifs1, 0⟩] scope pos) 1 it acc env).onRaise (fun x => do noteFrame x env; standAt theWindowsPlace)) _ _ s
  refine wpAny_notedAt ?_
  unfold compStart
  show wpAny _ _ (ask >>= _) _ _ s
  refine wpAny_bind (wpAny_askSetting (wpAny_ite ?_))
  split
  · first
      | exact wpAny_bind (wpAny_pure (wpAny_pure (And.intro rfl h0)))
      | exact wpAny_pure (And.intro rfl h0)
  · first
      | exact wpAny_bind (wpAny_rule (wpAny_bind (wpAny_standAt (wpAny_bind (wpAny_mono h (fun it' s' h' => wpAny_pure (And.intro rfl h')) fun _ _ x => x)))))
      | (refine wpAny_bind (wpAny_rule ?_); show wpAny _ _ (standAt i1.pos >>= _) _ _ s; exact wpAny_bind (wpAny_standAt (wpAny_bind (wpAny_mono h (fun it' s' h' => wpAny_pure (And.intro rfl h')) fun _ _ x => x))))

theorem r_cin {elt t0 i0 t1 i1 : Expr} {ifs0 ifs1 : List Expr} (lf : σ → List (Str × Value)) (of tf : σ → List (Addr × Obj)) (P : Nat → σ → Prop) (x₀ : σ)
    (ht : ∀ it v, letOwnedTupleGo t1 it v = pure ()) (hl : ∀ i y h oI, P i y → St B C h (lf y) ((I, oI) :: of y) (tf y) → LF h)
    (hP : P 0 x₀) (W : Itr prog w A I n LF val It) (hI : It 0 oI) (S : St B C h (lf x₀) ((I, oI) :: of x₀) (tf x₀))
    (hself : ∀ (Q : Value → Shared → Prop) (E : Value → Shared → Prop), Q (.ref I) ⟨h, g, d, tk, o⟩ → wpAny (model prog w) A (pyIter (.ref I)) Q E ⟨h, g, d, tk, o⟩)
    (step : ∀ i y h tk v oI, P i y → i < n → val i v → It (i + 1) oI → St B C h (lf y) ((I, oI) :: of y) (tf y) → ∀ (Kp : Shared → Prop), (∀ y' h' tk', P (i + 1) y' → St B C h' (lf y') ((I, oI) :: of y') (tf y') → Kp ⟨h', g, d, tk', o⟩) →
      wpAny (model prog w) A (assign t1 env v) (fun _ s₂ => wpAny (model prog w) A (tests ifs1 env) (fun ok s₃ =>
        if ok = true then wpAny (model prog w) A (eval elt env) (fun x s₄ => wpAny (model prog w) A (call (.builtin "list.append") [.ref D, x]) (fun _ s₅ => Kp s₅) (fun _ _ => False) s₄) (fun _ _ => False) s₃
        else Kp s₃) (fun _ _ => False) s₂) (fun _ _ => False) ⟨h, g, d, tk, o⟩)
    (done : ∀ y h tk, P n y → St B C h (lf y) (of y) (tf y) → R (.ok .next) ⟨h, g, d, tk, o⟩) :
    codeAny (model prog w) A (.compStart (.ListComp elt [⟨t0, i0, ifs0, 0⟩, ⟨t1, i1, ifs1, 0⟩] scope pos) 1 (.ref I) (.ref D) env) R ⟨h, g, d, tk, o⟩ := by
  have loop : codeAny (model prog w) A (.compLoop (.ListComp elt [⟨t0, i0, ifs0, 0⟩, ⟨t1, i1, ifs1, 0⟩] scope pos) 1 (.ref I) (.ref D) env) R ⟨h, g, d, tk, o⟩ := by
    refine codeAny_loop rfl (LInv B C g d o n lf of tf P It I) ?_ (n + 1)
      (.mk 0 x₀ _ _ oI (Nat.zero_le _) hP hI S)
    rintro k s ⟨i, y, h', tk', oI, hi, hp, hIt, Sy⟩
    show wpAny _ A ((compTurn (.ListComp elt [⟨t0, i0, ifs0, 0⟩, ⟨t1, i1, ifs1, 0⟩] scope pos) 1 (.ref I) (.ref D) env).onRaise (fun x => do noteFrame x env; theTreesLotGoes x)) _ _ _
    refine wpAny_noted ?_
    rw [compTurn_two1]
    refine wpAny_bind (wpAny_standAt (wpAny_bind ?_))
    have hla := hl i y h' _ hp Sy
    by_cases hlt : i < n
    · refine W.item i h' oI _ _ _ _ _ _ hlt hIt (Sy.get (.head _)) hla fun v h₂ oI' tk₂ hv hIt' hI' hs₂ => ?_
      refine wpAny_bind (wpAny_of_eq (ht _ v) ?_)
      have nx : ∀ s₅, LInv B C g d o n lf of tf P It I (n + 1 - (i + 1)) s₅ → ∃ m, m < n + 1 - i ∧ LInv B C g d o n lf of tf P It I m s₅ := fun s₅ z => ⟨_, by omega, z⟩
      refine wpAny_bind (wpAny_mono (step i y h₂ tk₂ v oI' hp hlt hv hIt' (Sy.upd hs₂ hI') (LInv B C g d o n lf of tf P It I (n + 1 - (i + 1))) (fun y' h' tk' a b => .mk (i + 1) y' h' tk' oI' hlt a hIt' b)) (fun _ s₂ h₂ => wpAny_bind (wpAny_mono h₂ (fun ok s₃ h₃ => ?_) fun _ _ e => e.elim)) fun _ _ e => e.elim)
      cases ok with
      | true => exact wpAny_bind (wpAny_bind (wpAny_mono h₃ (fun x s₄ h₄ => wpAny_bind (wpAny_mono h₄ (fun _ s₅ h₅ => wpAny_pure (wpAny_pure ⟨rfl, nx s₅ h₅⟩)) fun _ _ e => e.elim)) fun _ _ e => e.elim))
      | false => exact wpAny_pure ⟨rfl, nx _ h₃⟩
    · have hin : i = n := by omega
      subst hin
      refine W.done h' oI _ _ _ _ _ _ hIt (Sy.get (.head _)) hla fun h₂ tk₂ he₂ => wpAny_pure ?_
      exact done y h₂ _ hp (Sy.drop he₂)
  exact compStart_one loop (hself _ _ loop)
theorem r_cout {elt t0 i0 t1 i1 : Expr} {ifs0 ifs1 : List Expr} (lf : σ → List (Str × Value)) (of tf : σ → List (Addr × Obj)) (P : Nat → σ → Prop) (x₀ : σ)
    (ht : ∀ it v, letOwnedTupleGo t0 it v = pure ()) (hs1 : ∀ x, foldedSetIterable i1 env x = pure x) (hl : ∀ i y h oI, P i y → St B C h (lf y) ((I, oI) :: of y) (tf y) → LF h)
    (hP : P 0 x₀) (W : Itr prog w A I n LF val It) (hI : It 0 oI) (S : St B C h (lf x₀) ((I, oI) :: of x₀) (tf x₀))
    (hself : ∀ (Q : Value → Shared → Prop) (E : Value → Shared → Prop), Q (.ref I) ⟨h, g, d, tk, o⟩ → wpAny (model prog w) A (pyIter (.ref I)) Q E ⟨h, g, d, tk, o⟩)
    (step : ∀ i y h tk v oI, P i y → i < n → val i v → It (i + 1) oI → St B C h (lf y) ((I, oI) :: of y) (tf y) → ∀ (Kp : Shared → Prop), (∀ y' h' tk', P (i + 1) y' → St B C h' (lf y') ((I, oI) :: of y') (tf y') → Kp ⟨h', g, d, tk', o⟩) →
      wpAny (model prog w) A (assign t0 env v) (fun _ s₂ => wpAny (model prog w) A (tests ifs0 env) (fun ok s₃ =>
        if ok = true then wpAny (model prog w) A (eval i1 env) (fun x s₄ => wpAny (model prog w) A (pyIter x) (fun it' s₅ =>
          codeAny (model prog w) (A.mark none) (.compStart (.ListComp elt [⟨t0, i0, ifs0, 0⟩, ⟨t1, i1, ifs1, 0⟩] scope pos) 1 it' (.ref D) env) (fun r s₆ => ∃ f, r = .ok f ∧ Kp s₆) s₅) (fun _ _ => False) s₄) (fun _ _ => False) s₃
        else Kp s₃) (fun _ _ => False) s₂) (fun _ _ => False) ⟨h, g, d, tk, o⟩)
    (done : ∀ y h tk, P n y → St B C h (lf y) (of y) (tf y) → R (.ok .next) ⟨h, g, d, tk, o⟩) :
    codeAny (model prog w) A (.compStart (.ListComp elt [⟨t0, i0, ifs0, 0⟩, ⟨t1, i1, ifs1, 0⟩] scope pos) 0 (.ref I) (.ref D) env) R ⟨h, g, d, tk, o⟩ := by
  have loop : codeAny (model prog w) A (.compLoop (.ListComp elt [⟨t0, i0, ifs0, 0⟩, ⟨t1, i1, ifs1, 0⟩] scope pos) 0 (.ref I) (.ref D) env) R ⟨h, g, d, tk, o⟩ := by
    refine codeAny_loop rfl (LInv B C g d o n lf of tf P It I) ?_ (n + 1)
      (.mk 0 x₀ _ _ oI (Nat.zero_le _) hP hI S)
    rintro k s ⟨i, y, h', tk', oI, hi, hp, hIt, Sy⟩
    show wpAny _ A ((compTurn (.ListComp elt [⟨t0, i0, ifs0, 0⟩, ⟨t1, i1, ifs1, 0⟩] scope pos) 0 (.ref I) (.ref D) env).onRaise (fun x => do noteFrame x env; theTreesLotGoes x)) _ _ _
    refine wpAny_noted ?_
    rw [compTurn_two0]
    refine wpAny_bind (wpAny_standAt (wpAny_bind ?_))
    have hla := hl i y h' _ hp Sy
    by_cases hlt : i < n
    · refine W.item i h' oI _ _ _ _ _ _ hlt hIt (Sy.get (.head _)) hla fun v h₂ oI' tk₂ hv hIt' hI' hs₂ => ?_
      refine wpAny_bind (wpAny_of_eq (ht _ v) ?_)
      have nx : ∀ s₅, LInv B C g d o n lf of tf P It I (n + 1 - (i + 1)) s₅ → ∃ m, m < n + 1 - i ∧ LInv B C g d o n lf of tf P It I m s₅ := fun s₅ z => ⟨_, by omega, z⟩
      refine wpAny_bind (wpAny_mono (step i y h₂ tk₂ v oI' hp hlt hv hIt' (Sy.upd hs₂ hI') (LInv B C g d o n lf of tf P It I (n + 1 - (i + 1))) (fun y' h' tk' a b => .mk (i + 1) y' h' tk' oI' hlt a hIt' b)) (fun _ s₂ h₂ => wpAny_bind (wpAny_mono h₂ (fun ok s₃ h₃ => ?_) fun _ _ e => e.elim)) fun _ _ e => e.elim)
      cases ok with
      | true =>
        refine wpAny_bind (wpAny_mono h₃ (fun x s₄ h₄ => wpAny_bind (wpAny_standAt (wpAny_bind (wpAny_of_eq (hs1 x) (wpAny_bind (wpAny_holding (wpAny_mono h₄ (fun it' s₅ h₅ => wpAny_bind (wpAny_runOwn (codeAny_mono h₅ fun r s₆ h₆ => ?_))) fun _ _ e => e.elim))))))) fun _ _ e => e.elim)
        refine hide fun Kz kz => ?_
        obtain ⟨f, rfl, h₆⟩ := h₆
        refine kz ?_
        clear kz Kz
        exact wpAny_pure ⟨rfl, nx _ h₆⟩
      | false => exact wpAny_pure ⟨rfl, nx _ h₃⟩
    · have hin : i = n := by omega
      subst hin
      refine W.done h' oI _ _ _ _ _ _ hIt (Sy.get (.head _)) hla fun h₂ tk₂ he₂ => wpAny_pure ?_
      exact done y h₂ _ hp (Sy.drop he₂)
  exact codeAny_compStart_list loop (hself _ _ loop)
end
end Mine
end -- L14
section -- L17
open PySem PySem.W PyProof.Rows PySem.Calls
set_option Elab.async false
set_option maxRecDepth 100000
set_option maxHeartbeats 4000000
set_option linter.unusedVariables false
namespace Mine
abbrev rgO (a b : Int) (t u v : Tok) : Obj := { cls := .type "range", data := .fields #[.int a t, .int b u, .int 1 v] }
abbrev itL (l : Addr) (i : Int) : Obj := { cls := .type "list_iterator", data := .fields #[.ref l, .int i 0] }
theorem ints_of : ∀ {vs : List Value} {ns : List Int}, vs.length = ns.length → (∀ (i : Nat) (v : Value), vs[i]? = some v → ∃ t, v = .int (ns.getD i 0) t) → IntsAre vs ns
  | [], [], _, _ => .nil
  | v :: vs, n :: ns, e, H => by
    obtain ⟨t, rfl⟩ := H 0 v rfl
    exact .cons _ _ (ints_of (by simpa using e) fun i v hv => H (i + 1) v hv)
  | [], n :: ns, e, _ => by simp at e
  | v :: vs, [], e, _ => by simp at e
section
variable {prog : Program} {w : World} {M : Model} {A : Around} {E : Value → Shared → Prop} {env : Env} {B : Heap} {L : Addr} {h h' : Heap} {g : Array GenState} {d : Drawn} {tk : Nat} {o : OsState} {l : List (Str × Value)} {own own' tl : List (Addr × Obj)} {Q : Value → Shared → Prop} {s : Shared}
theorem r_ldo {x : Str} {pos : Pos} {c : Addr} {ob : Obj} {v : Value} (S : St B L h l own tl) (hk : env.scope.kind = .function) (hl : env.kindOf x = some .free) (hc : env.cells.lookup x = some c) (hm : (c, ob) ∈ own) (hv : ob.data = .cell (some v)) (hd : (x == ("__debug__" : Str)) = false) (hn : (x == ("__classdict__" : Str)) = false)
    (hq : Q v ⟨h, g, d, tk, o⟩) : wpAny M A (eval (.Name x pos) env) Q E ⟨h, g, d, tk, o⟩ := wpAny_Name (wpAny_loadName_free hk hl hc ⟨ob, S.get hm, hv⟩ hq hn) hd
theorem r_range1 {n : Int} {t : Tok} (S : St B L h l own tl) (hq : ∀ r h' t0 t1 tk', St B L h' l ((r, rgO 0 n t0 t t1) :: own) tl → Q (.ref r) ⟨h', g, d, tk', o⟩) :
    wpAny (model prog w) A (call (.type "range") [.int n t]) Q E ⟨h, g, d, tk, o⟩ := call_range_1 (hq _ _ _ _ _ (S.push (rgO 0 n tk t (tk + 1))))
theorem r_range2 {a b : Int} {t u : Tok} (S : St B L h l own tl) (hq : ∀ r h' t1 tk', St B L h' l ((r, rgO a b t u t1) :: own) tl → Q (.ref r) ⟨h', g, d, tk', o⟩) :
    wpAny (model prog w) A (call (.type "range") [.int a t, .int b u]) Q E ⟨h, g, d, tk, o⟩ := call_range_2 (hq _ _ _ _ (S.push (rgO a b t u tk)))
theorem range_size {a b : Int} {n : Nat} (hn : b = a + n) : Builtin.Range.rangeSize a b 1 = n := by
  rw [rangeSize_one]
  split <;> omega
theorem r_iterRange {r : Addr} {a b : Int} {t u v : Tok} {n : Nat} (S : St B L h l own tl) (hm : (r, rgO a b t u v) ∈ own) (hn : b = a + n) (ha : -(2 ^ 62) ≤ a) (ha' : b < 2 ^ 62)
    (hq : ∀ I h', St B L h' l ((I, itRg a n) :: own) tl → Q (.ref I) ⟨h', g, d, tk, o⟩) : wpAny (model prog w) A (pyIter (.ref r)) Q E ⟨h, g, d, tk, o⟩ := by
  refine wpAny_pyIter_range (S.get hm) (small_one ha (by omega) (by omega) ha') ?_
  rw [range_size hn]
  exact hq _ _ (S.push (itRg a n))
theorem r_selfRange {I : Addr} {x left step : Int} (hI : IsRangeIter s.heap I x left step) (hq : Q (.ref I) s) : wpAny (model prog w) A (pyIter (.ref I)) Q E s := wpAny_pyIter_rangeiter hI hq
theorem r_iterL {r : Addr} {vs : Array Value} (S : St B L h l own tl) (hl : h.IsList r vs)
    (hq : ∀ I h', St B L h' l ((I, itL r 0) :: own) tl → Q (.ref I) ⟨h', g, d, tk, o⟩) : wpAny (model prog w) A (pyIter (.ref r)) Q E ⟨h, g, d, tk, o⟩ :=
  wpAny_pyIter_list hl (hq _ _ (S.push (itL r 0)))
theorem r_selfL {I r : Addr} {i : Nat} (hI : s.heap.get? I = some (itL r i)) (hq : Q (.ref I) s) : wpAny (model prog w) A (pyIter (.ref I)) Q E s :=
  wpAny_pyIter_listiter (l := r) (i := i) ⟨_, hI, rfl, rfl⟩ hq
theorem r_listRange {r : Addr} {a b : Int} {t u v : Tok} {n : Nat} (hh : A.handled = none) (S : St B L h l own tl) (hm : (r, rgO a b t u v) ∈ own) (hn : b = a + n) (ha : -(2 ^ 62) ≤ a) (ha' : b < 2 ^ 62) (hz : n ≤ 2 ^ 24)
    (hq : ∀ D vs e h' tk', St B L h' l ((D, lst vs e) :: own) tl → IntsAre vs ((List.range n).map fun i => a + (i : Nat)) → Q (.ref D) ⟨h', g, d, tk', o⟩) : wpAny (model prog w) A (call (.type "list") [.ref r]) Q E ⟨h, g, d, tk, o⟩ := by
  refine call_list_range hh (S.get hm) (small_one ha (by omega) (by omega) ha') (range_size hn) hz fun h' tk' acc c hk hD hI => ?_
  refine hq _ acc.toList c h' tk' (S.adopt hk (none_size h) hD) (ints_of (by simp [hI.1]) fun i v hv => ?_)
  rw [Array.getElem?_toList] at hv
  obtain ⟨t, rfl⟩ := hI.2 i v hv
  have hi : i < n := by
    have := (Array.getElem?_eq_some_iff.mp hv).1
    rw [hI.1] at this
    exact this
  exact ⟨t, by simp [hi]⟩
theorem r_eqL {a b : Addr} {xs ys : List Value} {ns ms : List Int} (ha : h.IsList a xs.toArray) (hb : h.IsList b ys.toArray) (hi : IntsAre xs ns) (hj : IntsAre ys ms) (hu : A.units + 64 < cLine) (hq : Q (.bool (decide (ns = ms))) ⟨h, g, d, tk, o⟩) :
    wpAny (model prog w) A (compareOp .Eq (.ref a) (.ref b)) Q E ⟨h, g, d, tk, o⟩ := ke_eq_ints ha hb hi hj hu hq
end
end Mine
end -- L17
section -- PA
open PySem
set_option Elab.async false
namespace Mine
theorem two_pos (n : Nat) : (0 : Int) < 2 ^ n := Int.pow_pos (by decide)
theorem toNat_two (n : Nat) : ((2 : Int) ^ n).toNat = 2 ^ n := by
  rw [show ((2 : Int) ^ n) = ((2 ^ n : Nat) : Int) by push_cast; rfl]; rfl
theorem cast_two (n : Nat) : ((2 : Int) ^ n) = ((2 ^ n : Nat) : Int) := by push_cast; rfl
theorem two_mono {m n : Nat} (h : m ≤ n) : (2 : Int) ^ m ≤ 2 ^ n := by
  rw [cast_two, cast_two]; exact Int.ofNat_le.mpr (Nat.pow_le_pow_right (by decide) h)
theorem bitAnd_nat (a b : Nat) : Builtin.bitAnd a b = ((a &&& b : Nat) : Int) := by
  unfold Builtin.bitAnd
  simp
theorem bitNot_eq (x : Int) : Builtin.bitNot x = -x - 1 := rfl
theorem bitOr_nat (a b : Nat) : Builtin.bitOr a b = ((a ||| b : Nat) : Int) := by
  unfold Builtin.bitOr
  have h1 : Builtin.bitNot (Builtin.bitNot (a : Int)) = a := by simp only [bitNot_eq]; omega
  have h2 : Builtin.bitNot (Builtin.bitNot (b : Int)) = b := by simp only [bitNot_eq]; omega
  have h3 : ¬ (0 ≤ Builtin.bitNot (a : Int)) := by simp only [bitNot_eq]; omega
  have h4 : ¬ (0 ≤ Builtin.bitNot (b : Int)) := by simp only [bitNot_eq]; omega
  rw [Builtin.bitAnd, decide_eq_false h3, decide_eq_false h4]
  simp only [h1, h2]
  simp only [bitNot_eq, Int.toNat_natCast]
  omega
theorem bitAnd_mask {x : Int} (n : Nat) (hx : 0 ≤ x) : Builtin.bitAnd x (2 ^ n - 1) = x % 2 ^ n := by
  obtain ⟨a, rfl⟩ := Int.eq_ofNat_of_zero_le hx
  have h1 : ((2 : Int) ^ n - 1) = ((2 ^ n - 1 : Nat) : Int) := by
    have := Nat.two_pow_pos n
    rw [cast_two]; omega
  rw [h1, bitAnd_nat, Nat.and_two_pow_sub_one_eq_mod, cast_two]
  exact Int.natCast_emod a (2 ^ n)
theorem bitOr_shift {r a : Int} (n : Nat) (hr : 0 ≤ r) (ha : 0 ≤ a) (hlt : a < 2 ^ n) : Builtin.bitOr (r * 2 ^ n) a = r * 2 ^ n + a := by
  obtain ⟨r', rfl⟩ := Int.eq_ofNat_of_zero_le hr
  obtain ⟨a', rfl⟩ := Int.eq_ofNat_of_zero_le ha
  rw [cast_two] at hlt ⊢
  have hlt' : a' < 2 ^ n := by omega
  rw [show ((r' : Int) * ((2 ^ n : Nat) : Int)) = ((r' * 2 ^ n : Nat) : Int) by push_cast; rfl, bitOr_nat]
  rw [← Nat.shiftLeft_eq, ← Nat.shiftLeft_add_eq_or_of_lt hlt' r']
  push_cast; rfl
theorem bitXor_low {x : Int} (n : Nat) (hx : 0 ≤ x) : Builtin.bitXor x (x / 2 ^ n * 2 ^ n) = x % 2 ^ n := by
  rw [PyProof.Rows.bitXor_and]
  obtain ⟨a, rfl⟩ := Int.eq_ofNat_of_zero_le hx
  rw [cast_two]
  have e1 : ((a : Int) / ((2 ^ n : Nat) : Int) * ((2 ^ n : Nat) : Int)) = ((a / 2 ^ n * 2 ^ n : Nat) : Int) := by push_cast; rfl
  have e2 : a &&& (a / 2 ^ n * 2 ^ n) = a / 2 ^ n * 2 ^ n := by
    apply Nat.eq_of_testBit_eq
    intro i
    rw [Nat.testBit_and, Nat.testBit_mul_two_pow, Nat.testBit_div_two_pow]
    by_cases h : n ≤ i
    · simp [h]
    · simp [h]
  rw [e1, bitAnd_nat, e2]
  have := Int.emod_add_mul_ediv (a : Int) ((2 ^ n : Nat) : Int)
  have e3 : ((a / 2 ^ n * 2 ^ n : Nat) : Int) = ((2 ^ n : Nat) : Int) * ((a : Int) / ((2 ^ n : Nat) : Int)) := by
    push_cast; rw [Int.mul_comm]
  omega
open Builtin.Int in
theorem bits_le {x : Int} {n : Nat} (h0 : 0 ≤ x) (h : x < 2 ^ n) : intBits x ≤ n := by
  refine intBits_le_iff.mpr ?_
  rw [cast_two] at h
  omega
open Builtin.Int in
theorem bits_lt {x : Int} (h0 : 0 ≤ x) : x < 2 ^ (intBits x) := by
  have := (intBits_le_iff (x := x)).mp (Nat.le_refl _)
  rw [cast_two]; omega
open Builtin.Int in
theorem bits_ge {x : Int} (h0 : 0 < x) : 0 < intBits x ∧ 2 ^ (intBits x - 1) ≤ x := by
  have hp : 0 < intBits x := by
    unfold intBits
    rw [if_neg (by simp; omega)]; omega
  refine ⟨hp, ?_⟩
  have h1 : ¬ intBits x ≤ intBits x - 1 := by omega
  rw [intBits_le_iff] at h1
  rw [cast_two]; omega
end Mine
end -- PA
section -- PB
open PySem
set_option Elab.async false
namespace Mine
open Builtin.Int in
theorem shl_ok {x n : Int} (m : Nat) (h0 : 0 ≤ x) (h : x < 2 ^ m) (hn : (m : Int) + n ≤ 2 ^ 27) : (intBits x : Int) + n ≤ 2 ^ 27 := by
  have := bits_le h0 h
  omega
open Builtin.Int in
theorem mul_ok {a b : Int} (m k : Nat) (ha : a.natAbs < 2 ^ m) (hb : b.natAbs < 2 ^ k) (hk : m + k ≤ 2 ^ 27) : IntMulOk a b := by
  have h1 := (intBits_le_iff (x := a)).mpr ha
  have h2 := (intBits_le_iff (x := b)).mpr hb
  unfold IntMulOk intTooBig bitsLine
  intro hc
  simp only [Bool.and_eq_true, decide_eq_true_eq] at hc
  omega
theorem mul_ok' {a b : Int} (m k : Nat) (ha0 : 0 ≤ a) (ha : a < 2 ^ m) (hb0 : 0 ≤ b) (hb : b < 2 ^ k) (hk : m + k ≤ 2 ^ 27) : IntMulOk a b := by
  rw [cast_two] at ha hb
  exact mul_ok m k (by omega) (by omega) hk
theorem d32_case1 {a12 a3 b b1 b2 : Int} {n : Nat} (hb : b = b1 * 2 ^ n + b2) (h0 : 0 ≤ b1) (ha : 0 ≤ a12) (hlt : a12 < b) (h30 : 0 ≤ a3) (h3 : a3 < 2 ^ n)
    (hc : a12 / 2 ^ n = b1) : 0 ≤ a12 - b1 * 2 ^ n + b1 ∧ (2 ^ n - 1) * b1 + (a12 - b1 * 2 ^ n + b1) = a12 ∧ a12 * 2 ^ n + a3 < 2 ^ n * b := by
  have hp := two_pos n
  generalize (2 : Int) ^ n = p at *
  have h1 : b1 * p ≤ a12 := by
    rw [← hc]; exact Int.ediv_mul_le _ (by omega)
  refine ⟨by omega, ?_, ?_⟩
  · rw [Int.sub_mul, Int.one_mul, Int.mul_comm p b1]; omega
  · have h2 : (a12 + 1) * p ≤ b * p := Int.mul_le_mul_of_nonneg_right (by omega) (by omega)
    rw [Int.add_mul, Int.one_mul] at h2
    rw [Int.mul_comm p b]
    omega
theorem d32_case2 {a12 a3 b b1 b2 : Int} {n : Nat} (hb : b = b1 * 2 ^ n + b2) (h0 : 0 < b1) (hb2 : 0 ≤ b2) (hb2' : b2 < 2 ^ n) (ha : 0 ≤ a12) (hlt : a12 < b) (h30 : 0 ≤ a3) (h3 : a3 < 2 ^ n)
    (hc : ¬ a12 / 2 ^ n = b1) : 0 ≤ a12 / b1 ∧ a12 / b1 < 2 ^ n ∧ a12 / b1 * b1 + a12 % b1 = a12 ∧ 0 ≤ a12 % b1 ∧ a12 * 2 ^ n + a3 < (a12 / b1 + 1) * b := by
  have hp := two_pos n
  generalize (2 : Int) ^ n = p at *
  have h1 : a12 / p ≤ b1 := by
    have : a12 < (b1 + 1) * p := by rw [Int.add_mul, Int.one_mul]; omega
    have := Int.ediv_lt_of_lt_mul hp this
    omega
  have h2 : a12 < b1 * p := by
    have h3 : a12 / p + 1 ≤ b1 := by omega
    have h4 := Int.mul_le_mul_of_nonneg_right h3 (show 0 ≤ p by omega)
    have h5 := Int.lt_ediv_add_one_mul_self a12 hp
    omega
  refine ⟨Int.ediv_nonneg ha (by omega), Int.ediv_lt_of_lt_mul h0 (by rw [Int.mul_comm]; exact h2), ?_, Int.emod_nonneg _ (by omega), ?_⟩
  · have := Int.emod_add_mul_ediv a12 b1
    rw [Int.mul_comm] at this; omega
  · have h6 := Int.lt_ediv_add_one_mul_self a12 h0
    have h7 : (a12 + 1) * p ≤ (a12 / b1 + 1) * b1 * p := Int.mul_le_mul_of_nonneg_right (by omega) (by omega)
    have h8 : (a12 / b1 + 1) * (b1 * p) ≤ (a12 / b1 + 1) * b := Int.mul_le_mul_of_nonneg_left (by omega) (by have := Int.ediv_nonneg ha (show 0 ≤ b1 by omega); omega)
    rw [Int.add_mul, Int.one_mul, Int.mul_assoc] at h7
    omega
theorem divmod_unique {N q r b : Int} (hb : 0 < b) (h : q * b + r = N) (h0 : 0 ≤ r) (h1 : r < b) : q = N / b ∧ r = N % b := by
  have e : N = r + b * q := by rw [Int.mul_comm b q]; omega
  constructor
  · rw [e, Int.add_mul_ediv_left _ _ (by omega), Int.ediv_eq_zero_of_lt h0 h1]; omega
  · rw [e, Int.add_mul_emod_self_left, Int.emod_eq_of_lt h0 h1]
theorem div_long {a b : Int} (m : Nat) (hb : 0 < b) : a / 2 ^ m / b * 2 ^ m + (a / 2 ^ m % b * 2 ^ m + a % 2 ^ m) / b = a / b ∧ (a / 2 ^ m % b * 2 ^ m + a % 2 ^ m) % b = a % b := by
  have hp := two_pos m
  generalize (2 : Int) ^ m = p at *
  have h1 := Int.emod_add_mul_ediv a p
  have h2 := Int.emod_add_mul_ediv (a / p) b
  have h3 := Int.emod_add_mul_ediv (a / p % b * p + a % p) b
  refine divmod_unique hb ?_ (Int.emod_nonneg _ (by omega)) (Int.emod_lt_of_pos _ hb)
  generalize a / p / b = q1 at *
  generalize a / p % b = r1 at *
  generalize a / p = N at *
  generalize a % p = c at *
  generalize (r1 * p + c) / b = q2 at *
  generalize (r1 * p + c) % b = r2 at *
  subst h2
  rw [Int.mul_add, Int.mul_comm p r1] at h1
  rw [Int.add_mul, Int.mul_comm q2 b]
  have : q1 * p * b = p * (b * q1) := by rw [Int.mul_comm q1 p, Int.mul_assoc, Int.mul_comm q1 b]
  omega
theorem div_pad {a b : Int} (p : Int) (hp : 0 < p) (hb : 0 < b) : a * p / (b * p) = a / b ∧ a * p % (b * p) = a % b * p := by
  have h1 := Int.emod_add_mul_ediv a b
  have h2 : 0 < b * p := Int.mul_pos hb hp
  have h3 := Int.emod_nonneg a (show b ≠ 0 by omega)
  have h4 := Int.emod_lt_of_pos a hb
  obtain ⟨e1, e2⟩ := divmod_unique (N := a * p) (q := a / b) (r := a % b * p) h2 (by
    rw [Int.mul_comm (a / b) (b * p), Int.mul_assoc, Int.mul_comm p (a / b), ← Int.mul_assoc, ← Int.add_mul]
    rw [Int.add_comm (b * (a / b)), h1]) (Int.mul_nonneg h3 (by omega)) (Int.mul_lt_mul_of_pos_right h4 hp)
  exact ⟨e1.symm, e2.symm⟩
theorem d21_facts {a b : Int} {n m p : Nat} (hn : n + p = m + m) (hm : 0 < m) (hp : p ≤ 1) (hb0 : 2 ^ (n - 1) ≤ b) (hb1 : b < 2 ^ n) (h1 : 1 ≤ n) (ha0 : 0 ≤ a) (ha1 : a < b * 2 ^ n) :
    0 < b * 2 ^ p ∧ b * 2 ^ p = b * 2 ^ p / 2 ^ m * 2 ^ m + b * 2 ^ p % 2 ^ m ∧ 0 < b * 2 ^ p / 2 ^ m ∧ b * 2 ^ p / 2 ^ m < 2 ^ m ∧ 0 ≤ b * 2 ^ p % 2 ^ m ∧ b * 2 ^ p % 2 ^ m < 2 ^ m ∧
    0 ≤ a * 2 ^ p / 2 ^ (m + m) ∧ a * 2 ^ p / 2 ^ (m + m) < b * 2 ^ p ∧ 0 ≤ a * 2 ^ p := by
  have hpm := two_pos m
  have hpp := two_pos p
  have hbpos : 0 < b := Int.lt_of_lt_of_le (two_pos _) hb0
  have hbp : 0 < b * 2 ^ p := Int.mul_pos hbpos hpp
  have e : (2 : Int) ^ (m + m) = 2 ^ n * 2 ^ p := by rw [← hn, Int.pow_add]
  have e2 : (2 : Int) ^ (m + m) = 2 ^ m * 2 ^ m := by rw [Int.pow_add]
  have hap : 0 ≤ a * 2 ^ p := Int.mul_nonneg ha0 (by omega)
  have hlt : b * 2 ^ p < 2 ^ m * 2 ^ m := by
    rw [← e2, e]; exact Int.mul_lt_mul_of_pos_right hb1 hpp
  have hge : 2 ^ m ≤ b * 2 ^ p := by
    have h3 : (2 : Int) ^ (n - 1) * 2 ^ p ≤ b * 2 ^ p := Int.mul_le_mul_of_nonneg_right hb0 (by omega)
    rw [← Int.pow_add] at h3
    have h4 : (2 : Int) ^ m ≤ 2 ^ (n - 1 + p) := two_mono (by omega)
    omega
  refine ⟨hbp, ?_, ?_, Int.ediv_lt_of_lt_mul hpm hlt, Int.emod_nonneg _ (by omega), Int.emod_lt_of_pos _ hpm, Int.ediv_nonneg hap (by have := two_pos (m + m); omega), ?_, hap⟩
  · have := Int.emod_add_mul_ediv (b * 2 ^ p) (2 ^ m)
    rw [Int.mul_comm (2 ^ m)] at this; omega
  · have := Int.le_ediv_of_mul_le hpm (show 1 * 2 ^ m ≤ b * 2 ^ p by omega)
    omega
  · refine Int.ediv_lt_of_lt_mul (two_pos _) ?_
    rw [e]
    have h5 : a * 2 ^ p < b * 2 ^ n * 2 ^ p := Int.mul_lt_mul_of_pos_right ha1 hpp
    have h6 : b * 2 ^ n * 2 ^ p ≤ b * 2 ^ p * (2 ^ n * 2 ^ p) := by
      have h7 : b * 2 ^ p * (2 ^ n * 2 ^ p) = b * 2 ^ n * 2 ^ p * 2 ^ p := by
        rw [Int.mul_assoc b, ← Int.mul_assoc (2 ^ p), Int.mul_comm (2 ^ p) (2 ^ n), ← Int.mul_assoc b, ← Int.mul_assoc b]
      rw [h7]
      have h8 : 0 ≤ b * 2 ^ n * 2 ^ p := Int.mul_nonneg (Int.mul_nonneg (by omega) (by have := two_pos n; omega)) (by omega)
      have h9 := Int.mul_le_mul_of_nonneg_left (show (1 : Int) ≤ 2 ^ p by omega) h8
      omega
    omega
end Mine
end -- PB
section -- PC
open PySem PyProof.Rows
set_option Elab.async false
namespace Mine
def digs (n : Nat) : Nat → Int → List Int
  | 0, _ => []
  | k + 1, x => x % 2 ^ n :: digs n k (x / 2 ^ n)
theorem digs_length (n : Nat) : ∀ (k : Nat) (x : Int), (digs n k x).length = k
  | 0, _ => rfl
  | k + 1, x => by rw [digs, List.length_cons, digs_length n k]
def dval (n : Nat) : List Int → Int
  | [] => 0
  | c :: r => c + 2 ^ n * dval n r
theorem dval_append (n : Nat) : ∀ (xs ys : List Int), dval n (xs ++ ys) = dval n xs + 2 ^ (n * xs.length) * dval n ys
  | [], ys => by simp [dval]
  | c :: r, ys => by
    rw [List.cons_append, dval, dval, dval_append n r ys, List.length_cons, Int.mul_add, Nat.mul_add, Nat.mul_one, Nat.add_comm, Int.pow_add, Int.mul_assoc]
    omega
theorem digs_split (n : Nat) : ∀ (a b : Nat) (x : Int), digs n (a + b) x = digs n a (x % 2 ^ (n * a)) ++ digs n b (x / 2 ^ (n * a))
  | 0, b, x => by simp [digs]
  | a + 1, b, x => by
    have hp := two_pos n
    have hq := two_pos (n * a)
    have e : (2 : Int) ^ (n * (a + 1)) = 2 ^ n * 2 ^ (n * a) := by rw [Nat.mul_add, Nat.mul_one, Nat.add_comm, Int.pow_add]
    have e1 : x % (2 ^ n * 2 ^ (n * a)) % 2 ^ n = x % 2 ^ n := Int.emod_emod_of_dvd _ (Int.dvd_mul_right ..)
    have e2 : x % (2 ^ n * 2 ^ (n * a)) / 2 ^ n = x / 2 ^ n % 2 ^ (n * a) := by
      have h1 := Int.emod_add_mul_ediv x (2 ^ n)
      have h2 := Int.emod_add_mul_ediv (x / 2 ^ n) (2 ^ (n * a))
      have h3 : x / 2 ^ n / 2 ^ (n * a) = x / (2 ^ n * 2 ^ (n * a)) := by rw [Int.ediv_ediv_of_nonneg (by omega)]
      have h4 := Int.emod_add_mul_ediv x (2 ^ n * 2 ^ (n * a))
      rw [h3] at h2
      have h5 : x % (2 ^ n * 2 ^ (n * a)) = x % 2 ^ n + 2 ^ n * (x / 2 ^ n % 2 ^ (n * a)) := by
        rw [Int.mul_assoc] at h4
        have h6 : 2 ^ n * (x / 2 ^ n) = 2 ^ n * (x / 2 ^ n % 2 ^ (n * a)) + 2 ^ n * (2 ^ (n * a) * (x / (2 ^ n * 2 ^ (n * a)))) := by rw [← Int.mul_add, h2]
        omega
      rw [h5, Int.add_mul_ediv_left _ _ (by omega), Int.ediv_eq_zero_of_lt (Int.emod_nonneg _ (by omega)) (Int.emod_lt_of_pos _ hp)]
      omega
    have e3 : x / (2 ^ n * 2 ^ (n * a)) = x / 2 ^ n / 2 ^ (n * a) := by rw [Int.ediv_ediv_of_nonneg (by omega)]
    rw [Nat.add_right_comm, digs, digs_split n a b, digs, e, e1, e2, e3, List.cons_append]
theorem dval_digs (n : Nat) : ∀ (k : Nat) (x : Int), 0 ≤ x → x < 2 ^ (n * k) → dval n (digs n k x) = x
  | 0, x, h0, h1 => by
    rw [Nat.mul_zero, Int.pow_zero] at h1
    simp [digs, dval]; omega
  | k + 1, x, h0, h1 => by
    have hp := two_pos n
    rw [digs, dval, dval_digs n k (x / 2 ^ n) (Int.ediv_nonneg h0 (by omega)) (Int.ediv_lt_of_lt_mul hp (by
      rw [Nat.mul_add, Nat.mul_one, Int.pow_add] at h1; exact h1))]
    have := Int.emod_add_mul_ediv x (2 ^ n)
    omega
theorem digs_range (n : Nat) : ∀ (k : Nat) (x : Int), ∀ c ∈ digs n k x, 0 ≤ c ∧ c < 2 ^ n
  | k + 1, x, c, hc => by
    have hp := two_pos n
    rw [digs] at hc
    rcases List.mem_cons.mp hc with rfl | hc
    · exact ⟨Int.emod_nonneg _ (by omega), Int.emod_lt_of_pos _ hp⟩
    · exact digs_range n k _ c hc
theorem dval_range (n : Nat) : ∀ (ds : List Int), (∀ c ∈ ds, 0 ≤ c ∧ c < 2 ^ n) → 0 ≤ dval n ds ∧ dval n ds < 2 ^ (n * ds.length)
  | [], _ => by simp [dval]
  | c :: r, h => by
    have hp := two_pos n
    obtain ⟨h1, h2⟩ := dval_range n r fun x hx => h x (.tail _ hx)
    obtain ⟨h3, h4⟩ := h c (.head _)
    rw [dval, List.length_cons, Nat.mul_add, Nat.mul_one, Nat.add_comm (n * r.length), Int.pow_add]
    have h5 := Int.mul_nonneg (show 0 ≤ (2 : Int) ^ n by omega) h1
    have h6 := Int.mul_le_mul_of_nonneg_left (show dval n r + 1 ≤ 2 ^ (n * r.length) by omega) (show 0 ≤ (2 : Int) ^ n by omega)
    rw [Int.mul_add, Int.mul_one] at h6
    omega
theorem splice {α : Type} (vs ds1 ds2 : List α) (L k R : Nat) (h1 : ds1.length = k) (h2 : L + k ≤ R) (hR : R ≤ vs.length) :
    (vs.take L ++ ds1 ++ vs.drop (L + k)).take (L + k) ++ ds2 ++ (vs.take L ++ ds1 ++ vs.drop (L + k)).drop R = vs.take L ++ (ds1 ++ ds2) ++ vs.drop R := by
  have e : (vs.take L ++ ds1).length = L + k := by rw [List.length_append, List.length_take, h1]; omega
  rw [List.take_append_of_le_length (by omega), List.take_of_length_le (by omega)]
  rw [List.drop_append, List.drop_of_length_le (by omega), List.nil_append, List.drop_drop, e]
  rw [show L + k + (R - (L + k)) = R by omega]
  simp [List.append_assoc]
theorem splice_length {α : Type} (vs ds : List α) (L k : Nat) (h1 : ds.length = k) (h2 : L + k ≤ vs.length) : (vs.take L ++ ds ++ vs.drop (L + k)).length = vs.length := by
  rw [List.length_append, List.length_append, List.length_take, List.length_drop, h1]; omega
theorem slice_split {α : Type} (ns : List α) (L k R : Nat) (h1 : L + k ≤ R) : (ns.drop L).take (R - L) = (ns.drop L).take k ++ (ns.drop (L + k)).take (R - (L + k)) := by
  rw [show R - L = k + (R - (L + k)) by omega, List.take_add, List.drop_drop]
theorem slice_one {α : Type} (ns : List α) (L : Nat) (h : L < ns.length) : (ns.drop L).take (L + 1 - L) = [ns[L]] := by
  rw [show L + 1 - L = 1 by omega, List.drop_eq_getElem_cons h]; rfl
theorem half {L R k D : Nat} (hk : k = (R - L) / 2) (h : L < R) (e : R ≠ L + 1) (hD : R - L ≤ 2 ^ (D + 1)) : 1 ≤ k ∧ L + k < R ∧ k ≤ 2 ^ D ∧ R ≤ L + k + 2 ^ D ∧ ((L : Int) + R) / 2 = ((L + k : Nat) : Int) := by
  rw [Nat.pow_succ] at hD
  obtain ⟨m, rfl⟩ : ∃ m, R = L + m := ⟨R - L, by omega⟩
  rw [Nat.add_sub_cancel_left] at hk hD
  refine ⟨by omega, by omega, by omega, by omega, by omega⟩
end Mine
end -- PC
section -- PD
set_option Elab.async false
set_option linter.unusedSimpArgs false
set_option linter.unusedVariables false
namespace Mine
structure Rl where
  l : Int
  s : Int
  r : List Int
def ofL (rs : List Rl) (t : Int) : List Rl := rs.filter fun r => decide (r.l = t)
def shr : List Rl → Int
  | [] => 0
  | r :: rs => r.s + shr rs
theorem shr_append : ∀ (a b : List Rl), shr (a ++ b) = shr a + shr b
  | [], b => by simp [shr]
  | r :: a, b => by rw [List.cons_append, shr, shr, shr_append a b]; omega
inductive Run (rs : List Rl) : Nat → List Int → Nat → Int → List Int → Int → Int → Int → Int → List (Int × List Rl × Rl) → Prop
  | tell {n t pile a p w top p' T S ks} : 0 < t → t < 256 → Run rs n pile a p w top p' T S ks → Run rs (n + 1) (t :: pile) a p (t :: w) top p' T S ks
  | stop {t pile a p} : ¬ (0 < t ∧ t < 256) → (ofL rs t = [] ∨ a = 3) → Run rs 0 (t :: pile) a p [] t p 1 1 []
  | ask {n t pile a p w top p' T S ks pre r post} : ¬ (0 < t ∧ t < 256) → a < 3 → ofL rs t = pre ++ r :: post → shr pre ≤ p % shr (ofL rs t) → p % shr (ofL rs t) < shr pre + r.s →
      Run rs n (r.r ++ pile) (a + 1) (p / shr (ofL rs t) * r.s + (p % shr (ofL rs t) - shr pre)) w top p' T S ks →
      Run rs (n + 1) (t :: pile) a p w top p' (shr (ofL rs t) * T) (r.s * S) ((t, pre, r) :: ks)
theorem Run.out {q : List Int} {rs : List Rl} {n : Nat} {a : Nat} {p : Int} {w : List Int} {top p' T S : Int} {ks : List (Int × List Rl × Rl)} {G : Prop} (R : Run rs n q a p w top p' T S ks)
    (k1 : ∀ n' t pile w', n = n' + 1 → q = t :: pile → w = t :: w' → 0 < t → t < 256 → Run rs n' pile a p w' top p' T S ks → G)
    (k2 : ∀ pile, q = top :: pile → w = [] → p' = p → T = 1 → S = 1 → ks = [] → ¬ (0 < top ∧ top < 256) → (ofL rs top = [] ∨ a = 3) → G)
    (k3 : ∀ n' t pile T' S' ks' pre r post, n = n' + 1 → q = t :: pile → a < 3 → ks = (t, pre, r) :: ks' → T = shr (ofL rs t) * T' → S = r.s * S' → ¬ (0 < t ∧ t < 256) → ofL rs t = pre ++ r :: post → shr pre ≤ p % shr (ofL rs t) →
      p % shr (ofL rs t) < shr pre + r.s → Run rs n' (r.r ++ pile) (a + 1) (p / shr (ofL rs t) * r.s + (p % shr (ofL rs t) - shr pre)) w top p' T' S' ks' → G) : G := by
  cases R with
  | tell h1 h2 r => exact k1 _ _ _ _ rfl rfl rfl h1 h2 r
  | stop h1 h2 => exact k2 _ rfl rfl rfl rfl rfl rfl h1 h2
  | ask h1 h2 e b1 b2 r => exact k3 _ _ _ _ _ _ _ _ _ rfl rfl h2 rfl rfl rfl h1 e b1 b2 r
theorem run_tell {t : Int} {pile : List Int} {rs : List Rl} {n : Nat} {a : Nat} {p : Int} {w : List Int} {top p' T S : Int} {ks : List (Int × List Rl × Rl)} {G : Prop} (R : Run rs n (t :: pile) a p w top p' T S ks) (h : 0 < t ∧ t < 256) (k : ∀ n' w', n = n' + 1 → w = t :: w' → Run rs n' pile a p w' top p' T S ks → G) : G :=
  R.out (fun n' _ _ w' h1 h2 h3 _ _ r => k n' w' h1 ((List.cons.inj h2).1 ▸ h3) ((List.cons.inj h2).2 ▸ r)) (fun _ h2 _ _ _ _ _ f _ => absurd ((List.cons.inj h2).1 ▸ h) f) fun _ _ _ _ _ _ _ _ _ _ h2 _ _ _ _ f _ _ _ _ => absurd ((List.cons.inj h2).1 ▸ h) f
theorem run_stop {t : Int} {pile : List Int} {rs : List Rl} {n : Nat} {a : Nat} {p : Int} {w : List Int} {top p' T S : Int} {ks : List (Int × List Rl × Rl)} {G : Prop} (R : Run rs n (t :: pile) a p w top p' T S ks) (h : ¬ (0 < t ∧ t < 256)) (g : ofL rs t = [] ∨ a = 3) (k : w = [] → top = t → p' = p → T = 1 → S = 1 → ks = [] → G) : G :=
  R.out (fun _ _ _ _ _ h2 _ f1 f2 _ => absurd ((List.cons.inj h2).1 ▸ ⟨f1, f2⟩) h) (fun _ h2 h3 h4 h5 h6 h7 _ _ => k h3 (List.cons.inj h2).1.symm h4 h5 h6 h7) fun _ _ _ _ _ _ _ _ _ _ h2 q _ _ _ _ e _ _ _ => by
    rw [← (List.cons.inj h2).1] at e
    rcases g with g | g
    · rw [g] at e; simp at e
    · rw [g] at q; exact absurd q (Nat.lt_irrefl 3)
theorem run_ask {t : Int} {pile : List Int} {rs : List Rl} {n : Nat} {a : Nat} {p : Int} {w : List Int} {top p' T S : Int} {ks : List (Int × List Rl × Rl)} {G : Prop} (R : Run rs n (t :: pile) a p w top p' T S ks) (h : ¬ (0 < t ∧ t < 256)) (g : ¬ (ofL rs t = [] ∨ a = 3))
    (k : ∀ n' T' S' ks' pre r post, n = n' + 1 → a < 3 → ks = (t, pre, r) :: ks' → T = shr (ofL rs t) * T' → S = r.s * S' → ofL rs t = pre ++ r :: post → shr pre ≤ p % shr (ofL rs t) → p % shr (ofL rs t) < shr pre + r.s →
      Run rs n' (r.r ++ pile) (a + 1) (p / shr (ofL rs t) * r.s + (p % shr (ofL rs t) - shr pre)) w top p' T' S' ks' → G) : G :=
  R.out (fun _ _ _ _ _ h2 _ f1 f2 _ => absurd ((List.cons.inj h2).1 ▸ ⟨f1, f2⟩) h) (fun _ h2 _ _ _ _ _ _ f => absurd ((List.cons.inj h2).1 ▸ f) g) fun n' t' pile' T' S' ks' pre r post h1 h2 q k2 k3 k4 _ e b1 b2 r' => by
    obtain ⟨rfl, rfl⟩ := List.cons.inj h2
    exact k n' T' S' ks' pre r post h1 q k2 k3 k4 e b1 b2 r'
structure Gr (rs : List Rl) : Prop where
  len : rs.length = 7
  rule : ∀ (i : Nat) (r : Rl), rs[i]? = some r → 256 ≤ r.l ∧ r.l ≤ 258 ∧ 1 ≤ r.s ∧ r.s ≤ 4 ∧ ∃ tl, r.r = (255 - (i : Int)) :: tl ∧ tl.length ≤ 2 ∧ ∀ t ∈ tl, 0 < t ∧ t ≤ 259
theorem Gr.mem {rs : List Rl} (G : Gr rs) {r : Rl} (h : r ∈ rs) : 256 ≤ r.l ∧ r.l ≤ 258 ∧ 1 ≤ r.s ∧ r.s ≤ 4 ∧ ∃ f tl, r.r = f :: tl ∧ 249 ≤ f ∧ f ≤ 255 ∧ tl.length ≤ 2 ∧ ∀ t ∈ tl, 0 < t ∧ t ≤ 259 := by
  obtain ⟨i, hi, e⟩ := List.mem_iff_getElem.mp h
  obtain ⟨h1, h2, h3, h4, tl, h5, h6, h7⟩ := G.rule i r (by rw [List.getElem?_eq_getElem hi, e])
  have := G.len
  exact ⟨h1, h2, h3, h4, _, tl, h5, by omega, by omega, h6, h7⟩
theorem mem_ofL {rs : List Rl} {t : Int} {r : Rl} (h : r ∈ ofL rs t) : r ∈ rs ∧ r.l = t := by
  have := List.mem_filter.mp h
  exact ⟨this.1, of_decide_eq_true this.2⟩
theorem shr_bounds : ∀ {rs : List Rl}, (∀ r ∈ rs, 1 ≤ r.s ∧ r.s ≤ 4) → (rs.length : Int) ≤ shr rs ∧ shr rs ≤ 4 * rs.length
  | [], _ => by simp [shr]
  | r :: rs, h => by
    have h1 := h r (.head _)
    have h2 := shr_bounds (rs := rs) fun q hq => h q (.tail _ hq)
    rw [shr, List.length_cons]
    omega
theorem Gr.shares {rs : List Rl} (G : Gr rs) (t : Int) : ((ofL rs t).length : Int) ≤ shr (ofL rs t) ∧ shr (ofL rs t) ≤ 4 * (ofL rs t).length ∧ (ofL rs t).length ≤ 7 := by
  have := shr_bounds (rs := ofL rs t) fun r hr => let q := G.mem (mem_ofL hr).1; ⟨q.2.2.1, q.2.2.2.1⟩
  exact ⟨this.1, this.2, by rw [← G.len]; exact List.length_filter_le ..⟩
theorem pick : ∀ {rs : List Rl} {v : Int}, (∀ r ∈ rs, 1 ≤ r.s) → 0 ≤ v → v < shr rs → ∃ pre r post, rs = pre ++ r :: post ∧ shr pre ≤ v ∧ v < shr pre + r.s
  | [], v, _, h0, h1 => by rw [shr] at h1; omega
  | r :: rs, v, h, h0, h1 => by
    by_cases hv : v < r.s
    · exact ⟨[], r, rs, rfl, by rw [shr]; omega, by rw [shr]; omega⟩
    · rw [shr] at h1
      obtain ⟨pre, q, post, e, a, b⟩ := pick (rs := rs) (v := v - r.s) (fun q hq => h q (.tail _ hq)) (by omega) (by omega)
      exact ⟨r :: pre, q, post, by rw [e]; rfl, by rw [shr]; omega, by rw [shr]; omega⟩
theorem ofL_nil {rs : List Rl} (G : Gr rs) {t : Int} (h : t < 256 ∨ 258 < t) : ofL rs t = [] := by
  rw [ofL, List.filter_eq_nil_iff]
  intro r hr
  have := G.mem hr
  simp only [decide_eq_true_eq]
  omega
theorem run_ex {rs : List Rl} (G : Gr rs) : ∀ (k : Nat) (q : List Int) (a : Nat) (p : Int), q.length + 3 * (3 - a) ≤ k → a ≤ 3 → (∀ t ∈ q, 0 < t ∧ t ≤ 259) → 0 ≤ p →
    ∃ n w top p' T S ks, Run rs n (q ++ [0]) a p w top p' T S ks := by
  intro k
  induction k with
  | zero =>
    intro q a p hk ha hq hp
    have : q = [] := List.length_eq_zero_iff.mp (by omega)
    subst this
    exact ⟨_, _, _, _, _, _, _, .stop (by omega) (.inl (ofL_nil G (.inl (by omega))))⟩
  | succ k ih =>
    intro q a p hk ha hq hp
    cases q with
    | nil => exact ⟨_, _, _, _, _, _, _, .stop (by omega) (.inl (ofL_nil G (.inl (by omega))))⟩
    | cons t q =>
      have ht := hq t (.head _)
      have hq' : ∀ t ∈ q, 0 < t ∧ t ≤ 259 := fun t h => hq t (.tail _ h)
      rw [List.length_cons] at hk
      by_cases h1 : t < 256
      · obtain ⟨n, w, top, p', T, S, ks, R⟩ := ih q a p (by omega) ha hq' hp
        exact ⟨_, _, _, _, _, _, _, .tell ht.1 h1 R⟩
      · by_cases h2 : ofL rs t = [] ∨ a = 3
        · exact ⟨_, _, _, _, _, _, _, .stop (by omega) h2⟩
        · have hne : ofL rs t ≠ [] := fun e => h2 (.inl e)
          have hT := G.shares t
          have hpos : 0 < (ofL rs t).length := List.length_pos_iff.mpr hne
          obtain ⟨pre, r, post, e, b1, b2⟩ := pick (rs := ofL rs t) (v := p % shr (ofL rs t)) (fun r hr => (G.mem (mem_ofL hr).1).2.2.1) (Int.emod_nonneg _ (by omega)) (Int.emod_lt_of_pos _ (by omega))
          have hr := G.mem (mem_ofL (rs := rs) (t := t) (r := r) (by rw [e]; simp)).1
          obtain ⟨_, _, hs, _, f, tl, hf, f1, f2, tl2, htl⟩ := hr
          have hq0 : 0 ≤ p / shr (ofL rs t) * r.s + (p % shr (ofL rs t) - shr pre) := by
            have := Int.mul_nonneg (Int.ediv_nonneg hp (show 0 ≤ shr (ofL rs t) by omega)) (show 0 ≤ r.s by omega)
            omega
          obtain ⟨n, w, top, p', T, S, ks, R⟩ := ih (r.r ++ q) (a + 1) _ (by rw [List.length_append, hf, List.length_cons]; omega) (by omega)
            (fun u hu => by
              rcases List.mem_append.mp hu with hu | hu
              · rw [hf] at hu
                rcases List.mem_cons.mp hu with rfl | hu
                · omega
                · exact htl u hu
              · exact hq' u hu) hq0
          rw [List.append_assoc] at R
          exact ⟨_, _, _, _, _, _, _, .ask (by omega) (by omega) e b1 b2 R⟩
theorem led_step {u rest p Tt R s st c : Int} (hu : 0 < u) (h0 : 0 ≤ rest) (h1 : rest < u) (hT : 0 < Tt) :
    (u * (p + Tt * R * c) + rest) / (u * Tt) = p / Tt + R * c ∧ (u * (p + Tt * R * c) + rest) % (u * Tt) = u * (p % Tt) + rest ∧
    (p / Tt + R * c) * u * s + (u * (p % Tt) + rest) - u * st = u * (p / Tt * s + (p % Tt - st) + R * (s * c)) + rest := by
  have hp := Int.mul_ediv_add_emod p Tt
  have m0 := Int.emod_nonneg p (show Tt ≠ 0 by omega)
  have m1 := Int.emod_lt_of_pos p hT
  generalize p / Tt = q at *
  generalize p % Tt = m at *
  have hlt : u * m + rest < u * Tt := by
    have : u * (m + 1) ≤ u * Tt := Int.mul_le_mul_of_nonneg_left (by omega) (by omega)
    rw [Int.mul_add] at this
    omega
  have hge : 0 ≤ u * m := Int.mul_nonneg (by omega) m0
  have key : (q + R * c) * (u * Tt) + (u * m + rest) = u * (p + Tt * R * c) + rest := by
    rw [← hp]
    simp only [Int.mul_add, Int.add_mul, Int.mul_assoc, Int.mul_comm, Int.mul_left_comm, Int.add_assoc, Int.add_comm, Int.add_left_comm]
  have := divmod_unique (Int.mul_pos hu hT) key (by omega) hlt
  refine ⟨this.1.symm, this.2.symm, ?_⟩
  simp only [Int.mul_add, Int.add_mul, Int.mul_sub, Int.mul_assoc, Int.mul_comm, Int.mul_left_comm]
  omega
theorem back_step {u rest p Tt R s st c : Int} (hu : 0 < u) (h0 : 0 ≤ rest) (h1 : rest < u) (hT : 0 < Tt) (hs : 0 < s) (ha : st ≤ p % Tt) (hb : p % Tt < st + s) :
    (u * (p / Tt * s + (p % Tt - st) + R * (s * c)) + rest) / (u * s) * (u * Tt) + u * st + (u * (p / Tt * s + (p % Tt - st) + R * (s * c)) + rest) % (u * s) = u * (p + Tt * R * c) + rest := by
  have hp := Int.mul_ediv_add_emod p Tt
  generalize p / Tt = q at *
  generalize p % Tt = m at *
  have hlt : u * (m - st) + rest < u * s := by
    have : u * (m - st + 1) ≤ u * s := Int.mul_le_mul_of_nonneg_left (by omega) (by omega)
    rw [Int.mul_add] at this
    omega
  have hge : 0 ≤ u * (m - st) := Int.mul_nonneg (by omega) (by omega)
  have key : (q + R * c) * (u * s) + (u * (m - st) + rest) = u * (q * s + (m - st) + R * (s * c)) + rest := by
    simp only [Int.mul_add, Int.add_mul, Int.mul_sub, Int.mul_assoc, Int.mul_comm, Int.mul_left_comm]
    omega
  have := divmod_unique (Int.mul_pos hu hs) key (by omega) hlt
  rw [← this.1, ← this.2, ← hp]
  simp only [Int.mul_add, Int.add_mul, Int.mul_sub, Int.mul_assoc, Int.mul_comm, Int.mul_left_comm]
  omega
def bk (rs : List Rl) (u : Int) : List (Int × List Rl × Rl) → Int → Int
  | [], x => x
  | (t, pre, r) :: ks, x => bk rs u ks x / (u * r.s) * (u * shr (ofL rs t)) + u * shr pre + bk rs u ks x % (u * r.s)
theorem run_back {rs : List Rl} (G : Gr rs) {u rest : Int} (hu : 0 < u) (h0 : 0 ≤ rest) (h1 : rest < u) {n : Nat} {pile : List Int} {a : Nat} {p : Int} {w : List Int} {top p' T S : Int} {ks : List (Int × List Rl × Rl)}
    (R : Run rs n pile a p w top p' T S ks) : ∀ c, bk rs u ks (u * (p' + S * c) + rest) = u * (p + T * c) + rest := by
  induction R with
  | tell _ _ _ ih => exact ih
  | stop => intro c; rfl
  | @ask n t pile a p w top p' T S ks pre r post h2 h3 e b1 b2 _ ih =>
    intro c
    have hr := G.mem (mem_ofL (rs := rs) (t := t) (r := r) (by rw [e]; simp)).1
    have hT : 0 < shr (ofL rs t) := by
      have := G.shares t
      have : 0 < (ofL rs t).length := by rw [e, List.length_append, List.length_cons]; omega
      omega
    rw [bk, show r.s * S * c = S * (r.s * c) by rw [Int.mul_comm r.s S, Int.mul_assoc], ih (r.s * c)]
    exact back_step hu h0 h1 hT (by omega) b1 b2
theorem run_size {rs : List Rl} (G : Gr rs) {n : Nat} {pile : List Int} {a : Nat} {p : Int} {w : List Int} {top p' T S : Int} {ks : List (Int × List Rl × Rl)}
    (R : Run rs n pile a p w top p' T S ks) : a ≤ 3 → 0 ≤ p → 0 < T ∧ T ≤ 28 ^ (3 - a) ∧ 0 < S ∧ S ≤ 4 ^ (3 - a) ∧ 0 ≤ p' ∧ p' ≤ p ∧ w.length ≤ n := by
  induction R with
  | tell _ _ _ ih => intro ha hp; have := ih ha hp; rw [List.length_cons]; omega
  | @stop t pile a p h h' =>
    intro ha hp
    have e1 : (0:Int) < 28 ^ (3 - a) := Int.pow_pos (by decide)
    have e2 : (0:Int) < 4 ^ (3 - a) := Int.pow_pos (by decide)
    exact ⟨by omega, by omega, by omega, by omega, hp, by omega, by simp⟩
  | @ask n t pile a p w top p' T S ks pre r post h2 h3 e b1 b2 _ ih =>
    intro ha hp
    have hr := G.mem (mem_ofL (rs := rs) (t := t) (r := r) (by rw [e]; simp)).1
    have hsh := G.shares t
    have hl : 0 < (ofL rs t).length := by rw [e, List.length_append, List.length_cons]; omega
    have hrT : r.s ≤ shr (ofL rs t) := by
      have a1 := shr_bounds (rs := pre) fun q hq => let z := G.mem (mem_ofL (rs := rs) (t := t) (r := q) (by rw [e]; simp [hq])).1; ⟨z.2.2.1, z.2.2.2.1⟩
      have a2 := shr_bounds (rs := post) fun q hq => let z := G.mem (mem_ofL (rs := rs) (t := t) (r := q) (by rw [e]; simp [hq])).1; ⟨z.2.2.1, z.2.2.2.1⟩
      rw [e, shr_append, shr]
      omega
    have hd := Int.mul_ediv_add_emod p (shr (ofL rs t))
    have hq := Int.ediv_nonneg hp (show 0 ≤ shr (ofL rs t) by omega)
    have m1 : p / shr (ofL rs t) * r.s ≤ p / shr (ofL rs t) * shr (ofL rs t) := Int.mul_le_mul_of_nonneg_left hrT hq
    have m2 := Int.mul_nonneg hq (show 0 ≤ r.s by omega)
    have m3 : p / shr (ofL rs t) * shr (ofL rs t) = shr (ofL rs t) * (p / shr (ofL rs t)) := Int.mul_comm ..
    have sp : 0 ≤ shr pre := by
      have a1 := shr_bounds (rs := pre) fun q hq => let z := G.mem (mem_ofL (rs := rs) (t := t) (r := q) (by rw [e]; simp [hq])).1; ⟨z.2.2.1, z.2.2.2.1⟩
      omega
    obtain ⟨i1, i2, i3, i4, i5, i6, i7⟩ := ih (by omega) (by omega)
    have e3 : 3 - a = 3 - (a + 1) + 1 := by omega
    refine ⟨Int.mul_pos (by omega) i1, ?_, Int.mul_pos (by omega) i3, ?_, i5, by omega, by omega⟩
    · rw [e3, Int.pow_succ, Int.mul_comm (28 ^ _) 28]
      exact Int.mul_le_mul (by omega) i2 (by omega) (by decide)
    · rw [e3, Int.pow_succ, Int.mul_comm (4 ^ _) 4]
      exact Int.mul_le_mul (by omega) i4 (by omega) (by decide)
end Mine
end -- PD
section -- L15
open PySem PySem.W PyProof.Rows PySem.Calls
set_option Elab.async false
set_option maxRecDepth 100000
set_option maxHeartbeats 4000000
set_option linter.unusedVariables false
namespace Mine
structure Tb (rs tb : List Rl) (st : List Int) (u : Int) (lo : Int → Nat) : Prop where
  l1 : tb.length = 7
  l2 : st.length = 7
  mem : ∀ r ∈ tb, r ∈ rs
  seg : ∀ t, 256 ≤ t → t ≤ 259 → lo t + (ofL rs t).length ≤ 7 ∧ ∀ j, j < (ofL rs t).length → tb[lo t + j]? = (ofL rs t)[j]? ∧ st[lo t + j]? = some (u * shr ((ofL rs t).take j))
def RuleAt (h : Heap) (v : Value) (r : Rl) : Prop := ∃ a t1 t2 ra vs n, v = .ref a ∧ h.get? a = some (tup [.int r.l t1, .int r.s t2, .ref ra]) ∧ h.get? ra = some (lst vs n) ∧ IntsAre vs r.r
inductive RulesAt (h : Heap) : List Value → List Rl → Prop
  | nil : RulesAt h [] []
  | cons {v r vs rs} : RuleAt h v r → RulesAt h vs rs → RulesAt h (v :: vs) (r :: rs)
theorem RulesAt.length {h : Heap} {vs : List Value} {rs : List Rl} (x : RulesAt h vs rs) : vs.length = rs.length := by
  induction x with
  | nil => rfl
  | cons _ _ ih => rw [List.length_cons, List.length_cons, ih]
theorem RulesAt.get {h : Heap} {vs : List Value} {rs : List Rl} (x : RulesAt h vs rs) : ∀ {i : Nat} {r : Rl}, rs[i]? = some r → ∃ v, vs[i]? = some v ∧ RuleAt h v r := by
  induction x with
  | nil => intro i r e; cases e
  | @cons v q vs rs a _ ih =>
    intro i r e
    cases i with
    | zero => cases e; exact ⟨v, rfl, a⟩
    | succ i => exact ih (i := i) e
def SpanAt (h : Heap) (v : Value) (lo hi tot : Int) : Prop := ∃ a t1 t2 t3, v = .ref a ∧ h.get? a = some (tup [.int lo t1, .int hi t2, .int tot t3])
structure Data (h : Heap) (ta sa sta : Addr) (rs tb : List Rl) (st : List Int) (u : Int) (lo : Int → Nat) : Prop where
  tab : ∃ vs n, h.get? ta = some (lst vs n) ∧ RulesAt h vs tb
  sta : ∃ vs n, h.get? sta = some (lst vs n) ∧ IntsAre vs st
  sp : ∃ f, h.IntMap sa f ∧ ∀ t : Int, 256 ≤ t → t ≤ 259 → ∃ v, f t = some v ∧ SpanAt h v (lo t : Nat) ((lo t + (ofL rs t).length : Nat) : Int) (u * shr (ofL rs t))
  tb : Tb rs tb st u lo
structure LedP (L1 : Addr) (oL : Obj) (h h' : Heap) : Prop where
  sb : ∀ b o, b ∉ tabAs → b ≠ L1 → h.get? b = some o → h'.get? b = some o
  fr : ∃ sl, h'.get? L1 = some { oL with slots := sl }
  t1 : TP i1 h h'
  t2 : TP i2 h h'
  t3 : TP i3 h h'
section
variable {w : World} {A : Around} {E : Value → Shared → Prop} {h h' : Heap} {g : Array GenState} {d : Drawn} {tk : Nat} {o : OsState} {Q : Value → Shared → Prop} {L L1 : Addr} {oL : Obj} {l : List (Str × Value)} {own ex : List (Addr × Obj)} {p1 p2 p3 q1 q2 q3 : Array Value}
theorem TH.tvL {i : Info} (x : TH i h) (hL : h.get? L1 = some oL) (hd : ∀ vs, oL.data ≠ .fields vs) : ∃ p, h.get? i.P = some (tabObj p) ∧ TV i (hideAll h (L1 :: tabAs)) [] p p :=
  let ⟨p, hp, r⟩ := x
  ⟨p, hp, .inl ⟨rfl, r.imp id fun ⟨c, oc, e, n, hc, y⟩ => ⟨c, oc, e, n, hideAll_get _ hc (fun hm => by
    rcases List.mem_cons.mp hm with rfl | hm
    · rw [hL] at hc; cases hc
      refine hide fun Kz kz => ?_
      obtain ⟨vs, t, e, _⟩ := y
      refine kz ?_
      clear kz Kz
      exact hd vs e
    · exact n hm), y⟩⟩⟩
theorem r_enterL {name qual : Str} {params : Arguments} {body : List Stmt} {scope : Scope} {dV kV doc pm cdv ct oc : Value} {an od : Option Addr} {osl : Array (Option Value)} {f : Addr} {pos : List Value} {kw : List (Str × Value)}
    (binds : List (Str × Value)) (X : Bs w (hideAll h (L1 :: tabAs))) (T : TabsH h) (hL : h.get? L1 = some oL) (hLt : L1 ∉ tabAs) (hdat : ∀ vs, oL.data ≠ .fields vs) (hroom : A.depth < recursionLimit)
    (ho : (hd.heap_1 w.params).lookup f = some ⟨oc, od, .func (fnOf name qual params body scope dV kV doc pm an cdv ct), osl⟩) (hcd : codeIn (hd.heap_1 w.params) cdv qual = true)
    (hbind : BindsTo ⟨h, g, d, tk, o⟩ (fnOf name qual params body scope dV kV doc pm an cdv ct) ⟨pos, kw⟩ binds)
    (hloc : ∀ y ∈ binds, scope.names.lookup y.1 = some .local)
    (hco : scope.isCoroutine = false) (hgen : scope.isGenerator = false) (hk : scope.kind = .function) (hcell : ∀ x ∈ scope.names, x.2 ≠ .cell)
    (hb : ∀ h₁ tk₁ q1 q2 q3, h.get? 57 = some (tabObj q1) → h.get? 64 = some (tabObj q2) → h.get? 125 = some (tabObj q3) → TB (hideAll h (L1 :: tabAs)) [] q1 q2 q3 q1 q2 q3 →
      St (hideAll h (L1 :: tabAs)) h.objs.size h₁ binds.reverse [(L1, oL)] (tabL q1 q2 q3 []) →
      wpAny (model pg w) (A.deeper (envOf qual scope h.objs.size f cdv)) (execs body (envOf qual scope h.objs.size f cdv)) (fun fl s' => Q (retOf fl) s') (fun _ _ => False) ⟨h₁, g, d, tk₁, o⟩) :
    wpAny (model pg w) A (call (.ref f) pos kw) Q E ⟨h, g, d, tk, o⟩ := by
  refine hide fun Kz kz => ?_
  obtain ⟨q1, e1, V1⟩ := T.1.tvL hL hdat
  obtain ⟨q2, e2, V2⟩ := T.2.1.tvL hL hdat
  obtain ⟨q3, e3, V3⟩ := T.2.2.tvL hL hdat
  refine kz ?_
  clear kz Kz
  replace e1 : h.get? 57 = some (tabObj q1) := e1
  replace e2 : h.get? 64 = some (tabObj q2) := e2
  replace e3 : h.get? 125 = some (tabObj q3) := e3
  refine r_enterH binds ((L1, oL) :: tabL q1 q2 q3 []) X (fun p hp => ?_) ?_ hroom ho hcd hbind hloc hco hgen hk hcell fun h₁ tk₁ S => ?_
  · rcases List.mem_cons.mp hp with rfl | hp
    · exact hL
    rcases List.mem_cons.mp hp with rfl | hp
    · exact e1
    rcases List.mem_cons.mp hp with rfl | hp
    · exact e2
    rcases List.mem_cons.mp hp with rfl | hp
    · exact e3
    cases hp
  · simp only [List.map_cons, List.map_nil, List.nodup_cons]
    refine ⟨hLt, by decide, by decide, by simp, List.nodup_nil⟩
  · refine hb h₁ tk₁ q1 q2 q3 e1 e2 e3 ⟨V1, V2, V3⟩ ⟨S.fr, ?_, ?_⟩
    · have := S.nw; rwa [List.append_nil] at this
    · have := S.nd; rwa [List.append_nil] at this
theorem St.endL {hh : Heap} {sl : Array (Option Value)} (S : St (hideAll hh (L1 :: tabAs)) L h l (own ++ [(L1, { oL with slots := sl })]) (tabL p1 p2 p3 ex)) (V : TB (hideAll hh (L1 :: tabAs)) ex q1 q2 q3 p1 p2 p3)
    (h0 : hh.get? L1 = some oL) (h1 : hh.get? 57 = some (tabObj q1)) (h2 : hh.get? 64 = some (tabObj q2)) (h3 : hh.get? 125 = some (tabObj q3)) : LedP L1 oL hh h := by
  have hm : (L1, ({ oL with slots := sl } : Obj)) ∈ own ++ [(L1, { oL with slots := sl })] := List.mem_append_right _ (.head _)
  have hx : ∀ c oc, (c, oc) ∈ ex → hh.get? c = none ∧ h.get? c = some oc := fun c oc hc => by
    have g := S.tab (.tail _ (.tail _ (.tail _ hc)))
    refine ⟨?_, g.1⟩
    cases q : hh.get? c with
    | none => rfl
    | some ob =>
      have := hideAll_get (L1 :: tabAs) q (fun hb => by
        rcases List.mem_cons.mp hb with e | hb
        · have nd := S.nd
          rw [List.map_append, List.nodup_append] at nd
          exact nd.2.2 L1 (List.mem_map_of_mem (f := (·.1)) hm) c (List.mem_map_of_mem (f := (·.1)) (.tail _ (.tail _ (.tail _ hc)))) e.symm
        · exact S.exNot hc hb)
      rw [g.2.2] at this; cases this
  have tp : ∀ {i : Info} {p0 p : Array Value}, TV i (hideAll hh (L1 :: tabAs)) ex p0 p → hh.get? i.P = some (tabObj p0) → h.get? i.P = some (tabObj p) → TP i hh h := fun V a b => by
    rcases V with ⟨rfl, _⟩ | ⟨rfl, c, oc, rfl, hc, x⟩
    · exact .inl (b.trans a.symm)
    · exact .inr ⟨a, c, oc, b, (hx c oc hc).1, (hx c oc hc).2, x⟩
  refine ⟨fun b ob hb hn e => S.keep _ _ (hideAll_get _ e fun hm => ?_), ⟨sl, S.get hm⟩, tp V.v1 h1 (S.tab (.head _)).1, tp V.v2 h2 (S.tab (.tail _ (.head _))).1, tp V.v3 h3 (S.tab (.tail _ (.tail _ (.head _)))).1⟩
  rcases List.mem_cons.mp hm with e | hm
  · exact hn e
  · exact hb hm
theorem St.freshL {hh : Heap} {a : Addr} {ob : Obj} (S : St (hideAll hh (L1 :: tabAs)) L h l own (tabL p1 p2 p3 ex)) (hL : a ≠ L1) (hm : (a, ob) ∈ own) : hh.get? a = none := by
  have := S.new hm
  cases q : hh.get? a with
  | none => rfl
  | some ob' =>
    rw [hideAll_get _ q (fun hb => by
      rcases List.mem_cons.mp hb with e | hb
      · exact hL e
      · exact S.notTab hm hb)] at this
    cases this
end
end Mine
namespace Mine
theorem r_isK {M : Model} {A : Around} {E : Value → Shared → Prop} {env : Env} {s : Shared} {f : Expr} {args : List Expr} {kws : List Keyword} {pos : Pos} {Q : Bool → Shared → Prop} (h : wpAny M A (eval (.Call f args kws pos) env) (fun v s₁ => wpAny M A (truthy v) Q E s₁) E s) :
    wpAny M A (isTrue (.Call f args kws pos) env (eval (.Call f args kws pos) env)) Q E s := isTrue_plain h rfl
end Mine
namespace Mine
section
variable {prog : Program} {w : World} {A : Around} {E : Value → Shared → Prop} {h : Heap} {g : Array GenState} {d : Drawn} {tk : Nat} {o : OsState} {Q : Value → Shared → Prop}
theorem r_itemD {value slice : Expr} {a : Addr} {f : Int → Option Value} {k : Int} {u : Tok} {v : Value} (hm : h.IntMap a f) (hv : f k = some v)
    (hs : subscripted slice false (.ref a) (.int k u) = operate [.ref a, .int k u] (getItem (.ref a) (.int k u)))
    (hq : ∀ tk', Q v ⟨h, g, d, tk', o⟩) : wpAny (model prog w) A (subscriptTail value slice (.ref a) (.int k u)) Q E ⟨h, g, d, tk, o⟩ :=
  tail_any hm.typeIs slot_dict_getitem.lookup (wpAny_getItem_intMap hm hv (hq _)) hs
end
end Mine
end -- L15
section -- L16
open PySem PySem.W PyProof.Rows PySem.Calls PyProof
set_option Elab.async false
set_option maxRecDepth 100000
set_option maxHeartbeats 4000000
set_option linter.unusedVariables false
namespace Mine
section
variable {M : Model} {A : Around} {E : Value → Shared → Prop} {env : Env} {B : Heap} {L : Addr} {h h' : Heap} {g : Array GenState} {d : Drawn} {tk : Nat} {o : OsState} {l : List (Str × Value)} {own tl : List (Addr × Obj)} {Q : Value → Shared → Prop} {w : World}
  {tl' : Array Value → List (Addr × Obj)} {ex : List (Addr × Obj)} {i : Info} {q p p1 p2 p3 q1 q2 q3 : Array Value} {prog : Program}
theorem r_mklam {name : Str} {params : Arguments} {body : Expr} {scope : Scope} {pos : Pos} {firstLine : Nat} {clos : List (Str × Addr)} {c : Addr} (S : St B L h l own tl) (X : Bs w B) (U : ∀ p', At i.P (tabObj p) (tabObj p') tl (tl' p')) (ht' : tl' p = tl) (V : TV i B ex q p)
    (C : CodeHd B c i.P) (hcode : env.code = .ref c) (hge0 : env.globals = mainGlobals) (hcl : closureFor scope env = pure clos) (hl1 : pos.line = i.line) (hl2 : pos.col = i.col)
    (hq : ∀ f c' pm ctv p' nx h' tk' oc, St B L h' l ((f, kla_obj name i.q params body scope clos pm c' ctv) :: own) (tl' p' ++ nx) → TV i B (ex ++ nx) q p' → codeObj i.q oc → (B.get? c' = some oc ∨ (c', oc) ∈ ex ++ nx) → Q (.ref f) ⟨h', g, d, tk', o⟩) :
    wpAny M A (makeFunction name i.q params (.expr body) scope env [] [] [] pos firstLine) Q E ⟨h, g, d, tk, o⟩ := by
  refine hide fun Kz kz => ?_
  obtain ⟨mg, hgs, hgP, hb⟩ := mk_side X S (U p).mem
  refine kz ?_
  clear kz Kz
  have z := S.tab (U p).mem
  have hit : ∀ c' oc, p = filled i c' → codeObj i.q oc → (B.get? c' = some oc ∨ (c', oc) ∈ ex) → wpAny M A (makeFunction name i.q params (.expr body) scope env [] [] [] pos firstLine) Q E ⟨h, g, d, tk, o⟩ := by
    intro c' oc e x y
    subst e
    refine kla_makeFunctionHit (mg := mg) (cv := .ref c') hcl hge0 hgs hcode (C.keeps S.keep) z.1 triples_filled (among_filled hl1 hl2) hb fun ctv h' tk' hk hsz => ?_
    have S' := (S.stays hk).push (kla_obj name i.q params body scope clos ((mg "__name__").getD .none) c' ctv)
    refine hq _ c' ((mg "__name__").getD .none) ctv (filled i c') [] _ _ oc ?_ ?_ x ?_
    · rw [List.append_nil, ht']; exact S'
    · rw [List.append_nil]; exact V
    · rw [List.append_nil]; exact y
  have V' := V
  rcases V' with ⟨rfl, h0 | ⟨c', oc, e, n, hc, x⟩⟩ | ⟨_, c', oc, e, hc, x⟩
  · subst h0
    refine kla_makeFunction (mg := mg) hcl hge0 hgs hcode (C.keeps S.keep) z.1 trivial rfl hgP hb fun c' ctv h' tk' hx hge hlt hrec htb => ?_
    refine hide fun Kz kz => ?_
    obtain ⟨c₂, oc, vs, t, e2, hoc, hd, hv⟩ := hrec
    refine kz ?_
    clear kz Kz
    cases e2
    have htb' : h'.get? i.P = some (tabObj (filled i c')) := by
      rw [htb]
      simp only [filled, hl1, hl2, Array.empty_append]
    have hn : h.get? c' = none := Heap.get?_none_of_le hge
    have S' := (S.fill (tl' := tl') (U _) hx htb' hn hoc).push (kla_obj name i.q params body scope clos ((mg "__name__").getD .none) c' ctv)
    refine hq _ c' _ ctv (filled i c') [(c', oc)] _ _ oc S' (.inr ⟨rfl, c', oc, rfl, List.mem_append_right _ (List.mem_singleton.mpr rfl), ⟨vs, t, hd, hv⟩⟩) ⟨vs, t, hd, hv⟩ (.inr (List.mem_append_right _ (List.mem_singleton.mpr rfl)))
  · exact hit c' oc e x (.inl hc)
  · exact hit c' oc e x (.inr hc)
theorem TV.more {i : Info} {ex ex' : List (Addr × Obj)} {p0 p : Array Value} (V : TV i B ex p0 p) (hs : ∀ q ∈ ex, q ∈ ex') : TV i B ex' p0 p := by
  rcases V with V | ⟨a, c, oc, b, m, y⟩
  · exact .inl V
  · exact .inr ⟨a, c, oc, b, hs _ m, y⟩
theorem r_lam {params : Arguments} {body : Expr} {scope : Scope} {pos : Pos} (S : St B L h l own (tabL p1 p2 p3 ex)) (X : Bs w B) (V : TB B ex q1 q2 q3 p1 p2 p3) (hdef : defaultsOf params env = ([], []))
    (hqual : env.qual ++ "<lambda>" = i3.q) (hcode : env.code = .ref 129) (hge0 : env.globals = mainGlobals) (hcl : closureFor scope env = pure []) (hl1 : pos.line = i3.line) (hl2 : pos.col = i3.col)
    (hq : ∀ f c' pm ctv p3' ex' h' tk', St B L h' l ((f, kla_obj "<lambda>" i3.q params body scope [] pm c' ctv) :: own) (tabL p1 p2 p3' ex') → TB B ex' q1 q2 q3 p1 p2 p3' → h'.CodeRec (.ref c') i3.q → Q (.ref f) ⟨h', g, d, tk', o⟩) :
    wpAny M A (eval (.Lambda params body scope pos) env) Q E ⟨h, g, d, tk, o⟩ := by
  refine kla_eval hdef ?_
  rw [hqual]
  refine r_mklam (i := i3) (tl' := fun p => tabL p1 p2 p ex) S X (fun _ => .tail (.tail .head)) rfl V.v3 (codeHd3 X) hcode hge0 hcl hl1 hl2 ?_
  intro f c' pm ctv p3' nx h' tk' oc S' V3 hco hcr
  replace S' : St _ _ _ _ _ (tabL p1 p2 p3' (ex ++ nx)) := S'
  refine hq f c' pm ctv p3' (ex ++ nx) h' tk' S' ⟨V.v1.more fun q hq => List.mem_append_left _ hq, V.v2.more fun q hq => List.mem_append_left _ hq, V3⟩ (codeObj_rec (oc := oc) ?_ hco)
  rcases hcr with hcr | hcr
  · exact S'.base _ _ hcr
  · exact (S'.tab (.tail _ (.tail _ (.tail _ hcr)))).1
theorem r_enterLam {name qual : Str} {params : Arguments} {body : Expr} {scope : Scope} {cl : List (Str × Addr)} {pm ctv : Value} {c' f : Addr} {pos : List Value}
    (binds : List (Str × Value)) (X : Bs w h) (hroom : A.depth < recursionLimit) (ho : h.get? f = some (kla_obj name qual params body scope cl pm c' ctv)) (hcd : h.CodeRec (.ref c') qual)
    (hbind : bindArgs (kla_fn name qual params body scope cl pm (.ref c') ctv) ⟨pos, []⟩ = pure binds) (hloc : ∀ y ∈ binds, scope.names.lookup y.1 = some .local)
    (hco : scope.isCoroutine = false) (hgen : scope.isGenerator = false) (hk : scope.kind = .function) (hcell : ∀ x ∈ scope.names, x.2 ≠ .cell)
    (hb : ∀ h₁ tk₁, St h h.objs.size h₁ binds.reverse [] [] →
      wpAny (model pg w) (A.deeper (envX qual scope h.objs.size f (.ref c') cl)) (eval body (envX qual scope h.objs.size f (.ref c') cl)) Q (fun _ _ => False) ⟨h₁, g, d, tk₁, o⟩) :
    wpAny (model pg w) A (call (.ref f) pos) Q E ⟨h, g, d, tk, o⟩ := by
  refine hide fun Kz kz => ?_
  obtain ⟨X, p, lo, mg, mb, T, _⟩ := X
  refine kz ?_
  clear kz Kz
  refine wpAny_call (kla_callFunE hroom ho rfl hco hgen rfl hcd ?_)
  rw [hbind]
  refine wpAny_pure (wpAny_newFunctionEnv hcell hloc (fun h₁ hns hsb => ⟨T.nolimit.fresh _ hsb, ?_⟩) hk)
  show codeAny _ _ (.expr body (envX qual scope h.objs.size f (.ref c') cl)) _ _
  have hk₁ : ∀ b o, h.get? b = some o → h₁.get? b = some o := fun b o e => hsb.extBut b o (Nat.ne_of_lt (Heap.lt_size e)) (Heap.get?_push_of_some _ e)
  exact kla_codeExpr (wpAny_mono (hb h₁ _ ⟨⟨_, ⟨hns, hk₁, Nat.le_refl _⟩, fun _ _ e => e⟩, News.nil, List.nodup_nil⟩) (fun v s' q => q) fun _ _ q => q.elim)
theorem r_itemN {value slice : Expr} {a : Addr} {items : Array Value} {k : Int} {u : Tok} {v : Value} (hl : h.IsList a items) (h0 : k < 0) (h1 : -(items.size : Int) ≤ k) (hfit : -(2 ^ 63) ≤ k) (hx : items[(k + items.size).toNat]? = some v)
    (hs : subscripted slice false (.ref a) (.int k u) = operate [.ref a, .int k u] (getItem (.ref a) (.int k u)))
    (hq : Q v ⟨h, g, d, tk, o⟩) : wpAny (model prog w) A (subscriptTail value slice (.ref a) (.int k u)) Q E ⟨h, g, d, tk, o⟩ :=
  tail_any hl.typeIs slot_list_getitem.lookup (wpAny_getItem_list_neg hl h0 h1 hfit hx hq) hs
end
end Mine
end -- L16
section -- L18
open PySem PySem.W PyProof.Rows PySem.Calls
set_option Elab.async false
set_option maxRecDepth 100000
set_option maxHeartbeats 4000000
set_option linter.unusedVariables false
namespace Mine
section
variable {prog : Program} {w : World} {A : Around} {E : Value → Shared → Prop} {env : Env} {B : Heap} {L : Addr} {h : Heap} {g : Array GenState} {d : Drawn} {tk : Nat} {o : OsState}
def NoTup (n : String) : Prop := (["enumerate", "zip", "dict_itemiterator", "dict_reverseitemiterator", "odict_iterator", "itertools.zip_longest", "itertools.pairwise"].contains n) = false
theorem noTup_rev : NoTup "list_reverseiterator" := by unfold NoTup; decide
theorem go_plain {target : Expr} {I : Addr} {v : Value} {oI : Obj} {n : String} {vs : Array Value} {s : Shared} {Q : Unit → Shared → Prop} (ho : s.heap.get? I = some oI) (hc : oI.cls = .type n) (hd : oI.data = .fields vs) (hn : NoTup n) (hq : Q () s) :
    wpAny (model prog w) A (letOwnedTupleGo target (.ref I) v) Q E s := by
  unfold letOwnedTupleGo
  cases target <;> first
    | exact wpAny_pure hq
    | (cases v <;> first
        | exact wpAny_pure hq
        | (refine wpAny_bind (wpAny_load ho ?_)
           rw [hc, hd]
           dsimp only
           rw [hn, Bool.false_and, if_neg Bool.false_ne_true]
           exact wpAny_pure hq))
theorem r_forG {target : Expr} {pos : Pos} {iter : Expr} {body : List Stmt} {Q : Flow → Shared → Prop} {σ : Type} {n : Nat} {LF : Heap → Prop} {val : Nat → Value → Prop} {It : Nat → Obj → Prop}
    (lf : σ → List (Str × Value)) (of tf : σ → List (Addr × Obj)) (P : Nat → σ → Prop) (x₀ : σ)
    (hs : ∀ y, foldedSetIterable iter env y = pure y) (ht : ∀ i oI, It i oI → ∃ nm vs, oI.cls = .type nm ∧ oI.data = .fields vs ∧ NoTup nm)
    (hl : ∀ i y h I oI, P i y → St B L h (lf y) ((I, oI) :: of y) (tf y) → LF h)
    (hP : P 0 x₀) (W : ∀ I, Itr prog w A I n LF val It)
    (he : ∀ Ki : Value → Shared → Prop, (∀ I oI h₁ tk₁, It 0 oI → St B L h₁ (lf x₀) ((I, oI) :: of x₀) (tf x₀) → Ki (.ref I) ⟨h₁, g, d, tk₁, o⟩) → wpAny (model prog w) A (eval iter env) (fun v s₁ => wpAny (model prog w) A (pyIter v) Ki E s₁) E ⟨h, g, d, tk, o⟩)
    (step : ∀ i y h tk v I oI, P i y → i < n → val i v → It (i + 1) oI → St B L h (lf y) ((I, oI) :: of y) (tf y) → ∀ (Kp : Shared → Prop), (∀ y' h' tk', P (i + 1) y' → St B L h' (lf y') ((I, oI) :: of y') (tf y') → Kp ⟨h', g, d, tk', o⟩) → ∀ (Qv : Flow → Shared → Prop), (∀ f s, Q f s → Qv f s) →
      wpAny (model prog w) A (assign target env v) (fun _ s₂ => wpAny (model prog w) A (execs body env) (LoopQ Kp Qv) (fun _ _ => False) s₂) (fun _ _ => False) ⟨h, g, d, tk, o⟩)
    (done : ∀ y h tk, P n y → St B L h (lf y) (of y) (tf y) → Q .next ⟨h, g, d, tk, o⟩) :
    wpAny (model prog w) A (exec (.For target iter body [] pos) env) Q E ⟨h, g, d, tk, o⟩ := by
  refine wpAny_For (wpAny_mono (he (fun it s₂ => ∃ I oI h₁ tk₁, it = .ref I ∧ It 0 oI ∧ s₂ = ⟨h₁, g, d, tk₁, o⟩ ∧ St B L h₁ (lf x₀) ((I, oI) :: of x₀) (tf x₀)) fun I oI h₁ tk₁ a b => ⟨I, oI, h₁, tk₁, rfl, a, rfl, b⟩) (fun v s₁ h₁ => wpAny_mono h₁ ?_ fun _ _ e => e) fun _ _ e => e) hs
  rintro _ _ ⟨I, oI, h₁, tk₁, rfl, hI, rfl, S⟩
  refine codeAny_forLoop_any (LInv B L g d o n lf of tf P It I) ?_ (n + 1)
    (.mk 0 x₀ _ _ oI (Nat.zero_le _) hP hI S)
  rintro k s ⟨i, y, h', tk', oI, hi, hp, hIt, Sy⟩
  have hla := hl i y h' _ _ hp Sy
  by_cases hlt : i < n
  · refine (W I).item i h' oI _ _ _ _ _ _ hlt hIt (Sy.get (.head _)) hla fun v h₂ oI' tk₂ hv hIt' hI' hs₂ => ?_
    refine hide fun Kz kz => ?_
    obtain ⟨nm, vs, c1, c2, c3⟩ := ht _ _ hIt'
    refine kz ?_
    clear kz Kz
    refine go_plain hI' c1 c2 c3 ?_
    refine wpAny_mono (step i y h₂ tk₂ v I oI' hp hlt hv hIt' (Sy.upd hs₂ hI') (LInv B L g d o n lf of tf P It I (n + 1 - (i + 1))) (fun y' h' tk' a b => .mk (i + 1) y' h' tk' oI' hlt a hIt' b) Q (fun _ _ q => q)) (fun _ s₂ h₂ => wpAny_mono h₂ (fun f s₃ h₃ => ?_) fun _ _ e => e.elim) fun _ _ e => e.elim
    cases f with
    | next => exact ⟨_, by omega, h₃⟩
    | cont => exact ⟨_, by omega, h₃⟩
    | brk => exact h₃
    | ret v => exact h₃
  · have hin : i = n := by omega
    subst hin
    refine (W I).done h' oI _ _ _ _ _ _ hIt (Sy.get (.head _)) hla fun h₂ tk₂ he₂ => wpAny_execs_nil ?_
    exact done y h₂ _ hp (Sy.drop he₂)
end
end Mine
end -- L18
section -- L19
open PySem PySem.W PyProof.Rows PySem.Calls
set_option Elab.async false
set_option maxRecDepth 100000
set_option maxHeartbeats 4000000
set_option linter.unusedVariables false
namespace Mine
noncomputable def lawDef (P : Params) : Option (List Stmt × Scope) := match (hd.heap_1 P).lookup 135 with
  | some ⟨_, _, .func fd, _⟩ => (match fd.body with
      | .stmts b => some (b, fd.scope)
      | _ => none)
  | _ => none
section
variable {B : Heap} {L : Addr} {h h' : Heap} {l : List (Str × Value)} {own chg chg' tl : List (Addr × Obj)}
theorem St.mkAt {a : Addr} {m : Str → Option Value} {ob : Obj} (S : St B L h l own tl) (hn : h.get? a = none) (hm : ∀ x v, l.lookup x = some v → m x = some v) (F : Fr B L h' m) (N : News B L h' ((a, ob) :: (own ++ tl))) : St B L h' l ((a, ob) :: own) tl := by
  refine ⟨⟨m, F, hm⟩, N, ?_⟩
  rw [List.cons_append, List.map_cons, List.nodup_cons]
  refine ⟨fun hmem => ?_, S.nd⟩
  refine hide fun Kz kz => ?_
  obtain ⟨p, hp, e⟩ := List.mem_map.mp hmem
  refine kz ?_
  clear kz Kz
  have := (S.nw p hp).1
  dsimp only at e
  rw [e, hn] at this; cases this
theorem St.many (S : St B L h l (chg ++ own) tl) (ha : chg'.map (·.1) = chg.map (·.1)) (hk : ∀ c o, c ∉ chg.map (·.1) → h.get? c = some o → h'.get? c = some o) (hc : ∀ p ∈ chg', h'.get? p.1 = some p.2) : St B L h' l (chg' ++ own) tl := by
  refine hide fun Kz kz => ?_
  obtain ⟨m, F, hm⟩ := S.fr
  refine kz ?_
  clear kz Kz
  have old : ∀ a ∈ chg.map (·.1), a ≠ L ∧ B.get? a = none := fun a ha => by
    refine hide fun Kz kz => ?_
    obtain ⟨p, hp, rfl⟩ := List.mem_map.mp ha
    refine kz ?_
    clear kz Kz
    exact (S.nw p (List.mem_append_left _ (List.mem_append_left _ hp))).2
  have nd := S.nd
  refine ⟨⟨m, ⟨?_, fun b ob e => hk b ob (fun hb => ?_) (F.keep b ob e), F.above⟩, hm⟩, fun p hp => ?_, ?_⟩
  · refine hide fun Kz kz => ?_
    obtain ⟨oL, es, ep, e, r⟩ := F.ns
    refine kz ?_
    clear kz Kz
    exact ⟨oL, es, ep, hk _ _ (fun hb => (old _ hb).1 rfl) e, r⟩
  · rw [(old _ hb).2] at e; cases e
  · rw [List.append_assoc] at hp
    rcases List.mem_append.mp hp with hp | hp
    · have : p.1 ∈ chg.map (·.1) := by rw [← ha]; exact List.mem_map_of_mem (f := (·.1)) hp
      exact ⟨hc p hp, old _ this⟩
    · have y := S.nw p (by rw [List.append_assoc]; exact List.mem_append_right _ hp)
      refine ⟨hk _ _ (fun hb => ?_) y.1, y.2⟩
      rw [List.append_assoc, List.map_append, List.nodup_append] at nd
      exact nd.2.2 p.1 hb p.1 (List.mem_map_of_mem (f := (·.1)) hp) rfl
  · rw [List.append_assoc, List.map_append, ha, ← List.map_append, ← List.append_assoc]; exact nd
theorem St.dropMany (S : St B L h l (chg ++ own) tl) (hk : ∀ c o, c ∉ chg.map (·.1) → h.get? c = some o → h'.get? c = some o) : St B L h' l own tl := by
  have old : ∀ a ∈ chg.map (·.1), a ≠ L ∧ B.get? a = none := fun a ha => by
    obtain ⟨p, hp, rfl⟩ := List.mem_map.mp ha
    exact (S.nw p (List.mem_append_left _ (List.mem_append_left _ hp))).2
  have nd := S.nd
  rw [List.append_assoc, List.map_append, List.nodup_append] at nd
  obtain ⟨m, F, hm⟩ := S.fr
  refine ⟨⟨m, ⟨?_, fun b ob e => hk b ob (fun hb => ?_) (F.keep b ob e), F.above⟩, hm⟩, fun p hp => ?_, nd.2.1⟩
  · obtain ⟨oL, es, ep, e, r⟩ := F.ns
    exact ⟨oL, es, ep, hk _ _ (fun hb => (old _ hb).1 rfl) e, r⟩
  · rw [(old _ hb).2] at e; cases e
  · have y := S.nw p (by rw [List.append_assoc]; exact List.mem_append_right _ hp)
    exact ⟨hk _ _ (fun hb => nd.2.2 p.1 hb p.1 (List.mem_map_of_mem (f := (·.1)) hp) rfl) y.1, y.2⟩
theorem St.slots {oL : Obj} {sl : Array (Option Value)} (S : St B L h l own tl) (hx : Heap.ExtBut L h h') (h0 : h.get? L = some oL) (h1 : h'.get? L = some { oL with slots := sl }) : St B L h' l own tl := by
  refine hide fun Kz kz => ?_
  obtain ⟨m, F, hm⟩ := S.fr
  refine kz ?_
  clear kz Kz
  refine ⟨⟨m, ⟨?_, fun b ob e => hx b ob (fun q => ?_) (F.keep b ob e), F.above⟩, hm⟩, fun p hp => ⟨hx _ _ (S.nw p hp).2.1 (S.nw p hp).1, (S.nw p hp).2⟩, S.nd⟩
  · refine hide fun Kz kz => ?_
    obtain ⟨o, es, ep, e, hd, r⟩ := F.ns
    refine kz ?_
    clear kz Kz
    rw [h0] at e
    cases e
    exact ⟨_, es, ep, h1, hd, r⟩
  · have := kts_self F
    rw [← q, e] at this; cases this
theorem swapP (a b c : List (Addr × Obj)) : (b ++ (a ++ c)).Perm (a ++ (b ++ c)) := by
  rw [← List.append_assoc, ← List.append_assoc]
  exact List.perm_append_comm.append_right c
theorem St.re {own₂ tl₂ : List (Addr × Obj)} (S : St B L h l own tl) (hp : (own₂ ++ tl₂).Perm (own ++ tl)) : St B L h l own₂ tl₂ :=
  ⟨S.fr, fun p m => S.nw p (hp.mem_iff.mp m), (hp.map _).nodup_iff.mpr S.nd⟩
theorem St.frame (S : St B L h l own tl) : ∃ oL, h.get? L = some oL ∧ (∀ vs, oL.data ≠ .fields vs) ∧ oL.isFreed = false := by
  refine hide fun Kz kz => ?_
  obtain ⟨m, F, hm⟩ := S.fr
  obtain ⟨o, es, ep, e, hd, r⟩ := F.ns
  refine kz ?_
  clear kz Kz
  refine ⟨o, e, fun vs q => ?_, ?_⟩
  · rw [hd] at q; cases q
  · refine hide fun Kz kz => ?_
    obtain ⟨c, dd, data, sl⟩ := o
    refine kz ?_
    clear kz Kz
    dsimp only at hd
    subst hd
    rfl
end
section
variable {prog : Program} {w : World} {M : Model} {A : Around} {E : Value → Shared → Prop} {env : Env} {B : Heap} {L : Addr} {h h' : Heap} {g : Array GenState} {d : Drawn} {tk : Nat} {o : OsState} {l : List (Str × Value)} {own own' tl : List (Addr × Obj)} {Q : Value → Shared → Prop} {s : Shared}
theorem r_slice {value slice : Expr} {a : Addr} {vs : List Value} {vl vu : Value} {lo hi : Option Int} (S : St B L h l own tl) (hl : h.IsList a vs.toArray) (pl : IsPart vl lo) (pu : IsPart vu hi)
    (hs : subscripted slice false (.ref a) (.ref h.objs.size) = operate [.ref h.objs.size, .ref a] (getItem (.ref a) (.ref h.objs.size))) (ht : ∀ r, letTemporaryGo value (.ref a) r = pure ()) (hz : vs.length ≤ 1000000)
    (hq : ∀ D h', St B L h' l ((D, lst (slicePick vs.toArray lo hi none).toList 0) :: own) tl → Q (.ref D) ⟨h', g, d, tk, o⟩) :
    wpAny (model prog w) A (subscriptTail value slice (.ref a) (.ref h.objs.size)) Q E ⟨h.push { cls := .type "slice", data := .fields #[vl, vu, .none] }, g, d, tk, o⟩ := by
  refine hide fun Kz kz => ?_
  obtain ⟨m, F, hm⟩ := S.fr
  refine kz ?_
  clear kz Kz
  refine slice_list (s := ⟨h, g, d, tk, o⟩) F S.nw hl pl pu (fun h' F' N' => hq _ h' (S.mkAt ?_ hm F' ?_)) hs ht (by rw [List.size_toArray, sizeLine_eq]; omega)
  · exact Heap.get?_none_of_le (Nat.le_succ _)
  · simpa using N'
theorem r_addL {a b : Addr} {vs ws : List Value} (S : St B L h l own tl) (ha : h.IsList a vs.toArray) (hb : h.IsList b ws.toArray) (hz : vs.length + ws.length ≤ 1000000)
    (hq : ∀ D h', St B L h' l ((D, lst (vs ++ ws) 0) :: own) tl → Q (.ref D) ⟨h', g, d, tk, o⟩) : wpAny (model prog w) A (binaryOp .Add (.ref a) (.ref b)) Q E ⟨h, g, d, tk, o⟩ := by
  refine hide fun Kz kz => ?_
  obtain ⟨m, F, hm⟩ := S.fr
  refine kz ?_
  clear kz Kz
  exact add_lists (hsz := by rw [sizeLine_eq]; omega) F S.nw ha hb fun h' F' N' => hq _ h' (S.mkAt (none_size h) hm F' N')
theorem r_sum {a : Addr} {vs : List Value} {ns : List Int} (S : St B L h l own tl) (hh : A.handled = none) (ha : h.IsList a vs.toArray) (hi : IntsAre vs ns)
    (hq : ∀ i t h' tk', St B L h' l own tl → Q (.int i t) ⟨h', g, d, tk', o⟩) : wpAny (model prog w) A (call (.builtin "sum") [.ref a]) Q E ⟨h, g, d, tk, o⟩ := by
  obtain ⟨xs, e⟩ := hi.allInts.items
  refine sum_intListG hh (xs := xs) (by rw [← e]; exact ha) fun h' tk' t' hk => hq _ _ h' tk' (S.stays hk)
theorem r_dict0 {pos : Pos} (S : St B L h l own tl) (hq : ∀ D h', St B L h' l ((D, { cls := .type "dict", data := .dict #[] }) :: own) tl → Q (.ref D) ⟨h', g, d, tk, o⟩) : wpAny M A (eval (.Dict [] [] pos) env) Q E ⟨h, g, d, tk, o⟩ :=
  wpAny_Dict_empty (hq _ _ (S.push { cls := .type "dict", data := .dict #[] }))
theorem r_part0 (hq : Q .none s) : wpAny M A (evalPart none env) Q E s := wpAny_pure hq
theorem r_part1 {e : Expr} (hq : wpAny M A (eval e env) Q E s) : wpAny M A (evalPart (some e) env) Q E s := hq
def IsD (ob : Obj) (f : Int → Option Value) (n : Nat) : Prop := ∃ es ep, ob.cls = .type "dict" ∧ ob.data = .dict es ep ∧ IntKeys es ∧ (∀ k, findBy Value.isInt es k = f k) ∧ es.size ≤ n
theorem IsD.map {a : Addr} {ob : Obj} {f : Int → Option Value} {n : Nat} (x : IsD ob f n) (ho : h.get? a = some ob) : h.IntMap a f := let ⟨es, ep, c, e, k, y, _⟩ := x; ⟨ob, es, ep, ho, c, e, k, y⟩
theorem IsD.le {a : Addr} {ob : Obj} {f : Int → Option Value} {n : Nat} (x : IsD ob f n) (ho : h.get? a = some ob) : h.DictLe a n := by
  refine hide fun Kz kz => ?_
  obtain ⟨es, ep, c, e, k, y, z⟩ := x
  refine kz ?_
  clear kz Kz
  intro o' es' ep' ho' hd'
  rw [ho] at ho'
  cases ho'
  rw [e] at hd'
  cases hd'
  exact z
theorem IsD.of {a : Addr} {f : Int → Option Value} {n : Nat} (x : h.IntMap a f) (y : h.DictLe a n) : ∃ ob, h.get? a = some ob ∧ IsD ob f n :=
  let ⟨ob, es, ep, ho, c, e, k, z⟩ := x
  ⟨ob, ho, es, ep, c, e, k, z, y ob es ep ho e⟩
theorem isD_nil : IsD { cls := .type "dict", data := .dict #[] } (fun _ => none) 0 := ⟨#[], 0, rfl, rfl, fun e he => by simp at he, fun k => by simp [findBy], Nat.le_refl _⟩
theorem r_setD {a : Addr} {ob : Obj} {f : Int → Option Value} {n : Nat} {k : Int} {t : Tok} {v : Value} {F : Obj → List (Addr × Obj)} {Q : Unit → Shared → Prop} (S : St B L h l own tl) (U : AtF a ob own F) (x : IsD ob f n) (hn : n ≤ 100)
    (hq : ∀ h' ob' tk', IsD ob' (fun x => if x = k then some v else f x) (n + 1) → St B L h' l (F ob') tl → Q () ⟨h', g, d, tk', o⟩) : wpAny (model prog w) A (setItem (.ref a) (.int k t) v) Q E ⟨h, g, d, tk, o⟩ := by
  have ho := S.get (U.at ob).mem
  refine wpAny_setItem_intMap_le (x.map ho) (x.le ho) (by rw [sizeLine_eq]; omega) fun h' hm hz hs => ?_
  refine hide fun Kz kz => ?_
  obtain ⟨ob', ho', x'⟩ := IsD.of hm hz
  refine kz ?_
  clear kz Kz
  exact hq h' ob' _ x' (S.at (U.at ob') hs.extBut ho')
theorem r_neT {a b la lb : Addr} {vs ws : List Value} {ns : List Int} {e1 e2 : Nat} {x y : Int} {t1 t2 t3 t4 : Tok} (ha : h.get? a = some (tup [.ref la, .int x t1, .int y t2])) (hb : h.get? b = some (tup [.ref lb, .int x t3, .int y t4]))
    (hla : h.get? la = some (lst vs e1)) (hlb : h.get? lb = some (lst ws e2)) (hi : IntsAre vs ns) (hj : IntsAre ws ns) (hu : A.units + 64 < cLine) (hq : Q (.bool false) ⟨h, g, d, tk, o⟩) :
    wpAny (model prog w) A (compareOp .NotEq (.ref a) (.ref b)) Q E ⟨h, g, d, tk, o⟩ := by
  have r1 : Reads h (.ref la) (.list (ns.map PyData.int)) [la] := reads_newData ⟨_, hla, rfl, e1, rfl⟩ (ke_carried hi)
  have r2 : Reads h (.ref lb) (.list (ns.map PyData.int)) [lb] := reads_newData ⟨_, hlb, rfl, e2, rfl⟩ (ke_carried hj)
  have s1 : Reads h (.ref a) (.tuple [.list (ns.map PyData.int), .int x, .int y]) _ := reads_tuple_at ha rfl rfl (.cons r1 (.cons (.int _ _) (.cons (.int _ _) .nil)))
  have s2 : Reads h (.ref b) (.tuple [.list (ns.map PyData.int), .int x, .int y]) _ := reads_tuple_at hb rfl rfl (.cons r2 (.cons (.int _ _) (.cons (.int _ _) .nil)))
  have hsh : SeqAt.shaped (.tuple [.list (ns.map PyData.int), .int x, .int y]) = true := by
    simp [SeqAt.shaped, PyData.canLay0, PyData.canLayAll0, PyData.depth, PyData.depthAll, ke_canLayAll0, ke_depthAll]
  refine ne_dataH s1 s2 hsh hsh hu ?_
  have e : PyData.eqv (.tuple [.list (ns.map PyData.int), .int x, .int y]) (.tuple [.list (ns.map PyData.int), .int x, .int y]) = true := by
    have := ke_same ns ns
    have e0 : PyData.eqv (.list (ns.map PyData.int)) (.list (ns.map PyData.int)) = true := by
      rw [← SeqAt.same_eq_eqv _ _ (SeqAt.noMix_of_shape (.list .int) rfl _ _ (list_map_has fun _ => rfl) (list_map_has fun _ => rfl)), ke_same]
      simp
    simp [PyData.eqv, PyData.eqvAll] at e0 ⊢
    exact e0
  rw [e]
  exact hq
end
section
variable {prog : Program} {w : World} {M : Model} {A : Around} {E : Value → Shared → Prop} {env : Env} {B : Heap} {L C : Addr} {h h' : Heap} {g : Array GenState} {d : Drawn} {tk : Nat} {o : OsState} {l : List (Str × Value)} {own own' tl : List (Addr × Obj)} {Q : Value → Shared → Prop} {s : Shared}
abbrev zpO (TI TO : Addr) (f0 : Value) : Obj := { cls := .type "zip", data := .fields #[f0, .bool false, .bool false, .ref TI, .ref TO] }
def IsIt (ob : Obj) (r : Addr) (i : Nat) : Prop := ob.cls = .type "list_iterator" ∧ ob.data = .fields #[.ref r, .int i 0]
theorem r_zip {a b : Addr} {xs ys : Array Value} (S : St B L h l own tl) (ha : h.IsList a xs) (hb : h.IsList b ys)
    (hq : ∀ z TO i1 i2 TI o1 o2 h', IsIt o1 a 0 → IsIt o2 b 0 → St B L h' l ((z, zpO TI TO .none) :: (TO, tup [.none, .none]) :: (i1, o1) :: (i2, o2) :: (TI, tup [.ref i1, .ref i2]) :: own) tl → Q (.ref z) ⟨h', g, d, tk, o⟩) :
    wpAny (model prog w) A (call (.type "zip") [.ref a, .ref b]) Q E ⟨h, g, d, tk, o⟩ := by
  refine call_zip_2 (s := ⟨h, g, d, tk, o⟩) ha hb fun h' hz hTI hTO h1 h2 hsz hk => ?_
  dsimp only at hz hTI hTO h1 h2 hsz hk
  refine hide fun Kz kz => ?_
  obtain ⟨o1, e1, c1, d1⟩ := h1
  obtain ⟨o2, e2, c2, d2⟩ := h2
  refine kz ?_
  clear kz Kz
  have S' := S.stays hk
  have fr : ∀ k, h.get? (h.objs.size + k) = none := fun k => Heap.get?_none_of_le (Nat.le_add_right _ _)
  refine hq (h.objs.size + 4) (h.objs.size + 3) h.objs.size (h.objs.size + 1) (h.objs.size + 2) o1 o2 h' ⟨c1, d1⟩ ⟨c2, d2⟩ ⟨S'.fr, fun p hp => ?_, ?_⟩
  · have new : ∀ k ob, h'.get? (h.objs.size + k) = some ob → h'.get? (h.objs.size + k) = some ob ∧ h.objs.size + k ≠ L ∧ B.get? (h.objs.size + k) = none := fun k ob e => by
      refine hide fun Kz kz => ?_
      obtain ⟨m, F, hm⟩ := S.fr
      refine kz ?_
      clear kz Kz
      refine ⟨e, fun q => ?_, ?_⟩
      · refine hide fun Kz kz => ?_
        obtain ⟨_, _, _, q', _⟩ := F.ns
        refine kz ?_
        clear kz Kz
        rw [← q, fr] at q'; cases q'
      · cases q : B.get? (h.objs.size + k) with
        | none => rfl
        | some ob => have := S.keep _ _ q; rw [fr] at this; cases this
    simp only [List.cons_append] at hp
    rcases List.mem_cons.mp hp with rfl | hp
    · exact new 4 _ hz
    rcases List.mem_cons.mp hp with rfl | hp
    · exact new 3 _ hTO
    rcases List.mem_cons.mp hp with rfl | hp
    · exact new 0 _ e1
    rcases List.mem_cons.mp hp with rfl | hp
    · exact new 1 _ e2
    rcases List.mem_cons.mp hp with rfl | hp
    · exact new 2 _ hTI
    exact S'.nw p hp
  · have lt : ∀ a ∈ (own ++ tl).map (·.1), a < h.objs.size := fun a ha => by
      refine hide fun Kz kz => ?_
      obtain ⟨p, hp, rfl⟩ := List.mem_map.mp ha
      refine kz ?_
      clear kz Kz
      exact Heap.lt_size (S.nw p hp).1
    simp only [List.cons_append, List.map_cons, List.nodup_cons, List.mem_cons]
    refine ⟨?_, ?_, ?_, ?_, ?_, S.nd⟩
    · rintro (q | q | q | q | q)
      · exact absurd (show (h.objs.size + 4 : Nat) = h.objs.size + 3 from q) (by omega)
      · exact absurd (show (h.objs.size + 4 : Nat) = h.objs.size from q) (by omega)
      · exact absurd (show (h.objs.size + 4 : Nat) = h.objs.size + 1 from q) (by omega)
      · exact absurd (show (h.objs.size + 4 : Nat) = h.objs.size + 2 from q) (by omega)
      · have := lt _ q; omega
    · rintro (q | q | q | q)
      · exact absurd (show (h.objs.size + 3 : Nat) = h.objs.size from q) (by omega)
      · exact absurd (show (h.objs.size + 3 : Nat) = h.objs.size + 1 from q) (by omega)
      · exact absurd (show (h.objs.size + 3 : Nat) = h.objs.size + 2 from q) (by omega)
      · have := lt _ q; omega
    · rintro (q | q | q)
      · exact absurd (show (h.objs.size : Nat) = h.objs.size + 1 from q) (by omega)
      · exact absurd (show (h.objs.size : Nat) = h.objs.size + 2 from q) (by omega)
      · have := lt _ q; omega
    · rintro (q | q)
      · exact absurd (show (h.objs.size + 1 : Nat) = h.objs.size + 2 from q) (by omega)
      · have := lt _ q; omega
    · intro q
      have := lt _ q; omega
theorem r_czip {σ : Type} {elt iter : Expr} {elts : List Expr} {k : Nat} {tpos pos : Pos} {scope : Scope} {R : Result → Shared → Prop} {z TO i1 i2 TI a b D : Addr} {u1 u2 : Value} {o1 o2 : Obj} {xs ys : Array Value} {n : Nat} (lf : σ → List (Str × Value)) (of tf : σ → List (Addr × Obj)) (P : Nat → σ → Prop) (x₀ : σ)
    (hh : A.handled = none) (hn1 : n = min xs.size ys.size) (ha : ∀ y, ∃ ob, (a, ob) ∈ of y ∧ ob.cls = .type "list" ∧ ∃ e, ob.data = .seq xs e) (hb : ∀ y, ∃ ob, (b, ob) ∈ of y ∧ ob.cls = .type "list" ∧ ∃ e, ob.data = .seq ys e)
    (hP : P 0 x₀) (I1 : IsIt o1 a 0) (I2 : IsIt o2 b 0) (S : St B C h (lf x₀) ((z, zpO TI TO .none) :: (TO, tup [u1, u2]) :: (i1, o1) :: (i2, o2) :: (TI, tup [.ref i1, .ref i2]) :: of x₀) (tf x₀))
    (step : ∀ i y h tk x1 x2 T own, P i y → i < n → xs[i]? = some x1 → ys[i]? = some x2 → St B C h (lf y) ((T, tup [x1, x2]) :: of y) (own ++ tf y) → ∀ (Kp : Shared → Prop), (∀ y' h' tk', P (i + 1) y' → St B C h' (lf y') ((T, tup [x1, x2]) :: of y') (own ++ tf y') → Kp ⟨h', g, d, tk', o⟩) →
      wpAny (model prog w) A (assign (.Tuple elts k tpos) env (.ref T)) (fun _ s₂ => wpAny (model prog w) A (eval elt env) (fun x s₄ => wpAny (model prog w) A (call (.builtin "list.append") [.ref D, x]) (fun _ s₅ => Kp s₅) (fun _ _ => False) s₄) (fun _ _ => False) s₂) (fun _ _ => False) ⟨h, g, d, tk, o⟩)
    (done : ∀ y h tk, P n y → St B C h (lf y) (of y) (tf y) → R (.ok .next) ⟨h, g, d, tk, o⟩) :
    codeAny (model prog w) A (.compStart (.ListComp elt [⟨.Tuple elts k tpos, iter, [], 0⟩] scope pos) 0 (.ref z) (.ref D) env) R ⟨h, g, d, tk, o⟩ := by
  have dist : ∀ {h l own tl u1 u2} {f0 : Value} {o1 o2 : Obj} {p : Addr × Obj} (S : St B C h l ((z, zpO TI TO f0) :: (TO, tup [u1, u2]) :: (i1, o1) :: (i2, o2) :: (TI, tup [.ref i1, .ref i2]) :: own) tl), p ∈ own → p.1 ≠ z ∧ p.1 ≠ TO ∧ p.1 ≠ i1 ∧ p.1 ≠ i2 := by
    intro h l own tl u1 u2 f0 o1 o2 p S hp
    have nd := S.nd
    have hm : p.1 ∈ (own ++ tl).map (·.1) := List.mem_map_of_mem (f := (·.1)) (List.mem_append_left _ hp)
    simp only [List.cons_append, List.map_cons, List.nodup_cons, List.mem_cons, not_or] at nd
    refine hide fun Kz kz => ?_
    obtain ⟨⟨_, _, _, _, n1⟩, ⟨_, _, _, n2⟩, ⟨_, _, n3⟩, ⟨_, n4⟩, _⟩ := nd
    refine kz ?_
    clear kz Kz
    exact ⟨fun e => n1 (e ▸ hm), fun e => n2 (e ▸ hm), fun e => n3 (e ▸ hm), fun e => n4 (e ▸ hm)⟩
  have apart : ∀ {h l y tl u1 u2} {f0 : Value} {o1 o2 : Obj} (S : St B C h l ((z, zpO TI TO f0) :: (TO, tup [u1, u2]) :: (i1, o1) :: (i2, o2) :: (TI, tup [.ref i1, .ref i2]) :: of y) tl), ZipApart z TI TO i1 i2 a b := by
    intro h l y tl u1 u2 f0 o1 o2 S
    refine hide fun Kz kz => ?_
    obtain ⟨oa, ma, _⟩ := ha y
    obtain ⟨ob, mb, _⟩ := hb y
    refine kz ?_
    clear kz Kz
    have da := dist S ma
    have db := dist S mb
    have nd := S.nd
    simp only [List.cons_append, List.map_cons, List.nodup_cons, List.mem_cons, not_or] at nd
    refine hide fun Kz kz => ?_
    obtain ⟨⟨z1, z2, z3, z4, _⟩, ⟨y1, y2, y3, _⟩, ⟨w1, w2, _⟩, ⟨v1, _⟩, _⟩ := nd
    refine kz ?_
    clear kz Kz
    exact ⟨Ne.symm z4, Ne.symm z1, Ne.symm z2, Ne.symm z3, Ne.symm y3, Ne.symm w2, Ne.symm v1, y1, y2, w1, da.1, da.2.1, da.2.2.1, da.2.2.2, db.1, db.2.1, db.2.2.1, db.2.2.2⟩
  have loop : codeAny (model prog w) A (.compLoop (.ListComp elt [⟨.Tuple elts k tpos, iter, [], 0⟩] scope pos) 0 (.ref z) (.ref D) env) R ⟨h, g, d, tk, o⟩ := by
    refine kcp_loop (fun kk s => ∃ i y h' tk' o1 o2 u1 u2, s = ⟨h', g, d, tk', o⟩ ∧ kk = n + 1 - i ∧ i ≤ n ∧ P i y ∧ IsIt o1 a i ∧ IsIt o2 b i ∧ St B C h' (lf y) ((z, zpO TI TO .none) :: (TO, tup [u1, u2]) :: (i1, o1) :: (i2, o2) :: (TI, tup [.ref i1, .ref i2]) :: of y) (tf y)) ?_ (n + 1)
      ⟨0, x₀, _, _, o1, o2, u1, u2, rfl, rfl, Nat.zero_le _, hP, I1, I2, S⟩
    rintro kk s ⟨i, y, h', tk', o1, o2, u1, u2, rfl, rfl, hi, hp, J1, J2, Sy⟩
    have D' := apart Sy
    refine hide fun Kz kz => ?_
    obtain ⟨oa, ma, ca, ea, da⟩ := ha y
    obtain ⟨ob, mb, cb, eb, db⟩ := hb y
    refine kz ?_
    clear kz Kz
    have hla : h'.IsList a xs := ⟨oa, Sy.get (.tail _ (.tail _ (.tail _ (.tail _ (.tail _ ma))))), ca, ea, da⟩
    have hlb : h'.IsList b ys := ⟨ob, Sy.get (.tail _ (.tail _ (.tail _ (.tail _ (.tail _ mb))))), cb, eb, db⟩
    have gz : IsZip h' z TI TO .none := Sy.get (.head _)
    have gTO : IsPair h' TO u1 u2 := Sy.get (.tail _ (.head _))
    have g1 : h'.IsListIter i1 a i := ⟨o1, Sy.get (.tail _ (.tail _ (.head _))), J1.1, J1.2⟩
    have g2 : h'.IsListIter i2 b i := ⟨o2, Sy.get (.tail _ (.tail _ (.tail _ (.head _)))), J2.1, J2.2⟩
    have gTI : IsPair h' TI (.ref i1) (.ref i2) := Sy.get (.tail _ (.tail _ (.tail _ (.tail _ (.head _)))))
    by_cases hlt : i < n
    · have hx : i < xs.size := by omega
      have hy : i < ys.size := by omega
      refine wpAny_pyNext_zip_item (s := ⟨h', g, d, tk', o⟩) D' gz gTI gTO g1 g2 hla hlb (Array.getElem?_eq_getElem hx) (Array.getElem?_eq_getElem hy) fun h₂ a1 a2 a3 a4 a5 a6 hk => ?_
      refine hide fun Kz kz => ?_
      obtain ⟨o1', e1', c1', d1'⟩ := a3
      obtain ⟨o2', e2', c2', d2'⟩ := a4
      refine kz ?_
      clear kz Kz
      have S1 := St.many (chg := [(z, zpO TI TO .none), (TO, tup [u1, u2]), (i1, o1), (i2, o2)]) (chg' := [(z, zpO TI TO (rawInt h'.objs.size)), (TO, tup [xs[i], ys[i]]), (i1, o1'), (i2, o2')]) (own := (TI, tup [.ref i1, .ref i2]) :: of y) Sy rfl
        (fun c ob hc e => by simp only [List.map_cons, List.map_nil, List.mem_cons, not_or] at hc; exact hk c ob hc.1 hc.2.1 hc.2.2.1 hc.2.2.2.1 e)
        (fun p hp => by
          rcases List.mem_cons.mp hp with rfl | hp
          · exact a1
          rcases List.mem_cons.mp hp with rfl | hp
          · exact a2
          rcases List.mem_cons.mp hp with rfl | hp
          · exact e1'
          rcases List.mem_cons.mp hp with rfl | hp
          · exact e2'
          cases hp)
      refine wpAny_letOwnedTupleGo_zip (s := ⟨h₂, g, d, tk', o⟩) a1 fun h₃ hz₃ hs₃ => ?_
      have hTz : h'.objs.size ≠ z := Nat.ne_of_gt (Heap.lt_size gz)
      have S2 : St B C h₃ (lf y) ((z, zpO TI TO .none) :: (TO, tup [xs[i], ys[i]]) :: (i1, o1') :: (i2, o2') :: (TI, tup [.ref i1, .ref i2]) :: of y) (tf y) := S1.upd hs₃ hz₃
      have S3 : St B C h₃ (lf y) ((h'.objs.size, tup [xs[i], ys[i]]) :: ([(z, zpO TI TO .none), (TO, tup [xs[i], ys[i]]), (i1, o1'), (i2, o2'), (TI, tup [.ref i1, .ref i2])] ++ of y)) (tf y) := by
        refine ⟨S2.fr, fun p hp => ?_, ?_⟩
        · rw [List.cons_append] at hp
          rcases List.mem_cons.mp hp with rfl | hp
          · refine ⟨hs₃.extBut _ _ hTz a5, fun e => ?_, ?_⟩
            · refine hide fun Kz kz => ?_
              obtain ⟨m, F, _⟩ := Sy.fr
              obtain ⟨_, _, _, q, _⟩ := F.ns
              refine kz ?_
              clear kz Kz
              dsimp only at e
              rw [← e, none_size] at q; cases q
            · cases q : B.get? h'.objs.size with
              | none => rfl
              | some ob => have := Sy.keep _ _ q; rw [none_size] at this; cases this
          · exact S2.nw p hp
        · rw [List.cons_append, List.map_cons, List.nodup_cons]
          refine ⟨fun hm => ?_, S2.nd⟩
          have hm' : h'.objs.size ∈ (((z, zpO TI TO .none) :: (TO, tup [u1, u2]) :: (i1, o1) :: (i2, o2) :: (TI, tup [.ref i1, .ref i2]) :: of y) ++ tf y).map (·.1) := by simpa using hm
          refine hide fun Kz kz => ?_
          obtain ⟨p, hp, e⟩ := List.mem_map.mp hm'
          refine kz ?_
          clear kz Kz
          have := (Sy.nw p hp).1
          rw [e, none_size] at this; cases this
      refine wpAny_mono (step i y h₃ _ _ _ _ _ hp hlt (Array.getElem?_eq_getElem hx) (Array.getElem?_eq_getElem hy) (S3.re (own₂ := (h'.objs.size, tup [xs[i], ys[i]]) :: of y) (tl₂ := [(z, zpO TI TO .none), (TO, tup [xs[i], ys[i]]), (i1, o1'), (i2, o2'), (TI, tup [.ref i1, .ref i2])] ++ tf y) (by simpa using swapP [(z, zpO TI TO .none), (TO, tup [xs[i], ys[i]]), (i1, o1'), (i2, o2'), (TI, tup [.ref i1, .ref i2])] (of y) (tf y))) (fun s₅ => ∃ y' h'' tk'', s₅ = (⟨h'', g, d, tk'', o⟩ : Shared) ∧ P (i + 1) y' ∧ St B C h'' (lf y') ((h'.objs.size, tup [xs[i], ys[i]]) :: of y') ([(z, zpO TI TO .none), (TO, tup [xs[i], ys[i]]), (i1, o1'), (i2, o2'), (TI, tup [.ref i1, .ref i2])] ++ tf y')) (fun y' h' tk' a b => ⟨y', h', tk', rfl, a, b⟩)) (fun _ s₂ h₂ => wpAny_mono h₂ (fun x s₄ h₄ => wpAny_mono h₄ (fun _ s₅ h₅ => ?_) fun _ _ e => e.elim) fun _ _ e => e.elim) fun _ _ e => e.elim
      refine hide fun Kz kz => ?_
      obtain ⟨y', h'', tk'', rfl, hp', hs'⟩ := h₅
      refine kz ?_
      clear kz Kz
      exact ⟨_, by omega, i + 1, y', h'', tk'', o1', o2', _, _, rfl, rfl, hlt, hp', ⟨c1', d1'⟩, ⟨c2', d2'⟩, (hs'.sub (own' := of y') (.cons _ (.refl _))).re (show (([(z, zpO TI TO .none), (TO, tup [xs[i], ys[i]]), (i1, o1'), (i2, o2'), (TI, tup [.ref i1, .ref i2])] ++ of y') ++ tf y').Perm _ from by rw [List.append_assoc]; exact (swapP _ _ _).symm)⟩
    · have hin : i = n := by omega
      subst hin
      refine wpAny_pyNext_zip_end (s := ⟨h', g, d, tk', o⟩) hh D' gz gTI gTO g1 g2 hla hlb ?_ fun h₂ hk => ?_
      · rcases Nat.le_total xs.size ys.size with q | q
        · exact .inl (Array.getElem?_eq_none (by omega))
        · exact .inr (Array.getElem?_eq_none (by omega))
      · exact done y h₂ _ hp ((St.dropMany (chg := [(z, zpO TI TO .none), (TO, tup [u1, u2]), (i1, o1), (i2, o2)]) (own := (TI, tup [.ref i1, .ref i2]) :: of y) Sy (fun c ob hc e => by simp only [List.map_cons, List.map_nil, List.mem_cons, not_or] at hc; exact hk c ob hc.1 hc.2.1 hc.2.2.1 hc.2.2.2.1 e)).sub (.cons _ (.refl _)))
  exact codeAny_compStart_list loop (wpAny_pyIter_zip (s := ⟨h, g, d, tk, o⟩) (S.get (.head _)) loop)
end
end Mine
end -- L19
section -- PE
set_option Elab.async false
set_option linter.unusedVariables false
namespace Mine
theorem shr_nonneg : ∀ {l : List Rl}, (∀ q ∈ l, 1 ≤ q.s) → 0 ≤ shr l
  | [], _ => by simp [shr]
  | r :: l, h => by
    have h1 := h r (.head _)
    have h2 := shr_nonneg (l := l) fun q hq => h q (.tail _ hq)
    rw [shr]; omega
theorem shr_take_mono {l : List Rl} (hs : ∀ q ∈ l, 1 ≤ q.s) {i j : Nat} (h : i ≤ j) : shr (l.take i) ≤ shr (l.take j) := by
  rw [show j = i + (j - i) by omega, List.take_add, shr_append]
  have := shr_nonneg (l := (l.drop i).take (j - i)) fun q hq => hs q (List.mem_of_mem_drop (List.mem_of_mem_take hq))
  omega
theorem st_mono {l : List Rl} (hs : ∀ q ∈ l, 1 ≤ q.s) {st : List Int} {u : Int} {lo : Nat} (hu : 0 < u) (hst : ∀ j, j < l.length → st[lo + j]? = some (u * shr (l.take j))) :
    ∀ i j : Nat, (lo : Int) ≤ i → i ≤ j → (j : Int) < ((lo + l.length : Nat) : Int) → st.getD i 0 ≤ st.getD j 0 := by
  intro i j h1 h2 h3
  have a := hst (i - lo) (by omega)
  have b := hst (j - lo) (by omega)
  rw [show lo + (i - lo) = i by omega] at a
  rw [show lo + (j - lo) = j by omega] at b
  rw [List.getD_eq_getElem?_getD, List.getD_eq_getElem?_getD, a, b]
  exact Int.mul_le_mul_of_nonneg_left (shr_take_mono hs (by omega)) (by omega)
theorem pick_k {l : List Rl} {pre : List Rl} {r : Rl} {post : List Rl} (e : l = pre ++ r :: post) (hs : ∀ q ∈ l, 1 ≤ q.s) {st : List Int} {u m rest : Int} {lo : Nat} (hu : 0 < u) (h0 : 0 ≤ rest) (h1 : rest < u)
    (hst : ∀ j, j < l.length → st[lo + j]? = some (u * shr (l.take j))) (b1 : shr pre ≤ m) (b2 : m < shr pre + r.s) {k : Int} (k1 : (lo : Int) ≤ k) (k2 : k ≤ ((lo + l.length : Nat) : Int))
    (k3 : ∀ i : Nat, (lo : Int) ≤ i → (i : Int) < k → st.getD i 0 ≤ u * m + rest) (k4 : ∀ i : Nat, k ≤ i → (i : Int) < ((lo + l.length : Nat) : Int) → u * m + rest < st.getD i 0) : k = (lo : Int) + pre.length + 1 := by
  have hl : l.length = pre.length + (post.length + 1) := by rw [e, List.length_append, List.length_cons]
  have g : ∀ j, j < l.length → st.getD (lo + j) 0 = u * shr (l.take j) := fun j hj => by rw [List.getD_eq_getElem?_getD, hst j hj]; rfl
  have t1 : l.take pre.length = pre := by rw [e, List.take_left]
  have c1 : ¬ k ≤ ((lo + pre.length : Nat) : Int) := fun hk => by
    have := k4 (lo + pre.length) hk (by omega)
    rw [g _ (by omega), t1] at this
    have : u * shr pre ≤ u * m := Int.mul_le_mul_of_nonneg_left b1 (by omega)
    omega
  by_cases hp : post = []
  · have : post.length = 0 := by rw [hp]; rfl
    omega
  · have hp' := List.length_pos_iff.mpr hp
    have t2 : l.take (pre.length + 1) = pre ++ [r] := by
      rw [e, List.take_append, List.take_of_length_le (by omega), show pre.length + 1 - pre.length = 1 by omega]; rfl
    have c2 : ¬ ((lo + (pre.length + 1) : Nat) : Int) < k := fun hk => by
      have := k3 (lo + (pre.length + 1)) (by omega) hk
      rw [g _ (by omega), t2, shr_append, shr, shr] at this
      have h5 : u * (m + 1) ≤ u * (shr pre + (r.s + 0)) := Int.mul_le_mul_of_nonneg_left (by omega) (by omega)
      rw [Int.mul_add u m 1] at h5
      omega
    omega
end Mine
end -- PE
section -- PG
set_option Elab.async false
set_option linter.unusedVariables false
set_option linter.unusedSimpArgs false
namespace Mine
def ringF (t : Int) : Nat → List Rl → List Int
  | _, [] => []
  | k, r :: rs => (if r.l = t then List.replicate r.s.toNat (k : Int) else []) ++ ringF t (k + 1) rs
theorem ofL_cons (r : Rl) (rs : List Rl) (t : Int) : ofL (r :: rs) t = if r.l = t then r :: ofL rs t else ofL rs t := by
  rw [ofL, List.filter_cons]
  by_cases h : r.l = t <;> simp [h, ofL]
theorem ofL_app (a b : List Rl) (t : Int) : ofL (a ++ b) t = ofL a t ++ ofL b t := List.filter_append ..
theorem ring_len {t : Int} : ∀ (k : Nat) {rs : List Rl}, (∀ r ∈ rs, 1 ≤ r.s) → ((ringF t k rs).length : Int) = shr (ofL rs t)
  | _, [], _ => rfl
  | k, r :: rs, h => by
    have h1 := h r (.head _)
    have ih := ring_len (t := t) (k + 1) (rs := rs) fun q hq => h q (.tail _ hq)
    rw [ringF, ofL_cons, List.length_append]
    by_cases e : r.l = t
    · rw [if_pos e, if_pos e, List.length_replicate, shr]; omega
    · rw [if_neg e, if_neg e]; simpa using ih
theorem ring_snoc {t : Int} : ∀ (k : Nat) (rs : List Rl) (r : Rl), ringF t k (rs ++ [r]) = ringF t k rs ++ (if r.l = t then List.replicate r.s.toNat ((k + rs.length : Nat) : Int) else [])
  | k, [], r => by simp [ringF]
  | k, q :: rs, r => by
    rw [List.cons_append, ringF, ringF, ring_snoc (k + 1) rs r, List.append_assoc, List.length_cons, show k + 1 + rs.length = k + (rs.length + 1) by omega]
theorem ring_get {t : Int} : ∀ (k : Nat) {rs : List Rl} {j : Nat} {c : Int}, (∀ r ∈ rs, 1 ≤ r.s) → (ringF t k rs)[j]? = some c →
    ∃ (i : Nat) (r : Rl), c = ((k + i : Nat) : Int) ∧ rs[i]? = some r ∧ shr (ofL (rs.take i) t) ≤ j ∧ (j : Int) < shr (ofL (rs.take i) t) + r.s ∧ ofL rs t = ofL (rs.take i) t ++ r :: ofL (rs.drop (i + 1)) t
  | k, [], j, c, _, h => by simp [ringF] at h
  | k, r :: rs, j, c, hs, h => by
    have h1 := hs r (.head _)
    have hs' : ∀ q ∈ rs, 1 ≤ q.s := fun q hq => hs q (.tail _ hq)
    rw [ringF] at h
    by_cases e : r.l = t
    · rw [if_pos e] at h
      by_cases hj : j < r.s.toNat
      · rw [List.getElem?_append_left (by simpa using hj), List.getElem?_replicate, if_pos hj] at h
        refine ⟨0, r, by simpa using (Option.some.inj h).symm, rfl, by simp [ofL, shr], by simp [ofL, shr]; omega, ?_⟩
        rw [ofL_cons, if_pos e]
        rfl
      · rw [List.getElem?_append_right (by simpa using hj), List.length_replicate] at h
        obtain ⟨i, q, a1, a2, a3, a4, a5⟩ := ring_get (k + 1) hs' h
        refine ⟨i + 1, q, by rw [a1]; omega, by simpa using a2, ?_, ?_, ?_⟩
        · rw [List.take_succ_cons, ofL_cons, if_pos e, shr]; omega
        · rw [List.take_succ_cons, ofL_cons, if_pos e, shr]; omega
        · rw [List.take_succ_cons, ofL_cons, ofL_cons, if_pos e, if_pos e, List.drop_succ_cons, List.cons_append, ← a5]
    · rw [if_neg e, List.nil_append] at h
      obtain ⟨i, q, a1, a2, a3, a4, a5⟩ := ring_get (k + 1) hs' h
      refine ⟨i + 1, q, by rw [a1]; omega, by simpa using a2, ?_, ?_, ?_⟩
      · rw [List.take_succ_cons, ofL_cons, if_neg e]; exact a3
      · rw [List.take_succ_cons, ofL_cons, if_neg e]; exact a4
      · rw [List.take_succ_cons, ofL_cons, ofL_cons, if_neg e, if_neg e, List.drop_succ_cons, ← a5]
theorem part_one {l : List Rl} (hs : ∀ q ∈ l, 1 ≤ q.s) {v : Int} : ∀ {pre pre' post post' : List Rl} {r r' : Rl}, l = pre ++ r :: post → l = pre' ++ r' :: post' →
    shr pre ≤ v → v < shr pre + r.s → shr pre' ≤ v → v < shr pre' + r'.s → pre = pre' ∧ r = r' ∧ post = post' := by
  induction l generalizing v with
  | nil => intro pre pre' post post' r r' e; simp at e
  | cons q l ih =>
    intro pre pre' post post' r r' e e' a1 a2 a3 a4
    have hq := hs q (.head _)
    have hs' : ∀ q ∈ l, 1 ≤ q.s := fun q hq => hs q (.tail _ hq)
    cases pre with
    | nil =>
      simp only [List.nil_append, List.cons.injEq] at e
      obtain ⟨rfl, rfl⟩ := e
      cases pre' with
      | nil =>
        simp only [List.nil_append, List.cons.injEq] at e'
        exact ⟨rfl, e'.1, e'.2⟩
      | cons p' pre' =>
        simp only [List.cons_append, List.cons.injEq] at e'
        obtain ⟨rfl, rfl⟩ := e'
        have := shr_nonneg (l := pre') fun z hz => hs' z (List.mem_append_left _ hz)
        rw [shr] at a3
        rw [shr] at a2
        omega
    | cons p pre =>
      simp only [List.cons_append, List.cons.injEq] at e
      obtain ⟨rfl, rfl⟩ := e
      cases pre' with
      | nil =>
        simp only [List.nil_append, List.cons.injEq] at e'
        obtain ⟨rfl, _⟩ := e'
        have := shr_nonneg (l := pre) fun z hz => hs' z (List.mem_append_left _ hz)
        rw [shr] at a1
        rw [shr] at a4
        omega
      | cons p' pre' =>
        simp only [List.cons_append, List.cons.injEq] at e'
        obtain ⟨rfl, e'⟩ := e'
        rw [shr] at a1 a2 a3 a4
        obtain ⟨b1, b2, b3⟩ := ih hs' (v := v - q.s) rfl e' (by omega) (by omega) (by omega) (by omega)
        exact ⟨by rw [b1], b2, b3⟩
theorem take_ofL {rs : List Rl} {t : Int} {i i' : Nat} {r r' : Rl} (h : rs[i]? = some r) (h' : rs[i']? = some r') (hs : ∀ r ∈ rs, 1 ≤ r.s) (ht : r.l = t) (e : i < i') : shr (ofL (rs.take i) t) + r.s ≤ shr (ofL (rs.take i') t) := by
  have e1 : rs.take i' = rs.take i ++ r :: (rs.drop (i + 1)).take (i' - (i + 1)) := by
    rw [show i' = i + (1 + (i' - (i + 1))) by omega, List.take_add, List.take_add, List.drop_drop]
    have hi : i < rs.length := (List.getElem?_eq_some_iff.mp h).1
    have : (rs.drop i).take 1 = [r] := by
      rw [List.drop_eq_getElem_cons hi, (List.getElem?_eq_some_iff.mp h).2]; rfl
    rw [this, show i + (1 + (i' - (i + 1))) - (i + 1) = i' - (i + 1) by omega]
    rfl
  rw [e1, ofL_app, shr_append, ofL_cons, if_pos ht, shr]
  have := shr_nonneg (l := ofL ((rs.drop (i + 1)).take (i' - (i + 1))) t) fun z hz => hs z (List.mem_of_mem_drop (List.mem_of_mem_take (List.mem_filter.mp hz).1))
  omega
def cntF (f : Nat → Bool) : Nat → Nat
  | 0 => 0
  | p + 1 => cntF f p + if f p then 1 else 0
theorem mn_in {m st s : Nat} (h1 : st ≤ m) (h2 : m < st + s) : min (m + 1) (st + s) - min (m + 1) st = min m (st + s) - min m st + 1 := by
  rw [Nat.min_eq_left h2, Nat.min_eq_right (Nat.le_succ_of_le h1), Nat.min_eq_left (Nat.le_of_lt h2), Nat.min_eq_right h1, Nat.succ_sub h1]
theorem mn_out {m st s : Nat} (h : ¬ (st ≤ m ∧ m < st + s)) : min (m + 1) (st + s) - min (m + 1) st = min m (st + s) - min m st := by
  by_cases a : st ≤ m
  · have b : st + s ≤ m := Nat.le_of_not_lt fun c => h ⟨a, c⟩
    rw [Nat.min_eq_right (Nat.le_succ_of_le b), Nat.min_eq_right (Nat.le_succ_of_le a), Nat.min_eq_right b, Nat.min_eq_right a]
  · have a : m + 1 ≤ st := Nat.lt_of_not_le a
    rw [Nat.min_eq_left (Nat.le_trans a (Nat.le_add_right _ _)), Nat.min_eq_left a, Nat.min_eq_left (Nat.le_trans (Nat.le_of_lt a) (Nat.le_add_right _ _)), Nat.min_eq_left (Nat.le_of_lt a), Nat.sub_self, Nat.sub_self]
theorem cnt_val {T s st : Nat} (hT : 0 < T) (hb : st + s ≤ T) {f : Nat → Bool} (hf : ∀ q m, m < T → (f (T * q + m) = true ↔ st ≤ m ∧ m < st + s)) :
    ∀ p q m : Nat, p = T * q + m → m < T → cntF f p = q * s + (min m (st + s) - min m st) := by
  intro p
  induction p with
  | zero =>
    intro q m e hm
    have hm0 : m = 0 := by omega
    have hq0 : q = 0 := by
      rcases Nat.eq_zero_or_pos q with h | h
      · exact h
      · have : T * 1 ≤ T * q := Nat.mul_le_mul_left _ h
        omega
    subst hm0 hq0
    simp [cntF]
  | succ p ih =>
    intro q m e hm
    rw [cntF]
    cases m with
    | zero =>
      cases q with
      | zero => omega
      | succ q =>
        have e2 : p = T * q + (T - 1) := by rw [Nat.mul_succ] at e; omega
        have h1 := ih q (T - 1) e2 (by omega)
        have h2 := hf q (T - 1) (by omega)
        rw [← e2] at h2
        have hz : min (T - 1 + 1) (st + s) - min (T - 1 + 1) st = s := by
          rw [Nat.sub_add_cancel hT, Nat.min_eq_right hb, Nat.min_eq_right (Nat.le_trans (Nat.le_add_right _ _) hb), Nat.add_sub_cancel_left]
        rw [h1, Nat.succ_mul, Nat.zero_min, Nat.zero_min, Nat.sub_self, Nat.add_zero]
        by_cases h : f p = true
        · have := h2.mp h
          rw [mn_in this.1 this.2] at hz
          rw [if_pos h, Nat.add_assoc, hz]
        · have : ¬ (st ≤ T - 1 ∧ T - 1 < st + s) := fun z => h (h2.mpr z)
          rw [mn_out this] at hz
          rw [if_neg h, Nat.add_zero, hz]
    | succ m =>
      have e2 : p = T * q + m := by omega
      have h1 := ih q m e2 (by omega)
      have h2 := hf q m (by omega)
      rw [← e2] at h2
      rw [h1]
      by_cases h : f p = true
      · have := h2.mp h
        rw [if_pos h, mn_in this.1 this.2, Nat.add_assoc]
      · have : ¬ (st ≤ m ∧ m < st + s) := fun z => h (h2.mpr z)
        rw [if_neg h, mn_out this, Nat.add_zero]
def keep (f : Nat → Bool) : Nat → List Int → List Int
  | _, [] => []
  | k, x :: l => if f k then x :: keep f (k + 1) l else keep f (k + 1) l
theorem keep_snoc {f : Nat → Bool} : ∀ (k : Nat) (l : List Int) (x : Int), keep f k (l ++ [x]) = keep f k l ++ (if f (k + l.length) then [x] else [])
  | k, [], x => by by_cases h : f k <;> simp [keep, h]
  | k, y :: l, x => by
    rw [List.cons_append, keep, keep, keep_snoc (k + 1) l x, List.length_cons, show k + 1 + l.length = k + (l.length + 1) by omega]
    by_cases h : f k <;> simp [h]
theorem keep_sub {f : Nat → Bool} : ∀ (k : Nat) (l : List Int), (keep f k l).Sublist l
  | _, [] => .refl _
  | k, y :: l => by
    rw [keep]
    by_cases h : f k
    · rw [if_pos h]; exact (keep_sub (k + 1) l).cons_cons _
    · rw [if_neg h]; exact (keep_sub (k + 1) l).cons _
theorem keep_len {f : Nat → Bool} {l : List Int} : ∀ (p : Nat), p ≤ l.length → (keep f 0 (l.take p)).length = cntF f p
  | 0, _ => by simp [keep, cntF]
  | p + 1, h => by
    rw [List.take_add_one, List.getElem?_eq_getElem (by omega), Option.toList_some, keep_snoc, List.length_append, keep_len p (by omega), cntF, List.length_take, Nat.zero_add, Nat.min_eq_left (by omega)]
    by_cases h : f p <;> simp [h]
theorem keep_app {f : Nat → Bool} : ∀ (k : Nat) (l m : List Int), keep f k (l ++ m) = keep f k l ++ keep f (k + l.length) m
  | k, [], m => by simp [keep]
  | k, y :: l, m => by
    rw [List.cons_append, keep, keep, keep_app (k + 1) l m, List.length_cons, show k + 1 + l.length = k + (l.length + 1) by omega]
    by_cases h : f k <;> simp [h]
theorem keep_get {f : Nat → Bool} {l : List Int} {p : Nat} {n : Int} (h : l[p]? = some n) (hf : f p = true) : (keep f 0 l)[cntF f p]? = some n := by
  have hp : p < l.length := (List.getElem?_eq_some_iff.mp h).1
  have e : l = l.take p ++ n :: l.drop (p + 1) := by
    rw [← (List.getElem?_eq_some_iff.mp h).2, ← List.drop_eq_getElem_cons hp, List.take_append_drop]
  have hl := keep_len (f := f) (l := l) p (by omega)
  have hlen : (l.take p).length = p := by rw [List.length_take]; omega
  rw [e, keep_app, keep, hlen, Nat.zero_add, if_pos hf, List.getElem?_append_right (by rw [hl]; exact Nat.le_refl _), hl, Nat.sub_self]
  rfl
theorem place_of {l : List Int} (hp : l.Pairwise (· < ·)) {p : Nat} {n : Int} (h : l[p]? = some n) : (l.filter fun c => decide (c < n)).length = p := by
  have hpl : p < l.length := (List.getElem?_eq_some_iff.mp h).1
  have e : l = l.take p ++ n :: l.drop (p + 1) := by
    rw [← (List.getElem?_eq_some_iff.mp h).2, ← List.drop_eq_getElem_cons hpl, List.take_append_drop]
  rw [e] at hp
  obtain ⟨h1, h2, h3⟩ := List.pairwise_append.mp hp
  rw [e, List.filter_append, List.filter_eq_self.mpr (fun c hc => by simpa using h3 c hc n (.head _)), List.filter_eq_nil_iff.mpr (fun c hc => ?_), List.append_nil, List.length_take]
  · omega
  · rcases List.mem_cons.mp hc with rfl | hc
    · simp
    · have := (List.pairwise_cons.mp h2).1 c hc
      simp; omega
theorem next_place {rs : List Rl} (hs : ∀ r ∈ rs, 1 ≤ r.s) {t : Int} {p i : Nat} {r : Rl} (hi : rs[i]? = some r) (hT : 0 < shr (ofL rs t)) (hlen : rs.length ≤ 1000)
    (hr : (ringF t 0 rs)[p % (ringF t 0 rs).length]? = some (i : Int)) :
    (cntF (fun k => decide ((ringF t 0 rs).getD (k % (ringF t 0 rs).length) 0 = (i : Int))) p : Int) = (p : Int) / shr (ofL rs t) * r.s + ((p : Int) % shr (ofL rs t) - shr (ofL (rs.take i) t)) ∧
    shr (ofL (rs.take i) t) ≤ (p : Int) % shr (ofL rs t) ∧ (p : Int) % shr (ofL rs t) < shr (ofL (rs.take i) t) + r.s ∧ ofL rs t = ofL (rs.take i) t ++ r :: ofL (rs.drop (i + 1)) t := by
  have hl := ring_len (t := t) 0 hs
  generalize hT' : (ringF t 0 rs).length = T at *
  have hTp : 0 < T := by omega
  have own : ∀ {j : Nat} {c : Int}, (ringF t 0 rs)[j]? = some c → c = (i : Int) → shr (ofL (rs.take i) t) ≤ j ∧ (j : Int) < shr (ofL (rs.take i) t) + r.s ∧ ofL rs t = ofL (rs.take i) t ++ r :: ofL (rs.drop (i + 1)) t := by
    intro j c hj hc
    obtain ⟨i', r', a1, a2, a3, a4, a5⟩ := ring_get 0 hs hj
    have : i' = i := by omega
    subst this
    rw [hi] at a2
    cases a2
    exact ⟨a3, a4, a5⟩
  obtain ⟨b1, b2, b3⟩ := own hr rfl
  have hmod : ((p % T : Nat) : Int) = (p : Int) % shr (ofL rs t) := by rw [← hl]; exact Int.natCast_emod ..
  have hdiv : ((p / T : Nat) : Int) = (p : Int) / shr (ofL rs t) := by rw [← hl]; exact Int.natCast_ediv ..
  rw [hmod] at b1 b2
  refine ⟨?_, b1, b2, b3⟩
  have hpre := shr_nonneg (l := ofL (rs.take i) t) fun z hz => hs z (List.mem_of_mem_take (List.mem_filter.mp hz).1)
  have hpost := shr_nonneg (l := ofL (rs.drop (i + 1)) t) fun z hz => hs z (List.mem_of_mem_drop (List.mem_filter.mp hz).1)
  have htot : shr (ofL rs t) = shr (ofL (rs.take i) t) + (r.s + shr (ofL (rs.drop (i + 1)) t)) := by rw [b3, shr_append, shr]
  have hrt : r.l = t := (mem_ofL (rs := rs) (t := t) (r := r) (by rw [b3]; simp)).2
  obtain ⟨st, hst⟩ := Int.eq_ofNat_of_zero_le hpre
  obtain ⟨s, hss⟩ := Int.eq_ofNat_of_zero_le (show 0 ≤ r.s by have := hs r (List.mem_of_getElem? hi); omega)
  have key := cnt_val (T := T) (s := s) (st := st) hTp (by omega) (f := fun k => decide ((ringF t 0 rs).getD (k % T) 0 = (i : Int))) ?_ p (p / T) (p % T) (by rw [Nat.div_add_mod]) (Nat.mod_lt _ hTp)
  · rw [key, hss, hst, ← hdiv, ← hmod]
    push_cast
    have c1 : (st : Int) ≤ ((p % T : Nat) : Int) := by rw [hmod, ← hst]; exact b1
    have c2 : ((p % T : Nat) : Int) < (st : Int) + s := by rw [hmod, ← hst, ← hss]; exact b2
    omega
  · intro q m hm
    have e : (T * q + m) % T = m := by rw [Nat.mul_add_mod, Nat.mod_eq_of_lt hm]
    simp only [decide_eq_true_eq, e]
    have hm' : m < (ringF t 0 rs).length := by omega
    have hg : (ringF t 0 rs)[m]? = some ((ringF t 0 rs).getD m 0) := by
      rw [List.getD_eq_getElem?_getD, List.getElem?_eq_getElem hm']; rfl
    constructor
    · intro hc
      obtain ⟨c1, c2, _⟩ := own hg hc
      omega
    · intro ⟨c1, c2⟩
      obtain ⟨i', r', a1, a2, a3, a4, a5⟩ := ring_get 0 hs hg
      have hrt' : r'.l = t := (mem_ofL (rs := rs) (t := t) (r := r') (by rw [a5]; simp)).2
      rcases Nat.lt_trichotomy i i' with hlt | heq | hgt
      · have := take_ofL hi a2 hs hrt hlt
        omega
      · rw [a1, heq]; omega
      · have := take_ofL a2 hi hs hrt' hgt
        omega
end Mine
end -- PG
section -- PH
set_option Elab.async false
set_option linter.unusedVariables false
set_option linter.unusedSimpArgs false
namespace Mine
def loT (tb : List Rl) (t : Int) : Nat := (tb.filter fun r => decide (r.l < t)).length
def SortedL (tb : List Rl) : Prop := tb.Pairwise fun a b => a.l ≤ b.l
theorem loT_succ (tb : List Rl) (t : Int) : loT tb (t + 1) = loT tb t + (ofL tb t).length := by
  induction tb with
  | nil => rfl
  | cons r tb ih =>
    unfold loT ofL at *
    rw [List.filter_cons, List.filter_cons, List.filter_cons]
    rcases Int.lt_trichotomy r.l t with h | h | h
    · rw [if_pos (by simp; omega), if_pos (by simp; omega), if_neg (by simp; omega), List.length_cons, List.length_cons, ih]; omega
    · rw [if_pos (by simp; omega), if_neg (by simp; omega), if_pos (by simp; omega), List.length_cons, List.length_cons, ih]; omega
    · rw [if_neg (by simp; omega), if_neg (by simp; omega), if_neg (by simp; omega), ih]
theorem loT_le (tb : List Rl) (t : Int) : loT tb t ≤ tb.length := List.length_filter_le ..
theorem sorted_split : ∀ {tb : List Rl}, SortedL tb → ∀ t : Int, tb = tb.filter (fun r => decide (r.l < t)) ++ (ofL tb t ++ tb.filter (fun r => decide (t < r.l)))
  | [], _, _ => rfl
  | r :: tb, h, t => by
    obtain ⟨h1, h2⟩ := List.pairwise_cons.mp h
    have ih := sorted_split h2 t
    unfold ofL at *
    rw [List.filter_cons, List.filter_cons, List.filter_cons]
    rcases Int.lt_trichotomy r.l t with e | e | e
    · rw [if_pos (by simp; omega), if_neg (by simp; omega), if_neg (by simp; omega), List.cons_append, ← ih]
    · have e1 : tb.filter (fun r => decide (r.l < t)) = [] := List.filter_eq_nil_iff.mpr fun q hq => by have := h1 q hq; simp; omega
      rw [e1, List.nil_append] at ih
      rw [if_neg (by simp; omega), if_pos (by simp; omega), if_neg (by simp; omega), e1, List.nil_append, List.cons_append, ← ih]
    · have e1 : tb.filter (fun r => decide (r.l < t)) = [] := List.filter_eq_nil_iff.mpr fun q hq => by have := h1 q hq; simp; omega
      have e2 : tb.filter (fun r => decide (r.l = t)) = [] := List.filter_eq_nil_iff.mpr fun q hq => by have := h1 q hq; simp; omega
      rw [e1, e2, List.nil_append, List.nil_append] at ih
      rw [if_neg (by simp; omega), if_neg (by simp; omega), if_pos (by simp; omega), e1, e2, List.nil_append, List.nil_append, ← ih]
theorem seg_get {tb : List Rl} (h : SortedL tb) {t : Int} {j : Nat} (hj : j < (ofL tb t).length) : tb[loT tb t + j]? = (ofL tb t)[j]? := by
  have e := sorted_split h t
  have e2 : loT tb t = (tb.filter fun r => decide (r.l < t)).length := rfl
  rw [e2]
  generalize hg : tb.filter (fun r => decide (r.l < t)) = a at *
  generalize hc : tb.filter (fun r => decide (t < r.l)) = c at *
  generalize ho : ofL tb t = b at *
  rw [e, List.getElem?_append_right (by omega), show a.length + j - a.length = j by omega, List.getElem?_append_left hj]
theorem seg_slice {tb : List Rl} (h : SortedL tb) (t : Int) : (tb.drop (loT tb t)).take (ofL tb t).length = ofL tb t := by
  have e := sorted_split h t
  have e2 : loT tb t = (tb.filter fun r => decide (r.l < t)).length := rfl
  rw [e2]
  generalize hg : tb.filter (fun r => decide (r.l < t)) = a at *
  generalize hc : tb.filter (fun r => decide (t < r.l)) = c at *
  generalize ho : ofL tb t = b at *
  rw [e, List.drop_left, List.take_left]
def keyOf (tb : List Rl) (i : Nat) : Int := (tb[i]?.map (·.l)).getD 0
theorem keyOf_lt {tb : List Rl} {i : Nat} (h : i < tb.length) : keyOf tb i = (tb[i]).l := by rw [keyOf, List.getElem?_eq_getElem h]; rfl
theorem keyOf_mono {tb : List Rl} (h : SortedL tb) {i j : Nat} (hij : i ≤ j) (hj : j < tb.length) : keyOf tb i ≤ keyOf tb j := by
  rw [keyOf_lt hj, keyOf_lt (by omega)]
  by_cases e : i = j
  · subst e; exact Int.le_refl _
  · exact List.pairwise_iff_getElem.mp h i j (by omega) hj (by omega)
theorem sorted_count {tb : List Rl} {P : Rl → Bool} {k : Nat} (hk : k ≤ tb.length) (h1 : ∀ i (h : i < tb.length), i < k → P tb[i] = true) (h2 : ∀ i (h : i < tb.length), k ≤ i → P tb[i] = false) : (tb.filter P).length = k := by
  have e : tb = tb.take k ++ tb.drop k := (List.take_append_drop ..).symm
  rw [e, List.filter_append, List.filter_eq_self.mpr, List.filter_eq_nil_iff.mpr, List.append_nil, List.length_take]
  · omega
  · intro q hq
    obtain ⟨i, hi, rfl⟩ := List.mem_iff_getElem.mp hq
    rw [List.length_drop] at hi
    rw [List.getElem_drop, h2 _ (by omega) (by omega)]
    simp
  · intro q hq
    obtain ⟨i, hi, rfl⟩ := List.mem_iff_getElem.mp hq
    rw [List.length_take] at hi
    rw [List.getElem_take]
    exact h1 _ (by omega) (by omega)
theorem left_k {tb : List Rl} {t : Int} {k : Nat} (hk : k ≤ tb.length) (h1 : ∀ i : Nat, i < k → keyOf tb i < t) (h2 : ∀ i : Nat, k ≤ i → i < tb.length → t ≤ keyOf tb i) : k = loT tb t := by
  refine (sorted_count hk (fun i h hi => ?_) (fun i h hi => ?_)).symm
  · have := h1 i hi
    rw [keyOf_lt h] at this
    simpa using this
  · have := h2 i hi h
    rw [keyOf_lt h] at this
    simpa using this
theorem right_k {tb : List Rl} {t : Int} {k : Nat} (hk : k ≤ tb.length) (h1 : ∀ i : Nat, i < k → keyOf tb i ≤ t) (h2 : ∀ i : Nat, k ≤ i → i < tb.length → t < keyOf tb i) : k = loT tb t + (ofL tb t).length := by
  rw [← loT_succ]
  refine left_k hk (fun i hi => ?_) (fun i hi h => ?_)
  · have := h1 i hi; omega
  · have := h2 i hi h; omega
theorem ins_sorted {tb : List Rl} (h : SortedL tb) {r : Rl} {k : Nat} (hk : k ≤ tb.length) (h1 : ∀ i : Nat, i < k → keyOf tb i ≤ r.l) (h2 : ∀ i : Nat, k ≤ i → i < tb.length → r.l < keyOf tb i) :
    SortedL (tb.take k ++ r :: tb.drop k) ∧ ∀ t, ofL (tb.take k ++ r :: tb.drop k) t = ofL tb t ++ (if r.l = t then [r] else []) := by
  have g1 : ∀ q ∈ tb.take k, q.l ≤ r.l := fun q hq => by
    obtain ⟨i, hi, rfl⟩ := List.mem_iff_getElem.mp hq
    rw [List.length_take] at hi
    rw [List.getElem_take]
    have := h1 i (by omega)
    rwa [keyOf_lt (by omega)] at this
  have g2 : ∀ q ∈ tb.drop k, r.l < q.l := fun q hq => by
    obtain ⟨i, hi, rfl⟩ := List.mem_iff_getElem.mp hq
    rw [List.length_drop] at hi
    rw [List.getElem_drop]
    have := h2 (k + i) (by omega) (by omega)
    rwa [keyOf_lt (by omega)] at this
  constructor
  · unfold SortedL at *
    have e : tb = tb.take k ++ tb.drop k := (List.take_append_drop ..).symm
    rw [e] at h
    obtain ⟨a1, a2, a3⟩ := List.pairwise_append.mp h
    refine List.pairwise_append.mpr ⟨a1, List.pairwise_cons.mpr ⟨fun q hq => Int.le_of_lt (g2 q hq), a2⟩, fun a ha b hb => ?_⟩
    rcases List.mem_cons.mp hb with rfl | hb
    · exact g1 a ha
    · exact a3 a ha b hb
  · intro t
    rw [ofL_app, ofL_cons]
    have e : ofL tb t = ofL (tb.take k) t ++ ofL (tb.drop k) t := by rw [← ofL_app, List.take_append_drop]
    rw [e]
    by_cases ht : r.l = t
    · rw [if_pos ht, if_pos ht]
      have : ofL (tb.drop k) t = [] := List.filter_eq_nil_iff.mpr fun q hq => by have := g2 q hq; simp; omega
      rw [this, List.append_nil]
    · rw [if_neg ht, if_neg ht, List.append_nil]
theorem ofL_snoc (rs : List Rl) (r : Rl) (t : Int) : ofL (rs ++ [r]) t = ofL rs t ++ (if r.l = t then [r] else []) := by
  rw [ofL_app, ofL_cons]
  rfl
theorem loT_all {tb : List Rl} {t : Int} (h : ∀ r ∈ tb, r.l < t) : loT tb t = tb.length := by
  unfold loT
  rw [List.filter_eq_self.mpr fun q hq => by simpa using h q hq]
theorem loT_none {tb : List Rl} {t : Int} (h : ∀ r ∈ tb, t ≤ r.l) : loT tb t = 0 := by
  unfold loT
  rw [List.filter_eq_nil_iff.mpr fun q hq => by have := h q hq; simp; omega]
  rfl
theorem loT_mono {tb : List Rl} : ∀ (k : Nat) (t : Int), loT tb t ≤ loT tb (t + k)
  | 0, t => by simp
  | k + 1, t => by
    have := loT_mono (tb := tb) k t
    have h2 := loT_succ tb (t + k)
    rw [show t + ((k + 1 : Nat) : Int) = t + k + 1 by omega, h2]
    omega
theorem starts_ext {tb : List Rl} {u : Int} {st : List Int} {t : Int} (hl : st.length = loT tb t) (old : ∀ t', 256 ≤ t' → t' < t → ∀ j, j < (ofL tb t').length → st[loT tb t' + j]? = some (u * shr ((ofL tb t').take j))) {seg : List Int} (hs : seg.length = (ofL tb t).length) (hv : ∀ j, j < seg.length → seg[j]? = some (u * shr ((ofL tb t).take j))) :
    (st ++ seg).length = loT tb (t + 1) ∧ ∀ t', 256 ≤ t' → t' < t + 1 → ∀ j, j < (ofL tb t').length → (st ++ seg)[loT tb t' + j]? = some (u * shr ((ofL tb t').take j)) := by
  refine ⟨by rw [List.length_append, hl, hs, loT_succ], fun t' h1 h2 j hj => ?_⟩
  by_cases e : t' = t
  · subst e
    rw [List.getElem?_append_right (by omega), hl, show loT tb t' + j - loT tb t' = j by omega]
    exact hv j (by omega)
  · have h3 := old t' h1 (by omega) j hj
    have h4 := loT_succ tb t'
    have h5 := loT_mono (tb := tb) (t - (t' + 1)).toNat (t' + 1)
    rw [show t' + 1 + (((t - (t' + 1)).toNat : Nat) : Int) = t by omega] at h5
    rw [List.getElem?_append_left (by omega)]
    exact h3
end Mine
end -- PH
section -- LA
open PySem PySem.W PyProof.Rows PySem.Calls
set_option Elab.async false
set_option maxRecDepth 100000
set_option maxHeartbeats 4000000
set_option linter.unusedVariables false
namespace Mine
def RuleIn (ob : List (Addr × Obj)) (v : Value) (r : Rl) : Prop := ∃ a t1 t2 ra vs n, v = .ref a ∧ (a, tup [.int r.l t1, .int r.s t2, .ref ra]) ∈ ob ∧ (ra, lst vs n) ∈ ob ∧ IntsAre vs r.r
inductive RulesIn (ob : List (Addr × Obj)) : List Value → List Rl → Prop
  | nil : RulesIn ob [] []
  | cons {v r vs rs} : RuleIn ob v r → RulesIn ob vs rs → RulesIn ob (v :: vs) (r :: rs)
theorem RuleIn.more {ob ob' : List (Addr × Obj)} {v : Value} {r : Rl} (hs : ∀ p ∈ ob, p ∈ ob') (x : RuleIn ob v r) : RuleIn ob' v r :=
  let ⟨a, t1, t2, ra, vs, n, e, h1, h2, h3⟩ := x
  ⟨a, t1, t2, ra, vs, n, e, hs _ h1, hs _ h2, h3⟩
theorem RulesIn.more {ob ob' : List (Addr × Obj)} (hs : ∀ p ∈ ob, p ∈ ob') {vs : List Value} {rs : List Rl} (x : RulesIn ob vs rs) : RulesIn ob' vs rs := by
  induction x with
  | nil => exact .nil
  | cons a _ ih => exact .cons (a.more hs) ih
theorem RulesIn.length {ob : List (Addr × Obj)} {vs : List Value} {rs : List Rl} (x : RulesIn ob vs rs) : vs.length = rs.length := by
  induction x with
  | nil => rfl
  | cons _ _ ih => rw [List.length_cons, List.length_cons, ih]
theorem RulesIn.snoc {ob : List (Addr × Obj)} {vs : List Value} {rs : List Rl} {v : Value} {r : Rl} (x : RulesIn ob vs rs) (y : RuleIn ob v r) : RulesIn ob (vs ++ [v]) (rs ++ [r]) := by
  induction x with
  | nil => exact .cons y .nil
  | cons a _ ih => exact .cons a ih
theorem RulesIn.app {ob : List (Addr × Obj)} {vs ws : List Value} {rs qs : List Rl} (x : RulesIn ob vs rs) (y : RulesIn ob ws qs) : RulesIn ob (vs ++ ws) (rs ++ qs) := by
  induction x with
  | nil => exact y
  | cons a _ ih => exact .cons a ih
theorem RulesIn.take {ob : List (Addr × Obj)} {vs : List Value} {rs : List Rl} (x : RulesIn ob vs rs) : ∀ k, RulesIn ob (vs.take k) (rs.take k) := by
  induction x with
  | nil => intro k; rw [List.take_nil, List.take_nil]; exact .nil
  | cons a _ ih =>
    intro k
    cases k with
    | zero => exact .nil
    | succ k => exact .cons a (ih k)
theorem RulesIn.drop {ob : List (Addr × Obj)} {vs : List Value} {rs : List Rl} (x : RulesIn ob vs rs) : ∀ k, RulesIn ob (vs.drop k) (rs.drop k) := by
  induction x with
  | nil => intro k; rw [List.drop_nil, List.drop_nil]; exact .nil
  | cons a x ih =>
    intro k
    cases k with
    | zero => exact .cons a x
    | succ k => exact ih k
theorem RulesIn.get {ob : List (Addr × Obj)} {vs : List Value} {rs : List Rl} (x : RulesIn ob vs rs) : ∀ {i : Nat} {v : Value}, vs[i]? = some v → ∃ r, rs[i]? = some r ∧ RuleIn ob v r := by
  induction x with
  | nil => intro i v e; cases e
  | @cons v q vs rs a _ ih =>
    intro i v' e
    cases i with
    | zero => cases e; exact ⟨q, rfl, a⟩
    | succ i => exact ih (i := i) e
theorem RulesIn.at {ob : List (Addr × Obj)} {h : Heap} (hk : ∀ p ∈ ob, h.get? p.1 = some p.2) {vs : List Value} {rs : List Rl} (x : RulesIn ob vs rs) : RulesAt h vs rs := by
  induction x with
  | nil => exact .nil
  | cons a _ ih =>
    obtain ⟨a, t1, t2, ra, vs, n, e, h1, h2, h3⟩ := a
    exact .cons ⟨a, t1, t2, ra, vs, n, e, hk _ h1, hk _ h2, h3⟩ ih
def tlF : List (List Int) := [[], [256], [257], [258], [259], [7]]
def TailsIn (ob : List (Addr × Obj)) (vs : List Value) : Prop := ∀ k : Nat, k < 6 → ∃ ta ts n ns, vs[k]? = some (.ref ta) ∧ (ta, lst ts n) ∈ ob ∧ IntsAre ts ns ∧ ns.length ≤ 1 ∧ ∀ t ∈ ns, 0 < t ∧ t ≤ 259
def RulesOk (rs : List Rl) : Prop := ∀ (i : Nat) (r : Rl), rs[i]? = some r → 256 ≤ r.l ∧ r.l ≤ 258 ∧ 1 ≤ r.s ∧ r.s ≤ 4 ∧ ∃ tl, r.r = (255 - (i : Int)) :: tl ∧ tl.length ≤ 2 ∧ ∀ t ∈ tl, 0 < t ∧ t ≤ 259
theorem RulesOk.snoc {rs : List Rl} (h : RulesOk rs) {r : Rl} (hr : 256 ≤ r.l ∧ r.l ≤ 258 ∧ 1 ≤ r.s ∧ r.s ≤ 4 ∧ ∃ tl, r.r = (255 - (rs.length : Int)) :: tl ∧ tl.length ≤ 2 ∧ ∀ t ∈ tl, 0 < t ∧ t ≤ 259) : RulesOk (rs ++ [r]) := by
  intro i q e
  by_cases hi : i < rs.length
  · rw [List.getElem?_append_left hi] at e
    exact h i q e
  · rw [List.getElem?_append_right (by omega)] at e
    have h0 : i - rs.length = 0 := by
      cases q' : i - rs.length with
      | zero => rfl
      | succ k => rw [q'] at e; simp at e
    rw [h0] at e
    cases e
    rw [show i = rs.length by omega]
    exact hr
end Mine
end -- LA
section -- L20
open PySem PySem.W PyProof.Rows PySem.Calls
set_option Elab.async false
set_option maxRecDepth 100000
set_option maxHeartbeats 4000000
set_option linter.unusedVariables false
namespace Mine
theorem r_via {β : Type} {M : Model} {A : Around} {m : Sem β} {Q : β → Shared → Prop} {E : Value → Shared → Prop} {s : Shared} (P : β → Shared → Prop) (h : ∀ K : β → Shared → Prop, (∀ b s', P b s' → K b s') → wpAny M A m K E s) (hq : ∀ b s', P b s' → Q b s') : wpAny M A m Q E s := wpAny_mono (h P fun _ _ q => q) hq fun _ _ q => q
section
variable {prog : Program} {w : World} {A : Around} {E : Value → Shared → Prop} {env : Env} {B : Heap} {L : Addr} {h : Heap} {g : Array GenState} {d : Drawn} {tk : Nat} {o : OsState}
theorem r_forX {target iter : Expr} {pos : Pos} {body : List Stmt} {Q : Flow → Shared → Prop} {s : Shared} (hs : ∀ y, foldedSetIterable iter env y = pure y)
    (he : wpAny (model prog w) A (eval iter env) (fun v s₁ => wpAny (model prog w) A (pyIter v) (fun it s₂ => codeAny (model prog w) A (.forLoop target it body [] env) (fun r s' => match r with | .ok f => Q f s' | .error e => cameBackBy (model prog w) A env E e s') s₂) E s₁) E s) :
    wpAny (model prog w) A (exec (.For target iter body [] pos) env) Q E s := wpAny_For he hs
theorem r_floop {target : Expr} {body : List Stmt} {Q : Flow → Shared → Prop} {σ : Type} {n : Nat} {LF : Heap → Prop} {val : Nat → Value → Prop} {It : Nat → Obj → Prop} {I : Addr} {oI : Obj}
    (lf : σ → List (Str × Value)) (of tf : σ → List (Addr × Obj)) (P : Nat → σ → Prop) (x₀ : σ) (ht : ∀ it v, letOwnedTupleGo target it v = pure ())
    (hl : ∀ i y h I oI, P i y → St B L h (lf y) ((I, oI) :: of y) (tf y) → LF h)
    (hP : P 0 x₀) (W : Itr prog w A I n LF val It) (hI : It 0 oI) (S : St B L h (lf x₀) ((I, oI) :: of x₀) (tf x₀))
    (step : ∀ i y h tk v oI, P i y → i < n → val i v → It (i + 1) oI → St B L h (lf y) ((I, oI) :: of y) (tf y) → ∀ (Kp : Shared → Prop), (∀ y' h' tk', P (i + 1) y' → St B L h' (lf y') ((I, oI) :: of y') (tf y') → Kp ⟨h', g, d, tk', o⟩) → ∀ (Qv : Flow → Shared → Prop), (∀ f s, Q f s → Qv f s) →
      wpAny (model prog w) A (assign target env v) (fun _ s₂ => wpAny (model prog w) A (execs body env) (LoopQ Kp Qv) (fun _ _ => False) s₂) (fun _ _ => False) ⟨h, g, d, tk, o⟩)
    (done : ∀ y h tk, P n y → St B L h (lf y) (of y) (tf y) → Q .next ⟨h, g, d, tk, o⟩) :
    codeAny (model prog w) A (.forLoop target (.ref I) body [] env) (fun r s' => match r with | .ok f => Q f s' | .error e => cameBackBy (model prog w) A env E e s') ⟨h, g, d, tk, o⟩ := by
  refine codeAny_forLoop (LInv B L g d o n lf of tf P It I) ?_ (n + 1)
    (.mk 0 x₀ _ _ oI (Nat.zero_le _) hP hI S) (ht _)
  rintro k s ⟨i, y, h', tk', oI, hi, hp, hIt, Sy⟩
  have hla := hl i y h' _ _ hp Sy
  by_cases hlt : i < n
  · refine W.item i h' oI _ _ _ _ _ _ hlt hIt (Sy.get (.head _)) hla fun v h₂ oI' tk₂ hv hIt' hI' hs₂ => ?_
    refine wpAny_mono (step i y h₂ tk₂ v oI' hp hlt hv hIt' (Sy.upd hs₂ hI') (LInv B L g d o n lf of tf P It I (n + 1 - (i + 1))) (fun y' h' tk' a b => .mk (i + 1) y' h' tk' oI' hlt a hIt' b) Q (fun _ _ q => q)) (fun _ s₂ h₂ => wpAny_mono h₂ (fun f s₃ h₃ => ?_) fun _ _ e => e.elim) fun _ _ e => e.elim
    cases f with
    | next => exact ⟨_, by omega, h₃⟩
    | cont => exact ⟨_, by omega, h₃⟩
    | brk => exact h₃
    | ret v => exact h₃
  · have hin : i = n := by omega
    subst hin
    refine W.done h' oI _ _ _ _ _ _ hIt (Sy.get (.head _)) hla fun h₂ tk₂ he₂ => wpAny_execs_nil ?_
    exact done y h₂ _ hp (Sy.drop he₂)
end
end Mine
end -- L20
section -- PF
set_option Elab.async false
set_option linter.unusedVariables false
namespace Mine
def hd1 (r : Rl) : Int := r.r.headD 0
theorem Gr.heads {rs : List Rl} (G : Gr rs) : rs.Pairwise fun a b => hd1 b < hd1 a := by
  rw [List.pairwise_iff_getElem]
  intro i j hi hj hij
  obtain ⟨_, _, _, _, tl, e, _⟩ := G.rule i _ (List.getElem?_eq_getElem hi)
  obtain ⟨_, _, _, _, tl', e', _⟩ := G.rule j _ (List.getElem?_eq_getElem hj)
  rw [hd1, hd1, e, e']
  simp
  omega
theorem Gr.headsL {rs : List Rl} (G : Gr rs) (t : Int) : (ofL rs t).Pairwise fun a b => hd1 b < hd1 a := G.heads.filter _
theorem run_sign {rs : List Rl} (G : Gr rs) {n : Nat} {t : Int} {pile : List Int} {a : Nat} {p : Int} {sg : Int} {w : List Int} {top p' T S : Int} {ks : List (Int × List Rl × Rl)}
    (R : Run rs n (t :: pile) a p (sg :: w) top p' T S ks) (ht : 0 ≤ t) :
    (t = sg ∧ t < 256 ∧ ∃ n', Run rs n' pile a p w top p' T S ks) ∨
    (256 ≤ t ∧ a < 3 ∧ ∃ pre r post tl ks' n' p2 T' S', ofL rs t = pre ++ r :: post ∧ r.r = sg :: tl ∧ ks = (t, pre, r) :: ks' ∧ Run rs n' (tl ++ pile) (a + 1) p2 w top p' T' S' ks') := by
  by_cases h : 0 < t ∧ t < 256
  · refine run_tell R h fun n' w' _ e r => ?_
    obtain ⟨rfl, rfl⟩ := List.cons.inj e
    exact .inl ⟨rfl, h.2, _, r⟩
  · by_cases h2 : ofL rs t = [] ∨ a = 3
    · exact run_stop R h h2 fun z _ _ _ _ _ => absurd z (List.cons_ne_nil _ _)
    · refine run_ask R h h2 fun n' T' S' ks' pre r post _ h3 hks _ _ e _ _ r' => .inr ⟨?_, h3, ?_⟩
      · by_cases h : 256 ≤ t
        · exact h
        · exact absurd (.inl (ofL_nil G (.inl (by omega)))) h2
      · obtain ⟨_, _, _, _, f, tl, hf, f1, f2, _⟩ := G.mem (mem_ofL (rs := rs) (t := t) (r := r) (by rw [e]; simp)).1
        rw [hf, List.cons_append] at r'
        refine run_tell r' ⟨by omega, by omega⟩ fun _ _ _ e2 r2 => ?_
        obtain ⟨rfl, rfl⟩ := List.cons.inj e2
        exact ⟨pre, r, post, tl, ks', _, _, _, _, e, hf, hks, r2⟩
theorem run_pile {rs : List Rl} {n : Nat} {pile : List Int} {a : Nat} {p : Int} {w : List Int} {top p' T S : Int} {ks : List (Int × List Rl × Rl)}
    (R : Run rs n pile a p w top p' T S ks) : ∃ t r, pile = t :: r := by
  exact R.out (fun _ _ _ _ _ h _ _ _ _ => ⟨_, _, h⟩) (fun _ h _ _ _ _ _ _ _ => ⟨_, _, h⟩) fun _ _ _ _ _ _ _ _ _ _ h _ _ _ _ _ _ _ _ _ => ⟨_, _, h⟩
theorem run_nil {rs : List Rl} (G : Gr rs) {n : Nat} {pile : List Int} {a : Nat} {p : Int} {top p' T S : Int} {ks : List (Int × List Rl × Rl)}
    (R : Run rs n pile a p [] top p' T S ks) : ks = [] := by
  obtain ⟨t, q, rfl⟩ := run_pile R
  by_cases h : 0 < t ∧ t < 256
  · exact run_tell R h fun _ _ _ e _ => nomatch e
  · by_cases h2 : ofL rs t = [] ∨ a = 3
    · exact run_stop R h h2 fun _ _ _ _ _ z => z
    · refine run_ask R h h2 fun n' T' S' ks' pre r post _ h3 hks _ _ e _ _ r' => ?_
      obtain ⟨_, _, _, _, f, tl, hf, f1, f2, _⟩ := G.mem (mem_ofL (rs := rs) (t := t) (r := r) (by rw [e]; simp)).1
      rw [hf, List.cons_append] at r'
      exact run_tell r' ⟨by omega, by omega⟩ fun _ _ _ e _ => nomatch e
theorem pick_b {l pre : List Rl} {r : Rl} {post : List Rl} (e : l = pre ++ r :: post) (hp : l.Pairwise fun a b => hd1 b < hd1 a) {F : Nat → Int} {lo : Nat} (hF : ∀ j q, l[j]? = some q → F (lo + j) = - hd1 q)
    {k : Int} (k1 : (lo : Int) ≤ k) (k2 : k ≤ ((lo + l.length : Nat) : Int)) (k3 : ∀ i : Nat, (lo : Int) ≤ i → (i : Int) < k → F i < - hd1 r) (k4 : ∀ i : Nat, k ≤ i → (i : Int) < ((lo + l.length : Nat) : Int) → - hd1 r ≤ F i) :
    k = ((lo + pre.length : Nat) : Int) := by
  have hl : l.length = pre.length + (post.length + 1) := by rw [e, List.length_append, List.length_cons]
  have hr : l[pre.length]? = some r := by rw [e]; simp
  have c1 : ¬ ((lo + pre.length : Nat) : Int) < k := fun hk => by
    have := k3 (lo + pre.length) (by omega) hk
    rw [hF _ _ hr] at this
    omega
  have c2 : ¬ k < ((lo + pre.length : Nat) : Int) := fun hk => by
    obtain ⟨m, rfl⟩ := Int.eq_ofNat_of_zero_le (show 0 ≤ k by omega)
    have hm : m - lo < l.length := by omega
    have h1 := k4 m (by omega) (by omega)
    have h2 := hF (m - lo) _ (List.getElem?_eq_getElem hm)
    rw [show lo + (m - lo) = m by omega] at h2
    rw [h2] at h1
    have h3 := List.pairwise_iff_getElem.mp hp (m - lo) pre.length hm (by omega) (by omega)
    have h4 : l[pre.length]'(by omega) = r := (List.getElem?_eq_some_iff.mp hr).2
    rw [h4] at h3
    omega
  omega
theorem key_mono {l : List Rl} (hp : l.Pairwise fun a b => hd1 b < hd1 a) {F : Nat → Int} {lo : Nat} (hF : ∀ j q, l[j]? = some q → F (lo + j) = - hd1 q) :
    ∀ i j : Nat, (lo : Int) ≤ (i : Int) → i ≤ j → (j : Int) < ((lo + l.length : Nat) : Int) → F i ≤ F j := by
  intro i j h1 h2 h3
  have hi : i - lo < l.length := by omega
  have hj : j - lo < l.length := by omega
  have a := hF (i - lo) _ (List.getElem?_eq_getElem hi)
  have b := hF (j - lo) _ (List.getElem?_eq_getElem hj)
  rw [show lo + (i - lo) = i by omega] at a
  rw [show lo + (j - lo) = j by omega] at b
  by_cases e : i = j
  · subst e; omega
  · have h3 := List.pairwise_iff_getElem.mp hp (i - lo) (j - lo) hi hj (by omega)
    omega
theorem bk_size {u s T st x Z : Int} (hu : 0 < u) (hs : 1 ≤ s) (hs4 : s ≤ 4) (hT : 0 ≤ T) (hT28 : T ≤ 28) (hst : 0 ≤ st) (hst28 : st ≤ 28) (hZ : 144 * u ≤ Z) (hx : -Z ≤ x) (hx' : x ≤ Z) :
    -(32 * Z) ≤ x / (u * s) * (u * T) + u * st + x % (u * s) ∧ x / (u * s) * (u * T) + u * st + x % (u * s) ≤ 32 * Z := by
  have hus : 0 < u * s := Int.mul_pos hu (by omega)
  have h1 := Int.mul_ediv_add_emod x (u * s)
  have h2 := Int.emod_nonneg x (show u * s ≠ 0 by omega)
  have h3 := Int.emod_lt_of_pos x hus
  have h4 : u * s ≤ u * 4 := Int.mul_le_mul_of_nonneg_left hs4 (by omega)
  have h5 : u * st ≤ u * 28 := Int.mul_le_mul_of_nonneg_left hst28 (by omega)
  have h6 : 0 ≤ u * st := Int.mul_nonneg (by omega) hst
  generalize x % (u * s) = m at *
  generalize hq : x / (u * s) = q at *
  have e1 : q * (u * T) = (u * q) * T := by rw [Int.mul_comm u T, Int.mul_comm q, Int.mul_assoc, Int.mul_comm T (u * q)]
  have e2 : u * s * q = (u * q) * s := by rw [Int.mul_assoc, Int.mul_comm s q, ← Int.mul_assoc]
  rw [e2] at h1
  rw [e1]
  generalize hv : u * q = v at *
  rcases Int.le_total 0 v with h0 | h0
  · have a1 : v * 1 ≤ v * s := Int.mul_le_mul_of_nonneg_left hs h0
    have a2 : v * T ≤ v * 28 := Int.mul_le_mul_of_nonneg_left hT28 h0
    have a3 : 0 ≤ v * T := Int.mul_nonneg h0 hT
    omega
  · have a1 : v * s ≤ v * 1 := Int.mul_le_mul_of_nonpos_left h0 hs
    have a2 : v * 28 ≤ v * T := Int.mul_le_mul_of_nonpos_left h0 hT28
    have a3 : v * T ≤ 0 := Int.mul_nonpos_of_nonpos_of_nonneg h0 hT
    omega
end Mine
end -- PF
section
open PySem PySem.W PyProof.Rows PySem.Calls
set_option maxRecDepth 100000
namespace Mine
set_option compiler.extract_closed false
set_option hygiene false in
local macro_rules | `(tactic| walk_at "1") => `(tactic| ((case k1 => rfl)))
set_option hygiene false in
local macro_rules | `(tactic| walk_at "1023") => `(tactic| ((case k1 => rfl); (case k0 => rfl); (case k2 => rfl); (case k3 => rfl)))
set_option hygiene false in
local macro_rules | `(tactic| walk_at "10234") => `(tactic| ((case k1 => rfl); (case k0 => rfl); (case k2 => rfl); (case k3 => rfl); (case k4 => rfl)))
set_option hygiene false in
local macro_rules | `(tactic| walk_at "12") => `(tactic| ((case k1 => rfl); (case k2 => rfl)))
set_option hygiene false in
local macro_rules | `(tactic| walk_at "123") => `(tactic| ((case k1 => rfl); (case k2 => rfl); (case k3 => rfl)))
set_option hygiene false in
local macro_rules | `(tactic| walk_at "12345") => `(tactic| ((case k1 => rfl); (case k2 => rfl); (case k3 => rfl); (case k4 => rfl); (case k5 => rfl)))
set_option hygiene false in
local macro_rules | `(tactic| walk_at "45678") => `(tactic| ((case k4 => rfl); (case k5 => rfl); (case k6 => rfl); (case k7 => rfl); (case k8 => rfl)))
set_option hygiene false in
local macro_rules | `(tactic| walk_at "n") => `(tactic| first
  | ((with_reducible refine' r_ld S ?k0 ?k1 ?k2 ?k3 ?k4 ?_); walk_at "10234")
  | (with_reducible first | refine i_const ?_ | refine wpAny_BinOp ?_ | refine i_add ?_ | refine i_sub ?_ | refine then_next ?_ | refine wpAny_execs_nil ?_)
  | ((with_reducible refine wpAny_Assign_Name ?_ ?k1); walk_at "1")
  | ((with_reducible refine r_st S ?k0 ?k1 ?k2 ?_); (case k0 => rfl); (case k1 => rfl); (case k2 => rfl); clear S; intro _ _ S)
  | ((with_reducible refine wpAny_Compare1 ?_ ?k1); (case k1 => with_unfolding_all rfl))
  | ((with_reducible refine wpAny_isTrue_Compare1 ?_ ?k1); (case k1 => with_unfolding_all rfl))
  | (with_reducible first | refine i_lt ?_ | refine i_le ?_ | refine i_ge ?_ | refine i_gt ?_ | refine i_eq ?_ | refine i_ne ?_ | refine wpAny_truthy_bool ?_ | refine wpAny_If ?_ | refine wpAny_Return_some ?_ | refine then_ret ?_ | refine loop_next ?_ | refine loop_ret ?_ | refine then_cont ?_ | refine loop_cont ?_)
  | ((with_reducible refine' r_gl S X ?k1 ?k2 ?k3 ?k4 ?k5 ?_); walk_at "12345")
  | (with_reducible first | refine c_none ?_ | refine c_bool ?_)
  | ((with_reducible refine' r_bi S X ?k1 ?k2 ?k3 ?k4 ?k5 ?k6 ?k7 ?k8 ?_); (case k2 => first | (with_reducible exact bi_len) | (with_reducible exact bi_range) | (with_reducible exact bi_reversed) | (with_reducible exact bi_list) | (with_reducible exact bi_divmod) | (with_reducible exact bi_sum) | (with_reducible exact bi_zip) | (with_reducible exact bi_zero)); walk_at "1"; (case k3 => decide); walk_at "45678")
  | (with_reducible first | refine UnaryOp_ ?_ | refine i_neg ?_ | refine i_inv ?_ | refine wpAny_AugAssign_Name ?_)
  | ((with_reducible refine' r_ldn S ?k0 ?k1 ?k2 ?k3 ?_); walk_at "1023")
  | (with_reducible first | refine i_iadd ?_ | refine i_isub ?_ | refine i_and ?_ | refine i_or ?_ | refine i_xor ?_)
  | ((with_reducible refine r_meth ?k1 ?k2 ?_); walk_at "12")
  | ((with_reducible refine r_call0 ?_ ?k1); walk_at "1")
  | ((with_reducible refine' r_callK X ?k1 ?k2 ?k3 ?_); walk_at "123")
  | (with_reducible refine r_arg0 ?_)
  | ((with_reducible refine r_arg1 ?k1 ?_); walk_at "1")
  | ((with_reducible refine And.intro S.base ?_))
  | ((with_reducible refine r_callB ?k1 ?k2 ?_); walk_at "12")
  | ((with_reducible refine r_callT ?k1 ?k2 ?_); walk_at "12")
  | (with_reducible first | refine r_isnn ?_ | refine r_isin ?_ | refine r_isrn ?_ | refine r_iftrue ?_ | refine r_iffalse ?_ | refine r_sub ?_ | refine r_gm_bits ?_ | refine i_bits ?_ | refine r_callM0 ?_)
  | ((with_reducible refine r_callM1 ?k1 ?k2 ?_); walk_at "12")
  | ((with_reducible refine' r_gm S ?k1 ?k2 ?k3 ?_); (case k1 => k_mem); (case k2 => first | (with_reducible exact PySem.F.slot_list_append) | (with_reducible exact PySem.F.slot_list_pop) | (with_reducible exact PySem.F.slot_list_insert) | (with_reducible exact PySem.F.slot_list_reverse)); (case k3 => first | (with_reducible exact PySem.F.type_list_append) | (with_reducible exact PySem.F.type_list_pop) | (with_reducible exact PySem.F.type_list_insert) | (with_reducible exact PySem.F.type_list_reverse)))
  | ((with_reducible refine wpAny_Expr_any ?_ ?k1 ?k2); walk_at "12")
  | (with_reducible refine Tuple_ ?_)
  | ((with_reducible refine r_tuple S ?k1 ?_); (case k1 => exact Nat.le_of_ble_eq_true rfl); clear S; intro _ _ S _ _)
  | (with_reducible refine List_ ?_)
  | ((with_reducible refine r_list S ?k1 ?_); (case k1 => exact Nat.le_of_ble_eq_true rfl); clear S; intro _ _ S _ _)
  | ((with_reducible refine r_asw2 ?k1 ?k2 ?_); walk_at "12")
  | ((with_reducible refine r_asw3 ?k1 ?k2 ?_); walk_at "12")
  | ((with_reducible refine r_asT ?k1 ?k2 ?_); walk_at "12")
  | ((with_reducible refine' r_ui S (H _) ?k1 ?k2 ?_); (case k1 => exact isTup_own S (by k_mem)); (case k2 => rfl); clear S; intro _ S _)
  | (with_reducible first | refine r_ao2 ?_ | refine r_ao3 ?_)
  | ((with_reducible refine' r_unT S (H _) ?k1 ?k2 ?k3 ?_); (case k1 => exact isTup_own S (by k_mem)); (case k2 => rfl); (case k3 => rfl); clear S; intro _ S _)
  | (with_reducible first | refine r_aoc ?_ | refine r_aon ?_ | refine r_asN ?_ | refine r_isN ?_ | refine r_isC ?_ | refine r_tint ?_ | refine r_ifexp ?_)
  | ((with_reducible refine' r_ldf S ?k1 ?k2 ?k3 ?k4 ?k5 ?k6 ?_); walk_at "123"; (case k4 => assumption); (case k5 => rfl); (case k6 => rfl))
  | ((with_reducible refine' r_ldc S ?k1 ?k2 ?k3 ?k4 ?k5 ?k6 ?_); walk_at "123"; (case k4 => k_mem); (case k5 => assumption); (case k6 => rfl))
  | ((with_reducible refine r_asub ?k1 ?_); walk_at "1")
  | ((with_reducible refine' r_ldo S ?k1 ?k2 ?k3 ?k4 ?k5 ?k6 ?k7 ?_); walk_at "123"; (case k4 => k_mem); (case k5 => assumption); (case k6 => rfl); (case k7 => rfl))
  | ((with_reducible refine r_range1 S ?_); clear S; intro _ _ _ _ _ S)
  | (with_reducible first | refine wpAny_Return_none ?_ | refine r_isK ?_ | refine wpAny_Continue ?_))
set_option hygiene false in
local macro_rules | `(tactic| walk_at "m") => `(tactic| first | walk_at "n" | (with_reducible refine r_seq ?_))
set_option hygiene false in
local macro_rules | `(tactic| walk_at "s") => `(tactic| ((with_reducible refine r_seq ?_); repeat (walk_at "n")))
local macro_rules | `(tactic| walk_at "at") => `(tactic| first | exact At.head | (apply At.tail; walk_at "at"))
set_option hygiene false in
local macro_rules | `(tactic| walk_at "go") => `(tactic| repeat (walk_at "m"))
local macro_rules | `(tactic| walk_at "has") => `(tactic| first | exact trivial | (refine And.intro rfl ?_; walk_at "has"))
local macro_rules | `(tactic| walk_at "atf") => `(tactic| first | exact AtF.head | (apply AtF.tail; walk_at "atf"))
section -- F5
open PySem PySem.W PyProof.Rows PySem.Calls
set_option Elab.async false
set_option maxRecDepth 100000
set_option maxHeartbeats 4000000
section
variable {w : World} {A : Around} {E : Value → Shared → Prop} {h : Heap} {g : Array GenState} {d : Drawn} {tk : Nat} {o : OsState} {Q : Value → Shared → Prop}
open Builtin.Int in
theorem div2n1n_leaf {a b n : Int} {t1 t2 t3 : Tok} (X : Bs w h) (hroom : A.depth < recursionLimit) (hb : 0 < b) (hbl : b < 2 ^ 8000) (hn : (intBits a : Int) - n ≤ 4000)
   (hq : ∀ h' tk' r u1 u2, h.StaysIn h' → h.get? r = none → h'.get? r = some (tup [.int (a / b) u1, .int (a % b) u2]) → Q (.ref r) ⟨h', g, d, tk', o⟩) :
   wpAny (model pg w) A (call (.ref 48) [.int a t1, .int b t2, .int n t3]) Q E ⟨h, g, d, tk, o⟩ := by
  refine r_enter [(Str.ofString "a", .int a t1), (Str.ofString "b", .int b t2), (Str.ofString "n", .int n t3)] X hroom rfl rfl (BindsTo.of_eq rfl) (locs rfl) rfl rfl rfl (by decide) ?_
  intro h₁ tk₁ S
  walk_at "go"
  refine ite_b (fun _ => ?_) (fun hc => absurd hn hc)
  walk_at "go"
  refine r_divmod S (by (clear hn hroom; omega)) (PyProof.noPylong_of_log2 ?_) ?_
  · have h1 := bits_le (n := 8000) (by (clear hn hroom; omega)) hbl
    unfold intBits at h1
    rw [if_neg (by simp; (clear h1 hn hroom; omega))] at h1
    (clear hn hbl hb hroom; omega)
  have hS := S.base
  clear S
  intro r h₂ u1 u2 tk₂ S hst hr
  walk_at "go"
  rw [Int.fdiv_eq_ediv_of_nonneg _ (by (clear hr hn hroom; omega)), Int.fmod_eq_emod_of_nonneg _ (by (clear hr hn hroom; omega))] at S
  refine hq _ _ r u1 u2 S.base ?_ (S.get (.head _))
  cases q : h.get? r with
  | none => rfl
  | some ob => rw [hS _ _ q] at hr; cases hr

theorem div3n2n_ok {a12 a3 b b1 b2 : Int} {n : Nat} {t1 t2 t3 t4 t5 t6 : Tok} (X : Bs w h) (hroom : A.depth + 1 < recursionLimit) (hh : A.handled = none) (hn : n ≤ 4000)
   (hb : b = b1 * 2 ^ n + b2) (h0 : 0 < b1) (h1 : b1 < 2 ^ n) (hb2 : 0 ≤ b2) (hb2' : b2 < 2 ^ n) (ha : 0 ≤ a12) (hlt : a12 < b) (h30 : 0 ≤ a3) (h3 : a3 < 2 ^ n)
   (hq : ∀ h' tk' r u1 u2, h.StaysIn h' → h.get? r = none → h'.get? r = some (tup [.int ((a12 * 2 ^ n + a3) / b) u1, .int ((a12 * 2 ^ n + a3) % b) u2]) → Q (.ref r) ⟨h', g, d, tk', o⟩) :
   wpAny (model pg w) A (call (.ref 55) [.int a12 t1, .int a3 t2, .int b t3, .int b1 t4, .int b2 t5, .int n t6]) Q E ⟨h, g, d, tk, o⟩ := by
  have hp := two_pos n
  have hbp : b < 2 ^ (n + n) := by
    have e : (2 : Int) ^ (n + n) = 2 ^ n * 2 ^ n := Int.pow_add ..
    have := Int.mul_le_mul_of_nonneg_right (show b1 + 1 ≤ 2 ^ n by (clear e hp h3 h30 hlt ha hb2' hb2 h0 hb hn hh hroom; omega)) (show 0 ≤ (2 : Int) ^ n by (clear e h3 h30 hlt ha hb2' hb2 h1 h0 hb hn hh hroom; omega))
    rw [Int.add_mul, Int.one_mul] at this
    (clear hp h3 h30 hlt ha hb2 h1 h0 hn hh hroom; omega)
  have hbpos : 0 < b := by
    have := Int.mul_nonneg (show 0 ≤ b1 by (clear hbp hp h3 h30 hlt ha hb2' hb2 h1 hb hn hh hroom; omega)) (show 0 ≤ (2 : Int) ^ n by (clear hbp h3 h30 hlt ha hb2' hb2 h1 h0 hb hn hh hroom; omega))
    (clear this hbp hp h3 h30 hb2' hb2 h1 h0 hn hh hroom; omega)
  refine r_enter [(Str.ofString "a12", .int a12 t1), (Str.ofString "a3", .int a3 t2), (Str.ofString "b", .int b t3), (Str.ofString "b1", .int b1 t4), (Str.ofString "b2", .int b2 t5), (Str.ofString "n", .int n t6)] X (by (clear hbpos hbp hp h3 h30 hlt ha hb2' hb2 h1 h0 hb hn hh; omega)) rfl rfl (BindsTo.of_eq rfl) (locs rfl) rfl rfl rfl (by decide) ?_
  intro h₁ tk₁ S
  have H : ∀ e : Env, (A.deeper e).handled = none := fun _ => hh
  refine r_cut (fun s' => ∃ h' tk' q r u1 u2, s' = ⟨h', g, d, tk', o⟩ ∧ (0 ≤ q ∧ q < 2 ^ n ∧ q * b1 + r = a12 ∧ 0 ≤ r ∧ a12 * 2 ^ n + a3 < (q + 1) * b) ∧
    St h h.objs.size h' [(Str.ofString "q", .int q u1), (Str.ofString "r", .int r u2), (Str.ofString "a12", .int a12 t1), (Str.ofString "a3", .int a3 t2), (Str.ofString "b", .int b t3), (Str.ofString "b2", .int b2 t5), (Str.ofString "n", .int n t6)] [] []) ?_ ?_
  · intro Kc hKc
    walk_at "go"
    refine i_shr (by (clear hbpos hbp hp h3 h30 hlt ha hb2' hb2 h1 h0 hb hh hroom; omega)) ?_
    walk_at "go"
    rw [Int.toNat_natCast, Int.fdiv_eq_ediv_of_nonneg _ (by (clear hbpos hbp h3 h30 hlt ha hb2' hb2 h1 h0 hb hn hh hroom; omega))]
    refine ite_b (fun hc => ?_) fun hc => ?_
    · refine hide fun Kz kz => ?_
      obtain ⟨c1, c2, c3⟩ := d32_case1 hb (by (clear hbpos hbp hp h3 h30 hlt ha hb2' hb2 h1 hb hn hh hroom; omega)) ha hlt h30 h3 hc
      refine kz ?_
      clear kz Kz
      walk_at "go"
      refine i_shl (by (clear c3 c2 c1 hc hbpos hbp hp h3 h30 hlt ha hb2' hb2 h1 h0 hb hh hroom; omega)) (shl_ok 1 (by decide) (by decide) (by (clear c3 c2 c1 hc hbpos hbp hp h3 h30 hlt ha hb2' hb2 h1 h0 hb hh hroom; omega))) ?_
      walk_at "go"
      refine i_shl (by (clear c3 c2 c1 hc hbpos hbp hp h3 h30 hlt ha hb2' hb2 h1 h0 hb hh hroom; omega)) (shl_ok n (by (clear c3 c2 c1 hbpos hbp hp h3 h30 hlt ha hb2' hb2 h1 hb hn hh hroom; omega)) h1 (by (clear c3 c2 c1 hc hbpos hbp hp h3 h30 hlt ha hb2' hb2 h1 h0 hb hh hroom; omega))) ?_
      walk_at "go"
      simp only [Int.toNat_natCast, Int.one_mul] at S
      exact hKc _ ⟨_, _, _, _, _, _, rfl, ⟨by (clear c3 c2 c1 hc hbpos hbp h3 h30 hlt ha hb2' hb2 h1 h0 hb hn hh hroom; omega), by (clear c3 c2 c1 hc hbpos hbp hp h3 h30 hlt ha hb2' hb2 h1 h0 hb hn hh hroom; omega), c2, c1, by rw [Int.sub_add_cancel]; exact c3⟩, (S.sub (List.nil_sublist _)).as (by walk_at "has")⟩
    · refine hide fun Kz kz => ?_
      obtain ⟨c1, c2, c3, c4, c5⟩ := d32_case2 hb h0 hb2 hb2' ha hlt h30 h3 hc
      refine kz ?_
      clear kz Kz
      walk_at "go"
      refine div2n1n_leaf (X.keeps S.base) (by show A.depth + 1 < recursionLimit; (clear c5 c4 c3 c2 c1 hc hbpos hbp hp h3 h30 hlt ha hb2' hb2 h1 h0 hb hn hh; omega)) h0 (Int.lt_of_lt_of_le h1 (two_mono (by (clear c5 c4 c3 c2 c1 hc hbpos hbp hp h3 h30 hlt ha hb2' hb2 h1 h0 hb hh hroom; omega)))) ?_ ?_
      · have := bits_le ha (show a12 < 2 ^ (n + n) by (clear c5 c4 c2 c1 hc hbpos hp h3 h30 ha hb2' hb2 h1 h0 hn hh hroom; omega))
        (clear c5 c4 c3 c2 c1 hc hbpos hbp hp h3 h30 hlt ha hb2' hb2 h1 h0 hb hh hroom; omega)
      intro h₂ tk₂ r u1 u2 hst hr hr'
      replace S := S.adopt hst hr hr'
      walk_at "go"
      exact hKc _ ⟨_, _, _, _, _, _, rfl, ⟨c1, c2, c3, c4, c5⟩, (S.sub (List.nil_sublist _)).as (by walk_at "has")⟩
  · clear S
    rintro _ ⟨h₂, tk₂, q, r, u1, u2, rfl, ⟨q1, q2, q3, q4, q5⟩, S⟩
    have hr : r < 2 ^ (n + n) := by
      have := Int.mul_nonneg q1 (show 0 ≤ b1 by (clear q5 q4 q3 q2 q1 hbpos hbp hp h3 h30 hlt ha hb2' hb2 h1 hb hn hh hroom; omega))
      (clear q5 q4 q2 q1 hbpos hp h3 h30 ha hb2' hb2 h1 h0 hn hh hroom; omega)
    walk_at "go"
    refine i_shl (by (clear hr q5 q4 q3 q2 q1 hbpos hbp hp h3 h30 hlt ha hb2' hb2 h1 h0 hb hh hroom; omega)) (shl_ok (n + n) q4 hr (by (clear hr q5 q4 q3 q2 q1 hbpos hbp hp h3 h30 hlt ha hb2' hb2 h1 h0 hb hh hroom; omega))) ?_
    walk_at "go"
    refine i_mul (mul_ok' n n q1 q2 hb2 hb2' (by (clear hr q5 q4 q3 q2 q1 hbpos hbp hp h3 h30 hlt ha hb2' hb2 h1 h0 hb hh hroom; omega))) ?_
    walk_at "go"
    rw [Int.toNat_natCast, bitOr_shift n q4 h30 h3] at S
    have e0 : q * b + (r * 2 ^ n + a3 - q * b2) = a12 * 2 ^ n + a3 := by
      rw [hb, Int.mul_add, ← q3, Int.add_mul, Int.mul_assoc]; (clear hr q5 q4 q3 q2 q1 hbpos hbp hp h3 h30 hlt ha hb2' hb2 h1 h0 hb hn hh hroom; omega)
    refine r_while (σ := Int × Int × Tok × Tok) (fun y => [(Str.ofString "q", .int y.1 y.2.2.1), (Str.ofString "r", .int y.2.1 y.2.2.2), (Str.ofString "b", .int b t3)]) (fun _ => []) (fun _ => [])
      (fun y => y.1 * b + y.2.1 = a12 * 2 ^ n + a3 ∧ a12 * 2 ^ n + a3 < (y.1 + 1) * b) (fun y => (- y.2.1).toNat) (q, r * 2 ^ n + a3 - q * b2, _, _) (S.as (by walk_at "has")) ⟨e0, q5⟩ ?_
    clear S
    rintro ⟨q', r', u1', u2'⟩ h₃ tk₃ ⟨p1, p2⟩ S Kp hKp Qv hQv
    dsimp only at p1 p2 S
    walk_at "go"
    refine ite_b (fun hc => ?_) fun hc => ?_
    · walk_at "go"
      refine hKp (q' - 1, r' + b, _, _) _ _ ?_ ⟨?_, ?_⟩ (S.as (by walk_at "has"))
      · dsimp only; (clear p2 p1 e0 hr q5 q4 q3 q2 q1 hbp hp h3 h30 hlt ha hb2' hb2 h1 h0 hn hh hroom; omega)
      · dsimp only; rw [Int.sub_mul, Int.one_mul]; (clear hc p2 hr q5 q4 q3 q2 q1 hbpos hbp hp h3 h30 hlt ha hb2' hb2 h1 h0 hb hn hh hroom; omega)
      · dsimp only; rw [Int.sub_add_cancel]; (clear p2 hr q5 q4 q3 q2 q1 hbpos hbp hp h3 h30 hlt ha hb2' hb2 h1 h0 hb hn hh hroom; omega)
    · walk_at "go"
      refine hQv _ _ ?_
      walk_at "go"
      have hr2 : r' < b := by
        rw [Int.add_mul, Int.one_mul] at p2; (clear hc hr q5 q4 q3 q2 q1 hbpos hbp hp h3 h30 hlt ha hb2' hb2 h1 h0 hn hh hroom; omega)
      obtain ⟨e1, e2⟩ := divmod_unique hbpos p1 (by (clear hr2 p2 p1 e0 hr q5 q4 q3 q2 q1 hbpos hbp hp h3 h30 hlt ha hb2' hb2 h1 h0 hb hn hh hroom; omega)) hr2
      rw [← e1, ← e2] at hq
      exact hq _ _ _ _ _ S.base (S.new (.head _)) (S.get (.head _))
end
end -- F5
section -- F6
open PySem PySem.W PyProof.Rows PySem.Calls
set_option Elab.async false
set_option maxRecDepth 100000
set_option maxHeartbeats 4000000
section
variable {w : World} {A : Around} {E : Value → Shared → Prop} {h : Heap} {g : Array GenState} {d : Drawn} {tk : Nat} {o : OsState} {Q : Value → Shared → Prop}
open Builtin.Int in
theorem div2n1n_ok {a b : Int} {n : Nat} {t1 t2 t3 : Tok} (X : Bs w h) (hroom : A.depth + 2 < recursionLimit) (hh : A.handled = none) (h1 : 1 ≤ n) (hn : n ≤ 7900)
   (hb0 : 2 ^ (n - 1) ≤ b) (hb1 : b < 2 ^ n) (ha0 : 0 ≤ a) (ha1 : a < b * 2 ^ n)
   (hq : ∀ h' tk' r u1 u2, h.StaysIn h' → h.get? r = none → h'.get? r = some (tup [.int (a / b) u1, .int (a % b) u2]) → Q (.ref r) ⟨h', g, d, tk', o⟩) :
   wpAny (model pg w) A (call (.ref 48) [.int a t1, .int b t2, .int n t3]) Q E ⟨h, g, d, tk, o⟩ := by
  have hbpos : 0 < b := Int.lt_of_lt_of_le (two_pos _) hb0
  by_cases hs : (intBits a : Int) - n ≤ 4000
  · exact div2n1n_leaf X (by (clear hs hbpos ha1 ha0 hb1 hb0 hn h1 hh; omega)) hbpos (Int.lt_of_lt_of_le hb1 (two_mono (by (clear hs hbpos ha1 ha0 hb1 hb0 hh hroom; omega)))) hs hq
  refine r_enter [(Str.ofString "a", .int a t1), (Str.ofString "b", .int b t2), (Str.ofString "n", .int n t3)] X (by (clear hs hbpos ha1 ha0 hb1 hb0 hn h1 hh; omega)) rfl rfl (BindsTo.of_eq rfl) (locs rfl) rfl rfl rfl (by decide) ?_
  intro h₁ tk₁ S
  have H : ∀ e : Env, (A.deeper e).handled = none := fun _ => hh
  have han : a < 2 ^ (n + n) := by
    have e : (2 : Int) ^ (n + n) = 2 ^ n * 2 ^ n := Int.pow_add ..
    have := Int.mul_lt_mul_of_pos_right hb1 (two_pos n)
    (clear hs hbpos ha0 hb1 hb0 hn h1 hh hroom; omega)
  have hp2 : n % 2 ≤ 1 := by (clear han hs hbpos ha1 ha0 hb1 hb0 hn h1 hh hroom; omega)
  obtain ⟨m, hm⟩ : ∃ m, n + n % 2 = m + m := ⟨(n + n % 2) / 2, by (clear hp2 han hs hbpos ha1 ha0 hb1 hb0 hn h1 hh hroom; omega)⟩
  have hm0 : 4000 < n := by
    have := bits_le ha0 han
    (clear hp2 han hbpos ha1 ha0 hb1 hb0 hh hroom; omega)
  walk_at "s"
  refine ite_b (fun hc => absurd hc hs) (fun _ => ?_)
  walk_at "n"
  walk_at "n"
  walk_at "s"
  rw [PyProof.Rows.bitAnd_m1, show (n : Int) % 2 = ((n % 2 : Nat) : Int) by (clear hm0 hm hp2 han hs hbpos ha1 ha0 hb1 hb0 hn h1 hh hroom; omega)] at S
  refine r_cut (fun s' => ∃ h' tk' u1 u2 u3 u4, s' = ⟨h', g, d, tk', o⟩ ∧ St h h.objs.size h' [(Str.ofString "a", .int (a * 2 ^ (n % 2)) u1), (Str.ofString "b", .int (b * 2 ^ (n % 2)) u2), (Str.ofString "n", .int ((m + m : Nat) : Int) u3), (Str.ofString "pad", .int ((n % 2 : Nat) : Int) u4)] [] []) ?_ ?_
  · intro Kc hKc
    repeat walk_at "n"
    refine ite_nb (fun hc => ?_) (fun hc => ?_)
    · have e1 : n % 2 = 1 := by (clear hm0 han hs hbpos ha1 ha0 hb1 hb0 hn h1 hh hroom; omega)
      walk_at "go"
      refine i_ishl (by decide) (shl_ok _ ha0 han (by (clear hc hp2 han hs hbpos ha1 ha0 hb1 hb0 hh hroom; omega))) ?_
      walk_at "go"
      refine i_ishl (by decide) (shl_ok _ (by (clear e1 hc hm0 hm hp2 han hs ha1 ha0 hb1 hb0 hn h1 hh hroom; omega)) hb1 (by (clear hc hp2 han hs hbpos ha1 ha0 hb1 hb0 hh hroom; omega))) ?_
      walk_at "go"
      rw [show (n : Int) + 1 = ((m + m : Nat) : Int) by (clear hc hm0 hp2 han hs hbpos ha1 ha0 hb1 hb0 hn h1 hh hroom; omega)] at S
      refine hKc _ ?_
      rw [e1] at S ⊢
      exact ⟨_, _, _, _, _, _, rfl, S.as (by walk_at "has")⟩
    · have e1 : n % 2 = 0 := by (clear hm0 hp2 han hs hbpos ha1 ha0 hb1 hb0 hn h1 hh hroom; omega)
      walk_at "go"
      rw [show (n : Int) = ((m + m : Nat) : Int) by (clear e1 hm0 hp2 han hs hbpos ha1 ha0 hb1 hb0 hn h1 hh hroom; omega)] at S
      refine hKc _ ?_
      rw [e1] at S ⊢
      rw [Int.pow_zero, Int.mul_one, Int.mul_one]
      exact ⟨_, _, _, _, _, _, rfl, S.as (by walk_at "has")⟩
  clear S
  rintro _ ⟨h₂, tk₂, u1, u2, u3, u4, rfl, S⟩
  refine hide fun Kz kz => ?_
  obtain ⟨f1, f2, f3, f4, f5, f6, f7, f8, f9⟩ := d21_facts (a := a) hm (by (clear han hs hbpos ha1 ha0 hb1 hb0 hh hroom; omega)) hp2 hb0 hb1 h1 ha0 ha1
  obtain ⟨e1, e2⟩ := div_pad (a := a) (2 ^ (n % 2)) (two_pos _) hbpos
  refine kz ?_
  clear kz Kz
  have hpm := two_pos m
  generalize hpp : n % 2 = p at *
  have hpos := two_pos p
  rw [← e1] at hq
  generalize a * 2 ^ p = a' at *
  generalize b * 2 ^ p = b' at *
  walk_at "s"
  refine i_shr (by decide) ?_
  repeat walk_at "n"
  rw [show ((m + m : Nat) : Int).fdiv (2 ^ (1 : Int).toNat) = (m : Int) by rw [Int.fdiv_eq_ediv_of_nonneg _ (by decide)]; show ((m + m : Nat) : Int) / 2 = _; (clear e2 e1 f8 f6 f5 f4 f3 f2 f1 f9 f7 hpos hm hp2 hpp hpm hm0 han hs hbpos ha1 ha0 hb1 hb0 hn h1 hh hroom; omega)] at S
  walk_at "s"
  refine i_shl (by (clear e2 e1 f8 f6 f5 f4 f3 f2 f1 f9 f7 hpos hm hp2 hpp hpm hm0 han hs hbpos ha1 ha0 hb1 hb0 hn h1 hh hroom; omega)) (shl_ok 1 (by decide) (by decide) (by (clear e2 e1 f8 f6 f5 f4 f3 f2 f1 f9 f7 hpos hp2 hpm han hs hbpos ha1 ha0 hb1 hb0 hh hroom; omega))) ?_
  repeat walk_at "n"
  rw [Int.toNat_natCast, Int.one_mul] at S
  walk_at "s"
  refine i_shr (by (clear e2 e1 f8 f6 f5 f4 f3 f2 f1 f9 f7 hpos hm hp2 hpp hpm hm0 han hs hbpos ha1 ha0 hb1 hb0 hn h1 hh hroom; omega)) ?_
  repeat walk_at "n"
  rw [Int.toNat_natCast, Int.fdiv_eq_ediv_of_nonneg _ (by (clear e2 e1 f8 f6 f5 f4 f3 f2 f1 f9 f7 hpos hm hp2 hpp hm0 han hs hbpos ha1 ha0 hb1 hb0 hn h1 hh hroom; omega)), bitAnd_mask m (by (clear e2 e1 f8 f6 f5 f4 f3 f9 f7 hpos hm hp2 hpp hpm hm0 han hs hbpos ha1 ha0 hb1 hb0 hn h1 hh hroom; omega))] at S
  replace S := S.sub (List.nil_sublist _)
  have g1 : (a' / 2 ^ m) % 2 ^ m < 2 ^ m := Int.emod_lt_of_pos _ hpm
  have g2 : 0 ≤ (a' / 2 ^ m) % 2 ^ m := Int.emod_nonneg _ (by (clear g1 e2 e1 f8 f6 f5 f4 f3 f2 f1 f9 f7 hpos hm hp2 hpp hm0 han hs hbpos ha1 ha0 hb1 hb0 hn h1 hh hroom; omega))
  have g3 : a' / 2 ^ (m + m) * 2 ^ m + (a' / 2 ^ m) % 2 ^ m = a' / 2 ^ m := by
    have := Int.emod_add_mul_ediv (a' / 2 ^ m) (2 ^ m)
    rw [Int.ediv_ediv_of_nonneg (by (clear this g2 g1 e2 e1 f8 f6 f5 f4 f3 f2 f1 f9 f7 hpos hm hp2 hpp hm0 han hs hbpos ha1 ha0 hb1 hb0 hn h1 hh hroom; omega)), ← Int.pow_add, Int.mul_comm] at this
    (clear g2 g1 e2 e1 f8 f6 f5 f4 f3 f2 f1 f9 f7 hpos hm hp2 hpp hpm hm0 han hs hbpos ha1 ha0 hb1 hb0 hn h1 hh hroom; omega)
  have g4 : 0 ≤ a' / 2 ^ m := Int.ediv_nonneg f9 (by (clear g3 g2 g1 e2 e1 f8 f6 f5 f4 f3 f2 f1 f9 f7 hpos hm hp2 hpp hm0 han hs hbpos ha1 ha0 hb1 hb0 hn h1 hh hroom; omega))
  walk_at "s"
  refine i_shr (by (clear g4 g3 g2 g1 e2 e1 f8 f6 f5 f4 f3 f2 f1 f9 f7 hpos hm hp2 hpp hpm hm0 han hs hbpos ha1 ha0 hb1 hb0 hn h1 hh hroom; omega)) ?_
  repeat walk_at "n"
  refine i_shr (by (clear g4 g3 g2 g1 e2 e1 f8 f6 f5 f4 f3 f2 f1 f9 f7 hpos hm hp2 hpp hpm hm0 han hs hbpos ha1 ha0 hb1 hb0 hn h1 hh hroom; omega)) ?_
  repeat walk_at "n"
  rw [Int.toNat_natCast, Int.toNat_natCast, Int.fdiv_eq_ediv_of_nonneg _ (by have := two_pos (m + m); (clear g4 g3 g2 g1 e2 e1 f8 f6 f5 f4 f3 f2 f1 f9 f7 hpos hm hp2 hpp hpm hm0 han hs hbpos ha1 ha0 hb1 hb0 hn h1 hh hroom; omega)), Int.fdiv_eq_ediv_of_nonneg _ (by (clear g4 g3 g2 g1 e2 e1 f8 f6 f5 f4 f3 f2 f1 f9 f7 hpos hm hp2 hpp hm0 han hs hbpos ha1 ha0 hb1 hb0 hn h1 hh hroom; omega)), bitAnd_mask m g4]
  refine div3n2n_ok (X.keeps S.base) (by show A.depth + 1 + 1 < recursionLimit; (clear g4 g3 g2 g1 e2 e1 f8 f6 f5 f4 f3 f2 f1 f9 f7 hpos hm hp2 hpp hpm hm0 han hs hbpos ha1 ha0 hb1 hb0 hn h1 hh; omega)) (H _) (by (clear g4 g3 g2 g1 e2 e1 f8 f6 f5 f4 f3 f2 f1 f9 f7 hpos hp2 hpm han hs hbpos ha1 ha0 hb1 hb0 hh hroom; omega)) f2 f3 f4 f5 f6 f7 f8 g2 g1 ?_
  intro h₅ tk₅ r₅ v1 v2 hst hr hr'
  replace S := S.adopt hst hr hr'
  repeat walk_at "n"
  rw [g3] at S
  replace S := S.sub (List.nil_sublist _)
  have k1 : 0 ≤ a' / 2 ^ m % b' := Int.emod_nonneg _ (by (clear hr' hr g4 g3 g2 g1 e2 e1 f8 f6 f5 f4 f3 f9 f7 hpos hm hp2 hpp hpm hm0 han hs hbpos ha1 ha0 hb1 hb0 hn h1 hh hroom; omega))
  have k2 : a' / 2 ^ m % b' < b' := Int.emod_lt_of_pos _ f1
  have k3 : 0 ≤ a' % 2 ^ m := Int.emod_nonneg _ (by (clear k2 k1 hr' hr g4 g3 g2 g1 e2 e1 f8 f6 f5 f4 f3 f2 f1 f9 f7 hpos hm hp2 hpp hm0 han hs hbpos ha1 ha0 hb1 hb0 hn h1 hh hroom; omega))
  have k4 : a' % 2 ^ m < 2 ^ m := Int.emod_lt_of_pos _ hpm
  walk_at "s"
  rw [bitAnd_mask m f9]
  refine div3n2n_ok (X.keeps S.base) (by show A.depth + 1 + 1 < recursionLimit; (clear k4 k3 k2 k1 hr' hr g4 g3 g2 g1 e2 e1 f8 f6 f5 f4 f3 f2 f1 f9 f7 hpos hm hp2 hpp hpm hm0 han hs hbpos ha1 ha0 hb1 hb0 hn h1 hh; omega)) (H _) (by (clear k4 k3 k2 k1 hr' hr g4 g3 g2 g1 e2 e1 f8 f6 f5 f4 f3 f2 f1 f9 f7 hpos hp2 hpm han hs hbpos ha1 ha0 hb1 hb0 hh hroom; omega)) f2 f3 f4 f5 f6 k1 k2 k3 k4 ?_
  intro h₆ tk₆ r₆ v3 v4 hst' hr6 hr6'
  replace S := S.adopt hst' hr6 hr6'
  repeat walk_at "n"
  replace S := S.sub (List.nil_sublist _)
  obtain ⟨e3, e4⟩ := div_long (a := a') (b := b') m f1
  have q20 : 0 ≤ (a' / 2 ^ m % b' * 2 ^ m + a' % 2 ^ m) / b' := Int.ediv_nonneg (by have := Int.mul_nonneg k1 (show 0 ≤ (2 : Int) ^ m by (clear e4 e3 hr6' hr6 k4 k3 k2 k1 hr' hr g4 g3 g2 g1 e2 e1 f8 f6 f5 f4 f3 f2 f1 f9 f7 hpos hm hp2 hpp hm0 han hs hbpos ha1 ha0 hb1 hb0 hn h1 hh hroom; omega)); (clear e4 e3 hr6' hr6 k4 k2 k1 hr' hr g4 g3 g2 g1 e2 e1 f8 f6 f5 f4 f3 f2 f1 f9 f7 hpos hm hp2 hpp hpm hm0 han hs hbpos ha1 ha0 hb1 hb0 hn h1 hh hroom; omega)) (by (clear e4 e3 hr6' hr6 k4 k3 k2 k1 hr' hr g4 g3 g2 g1 e2 e1 f8 f6 f5 f4 f3 f9 f7 hpos hm hp2 hpp hpm hm0 han hs hbpos ha1 ha0 hb1 hb0 hn h1 hh hroom; omega))
  have q21 : (a' / 2 ^ m % b' * 2 ^ m + a' % 2 ^ m) / b' < 2 ^ m := by
    refine Int.ediv_lt_of_lt_mul f1 ?_
    have := Int.mul_le_mul_of_nonneg_right (show a' / 2 ^ m % b' + 1 ≤ b' by (clear q20 e4 e3 hr6' hr6 k4 k3 k1 hr' hr g4 g3 g2 g1 e2 e1 f8 f6 f5 f4 f3 f1 f9 f7 hpos hm hp2 hpp hpm hm0 han hs hbpos ha1 ha0 hb1 hb0 hn h1 hh hroom; omega)) (show 0 ≤ (2 : Int) ^ m by (clear q20 e4 e3 hr6' hr6 k4 k3 k2 k1 hr' hr g4 g3 g2 g1 e2 e1 f8 f6 f5 f4 f3 f2 f1 f9 f7 hpos hm hp2 hpp hm0 han hs hbpos ha1 ha0 hb1 hb0 hn h1 hh hroom; omega))
    rw [Int.add_mul, Int.one_mul] at this
    rw [Int.mul_comm (2 ^ m) b']
    (clear q20 e4 e3 hr6' hr6 k4 k3 k2 k1 hr' hr g4 g3 g2 g1 e2 e1 f8 f6 f5 f4 f3 f2 f1 f9 f7 hpos hm hp2 hpp hpm hm0 han hs hbpos ha1 ha0 hb1 hb0 hn h1 hh hroom; omega)
  have q10 : 0 ≤ a' / 2 ^ m / b' := Int.ediv_nonneg g4 (by (clear q21 q20 e4 e3 hr6' hr6 k4 k3 k2 k1 hr' hr g4 g3 g2 g1 e2 e1 f8 f6 f5 f4 f3 f9 f7 hpos hm hp2 hpp hpm hm0 han hs hbpos ha1 ha0 hb1 hb0 hn h1 hh hroom; omega))
  have q11 : a' / 2 ^ m / b' < 2 ^ m := by
    refine Int.ediv_lt_of_lt_mul f1 ?_
    have := Int.mul_le_mul_of_nonneg_right (show a' / 2 ^ (m + m) + 1 ≤ b' by (clear q10 q21 q20 e4 e3 hr6' hr6 k4 k3 k2 k1 hr' hr g4 g3 g2 g1 e2 e1 f6 f5 f4 f3 f1 f9 f7 hpos hm hp2 hpp hpm hm0 han hs hbpos ha1 ha0 hb1 hb0 hn h1 hh hroom; omega)) (show 0 ≤ (2 : Int) ^ m by (clear q10 q21 q20 e4 e3 hr6' hr6 k4 k3 k2 k1 hr' hr g4 g3 g2 g1 e2 e1 f8 f6 f5 f4 f3 f2 f1 f9 f7 hpos hm hp2 hpp hm0 han hs hbpos ha1 ha0 hb1 hb0 hn h1 hh hroom; omega))
    rw [Int.add_mul, Int.one_mul] at this
    rw [Int.mul_comm (2 ^ m) b']
    (clear q10 q21 q20 e4 e3 hr6' hr6 k4 k3 k2 k1 hr' hr g4 g2 e2 e1 f8 f6 f5 f4 f3 f2 f1 f9 f7 hpos hm hp2 hpp hpm hm0 han hs hbpos ha1 ha0 hb1 hb0 hn h1 hh hroom; omega)
  refine r_cut (fun s' => ∃ h' tk' u5 u6 u7 u8, s' = ⟨h', g, d, tk', o⟩ ∧ St h h.objs.size h' [(Str.ofString "q1", .int (a' / 2 ^ m / b') u5), (Str.ofString "q2", .int ((a' / 2 ^ m % b' * 2 ^ m + a' % 2 ^ m) / b') u6), (Str.ofString "r", .int (a % b) u7), (Str.ofString "half_n", .int m u8)] [] []) ?_ ?_
  · intro Kc hKc
    repeat walk_at "n"
    rw [e4, e2] at S
    refine ite_nb (fun hc => ?_) (fun hc => ?_)
    · have e1 : p = 1 := by (clear q11 q10 q21 q20 e4 e3 hr6' hr6 k4 k3 k2 k1 hr' hr g4 g3 g2 g1 e2 e1 f8 f6 f5 f4 f3 f2 f1 f9 f7 hpos hm hp2 hpm hm0 han hs hbpos ha1 ha0 hb1 hb0 hn h1 hh hroom; omega)
      walk_at "go"
      refine i_ishr (by decide) ?_
      walk_at "go"
      rw [e1, Int.fdiv_eq_ediv_of_nonneg _ (by decide), show (2 : Int) ^ (1 : Int).toNat = 2 ^ 1 from rfl, Int.mul_ediv_cancel _ (by decide)] at S
      exact hKc _ ⟨_, _, _, _, _, _, rfl, S.as (by walk_at "has")⟩
    · have e1 : p = 0 := by (clear q11 q10 q21 q20 e4 e3 hr6' hr6 k4 k3 k2 k1 hr' hr g4 g3 g2 g1 e2 e1 f8 f6 f5 f4 f3 f2 f1 f9 f7 hpos hm hp2 hpp hpm hm0 han hs hbpos ha1 ha0 hb1 hb0 hn h1 hh hroom; omega)
      walk_at "go"
      rw [e1, Int.pow_zero, Int.mul_one] at S
      exact hKc _ ⟨_, _, _, _, _, _, rfl, S.as (by walk_at "has")⟩
  clear S
  rintro _ ⟨h₇, tk₇, u5, u6, u7, u8, rfl, S⟩
  walk_at "go"
  refine i_shl (by (clear q11 q10 q21 q20 e4 e3 hr6' hr6 k4 k3 k2 k1 hr' hr g4 g3 g2 g1 e2 e1 f8 f6 f5 f4 f3 f2 f1 f9 f7 hpos hm hp2 hpp hpm hm0 han hs hbpos ha1 ha0 hb1 hb0 hn h1 hh hroom; omega)) (shl_ok m q10 q11 (by (clear q11 q10 q21 q20 e4 e3 hr6' hr6 k4 k3 k2 k1 hr' hr g4 g3 g2 g1 e2 e1 f8 f6 f5 f4 f3 f2 f1 f9 f7 hpos hp2 hpm han hs hbpos ha1 ha0 hb1 hb0 hh hroom; omega))) ?_
  walk_at "go"
  rw [Int.toNat_natCast, bitOr_shift m q10 q20 q21, e3] at S
  exact hq _ _ _ _ _ S.base (S.new (.head _)) (S.get (.head _))
end
end -- F6
section -- F7
open PySem PySem.W PyProof.Rows PySem.Calls
set_option Elab.async false
set_option maxRecDepth 100000
set_option maxHeartbeats 4000000
def I2D (w : World) (h : Heap) (f cA cI cN ad : Addr) (n : Nat) : Prop :=
  ∃ params body scope pos doc pm c' ctv tn, nested w.params 62 1 = some (.FunctionDef (Str.ofString "inner") params body [] none [] scope none (Str.ofString "inner") pos) ∧
    h.get? f = some (fnMade (Str.ofString "inner") i1.q params body scope [(Str.ofString "n", cN), (Str.ofString "inner", cI), (Str.ofString "a_digits", cA)] doc pm c' ctv) ∧
    h.CodeRec (.ref c') i1.q ∧ h.IsCell cA (some (.ref ad)) ∧ h.IsCell cI (some (.ref f)) ∧ h.IsCell cN (some (.int n tn))
theorem I2D.keeps {w : World} {h h' : Heap} {f cA cI cN ad : Addr} {n : Nat} (x : I2D w h f cA cI cN ad n) (hk : h.StaysIn h') : I2D w h' f cA cI cN ad n :=
  let ⟨a1, a2, a3, a4, a5, a6, a7, a8, a9, b1, b2, b3, b4, b5, b6⟩ := x
  ⟨a1, a2, a3, a4, a5, a6, a7, a8, a9, b1, hk _ _ b2, b3.keeps hk, b4.keeps hk, b5.keeps hk, b6.keeps hk⟩
section
variable {w : World}
theorem i2d_leaf {f cA cI cN ad : Addr} {n : Nat} {A : Around} {E : Value → Shared → Prop} {h : Heap} {g : Array GenState} {d : Drawn} {tk : Nat} {o : OsState} {Q : Value → Shared → Prop} {x : Int} {L : Nat} {vs : List Value} {e : Nat} {t1 t2 t3 : Tok}
   (X : Bs w (hideAll h [ad])) (I : I2D w (hideAll h [ad]) f cA cI cN ad n) (hl : h.get? ad = some (lst vs e)) (hroom : A.depth < recursionLimit) (hR : L < vs.length) (hz : vs.length ≤ 1000000)
   (hq : ∀ h' tk', (∀ b ob, b ≠ ad → h.get? b = some ob → h'.get? b = some ob) → h'.get? ad = some (lst (vs.take L ++ [.int x t1] ++ vs.drop (L + 1)) e) → Q .none ⟨h', g, d, tk', o⟩) :
   wpAny (model pg w) A (call (.ref f) [.int x t1, .int L t2, .int (L + 1 : Nat) t3]) Q E ⟨h, g, d, tk, o⟩ := by
  refine hide fun Kz kz => ?_
  obtain ⟨params, body, scope, pos, doc, pm, c', ctv, tn, hst, hf, hcr, hcA, hcI, hcN⟩ := I
  refine kz ?_
  clear kz Kz
  replace hst : some _ = some _ := hst
  cases hst
  refine r_enterX [(Str.ofString "x", .int x t1), (Str.ofString "L", .int L t2), (Str.ofString "R", .int (L + 1 : Nat) t3)] [(ad, lst vs e)] X (by intro p hp; rw [List.mem_singleton.mp hp]; exact hl) (by simp) hroom (of_hideAll _ hf) rfl (hcr.keeps fun _ _ e => of_hideAll _ e)
    (BindsTo.of_eq rfl) (locs rfl) rfl rfl rfl (by decide) ?_
  intro h₁ tk₁ S
  replace S : St (hideAll h [ad]) _ _ _ _ _ := S
  walk_at "go"
  refine ite_b (fun _ => ?_) (fun hc => absurd (by (clear hc hf hz hR hroom hl; omega)) hc)
  walk_at "go"
  refine r_setL S hR (by (clear hf hR hroom hl; omega)) (by walk_at "at") ?_
  clear S
  intro h₂ S
  walk_at "go"
  refine hq _ _ (fun b ob hb e => S.base _ _ (hideAll_get _ e (by simpa using hb))) ?_
  have := S.get (.head _)
  rw [List.set_eq_take_append_cons_drop, if_pos hR] at this
  simpa using this
theorem i2d_inner {f cA cI cN ad : Addr} {n : Nat} (D : Nat) : ∀ {A : Around} {E : Value → Shared → Prop} {h : Heap} {g : Array GenState} {d : Drawn} {tk : Nat} {o : OsState} {Q : Value → Shared → Prop} {x : Int} {L R : Nat} {vs : List Value} {e : Nat} {t1 t2 t3 : Tok}
   (_ : Bs w (hideAll h [ad])) (_ : I2D w (hideAll h [ad]) f cA cI cN ad n) (_ : h.get? ad = some (lst vs e)) (_ : A.depth + D + 1 < recursionLimit) (_ : L < R) (_ : R ≤ vs.length) (_ : R - L ≤ 2 ^ D) (_ : 0 ≤ x) (_ : x < 2 ^ (n * (R - L))) (_ : n * vs.length ≤ 1000000) (_ : vs.length ≤ 1000000)
   (_ : ∀ h' tk' ds, (∀ b ob, b ≠ ad → h.get? b = some ob → h'.get? b = some ob) → h'.get? ad = some (lst (vs.take L ++ ds ++ vs.drop R) e) → IntsAre ds (digs n (R - L) x) → Q .none ⟨h', g, d, tk', o⟩),
   wpAny (model pg w) A (call (.ref f) [.int x t1, .int L t2, .int R t3]) Q E ⟨h, g, d, tk, o⟩ := by
  induction D with
  | zero =>
    intro A E h g d tk o Q x L R vs e t1 t2 t3 X I hl hroom hLR hR hD h0 h1 hs hz hq
    have eR : R = L + 1 := by simp at hD; (clear hz hs h1 h0 hR hroom hl; omega)
    subst eR
    refine i2d_leaf X I hl (by (clear h1 hD hR hLR hz hs h0 hl; omega)) (by (clear h1 hD hLR hz hs h0 hroom hl; omega)) hz fun h' tk' k1 k2 => hq h' tk' _ k1 k2 ?_
    rw [Nat.add_sub_cancel_left] at h1 ⊢
    rw [Nat.mul_one] at h1
    rw [digs, digs, Int.emod_eq_of_lt h0 h1]
    exact .cons _ _ .nil
  | succ D ih =>
    intro A E h g d tk o Q x L R vs e t1 t2 t3 X I hl hroom hLR hR hD h0 h1 hs hz hq
    by_cases eR : R = L + 1
    · subst eR
      refine i2d_leaf X I hl (by (clear h1 hD hR hLR hz hs h0 hl; omega)) (by (clear h1 hD hLR hz hs h0 hroom hl; omega)) hz fun h' tk' k1 k2 => hq h' tk' _ k1 k2 ?_
      rw [Nat.add_sub_cancel_left] at h1 ⊢
      rw [Nat.mul_one] at h1
      rw [digs, digs, Int.emod_eq_of_lt h0 h1]
      exact .cons _ _ .nil
    have I0 := I
    refine hide fun Kz kz => ?_
    obtain ⟨params, body, scope, pos, doc, pm, c', ctv, tn, hst, hf, hcr, hcA, hcI, hcN⟩ := I
    refine kz ?_
    clear kz Kz
    replace hst : some _ = some _ := hst
    cases hst
    refine r_enterX [(Str.ofString "x", .int x t1), (Str.ofString "L", .int L t2), (Str.ofString "R", .int R t3)] [(ad, lst vs e)] X (by intro p hp; rw [List.mem_singleton.mp hp]; exact hl) (by simp) (by (clear hf eR hz hs h1 h0 hD hR hLR hl; omega)) (of_hideAll _ hf) rfl (hcr.keeps fun _ _ e => of_hideAll _ e)
      (BindsTo.of_eq rfl) (locs rfl) rfl rfl rfl (by decide) ?_
    intro h₁ tk₁ S
    replace S : St (hideAll h [ad]) _ _ _ _ _ := S
    obtain ⟨k, hk⟩ : ∃ k, k = (R - L) / 2 := ⟨_, rfl⟩
    have hk0 := half hk hLR eR hD
    clear hk
    obtain ⟨hk, hk2, hk3, hk4, hk5⟩ := hk0
    have hp2 : 2 ^ (D + 1) = 2 * 2 ^ D := by rw [Nat.pow_succ]; (clear hk hf eR hz hs h1 h0 hD hR hLR hroom hl; omega)
    have hnk : n * k ≤ 1000000 := Nat.le_trans (Nat.mul_le_mul_left n (show k ≤ vs.length by (clear hp2 hf hz hs h1 h0 hD hroom hl; omega))) hs
    have hpk := two_pos (n * k)
    walk_at "s"
    refine ite_b (fun hc => absurd (by (clear hpk hnk hp2 hk hf eR hz hs h1 h0 hD hR hLR hroom hl; omega)) eR) (fun _ => ?_)
    walk_at "n"
    walk_at "n"
    walk_at "s"
    refine i_shr (by decide) ?_
    repeat walk_at "n"
    rw [show ((L : Int) + R).fdiv (2 ^ (1 : Int).toNat) = ((L + k : Nat) : Int) by rw [Int.fdiv_eq_ediv_of_nonneg _ (by decide)]; exact hk5] at S
    walk_at "s"
    refine i_mul (IntMulOk.of_left (intBits_le_64 (by (clear hpk hnk hp2 hf eR hz hs h1 h0 hD hR hLR hroom hl; omega)) (by (clear hpk hnk hp2 hf hs h1 h0 hD hroom hl; omega)))) ?_
    repeat walk_at "n"
    rw [show (((L + k : Nat) : Int) - L) * n = ((n * k : Nat) : Int) by rw [Nat.mul_comm]; push_cast; congr 1; (clear hpk hnk hp2 hk hf eR hz hs h1 h0 hD hR hLR hroom hl; omega)] at S
    walk_at "s"
    refine i_shr (by (clear hpk hp2 hk hf eR hz hs h1 h0 hD hR hLR hroom hl; omega)) ?_
    repeat walk_at "n"
    rw [Int.toNat_natCast, Int.fdiv_eq_ediv_of_nonneg _ (by (clear hnk hp2 hk hf eR hz hs h1 h0 hD hR hLR hroom hl; omega))] at S
    have u0 : 0 ≤ x / 2 ^ (n * k) := Int.ediv_nonneg h0 (by (clear hnk hp2 hk hf eR hz hs h1 h0 hD hR hLR hroom hl; omega))
    have u1 : x / 2 ^ (n * k) < 2 ^ (n * (R - (L + k))) := by
      refine Int.ediv_lt_of_lt_mul hpk ?_
      rw [← Int.pow_add, ← Nat.mul_add, show R - (L + k) + k = R - L by (clear u0 hpk hnk hp2 hf hz hs h1 h0 hD hR hroom hl; omega)]
      exact h1
    have l0 : 0 ≤ x % 2 ^ (n * k) := Int.emod_nonneg _ (by (clear u1 u0 hnk hp2 hk hf eR hz hs h1 h0 hD hR hLR hroom hl; omega))
    have l1 : x % 2 ^ (n * k) < 2 ^ (n * k) := Int.emod_lt_of_pos _ hpk
    have hnr : n * (R - (L + k)) ≤ 1000000 := Nat.le_trans (Nat.mul_le_mul_left n (show R - (L + k) ≤ vs.length by (clear l1 l0 u1 u0 hpk hnk hp2 hf eR hs h1 h0 hD hroom hl; omega))) hs
    walk_at "s"
    refine i_shl (by (clear hnr l1 l0 u1 u0 hpk hp2 hk hf eR hz hs h1 h0 hD hR hLR hroom hl; omega)) (shl_ok _ u0 u1 (by (clear l1 l0 u1 u0 hpk hp2 hk hf eR hz hs h1 h0 hD hR hLR hroom hl; omega))) ?_
    repeat walk_at "n"
    rw [Int.toNat_natCast, bitXor_low _ h0] at S
    walk_at "s"
    refine r_callF hf rfl rfl ?_
    repeat walk_at "n"
    have hS1 := S.hideOwn (as := [ad]) (by intro a ha; rw [List.mem_singleton.mp ha]; exact ⟨_, .head _⟩)
    refine ih (X.keeps hS1) (I0.keeps hS1) (S.get (.head _)) (by show A.depth + 1 + D + 1 < recursionLimit; (clear hnr l1 l0 u1 u0 hpk hnk hp2 hk hf eR hz hs h1 h0 hD hR hLR hl; omega)) (by (clear hnr l1 l0 u1 u0 hpk hnk hp2 hf hs h1 h0 hD hroom hl; omega)) (by (clear hnr l1 l0 u1 u0 hpk hnk hp2 hf hz hs h1 h0 hD hroom hl; omega)) (by (clear hnr l1 l0 u1 u0 hpk hnk hp2 hf eR hz hs h1 h0 hR hLR hroom hl; omega)) l0 (by rw [show L + k - L = k by (clear hnr l1 l0 u1 u0 hpk hnk hp2 hf eR hz hs h1 h0 hD hR hLR hroom hl; omega)]; exact l1) hs hz ?_
    intro h₅ tk₅ ds1 hx1 hl1 hd1
    replace S := S.at .head (fun b ob hb e => hx1 b ob hb e) hl1
    rw [show L + k - L = k by (clear hl1 hnr l1 l0 u1 u0 hpk hnk hp2 hf eR hz hs h1 h0 hD hR hLR hroom hl; omega)] at hd1
    have len1 : ds1.length = k := by rw [hd1.length, digs_length]
    have len2 := splice_length vs ds1 L k len1 (by (clear hl1 hnr l1 l0 u1 u0 hpk hnk hp2 hf hz hs h1 h0 hD hroom hl; omega))
    repeat walk_at "n"
    walk_at "s"
    refine r_callF hf rfl rfl ?_
    repeat walk_at "n"
    have hS2 := S.hideOwn (as := [ad]) (by intro a ha; rw [List.mem_singleton.mp ha]; exact ⟨_, .head _⟩)
    refine ih (X.keeps hS2) (I0.keeps hS2) (S.get (.head _)) (by show A.depth + 1 + D + 1 < recursionLimit; (clear len2 len1 hl1 hnr l1 l0 u1 u0 hpk hnk hp2 hk hf eR hz hs h1 h0 hD hR hLR hl; omega)) (by (clear len2 hl1 hnr l1 l0 u1 u0 hpk hnk hp2 hf hz hs h1 h0 hD hR hroom hl; omega)) (by (clear len1 hl1 hnr l1 l0 u1 u0 hpk hnk hp2 hk hf eR hz hs h1 h0 hD hLR hroom hl; omega)) (by (clear len2 hl1 hnr l1 l0 u1 u0 hpk hnk hp2 hf hz hs h1 h0 hR hroom hl; omega)) u0 u1 (by rw [len2]; exact hs) (by rw [len2]; exact hz) ?_
    intro h₆ tk₆ ds2 hx2 hl2 hd2
    replace S := S.at .head (fun b ob hb e => hx2 b ob hb e) hl2
    walk_at "go"
    rw [splice vs ds1 ds2 L k R len1 (by (clear hl2 len2 hl1 hnr l1 l0 u1 u0 hpk hnk hp2 hf hz hs h1 h0 hD hR hroom hl; omega)) hR] at S
    refine hq _ _ (ds1 ++ ds2) (fun b ob hb e => S.base _ _ (hideAll_get _ e (by simpa using hb))) (S.get (.head _)) ?_
    have := hd1.append hd2
    rw [← digs_split, show k + (R - (L + k)) = R - L by (clear hl2 len2 hl1 hnr l1 l0 u1 u0 hpk hnk hp2 hf hz hs h1 h0 hD hR hroom hl; omega)] at this
    exact this
end
end -- F7
section -- F8
open PySem PySem.W PyProof.Rows PySem.Calls
set_option Elab.async false
set_option maxRecDepth 100000
set_option maxHeartbeats 4000000
section
variable {w : World} {A : Around} {E : Value → Shared → Prop} {h : Heap} {g : Array GenState} {d : Drawn} {tk : Nat} {o : OsState} {Q : Value → Shared → Prop}
open Builtin.Int in
theorem int2digits_ok {a : Int} {n : Nat} {t1 t2 : Tok} (X : Bs w (hideAll h tabAs)) (T : TabsH h) (hroom : A.depth + 20 < recursionLimit) (ha : 0 ≤ a) (hb : intBits a ≤ 20000) (hn : 1 ≤ n) (hn' : n ≤ 8000)
   (hq : ∀ h' tk' ad ds e, TabsP h h' → h.get? ad = none → h'.get? ad = some (lst ds e) → IntsAre ds (digs n ((intBits a + n - 1) / n) a) → Q (.ref ad) ⟨h', g, d, tk', o⟩) :
   wpAny (model pg w) A (call (.ref 62) [.int a t1, .int n t2]) Q E ⟨h, g, d, tk, o⟩ := by
  have X' : Bs w h := X.keeps fun b ob e => of_hideAll _ e
  refine r_enterC [(Str.ofString "a", .int a t1), (Str.ofString "n", .int n t2)] [(Str.ofString "a", .int a t1)] X T (by (clear hn' hn hb ha; omega)) rfl rfl (BindsTo.of_eq rfl) rfl (by decide) (by intro p hp; rw [List.mem_singleton.mp hp]; rfl) rfl rfl rfl ?_
  intro h₁ tk₁ q1 q2 q3 cells e1 e2 e3 V1 V2 V3 Y S
  have H : ∀ e : Env, (A.deeper e).depth = A.depth + 1 := fun _ => rfl
  obtain ⟨k, hk⟩ : ∃ k, k = (intBits a + n - 1) / n := ⟨_, rfl⟩
  have hkn : n * k ≤ intBits a + n - 1 := by rw [hk]; exact Nat.mul_div_le ..
  have hkn2 : intBits a ≤ n * k := by
    have := Nat.lt_mul_div_succ (intBits a + n - 1) (show 0 < n by (clear hkn hk e3 e2 e1 hb ha hroom; omega))
    rw [← hk, Nat.mul_add] at this
    (clear hk e3 e2 e1 hn' hn hb ha hroom; omega)
  have hk3 : k ≤ 20000 := by
    rw [hk]
    refine Nat.div_le_of_le_mul ?_
    have := Nat.mul_le_mul_right 20000 hn
    have h2 : n * 20000 ≥ 20000 := by (clear hkn2 hkn hk e3 e2 e1 hn' hn hb ha hroom; omega)
    have h3 : n * 20000 = n + n * 19999 := by (clear h2 this hkn2 hkn hk e3 e2 e1 hn' hn hb ha hroom; omega)
    (clear h3 h2 this hkn2 hkn hk e3 e2 e1 ha hroom; omega)
  rw [← hk] at hq
  refine hide fun Kz kz => ?_
  obtain ⟨o3, o2, o1, rfl, y3, y2, y1⟩ := cells3 Y
  refine kz ?_
  clear kz Kz
  replace y1 : o1.data = .cell (some (.int n t2)) := y1
  replace y2 : o2.data = .cell none := y2
  replace y3 : o3.data = .cell none := y3
  walk_at "s"
  refine i_fdiv (by (clear y3 y2 y1 hk3 hkn2 hkn hk e3 e2 e1 hb ha hroom; omega)) (PyProof.noPylong_small (by (clear y3 y2 y1 hk3 hkn2 hkn hk e3 e2 e1 hb ha hroom; omega))) ?_
  rw [show ((intBits a : Int) + n - 1).fdiv n = ((k : Nat) : Int) by rw [Int.fdiv_eq_ediv_of_nonneg _ (by (clear y3 y2 y1 hk3 hkn2 hkn hk e3 e2 e1 hb ha hroom; omega)), hk, show (intBits a : Int) + n - 1 = ((intBits a + n - 1 : Nat) : Int) by (clear y3 y2 y1 hk3 hkn2 hkn hk e3 e2 e1 ha hroom; omega)]; exact (Int.natCast_ediv ..).symm]
  refine r_mulL S (by k_mem) (by (clear y3 y2 y1 hkn2 hkn e3 e2 e1 hn' hn hb ha hroom; omega)) ?_
  clear S
  intro ad h₂ S
  generalize hzz : List.replicate k _ = z at S
  have hzl : z.length = k := by rw [← hzz, List.length_replicate]
  clear hzz
  replace S := S.sub (own' := (ad, _) :: (h.objs.size + 1 + 1 + 1, o3) :: (h.objs.size + 1 + 1, o2) :: (h.objs.size + 1, o1) :: []) (.cons_cons _ (.cons _ (.refl _)))
  refine r_stc S rfl rfl rfl y2 (by walk_at "atf") ?_
  clear S
  intro h₃ o2' y2' S
  repeat walk_at "n"
  with_reducible refine r_seq ?_
  refine r_fundef (qual := i1.q) rfl rfl rfl rfl ?_
  refine r_mkfun (i := i1) (tl' := fun p => tabL p q2 q3 []) S X (fun _ => .head) rfl V1 (codeHd1 X) rfl rfl rfl rfl rfl ?_
  clear S
  intro f c' doc pm ctv p1 nx h₄ tk₄ oc S V1' hco hcr
  replace S : St _ _ _ _ _ (tabL p1 q2 q3 nx) := S
  refine r_stc S rfl rfl rfl y3 (by walk_at "atf") ?_
  clear S
  intro h₅ o3' y3' S
  repeat walk_at "n"
  rw [List.nil_append] at hcr V1'
  have V2' : TV i2 (hideAll h tabAs) nx q2 q2 := by
    rcases V2 with V2 | ⟨_, _, _, _, m, _⟩
    · exact .inl V2
    · cases m
  have V3' : TV i3 (hideAll h tabAs) nx q3 q3 := by
    rcases V3 with V3 | ⟨_, _, _, _, m, _⟩
    · exact .inl V3
    · cases m
  refine r_cut (fun s' => ∃ h' tk' o1 o2 o3 ds e, s' = ⟨h', g, d, tk', o⟩ ∧ o2.data = .cell (some (.ref ad)) ∧ IntsAre ds (digs n k a) ∧ St (hideAll h tabAs) h.objs.size h' [] [(ad, lst ds e), (h.objs.size + 1 + 1 + 1, o3), (h.objs.size + 1 + 1, o2), (h.objs.size + 1, o1)] (tabL p1 q2 q3 nx)) ?_ ?_
  · intro Kc hKc
    repeat walk_at "n"
    refine ite_nb (fun hc => ?_) (fun hc => ?_)
    · walk_at "go"
      refine r_callO (S.get (.head _)) rfl rfl ?_
      walk_at "go"
      refine r_len (items := z.toArray) (S.isList (.tail _ (.head _))) (by simp; (clear hc y3' hcr y2' y3 y2 y1 hkn2 hkn e3 e2 e1 hn' hn hb ha hroom; omega)) ?_
      intro _ _
      walk_at "go"
      rw [show ((z.toArray.size : Nat) : Int) = ((k : Nat) : Int) by rw [List.size_toArray, hzl]]
      refine ⟨S.get (.head _), ?_⟩
      have hS := S.hideOwn (as := [ad]) (by intro a ha; rw [List.mem_singleton.mp ha]; exact ⟨_, .tail _ (.head _)⟩)
      have g1 := S.hid1 (b := ad) (.head _) (.tail _ (.head _)) (by intro e; have := congrArg Obj.data e; cases this)
      have g2 := S.hid1 (a := h.objs.size + 1 + 1 + 1) (b := ad) (.tail _ (.tail _ (.head _))) (.tail _ (.head _)) (by intro e; rw [e] at y3'; cases y3')
      have g3 := S.hid1 (a := h.objs.size + 1 + 1) (b := ad) (.tail _ (.tail _ (.tail _ (.head _)))) (.tail _ (.head _)) (by intro e; rw [e] at y2'; cases y2')
      have g4 := S.hid1 (a := h.objs.size + 1) (b := ad) (.tail _ (.tail _ (.tail _ (.tail _ (.head _))))) (.tail _ (.head _)) (by intro e; rw [e] at y1; cases y1)
      have g5 : (hideAll h₅ [ad]).get? c' = some oc := by
        rcases hcr with hcr | hcr
        · exact hS _ _ hcr
        · refine S.hid1 (List.mem_append_right _ (.tail _ (.tail _ (.tail _ hcr)))) (.tail _ (.head _)) ?_
          intro e
          refine hide fun Kz kz => ?_
          obtain ⟨vs, t, e', _⟩ := hco
          refine kz ?_
          clear kz Kz
          rw [e] at e'; cases e'
      refine i2d_inner 15 (L := 0) (R := k) (vs := z) (X.keeps hS) ⟨_, _, _, _, _, _, _, _, _, rfl, g1, codeObj_rec g5 hco, ⟨_, g3, y2'⟩, ⟨_, g2, y3'⟩, ⟨_, g4, y1⟩⟩ (S.get (.tail _ (.head _))) (by show A.depth + 1 + 15 + 1 < recursionLimit; (clear g5 g4 g3 g2 g1 hc y3' hcr y2' hzl y3 y2 y1 hk3 hkn2 hkn hk e3 e2 e1 hn' hn hb ha; omega))
        ?_ (by (clear g5 g4 g3 g2 g1 hc y3' hcr y2' y3 y2 y1 hk3 hkn2 hkn e3 e2 e1 hn' hn hb ha hroom; omega)) (by show k - 0 ≤ 32768; (clear g5 g4 g3 g2 g1 hc y3' hcr y2' y3 y2 y1 hkn2 hkn e3 e2 e1 hn' hn hb ha hroom; omega)) ha ?_ (by rw [hzl]; (clear g5 g4 g3 g2 g1 y3' hcr y2' hzl y3 y2 y1 hk3 hkn2 hk e3 e2 e1 hroom; omega)) (by (clear g5 g4 g3 g2 g1 hc y3' hcr y2' y3 y2 y1 hkn2 hkn e3 e2 e1 hn' hn hb ha hroom; omega)) ?_
      · rcases Nat.eq_zero_or_pos k with h0 | h0
        · rw [h0, Nat.mul_zero] at hkn2
          have := bits_lt ha
          rw [show intBits a = 0 by (clear this h0 g5 g4 g3 g2 g1 hc y3' hcr y2' hzl y3 y2 y1 hk3 hkn hk e3 e2 e1 hn' hn ha hroom; omega)] at this
          (clear h0 g5 g4 g3 g2 g1 y3' hcr y2' hzl y3 y2 y1 hk3 hkn2 hkn hk e3 e2 e1 hn' hn hb hroom; omega)
        · exact h0
      · exact Int.lt_of_lt_of_le (bits_lt ha) (two_mono (by rw [Nat.sub_zero]; exact hkn2))
      intro h₇ tk₇ ds hx hl' hds
      replace S := S.at (.tail .head) (fun b ob hb e => hx b ob hb e) hl'
      walk_at "go"
      rw [List.take_zero, List.nil_append, List.drop_of_length_le (by (clear hl' g5 g4 g3 g2 g1 hc y3' hcr y2' y3 y2 y1 hk3 hkn2 hkn e3 e2 e1 hn' hn hb ha hroom; omega)), List.append_nil] at S
      exact hKc _ ⟨_, _, o1, o2', o3', _, _, rfl, y2', by simpa using hds, (S.sub (.cons _ (.refl _))).as trivial⟩
    · have k0 : k = 0 := by
        rw [hk, hc]
        exact Nat.div_eq_of_lt (by show 0 + n - 1 < n; (clear hc y3' hcr y2' hzl y3 y2 y1 hk3 hkn2 hkn hk e3 e2 e1 hb ha hroom; omega))
      walk_at "go"
      refine hKc _ ⟨_, _, o1, o2', o3', _, _, rfl, y2', ?_, (S.sub (.cons _ (.refl _))).as trivial⟩
      rw [k0]
      have : z = [] := List.length_eq_zero_iff.mp (by (clear hc y3' hcr y2' y3 y2 y1 hk3 hkn2 hkn e3 e2 e1 hn' hn hb ha hroom; omega))
      rw [this]
      exact .nil
  clear S
  rintro _ ⟨h₆, tk₆, o1, o2, o3, ds, e, rfl, y, hds, S⟩
  walk_at "go"
  refine hq _ _ ad ds e (S.endT V1' V2' V3' e1 e2 e3) ?_ (S.get (.head _)) hds
  have := S.new (.head _)
  cases q : h.get? ad with
  | none => rfl
  | some ob =>
    have h1 : ad ∉ tabAs := fun hm => by
      have g1 := S.tab (.head _)
      have g2 := S.tab (.tail _ (.head _))
      have g3 := S.tab (.tail _ (.tail _ (.head _)))
      have g0 := S.get (.head _)
      simp only [tabAs, List.mem_cons, List.not_mem_nil, or_false] at hm
      rcases hm with rfl | rfl | rfl
      · rw [g1.1] at g0; cases g0
      · rw [g2.1] at g0; cases g0
      · rw [g3.1] at g0; cases g0
    rw [hideAll_get _ q h1] at this; cases this
end
end -- F8
section -- F9
open PySem PySem.W PyProof.Rows PySem.Calls
set_option Elab.async false
set_option maxRecDepth 100000
set_option maxHeartbeats 4000000
def D2I (w : World) (h : Heap) (f cD cI cN dg : Addr) (n : Nat) : Prop :=
  ∃ params body scope pos doc pm c' ctv tn, nested w.params 69 0 = some (.FunctionDef (Str.ofString "inner") params body [] none [] scope none (Str.ofString "inner") pos) ∧
    h.get? f = some (fnMade (Str.ofString "inner") i2.q params body scope [(Str.ofString "n", cN), (Str.ofString "inner", cI), (Str.ofString "digits", cD)] doc pm c' ctv) ∧
    h.CodeRec (.ref c') i2.q ∧ h.IsCell cD (some (.ref dg)) ∧ h.IsCell cI (some (.ref f)) ∧ h.IsCell cN (some (.int n tn))
theorem D2I.keeps {w : World} {h h' : Heap} {f cA cI cN ad : Addr} {n : Nat} (x : D2I w h f cA cI cN ad n) (hk : h.StaysIn h') : D2I w h' f cA cI cN ad n :=
  let ⟨a1, a2, a3, a4, a5, a6, a7, a8, a9, b1, b2, b3, b4, b5, b6⟩ := x
  ⟨a1, a2, a3, a4, a5, a6, a7, a8, a9, b1, hk _ _ b2, b3.keeps hk, b4.keeps hk, b5.keeps hk, b6.keeps hk⟩
section
variable {w : World}
theorem d2i_leaf {f cD cI cN dg : Addr} {n : Nat} {A : Around} {E : Value → Shared → Prop} {h : Heap} {g : Array GenState} {d : Drawn} {tk : Nat} {o : OsState} {Q : Value → Shared → Prop} {L : Nat} {vs : List Value} {ns : List Int} {t2 t3 : Tok}
   (X : Bs w h) (I : D2I w h f cD cI cN dg n) (hl : h.IsList dg vs.toArray) (hi : IntsAre vs ns) (hroom : A.depth < recursionLimit) (hR : L < ns.length) (hz : ns.length ≤ 1000000)
   (hq : ∀ h' tk' t, h.StaysIn h' → Q (.int ns[L] t) ⟨h', g, d, tk', o⟩) :
   wpAny (model pg w) A (call (.ref f) [.int L t2, .int (L + 1 : Nat) t3]) Q E ⟨h, g, d, tk, o⟩ := by
  refine hide fun Kz kz => ?_
  obtain ⟨params, body, scope, pos, doc, pm, c', ctv, tn, hst, hf, hcr, hcA, hcI, hcN⟩ := I
  refine kz ?_
  clear kz Kz
  replace hst : some _ = some _ := hst
  cases hst
  refine r_enterX [(Str.ofString "L", .int L t2), (Str.ofString "R", .int (L + 1 : Nat) t3)] [] X (fun p hp => nomatch hp) (by simp) hroom hf rfl hcr
    (BindsTo.of_eq rfl) (locs rfl) rfl rfl rfl (by decide) ?_
  intro h₁ tk₁ S
  replace S : St h _ _ _ _ _ := S
  walk_at "go"
  refine ite_b (fun _ => ?_) (fun hc => absurd (by (clear hc hf hz hroom; omega)) hc)
  walk_at "go"
  obtain ⟨u, hu⟩ := ints_get (i := L) hi hR
  refine r_itemL (stays_list S.base hl) (by (clear hu hf hz hroom; omega)) (by (clear hu hf hroom; omega)) (by simpa using hu) rfl ?_
  walk_at "go"
  exact hq _ _ _ S.base
theorem d2i_inner {f cD cI cN dg : Addr} {n : Nat} (D : Nat) : ∀ {A : Around} {E : Value → Shared → Prop} {h : Heap} {g : Array GenState} {d : Drawn} {tk : Nat} {o : OsState} {Q : Value → Shared → Prop} {L R : Nat} {vs : List Value} {ns : List Int} {t2 t3 : Tok}
   (_ : Bs w h) (_ : D2I w h f cD cI cN dg n) (_ : h.IsList dg vs.toArray) (_ : IntsAre vs ns) (_ : A.depth + D + 1 < recursionLimit) (_ : L < R) (_ : R ≤ ns.length) (_ : R - L ≤ 2 ^ D) (_ : n * ns.length ≤ 1000000) (_ : ns.length ≤ 1000000) (_ : ∀ c ∈ ns, 0 ≤ c ∧ c < 2 ^ n)
   (_ : ∀ h' tk' t, h.StaysIn h' → Q (.int (dval n ((ns.drop L).take (R - L))) t) ⟨h', g, d, tk', o⟩),
   wpAny (model pg w) A (call (.ref f) [.int L t2, .int R t3]) Q E ⟨h, g, d, tk, o⟩ := by
  induction D with
  | zero =>
    intro A E h g d tk o Q L R vs ns t2 t3 X I hl hi hroom hLR hR hD hs hz hr hq
    have eR : R = L + 1 := by simp at hD; (clear hz hs hR hroom; omega)
    subst eR
    refine d2i_leaf X I hl hi (by (clear hD hR hLR hz hs; omega)) (by (clear hD hLR hz hs hroom; omega)) hz fun h' tk' t k1 => ?_
    have := hq h' tk' t k1
    rw [slice_one _ _ (by (clear hD hLR hz hs hroom; omega))] at this
    simpa [dval] using this
  | succ D ih =>
    intro A E h g d tk o Q L R vs ns t2 t3 X I hl hi hroom hLR hR hD hs hz hr hq
    by_cases eR : R = L + 1
    · subst eR
      refine d2i_leaf X I hl hi (by (clear hD hR hLR hz hs; omega)) (by (clear hD hLR hz hs hroom; omega)) hz fun h' tk' t k1 => ?_
      have := hq h' tk' t k1
      rw [slice_one _ _ (by (clear hD hLR hz hs hroom; omega))] at this
      simpa [dval] using this
    have I0 := I
    refine hide fun Kz kz => ?_
    obtain ⟨params, body, scope, pos, doc, pm, c', ctv, tn, hst, hf, hcr, hcA, hcI, hcN⟩ := I
    refine kz ?_
    clear kz Kz
    replace hst : some _ = some _ := hst
    cases hst
    refine r_enterX [(Str.ofString "L", .int L t2), (Str.ofString "R", .int R t3)] [] X (fun p hp => nomatch hp) (by simp) (by (clear hf eR hz hs hD hR hLR; omega)) hf rfl hcr
      (BindsTo.of_eq rfl) (locs rfl) rfl rfl rfl (by decide) ?_
    intro h₁ tk₁ S
    replace S : St h _ _ _ _ _ := S
    obtain ⟨k, hk⟩ : ∃ k, k = (R - L) / 2 := ⟨_, rfl⟩
    have hk0 := half hk hLR eR hD
    clear hk
    obtain ⟨hk, hk2, hk3, hk4, hk5⟩ := hk0
    have hp2 : 2 ^ (D + 1) = 2 * 2 ^ D := by rw [Nat.pow_succ]; (clear hk hf eR hz hs hD hR hLR hroom; omega)
    have hnk : n * k ≤ 1000000 := Nat.le_trans (Nat.mul_le_mul_left n (show k ≤ ns.length by (clear hp2 hf hz hs hD hroom; omega))) hs
    have hnr : n * (R - (L + k)) ≤ 1000000 := Nat.le_trans (Nat.mul_le_mul_left n (show R - (L + k) ≤ ns.length by (clear hnk hp2 hf eR hs hD hroom; omega))) hs
    walk_at "s"
    refine ite_b (fun hc => absurd (by (clear hnr hnk hp2 hk hf eR hz hs hD hR hLR hroom; omega)) eR) (fun _ => ?_)
    walk_at "n"
    walk_at "n"
    walk_at "s"
    refine i_shr (by decide) ?_
    repeat walk_at "n"
    rw [show ((L : Int) + R).fdiv (2 ^ (1 : Int).toNat) = ((L + k : Nat) : Int) by rw [Int.fdiv_eq_ediv_of_nonneg _ (by decide)]; exact hk5] at S
    walk_at "s"
    refine i_mul (IntMulOk.of_left (intBits_le_64 (by (clear hnr hnk hp2 hf eR hz hs hD hR hLR hroom; omega)) (by (clear hnr hnk hp2 hf hs hD hroom; omega)))) ?_
    repeat walk_at "n"
    rw [show (((L + k : Nat) : Int) - L) * n = ((n * k : Nat) : Int) by rw [Nat.mul_comm]; push_cast; congr 1; (clear hnr hnk hp2 hk hf eR hz hs hD hR hLR hroom; omega)] at S
    walk_at "s"
    refine r_callF hf rfl rfl ?_
    repeat walk_at "n"
    have r1 := dval_range n ((ns.drop (L + k)).take (R - (L + k))) fun c hc => hr c (List.drop_subset _ _ (List.take_subset _ _ hc))
    have hlen : ((ns.drop (L + k)).take (R - (L + k))).length = R - (L + k) := by rw [List.length_take, List.length_drop]; (clear r1 hnr hnk hp2 hf eR hz hs hD hLR hroom; omega)
    rw [hlen] at r1
    refine ih (X.keeps S.base) (I0.keeps S.base) (stays_list S.base hl) hi (by show A.depth + 1 + D + 1 < recursionLimit; (clear hlen r1 hnr hnk hp2 hk hf eR hz hs hD hR hLR; omega)) (by (clear hlen r1 hnr hnk hp2 hf hz hs hD hR hroom; omega)) hR (by (clear hlen r1 hnr hnk hp2 hf hz hs hR hroom; omega)) hs hz hr ?_
    intro h₅ tk₅ t₅ hst₅
    replace S := S.stays hst₅
    repeat walk_at "n"
    refine i_shl (by (clear hlen r1 hnr hp2 hk hf eR hz hs hD hR hLR hroom; omega)) (shl_ok _ r1.1 r1.2 (by (clear hlen r1 hp2 hk hf eR hz hs hD hR hLR hroom; omega))) ?_
    repeat walk_at "n"
    refine r_callF hf rfl rfl ?_
    repeat walk_at "n"
    refine ih (X.keeps S.base) (I0.keeps S.base) (stays_list S.base hl) hi (by show A.depth + 1 + D + 1 < recursionLimit; (clear hlen r1 hnr hnk hp2 hk hf eR hz hs hD hR hLR; omega)) (by (clear hlen r1 hnr hnk hp2 hf hz hs hD hR hroom; omega)) (by (clear r1 hnr hnk hp2 hf hz hs hD hroom; omega)) (by (clear hlen r1 hnr hnk hp2 hf eR hz hs hR hLR hroom; omega)) hs hz hr ?_
    intro h₆ tk₆ t₆ hst₆
    replace S := S.stays hst₆
    repeat walk_at "n"
    have e : dval n ((ns.drop (L + k)).take (R - (L + k))) * 2 ^ ((n * k : Nat) : Int).toNat + dval n ((ns.drop L).take (L + k - L)) = dval n ((ns.drop L).take (R - L)) := by
      rw [slice_split ns L k R (by (clear hlen r1 hnr hnk hp2 hf hz hs hD hR hroom; omega)), dval_append, Int.toNat_natCast, List.length_take, List.length_drop, show L + k - L = k by (clear hlen r1 hnr hnk hp2 hf eR hz hs hD hR hLR hroom; omega), show min k (ns.length - L) = k by (clear hlen r1 hnr hnk hp2 hf hs hD hroom; omega), Int.mul_comm]
      (clear hlen r1 hnr hnk hp2 hk hf eR hz hs hD hR hLR hroom; omega)
    rw [e]
    exact hq _ _ _ S.base
end
end -- F9
section -- F10
open PySem PySem.W PyProof.Rows PySem.Calls
set_option Elab.async false
set_option maxRecDepth 100000
set_option maxHeartbeats 4000000
section
variable {w : World} {A : Around} {E : Value → Shared → Prop} {h : Heap} {g : Array GenState} {d : Drawn} {tk : Nat} {o : OsState} {Q : Value → Shared → Prop}
theorem digits2int_ok {dg : Addr} {vs : List Value} {ns : List Int} {n : Nat} {t2 : Tok} (X : Bs w (hideAll h tabAs)) (T : TabsH h) (hroom : A.depth + 20 < recursionLimit) (hl : (hideAll h tabAs).IsList dg vs.toArray) (hi : IntsAre vs ns) (hz : ns.length ≤ 20001) (hs : n * ns.length ≤ 1000000) (hr : ∀ c ∈ ns, 0 ≤ c ∧ c < 2 ^ n)
   (hq : ∀ h' tk' t, TabsP h h' → Q (.int (dval n ns) t) ⟨h', g, d, tk', o⟩) :
   wpAny (model pg w) A (call (.ref 69) [.ref dg, .int n t2]) Q E ⟨h, g, d, tk, o⟩ := by
  refine r_enterC [(Str.ofString "digits", .ref dg), (Str.ofString "n", .int n t2)] [] X T (by (clear hs hz; omega)) rfl rfl (BindsTo.of_eq rfl) rfl (by decide) (fun p hp => nomatch hp) rfl rfl rfl ?_
  intro h₁ tk₁ q1 q2 q3 cells e1 e2 e3 V1 V2 V3 Y S
  refine hide fun Kz kz => ?_
  obtain ⟨o3, o2, o1, rfl, y3, y2, y1⟩ := cells3 Y
  refine kz ?_
  clear kz Kz
  replace y1 : o1.data = .cell (some (.ref dg)) := y1
  replace y2 : o2.data = .cell (some (.int n t2)) := y2
  replace y3 : o3.data = .cell none := y3
  with_reducible refine r_seq ?_
  refine r_fundef (qual := i2.q) rfl rfl rfl rfl ?_
  refine r_mkfun (i := i2) (tl' := fun p => tabL q1 p q3 []) S X (fun _ => .tail .head) rfl V2 (codeHd2 X) rfl rfl rfl rfl rfl ?_
  clear S
  intro f c' doc pm ctv p2 nx h₄ tk₄ oc S V2' hco hcr
  replace S : St _ _ _ _ _ (tabL q1 p2 q3 nx) := S
  refine r_stc S rfl rfl rfl y3 (by walk_at "atf") ?_
  clear S
  intro h₅ o3' y3' S
  repeat walk_at "n"
  rw [List.nil_append] at hcr V2'
  have V1' : TV i1 (hideAll h tabAs) nx q1 q1 := by
    rcases V1 with V1 | ⟨_, _, _, _, m, _⟩
    · exact .inl V1
    · cases m
  have V3' : TV i3 (hideAll h tabAs) nx q3 q3 := by
    rcases V3 with V3 | ⟨_, _, _, _, m, _⟩
    · exact .inl V3
    · cases m
  have hlen := hi.length
  walk_at "s"
  refine r_tlist (stays_list S.base hl) (by simp; (clear y3' hcr y3 y2 y1 e3 e2 e1 hs hroom; omega)) ?_
  intro tk₆
  refine ite_nb (fun hc => ?_) (fun hc => ?_)
  · repeat walk_at "n"
    refine r_callO (S.get (.head _)) rfl rfl ?_
    repeat walk_at "n"
    refine r_len (stays_list S.base hl) (by simp; (clear hc y3' hcr y3 y2 y1 e3 e2 e1 hs hroom; omega)) ?_
    intro _ _
    repeat walk_at "n"
    rw [show ((vs.toArray.size : Nat) : Int) = ((ns.length : Nat) : Int) by rw [List.size_toArray, hlen]]
    refine ⟨S.get (.head _), ?_⟩
    have g5 : h₅.get? c' = some oc := by
      rcases hcr with hcr | hcr
      · exact S.base _ _ hcr
      · exact (S.tab (.tail _ (.tail _ (.tail _ hcr)))).1
    refine d2i_inner 15 (L := 0) (R := ns.length) (X.keeps S.base) ⟨_, _, _, _, _, _, _, _, _, rfl, S.get (.head _), codeObj_rec g5 hco, ⟨_, S.get (.tail _ (.tail _ (.tail _ (.head _)))), y1⟩, ⟨_, S.get (.tail _ (.head _)), y3'⟩, ⟨_, S.get (.tail _ (.tail _ (.head _))), y2⟩⟩ (stays_list S.base hl) hi
      (by show A.depth + 1 + 15 + 1 < recursionLimit; (clear g5 hc hlen y3' hcr y3 y2 y1 e3 e2 e1 hs hz; omega)) ?_ (Nat.le_refl _) (by show ns.length - 0 ≤ 32768; (clear g5 hc y3' hcr y3 y2 y1 e3 e2 e1 hs hroom; omega)) hs (by (clear g5 hc y3' hcr y3 y2 y1 e3 e2 e1 hs hroom; omega)) hr ?_
    · rw [List.size_toArray] at hc; (clear g5 y3' hcr y3 y2 y1 e3 e2 e1 hs hroom; omega)
    intro h₆ tk₆ t₆ hst₆
    replace S := S.stays hst₆
    repeat walk_at "n"
    rw [List.drop_zero, Nat.sub_zero, List.take_length]
    exact hq _ _ _ (S.endT V1' V2' V3' e1 e2 e3)
  · have : ns = [] := List.length_eq_zero_iff.mp (by rw [List.size_toArray] at hc; (clear y3' hcr y3 y2 y1 e3 e2 e1 hs hz hroom; omega))
    subst this
    repeat walk_at "n"
    exact hq _ _ _ (S.endT V1' V2' V3' e1 e2 e3)
end
end -- F10
section -- F11
open PySem PySem.W PyProof.Rows PySem.Calls Builtin.Int
set_option Elab.async false
set_option maxRecDepth 100000
set_option maxHeartbeats 4000000
set_option linter.unusedVariables false
theorem ints_snoc {vs : List Value} {ns : List Int} (h : IntsAre vs ns) (c : Int) (t : Tok) : IntsAre (vs ++ [.int c t]) (ns ++ [c]) := by
  induction h with
  | nil => exact .cons _ _ .nil
  | cons _ _ _ ih => exact .cons _ _ ih
theorem ints_rev {vs : List Value} {ns : List Int} (h : IntsAre vs ns) : IntsAre vs.reverse ns.reverse := by
  induction h with
  | nil => exact .nil
  | cons _ _ _ ih => rw [List.reverse_cons, List.reverse_cons]; exact ints_snoc ih _ _
structure DS where
  qv : List Value
  qn : List Int
  r : Int
  t : Tok
  e : Nat
section
variable {w : World} {A : Around} {E : Value → Shared → Prop} {h : Heap} {g : Array GenState} {d : Drawn} {tk : Nat} {o : OsState} {Q : Value → Shared → Prop}
theorem dpos_step {n k i : Nat} {dn qn : List Int} {r b : Int} (hk : dn.length = k) (hi : i < k) (hb : 0 < b) (hb2 : b ≤ 2 ^ n) (hr0 : 0 ≤ r) (hr1 : r < b) (hd : ∀ c ∈ dn, 0 ≤ c ∧ c < 2 ^ n)
    (hq : ∀ c ∈ qn, 0 ≤ c ∧ c < 2 ^ n) (hv : dval n qn.reverse * b + r = dval n (dn.drop (k - i))) (c : Int) (hc : dn[k - 1 - i]? = some c) :
    0 ≤ r * 2 ^ n + c ∧ r * 2 ^ n + c < b * 2 ^ n ∧ (∀ c' ∈ qn ++ [(r * 2 ^ n + c) / b], 0 ≤ c' ∧ c' < 2 ^ n) ∧ dval n (qn ++ [(r * 2 ^ n + c) / b]).reverse * b + (r * 2 ^ n + c) % b = dval n (dn.drop (k - (i + 1))) := by
  obtain ⟨h1, h2⟩ := List.getElem?_eq_some_iff.mp hc
  have hcr := hd c (h2 ▸ List.getElem_mem h1)
  have hp := two_pos n
  have e0 : 0 ≤ r * 2 ^ n := Int.mul_nonneg hr0 (Int.le_of_lt hp)
  have e1 : (r + 1) * 2 ^ n ≤ b * 2 ^ n := Int.mul_le_mul_of_nonneg_right (by (clear e0 hp hcr h2 hc hr0 hb2 hb hi hk; omega)) (Int.le_of_lt hp)
  have e2 : (r + 1) * 2 ^ n = r * 2 ^ n + 2 ^ n := by rw [Int.add_mul, Int.one_mul]
  have e3 : r * 2 ^ n + c < b * 2 ^ n := by (clear e0 hp h2 hc hv hr1 hr0 hb2 hb hi hk; omega)
  refine ⟨by (clear e3 e2 e1 hp h2 hc hv hr1 hr0 hb2 hb hi hk; omega), e3, ?_, ?_⟩
  · intro c' hc'
    rcases List.mem_append.mp hc' with hc' | hc'
    · exact hq c' hc'
    · rw [List.mem_singleton.mp hc']
      exact ⟨Int.ediv_nonneg (by (clear e3 e2 e1 hp h2 hc hv hr1 hr0 hb2 hb hi hk; omega)) (by (clear e3 e2 e1 e0 hp hcr h2 hc hv hr1 hr0 hb2 hi hk; omega)), Int.ediv_lt_of_lt_mul hb (by rw [Int.mul_comm (2 ^ n) b]; exact e3)⟩
  · have hd' : dn.drop (k - (i + 1)) = c :: dn.drop (k - i) := by
      rw [show k - (i + 1) = k - 1 - i by (clear e3 e2 e1 e0 hp hcr h2 hc hv hr1 hr0 hb2 hb hk; omega), List.drop_eq_getElem_cons h1, h2, show k - 1 - i + 1 = k - i by (clear e3 e2 e1 e0 hp hcr h2 hc hv hr1 hr0 hb2 hb hk; omega)]
    rw [hd', List.reverse_append, List.reverse_singleton, List.singleton_append, dval, dval, ← hv]
    have := Int.mul_ediv_add_emod (r * 2 ^ n + c) b
    rw [Int.add_mul, Int.mul_add]
    have e4 : (2:Int) ^ n * dval n qn.reverse * b = 2 ^ n * (dval n qn.reverse * b) := Int.mul_assoc ..
    have e5 : (r * 2 ^ n + c) / b * b = b * ((r * 2 ^ n + c) / b) := Int.mul_comm ..
    have e6 : r * 2 ^ n = 2 ^ n * r := Int.mul_comm ..
    (clear hd' e3 e2 e1 e0 hp hcr h2 hc hv hr1 hr0 hb2 hb hi hk; omega)
theorem divmod_pos_ok {a b : Int} {t1 t2 : Tok} (X : Bs w (hideAll h tabAs)) (T : TabsH h) (hroom : A.depth + 30 < recursionLimit) (hh : A.handled = none) (ha : 0 ≤ a) (hba : intBits a ≤ 20000) (hb : 0 < b) (hbb : intBits b ≤ 7900)
   (hq : ∀ h' tk' r u1 u2, TabsP h h' → h.get? r = none → h'.get? r = some (tup [.int (a / b) u1, .int (a % b) u2]) → Q (.ref r) ⟨h', g, d, tk', o⟩) :
   wpAny (model pg w) A (call (.ref 76) [.int a t1, .int b t2]) Q E ⟨h, g, d, tk, o⟩ := by
  have hb1 := bits_lt (show 0 ≤ b by (clear hbb hba ha hh hroom; omega))
  have hb2 := bits_ge hb
  have hn1 : 1 ≤ intBits b := by
    rcases Nat.eq_zero_or_pos (intBits b) with e | e
    · rw [e] at hb1; (clear e hb2 hbb hba ha hh hroom; omega)
    · exact e
  refine r_enterT [(Str.ofString "a", .int a t1), (Str.ofString "b", .int b t2)] X T (by (clear hn1 hb2 hb1 hbb hb hba ha hh; omega)) rfl rfl (BindsTo.of_eq rfl) (locs rfl) rfl rfl rfl (by decide) ?_
  intro h₁ tk₁ q1 q2 q3 e1 e2 e3 V1 V2 V3 S
  have V : TB (hideAll h tabAs) [] q1 q2 q3 q1 q2 q3 := ⟨V1, V2, V3⟩
  have H : ∀ e : Env, (A.deeper e).handled = none := fun _ => hh
  have D : ∀ e : Env, (A.deeper e).depth = A.depth + 1 := fun _ => rfl
  obtain ⟨n, hn⟩ : ∃ n, n = intBits b := ⟨_, rfl⟩
  rw [← hn] at hb1 hb2 hn1 hbb
  walk_at "s"
  rw [← hn] at S
  walk_at "s"
  refine int2digits_ok (a := a) (n := n) (X.keeps S.hideT) (S.tabsB V) (by show A.depth + 1 + 20 < recursionLimit; (clear hn hb1 hb2 hn1 hbb e3 e2 e1 hb hba ha hh; omega)) ha hba hn1 (by (clear hb1 hb2 e3 e2 e1 hb hba ha hh hroom; omega)) ?_
  intro h₂ tk₂ ad ds e hP had hds hdi
  obtain ⟨k, hk⟩ : ∃ k, k = (intBits a + n - 1) / n := ⟨_, rfl⟩
  have hkn2 : intBits a ≤ n * k := by
    have := Nat.lt_mul_div_succ (intBits a + n - 1) (show 0 < n by (clear hk hds had hb1 hb2 e3 e2 e1 hb hba ha hh hroom; omega))
    rw [← hk, Nat.mul_add] at this
    (clear hk hds had hb1 hb2 hn1 hbb e3 e2 e1 hb hba ha hh hroom; omega)
  have hkn : n * k ≤ intBits a + n - 1 := by rw [hk]; exact Nat.mul_div_le ..
  have hk3 : k ≤ 20000 := by
    rw [hk]
    refine Nat.div_le_of_le_mul ?_
    have := Nat.mul_le_mul_right 20000 hn1
    have h2 : n * 20000 ≥ 20000 := by (clear hkn hkn2 hk hds had hn hb1 hb2 hn1 hbb e3 e2 e1 hb hba ha hh hroom; omega)
    have h3 : n * 20000 = n + n * 19999 := by (clear h2 this hkn hkn2 hk hds had hn hb1 hb2 hn1 hbb e3 e2 e1 hb hba ha hh hroom; omega)
    (clear h3 h2 this hk hds had hb1 hb2 e3 e2 e1 hb ha hh hroom; omega)
  rw [← hk] at hdi
  have hdl : (digs n k a).length = k := digs_length ..
  have hdr := digs_range n k a
  have hdv := dval_digs n k a ha (Int.lt_of_lt_of_le (bits_lt ha) (two_mono hkn2))
  generalize hdn : digs n k a = dn at hdi hdl hdr hdv
  have hdsl : ds.length = k := by rw [hdi.length, hdl]
  refine hide fun Kz kz => ?_
  obtain ⟨p1, p2, p3, ex, S, V⟩ := S.backA V hP had hds (fun vs e => nomatch e)
  refine kz ?_
  clear kz Kz
  walk_at "go"
  refine hide fun Kz kz => ?_
  obtain ⟨qd, tn, tr, e0, S⟩ : ∃ qd tn tr e0, St (hideAll h tabAs) h.objs.size _ [(Str.ofString "r", .int 0 tr), (Str.ofString "q_digits", .ref qd), (Str.ofString "n", .int n tn), (Str.ofString "b", .int b t2), (Str.ofString "a_digits", .ref ad)] [(qd, lst [] e0), (ad, lst ds e)] (tabL p1 p2 p3 ex) := ⟨_, _, _, _, S.as (by walk_at "has")⟩
  refine kz ?_
  clear kz Kz
  refine r_for (B := hideAll h tabAs) (L := h.objs.size) (n := ds.toArray.size) (LF := fun h => h.IsList ad ds.toArray) (fun y : DS => [(Str.ofString "r", .int y.r y.t), (Str.ofString "q_digits", .ref qd), (Str.ofString "n", .int n tn), (Str.ofString "b", .int b t2)]) (fun y => [(qd, lst y.qv y.e), (ad, lst ds e)]) (fun _ => tabL p1 p2 p3 ex)
    (fun i y => IntsAre y.qv y.qn ∧ y.qn.length = i ∧ 0 ≤ y.r ∧ y.r < b ∧ (∀ c ∈ y.qn, 0 ≤ c ∧ c < 2 ^ n) ∧ dval n y.qn.reverse * b + y.r = dval n (dn.drop (k - i)))
    ⟨[], [], 0, tr, e0⟩ (fun _ => rfl) (fun _ _ => rfl) (fun i y h I oI _ S => S.isList (.tail _ (.tail _ (.head _))))
    ⟨.nil, rfl, Int.le_refl _, hb, (fun _ hc => nomatch hc), by rw [Nat.sub_zero, List.drop_of_length_le (by (clear hdsl hdv hdn hk3 hkn hkn2 hds had hn hb1 hb2 hn1 hbb e3 e2 e1 hb hba ha hh hroom; omega))]; simp [dval]⟩ (fun I => Itr.rev (H _) I ad _) ?_ ?_ ?_
  · intro Ki hKi
    walk_at "go"
    refine r_rev (items := ds.toArray) S (S.isList (.tail _ (.head _))) ?_
    clear S
    intro ri h₃ S
    refine r_iterRev S (.head _) ?_
    exact hKi _ _ _ _ ⟨Nat.zero_le _, rfl, by simp [revObj]⟩ (S.as (by walk_at "has"))
  · clear S
    rintro i ⟨qv, qn, r, tr, e0⟩ h₃ tk₃ v I oI ⟨y1, y2, y3, y4, y5, y6⟩ hi hv hI S Kp hKp Qv hQv
    dsimp only at y1 y2 y3 y4 y5 y6 S
    rw [List.size_toArray, hdsl] at hi hv
    have hi' : k - 1 - i < dn.length := by (clear hI hv y6 y4 y3 hdv hdn hk3 hkn hkn2 hds had hn hb1 hb2 hn1 hbb e3 e2 e1 hb hba ha hh hroom; omega)
    obtain ⟨tc, hc⟩ := ints_get hdi hi'
    rw [List.getElem?_toArray, hc] at hv
    obtain rfl := Option.some.inj hv
    have hget : dn[k - 1 - i]? = some dn[k - 1 - i] := List.getElem?_eq_getElem hi'
    generalize dn[k - 1 - i] = c at hget S
    have Y := dpos_step hdl hi hb (Int.le_of_lt hb1) y3 y4 hdr y5 y6 c hget
    walk_at "go"
    refine i_shl (by (clear Y hget hv hc hi' hI hi y6 y4 y3 y2 hdsl hdv hdl hdn hk3 hkn hkn2 hk hds had hb1 hb2 e3 e2 e1 hb hba ha hh hroom; omega)) (shl_ok n y3 (by (clear Y hget hv hc hi' hI hi y3 y2 hdsl hdv hdl hdn hk3 hkn hkn2 hk hds had hn hb2 hn1 hbb e3 e2 e1 hb hba ha hh hroom; omega)) (by (clear Y hget hv hc hi' hI hi y6 y4 y3 y2 hdsl hdv hdl hdn hk3 hkn hkn2 hk hds had hb1 hb2 e3 e2 e1 hb hba ha hh hroom; omega))) ?_
    rw [show r * 2 ^ (n : Int).toNat = r * 2 ^ n by rw [Int.toNat_natCast]]
    walk_at "go"
    refine div2n1n_ok (n := n) (X.keeps S.base) (by show A.depth + 1 + 2 < recursionLimit; (clear Y hget hv hc hi' hI hi y6 y4 y3 y2 hdsl hdv hdl hdn hk3 hkn hkn2 hk hds had hn hb1 hb2 hn1 hbb e3 e2 e1 hb hba ha hh; omega)) (H _) hn1 hbb hb2.2 hb1 Y.1 Y.2.1 ?_
    intro h₅ tk₅ r5 u1 u2 hst hn5 ho5
    replace S := S.adopt hst hn5 ho5
    walk_at "go"
    refine r_append S (by walk_at "at") (by rw [y1.length]; simp [sizeLine]; (clear ho5 hn5 Y hget hv hc hi' hI y6 y4 y3 hdv hdn hkn hkn2 hds had hn hb1 hb2 hn1 hbb e3 e2 e1 hb hba ha hh hroom; omega)) ?_
    clear S
    intro h₆ S
    walk_at "go"
    refine hKp ⟨_, qn ++ [(r * 2 ^ n + c) / b], (r * 2 ^ n + c) % b, u2, e0 + 1⟩ _ _ ⟨ints_snoc y1 _ u1, by simp [y2], Int.emod_nonneg _ (by (clear ho5 hn5 Y hget hv hc hi' hI hi y6 y4 y3 y2 hdsl hdv hdl hdn hk3 hkn hkn2 hk hds had hn hb1 hb2 hn1 hbb e3 e2 e1 hba ha hh hroom; omega)), Int.emod_lt_of_pos _ hb, Y.2.2.1, Y.2.2.2⟩ ?_
    exact (S.sub (.cons _ (.refl _))).as (by walk_at "has")
  · clear S
    rintro ⟨qv, qn, r, tr, e0⟩ h₃ tk₃ ⟨y1, y2, y3, y4, y5, y6⟩ S
    dsimp only at y1 y2 y3 y4 y5 y6 S
    rw [List.size_toArray, hdsl] at y2 y6
    rw [Nat.sub_self, List.drop_zero, hdv] at y6
    have U := divmod_unique hb y6 y3 y4
    walk_at "go"
    refine r_reverse S (by walk_at "at") (by rw [y1.length]; simp [sizeLine]; (clear U y6 y4 y3 hdv hdn hkn hkn2 hds had hn hb1 hb2 hn1 hbb e3 e2 e1 hb hba ha hh hroom; omega)) ?_
    clear S
    intro h₆ S
    walk_at "go"
    refine digits2int_ok (n := n) (X.keeps S.hideT) (S.tabsB V) (by show A.depth + 1 + 20 < recursionLimit; (clear U y6 y4 y3 y2 hdsl hdv hdl hdn hk3 hkn hkn2 hk hds had hn hb1 hb2 hn1 hbb e3 e2 e1 hb hba ha hh; omega)) (S.hidList (.head _)) (ints_rev y1) (by rw [List.length_reverse]; (clear U y6 y4 y3 hdv hdn hkn hkn2 hds had hn hb1 hb2 hn1 hbb e3 e2 e1 hb hba ha hh hroom; omega)) (by rw [List.length_reverse, y2]; (clear U y6 y4 y3 y2 hdsl hdv hdl hdn hk3 hkn2 hk hds had hb1 hb2 e3 e2 e1 hb ha hh hroom; omega)) (fun c hc => y5 c (List.mem_reverse.mp hc)) ?_
    intro h₇ tk₇ t₇ hP₇
    rw [U.1]
    refine hide fun Kz kz => ?_
    obtain ⟨p1, p2, p3, ex, S, V⟩ := S.backB V hP₇
    refine kz ?_
    clear kz Kz
    walk_at "go"
    rw [U.2] at S
    exact hq _ _ _ _ _ (S.endB V e1 e2 e3) (S.freshT (.head _)) (S.get (.head _))
end
end -- F11
section -- F16
open PySem PySem.W PyProof.Rows PySem.Calls
set_option Elab.async false
set_option maxRecDepth 100000
set_option maxHeartbeats 4000000
set_option linter.unusedVariables false
section
variable {w : World} {A : Around} {E : Value → Shared → Prop} {h : Heap} {g : Array GenState} {d : Drawn} {tk : Nat} {o : OsState} {Q : Flow → Shared → Prop} {B : Heap} {L : Addr}
theorem ints_rep (t : Tok) : ∀ k : Nat, IntsAre (List.replicate k (Value.int 0 t)) (List.replicate k 0)
  | 0 => .nil
  | k + 1 => .cons _ _ (ints_rep t k)
theorem law_A {f : Addr} {cdv : Value} {body : List Stmt} {scope : Scope} {a : Addr} {vs : List Value} {ns : List Int} {p1 p2 p3 : Array Value} {ex : List (Addr × Obj)} (hdf : lawDef w.params = some (body, scope))
   (X : Bs w B) (hh : A.handled = none) (S : St B L h [(Str.ofString "script", .ref a)] [] (tabL p1 p2 p3 ex)) (ha : B.IsList a vs.toArray) (hi : IntsAre vs ns) (hlen : ns.length ≤ 63)
   (next : ∀ h' tk' cl ra cvs cn cs rvs rn rs obs, St B L h' [(Str.ofString "script", .ref a), (Str.ofString "cells", .ref cl), (Str.ofString "rules", .ref ra)] ((cl, lst cvs cn) :: (ra, lst rvs rn) :: obs) (tabL p1 p2 p3 ex) → IntsAre cvs cs → cs.length = 8 → RulesIn obs rvs rs → Gr rs →
     wpAny (model pg w) (A.deeper (envOf (Str.ofString "law") scope L f cdv)) (execs (body.drop 4) (envOf (Str.ofString "law") scope L f cdv)) Q E ⟨h', g, d, tk', o⟩) :
   wpAny (model pg w) (A.deeper (envOf (Str.ofString "law") scope L f cdv)) (execs body (envOf (Str.ofString "law") scope L f cdv)) Q E ⟨h, g, d, tk, o⟩ := by
  replace hdf : some _ = some _ := hdf
  cases hdf
  dsimp only at next ⊢
  have H : ∀ e : Env, (A.deeper e).handled = none := fun _ => hh
  have hvl := hi.length
  refine r_cut (fun s' => ∃ h' tk' cl cvs cn cs, s' = ⟨h', g, d, tk', o⟩ ∧ IntsAre cvs cs ∧ cs.length = 8 ∧ St B L h' [(Str.ofString "script", .ref a), (Str.ofString "cells", .ref cl)] [(cl, lst cvs cn)] (tabL p1 p2 p3 ex)) ?_ ?_
  · intro Kc hKc
    refine r_compA (B := B) (L := L) rfl rfl (by decide) rfl (by decide) (fun _ => rfl) ?_
    intro Ki hKi
    walk_at "go"
    refine wpAny_Slice ?_
    refine r_part0 ?_
    refine r_part1 ?_
    walk_at "go"
    refine r_part0 ?_
    refine r_slice (lo := none) (hi := some ((8 : Nat) : Int)) S (stays_list S.base ha) .none (.int _ _) (by with_unfolding_all rfl) (fun _ => by with_unfolding_all rfl) (by (clear hh; omega)) ?_
    clear S
    intro D1 h₂ S
    rw [slicePick_upto'] at S
    walk_at "go"
    refine r_mulL (k := 8) S (.head _) (by decide) ?_
    clear S
    intro D2 h₃ S
    walk_at "go"
    refine r_addL S (S.isList (.tail _ (.tail _ (.head _)))) (S.isList (.head _)) (by simp; (clear hh; omega)) ?_
    clear S
    intro D3 h₄ S
    walk_at "go"
    refine hide fun Kz kz => ?_
    obtain ⟨xs, ms, ys, ks, e2, hxi, hxl, hyi, hyl, S⟩ : ∃ xs ms ys ks e2, IntsAre xs ms ∧ 8 ≤ ms.length ∧ IntsAre ys ks ∧ ks.length = 8 ∧ St B L _ [(Str.ofString "script", .ref a)] [(_, lst ys e2), (D3, lst xs 0)] (tabL p1 p2 p3 ex) :=
      ⟨_, ns.take 8 ++ List.replicate 8 0, _, [24061, 23950, 24197, 8, 60, 16, 386, 49], _, (hi.take 8).append (ints_rep _ 8), by simp, .cons _ _ (.cons _ _ (.cons _ _ (.cons _ _ (.cons _ _ (.cons _ _ (.cons _ _ (.cons _ _ .nil))))))), rfl, S.sub (.cons_cons _ (.cons_cons _ (.cons _ (.cons _ (.cons _ (.refl _))))))⟩
    refine kz ?_
    clear kz Kz
    have hxl' := hxi.length
    have hyl' := hyi.length
    refine r_zip S (S.isList (.tail _ (.head _))) (S.isList (.head _)) ?_
    clear S
    intro z TO i1 i2 TI o1 o2 h₅ J1 J2 S
    walk_at "go"
    refine wpAny_pyIter_zip (s := ⟨h₅, g, d, _, o⟩) (S.get (.head _)) ?_
    refine hKi _ _ _ _ _ _ S ?_
    clear S
    intro oL C D h₆ tk₆ Z S
    replace S := S.perm (own' := (z, zpO TI TO .none) :: (TO, tup [.none, .none]) :: (i1, o1) :: (i2, o2) :: (TI, tup [.ref i1, .ref i2]) :: (D, lst [] 0) :: (L, oL) :: [(_, lst ys e2), (D3, lst xs 0)]) ((List.perm_append_comm (l₁ := [_, _, _, _, _]) (l₂ := [_, _])).append_right [_, _])
    refine r_czip (B := B) (n := 8) (fun _ => []) (fun y : List Value × Nat => (D, lst y.1 y.2) :: (L, oL) :: [(_, lst ys e2), (D3, lst xs 0)]) (fun _ => tabL p1 p2 p3 ex) (fun i y => ∃ cs : List Int, cs.length = i ∧ IntsAre y.1 cs) ([], 0) (H _) (by simp; (clear hvl hlen hh; omega))
      (fun y => ⟨_, .tail _ (.tail _ (.tail _ (.head _))), rfl, 0, rfl⟩) (fun y => ⟨_, .tail _ (.tail _ (.head _)), rfl, e2, rfl⟩) ⟨[], rfl, .nil⟩ J1 J2 S ?_ ?_
    · clear S
      rintro i ⟨yv, ye⟩ h₇ tk₇ x1 x2 T own ⟨cs, hcl, hcs⟩ hi8 hx1 hx2 S Kp hKp
      dsimp only at hcs S
      refine hide fun Kz kz => ?_
      obtain ⟨tx, hx1'⟩ := ints_get hxi (i := i) (by (clear hx2 hx1 hyl' hyl hvl hlen hh; omega))
      obtain ⟨ty, hx2'⟩ := ints_get hyi (i := i) (by (clear hx1' hx2 hx1 hyl' hxl' hxl hvl hlen hh; omega))
      refine kz ?_
      clear kz Kz
      rw [List.getElem?_toArray, hx1'] at hx1
      rw [List.getElem?_toArray, hx2'] at hx2
      obtain rfl := Option.some.inj hx1
      obtain rfl := Option.some.inj hx2
      walk_at "go"
      refine r_append S (by walk_at "at") (by rw [hcs.length, hcl]; simp [sizeLine]; (clear hx2 hx1 hx2' hx1' hyl' hvl hlen hh; omega)) ?_
      clear S
      intro h₈ S
      exact hKp (_, _) _ _ ⟨cs ++ [_], by simp [hcl], ints_snoc hcs _ _⟩ (S.as (by walk_at "has"))
    · clear S
      rintro ⟨yv, ye⟩ h₇ tk₇ ⟨cs, hcl, hcs⟩ S
      dsimp only at hcs S
      refine comp_use Z S ?_
      intro oC S
      walk_at "go"
      refine ⟨_, _, _, _, _, rfl, S, ?_⟩
      intro h₉ S
      exact hKc _ ⟨_, _, D, yv, ye, cs, rfl, hcs, hcl, (S.sub (.cons_cons _ (.cons _ (.cons _ (.refl _))))).as (by walk_at "has")⟩
  clear S
  rintro _ ⟨h₁, tk₁, cl, cvs, cn, cs, rfl, hcs, hcl, S⟩
  walk_at "go"
  refine hide fun Kz kz => ?_
  obtain ⟨tls, tvs, tn, ra, rvs, rn, rs, obs, hT, hRI, hRO, hrl, S⟩ : ∃ tls tvs tn ra rvs rn rs obs, TailsIn obs tvs ∧ RulesIn obs rvs rs ∧ RulesOk rs ∧ rs.length = 2 ∧
      St B L _ [(Str.ofString "script", .ref a), (Str.ofString "cells", .ref cl), (Str.ofString "rules", .ref ra), (Str.ofString "tails", .ref tls)] ((cl, lst cvs cn) :: (ra, lst rvs rn) :: (tls, lst tvs tn) :: obs) (tabL p1 p2 p3 ex) := by
    refine ⟨_, _, _, _, _, _, [⟨256, 2, [255, 257, 258]⟩, ⟨257, 1, [254, 258]⟩], _, ?_, ?_, ?_, rfl, (S.perm (own' := _ :: _ :: _ :: [_, _, _, _, _, _, _, _, _, _]) (((List.perm_middle (l₁ := [_, _, _, _, _, _, _])).symm.cons _).trans (List.perm_append_comm (l₁ := [_]) (l₂ := [_, _, _, _, _, _, _, _, _, _, _, _])))).as (by walk_at "has")⟩
    · intro k hk
      obtain rfl | rfl | rfl | rfl | rfl | rfl : k = 0 ∨ k = 1 ∨ k = 2 ∨ k = 3 ∨ k = 4 ∨ k = 5 := by (clear hcl hvl hlen hh; omega)
      · exact ⟨_, _, _, [], rfl, List.mem_of_getElem? (i := 5) rfl, .nil, by simp, by simp⟩
      · exact ⟨_, _, _, [256], rfl, List.mem_of_getElem? (i := 4) rfl, .cons _ _ .nil, by simp, by simp⟩
      · exact ⟨_, _, _, [257], rfl, List.mem_of_getElem? (i := 3) rfl, .cons _ _ .nil, by simp, by simp⟩
      · exact ⟨_, _, _, [258], rfl, List.mem_of_getElem? (i := 2) rfl, .cons _ _ .nil, by simp, by simp⟩
      · exact ⟨_, _, _, [259], rfl, List.mem_of_getElem? (i := 1) rfl, .cons _ _ .nil, by simp, by simp⟩
      · exact ⟨_, _, _, [7], rfl, List.mem_of_getElem? (i := 0) rfl, .cons _ _ .nil, by simp, by simp⟩
    · exact .cons ⟨_, _, _, _, _, _, rfl, List.mem_of_getElem? (i := 8) rfl, List.mem_of_getElem? (i := 9) rfl, .cons _ _ (.cons _ _ (.cons _ _ .nil))⟩ (.cons ⟨_, _, _, _, _, _, rfl, List.mem_of_getElem? (i := 6) rfl, List.mem_of_getElem? (i := 7) rfl, .cons _ _ (.cons _ _ .nil)⟩ .nil)
    · intro i r e
      rcases i with _ | _ | i
      · cases e; exact ⟨by decide, by decide, by decide, by decide, [257, 258], rfl, by simp, by simp⟩
      · cases e; exact ⟨by decide, by decide, by decide, by decide, [258], rfl, by simp, by simp⟩
      · simp at e
  refine kz ?_
  clear kz Kz
  refine r_for (B := B) (L := L) (n := 5) (LF := fun _ => True) (fun y : List Value × Nat × List Rl × List (Addr × Obj) => [(Str.ofString "script", .ref a), (Str.ofString "cells", .ref cl), (Str.ofString "rules", .ref ra), (Str.ofString "tails", .ref tls)])
    (fun y => (cl, lst cvs cn) :: (ra, lst y.1 y.2.1) :: (tls, lst tvs tn) :: y.2.2.2) (fun _ => tabL p1 p2 p3 ex) (fun i y => y.2.2.1.length = 2 + i ∧ RulesOk y.2.2.1 ∧ RulesIn y.2.2.2 y.1 y.2.2.1 ∧ TailsIn y.2.2.2 tvs) (rvs, rn, rs, obs)
    (fun _ => rfl) (fun _ _ => rfl) (fun _ _ _ _ _ _ _ => trivial) ⟨hrl, hRO, hRI, hT⟩ (fun I => Itr.range (H _) I 2 5) ?_ ?_ ?_
  · intro Ki hKi
    walk_at "go"
    refine r_range2 S ?_
    clear S
    intro rr h₂ t1 tk₂ S
    walk_at "go"
    refine r_iterRange (n := 5) S (.head _) (by decide) (by decide) (by decide) ?_
    clear S
    intro I h₃ S
    exact hKi _ _ _ _ rfl (S.sub (.cons_cons _ (.cons _ (.refl _))))
  · clear S
    rintro i ⟨rvs, rn, rs, obs⟩ h₂ tk₂ v I oI ⟨hrl, hRO, hRI, hT⟩ hi5 ⟨ti, rfl⟩ hI S Kp hKp Qv hQv
    dsimp only at hrl hRO hRI hT S
    walk_at "go"
    obtain ⟨tc, hcv⟩ := ints_get hcs (i := i + 3) (by (clear hI hrl hvl hlen hh; omega))
    refine r_itemL (items := cvs.toArray) (S.isList (.tail _ (.head _))) (by (clear hcv hI hrl hcl hvl hlen hh; omega)) (by (clear hcv hI hrl hcl hvl hlen hh; omega)) (by rw [show ((2 : Int) + (i : Nat) + 1).toNat = i + 3 by (clear hcv hI hrl hcl hvl hlen hh; omega), List.getElem?_toArray]; exact hcv) rfl ?_
    walk_at "go"
    refine i_fmod (by decide) ?_
    have hc0 : 0 ≤ (cs[i + 3]'(by (clear hcv hI hrl hvl hlen hh; omega))).fmod 432 ∧ (cs[i + 3]'(by (clear hcv hI hrl hvl hlen hh; omega))).fmod 432 < 432 := by
      rw [Int.fmod_eq_emod_of_nonneg _ (by decide)]; (clear hcv hI hrl hvl hlen hh; omega)
    generalize (cs[i + 3]'(by (clear hc0 hcv hI hrl hvl hlen hh; omega))).fmod 432 = c at hc0 S
    walk_at "go"
    refine i_fmod (by decide) ?_
    walk_at "go"
    refine i_fdiv (by decide) (PyProof.noPylong_small (by decide)) ?_
    walk_at "go"
    refine i_fmod (by decide) ?_
    walk_at "go"
    refine i_fdiv (by decide) (PyProof.noPylong_small (by decide)) ?_
    walk_at "go"
    refine i_fmod (by decide) ?_
    walk_at "go"
    have hk1 : 0 ≤ (c.fdiv 12).fmod 6 ∧ (c.fdiv 12).fmod 6 < 6 := by rw [Int.fmod_eq_emod_of_nonneg _ (by decide)]; (clear hc0 hcv hI hi5 hrl hcl hvl hlen hh; omega)
    generalize (c.fdiv 12).fmod 6 = k1 at hk1
    refine hide fun Kz kz => ?_
    obtain ⟨k1, rfl⟩ := Int.eq_ofNat_of_zero_le hk1.1
    obtain ⟨ta1, ts1, n1, ns1, g1, m1, J1, l1, b1⟩ := hT k1 (by (clear hc0 hcv hI hi5 hrl hcl hvl hlen hh; omega))
    refine kz ?_
    clear kz Kz
    have jl1 := J1.length
    refine r_itemL (items := tvs.toArray) (S.isList (.tail _ (.tail _ (.tail _ (.tail _ (.head _)))))) (by (clear jl1 l1 g1 hc0 hcv hI hi5 hrl hcl hvl hlen hh; omega)) (by (clear jl1 l1 g1 hc0 hcv hI hi5 hrl hcl hvl hlen hh; omega)) (by rw [Int.toNat_natCast, List.getElem?_toArray]; exact g1) rfl ?_
    walk_at "go"
    refine r_addL S (S.isList (.head _)) (S.isList (.tail _ (.tail _ (.tail _ (.tail _ (.tail _ m1)))))) (by simp; (clear g1 hk1 hc0 hcv hI hi5 hrl hcl hvl hlen hh; omega)) ?_
    clear S
    intro D1 h₄ S
    walk_at "go"
    refine i_fdiv (by decide) (PyProof.noPylong_small (by decide)) ?_
    have hk2 : 0 ≤ c.fdiv 72 ∧ c.fdiv 72 < 6 := by rw [Int.fdiv_eq_ediv_of_nonneg _ (by decide)]; (clear jl1 l1 g1 hk1 hcv hI hi5 hrl hcl hvl hlen hh; omega)
    generalize c.fdiv 72 = k2 at hk2
    refine hide fun Kz kz => ?_
    obtain ⟨k2, rfl⟩ := Int.eq_ofNat_of_zero_le hk2.1
    obtain ⟨ta2, ts2, n2, ns2, g2, m2, J2, l2, b2⟩ := hT k2 (by (clear jl1 l1 g1 hk1 hc0 hcv hI hi5 hrl hcl hvl hlen hh; omega))
    refine kz ?_
    clear kz Kz
    have jl2 := J2.length
    refine r_itemL (items := tvs.toArray) (S.isList (.tail _ (.tail _ (.tail _ (.tail _ (.tail _ (.head _))))))) (by (clear jl2 l2 g2 jl1 l1 g1 hk1 hc0 hcv hI hi5 hrl hcl hvl hlen hh; omega)) (by (clear jl2 l2 g2 jl1 l1 g1 hk1 hc0 hcv hI hi5 hrl hcl hvl hlen hh; omega)) (by rw [Int.toNat_natCast, List.getElem?_toArray]; exact g2) rfl ?_
    walk_at "go"
    refine r_addL S (S.isList (.head _)) (S.isList (.tail _ (.tail _ (.tail _ (.tail _ (.tail _ (.tail _ m2))))))) (by simp; (clear g2 hk2 g1 hk1 hc0 hcv hI hi5 hrl hcl hvl hlen hh; omega)) ?_
    clear S
    intro D2 h₅ S
    walk_at "go"
    refine r_append S (by walk_at "at") (by rw [hRI.length, hrl]; simp [sizeLine]; (clear jl2 l2 g2 hk2 jl1 l1 g1 hk1 hc0 hcv hI hrl hcl hvl hlen hh; omega)) ?_
    clear S
    intro h₆ S
    walk_at "go"
    refine hKp (_, _, rs ++ [⟨256 + c.fmod 3, 1 + (c.fdiv 3).fmod 4, [255 - (2 + (i : Int))] ++ ns1 ++ ns2⟩], _ :: _ :: obs) _ _ ⟨by simp [hrl]; (clear jl2 l2 g2 hk2 jl1 l1 g1 hk1 hc0 hcv hI hi5 hrl hcl hvl hlen hh; omega), hRO.snoc ?_, (hRI.more fun p hp => .tail _ (.tail _ hp)).snoc ⟨_, _, _, _, _, _, rfl, .head _, .tail _ (.head _), ((IntsAre.cons _ _ .nil).append J1).append J2⟩, ?_⟩ (((S.sub (.cons_cons _ (.cons_cons _ (.cons _ (.cons _ (.refl _)))))).perm ((List.perm_append_comm (l₁ := [_, _, _, _]) (l₂ := [_, _])).append_right obs)).as (by walk_at "has"))
    · refine ⟨?_, ?_, ?_, ?_, ns1 ++ ns2, ?_, ?_, ?_⟩
      · dsimp only; rw [Int.fmod_eq_emod_of_nonneg _ (by decide)]; (clear jl2 l2 g2 hk2 jl1 l1 g1 hk1 hc0 hcv hI hi5 hrl hcl hvl hlen hh; omega)
      · dsimp only; rw [Int.fmod_eq_emod_of_nonneg _ (by decide)]; (clear jl2 l2 g2 hk2 jl1 l1 g1 hk1 hc0 hcv hI hi5 hrl hcl hvl hlen hh; omega)
      · dsimp only; rw [Int.fmod_eq_emod_of_nonneg _ (by decide)]; (clear jl2 l2 g2 hk2 jl1 l1 g1 hk1 hc0 hcv hI hi5 hrl hcl hvl hlen hh; omega)
      · dsimp only; rw [Int.fmod_eq_emod_of_nonneg _ (by decide)]; (clear jl2 l2 g2 hk2 jl1 l1 g1 hk1 hc0 hcv hI hi5 hrl hcl hvl hlen hh; omega)
      · dsimp only
        rw [hrl]
        simp
      · simp; (clear g2 hk2 g1 hk1 hc0 hcv hI hi5 hrl hcl hvl hlen hh; omega)
      · intro t ht
        rcases List.mem_append.mp ht with ht | ht
        · exact b1 t ht
        · exact b2 t ht
    · intro k hk
      refine hide fun Kz kz => ?_
      obtain ⟨a1, a2, a3, a4, a5, a6, a7⟩ := hT k hk
      refine kz ?_
      clear kz Kz
      exact ⟨a1, a2, a3, a4, a5, .tail _ (.tail _ a6), a7⟩
  · clear S
    rintro ⟨rvs, rn, rs, obs⟩ h₂ tk₂ ⟨hrl, hRO, hRI, hT⟩ S
    dsimp only at hrl hRO hRI hT S
    repeat (walk_at "n")
    exact next h₂ tk₂ cl ra cvs cn cs rvs rn rs obs ((S.sub (.cons_cons _ (.cons_cons _ (.cons _ (.refl _))))).as (by walk_at "has")) hcs hcl hRI ⟨hrl, hRO⟩
end
end -- F16
section -- F3
open PySem PySem.W PyProof.Rows PySem.Calls
set_option Elab.async false
set_option maxRecDepth 100000
set_option maxHeartbeats 4000000
def KeyOk (w : World) (kf : Addr) (B : Heap) (D : Nat) (vs : List Value) (F : Nat → Int) : Prop :=
  ∀ i v, vs[i]? = some v → ∀ (A : Around) h g d tk o (Q : Value → Shared → Prop) (E : Value → Shared → Prop), A.depth ≤ D → B.StaysIn h → (∀ h' tk' t, h.StaysIn h' → Q (.int (F i) t) ⟨h', g, d, tk', o⟩) →
    wpAny (model pg w) A (call (.ref kf) [v]) Q E ⟨h, g, d, tk, o⟩
section
variable {w : World} {A : Around} {E : Value → Shared → Prop} {h : Heap} {g : Array GenState} {d : Drawn} {tk : Nat} {o : OsState} {Q : Value → Shared → Prop}

theorem bisect_right_key1 {a kf : Addr} {vs : List Value} {F : Nat → Int} {x : Int} {t1 : Tok} {ok : Obj} {fdk : FuncData} {D : Nat} (X : Bs w h) (hroom : A.depth + 1 < D) (hD : D ≤ recursionLimit)
   (hl : h.IsList a vs.toArray) (hkf : h.get? kf = some ok) (hkd : ok.data = .func fdk) (hK : KeyOk w kf h D vs F) (h3 : vs.length < 1000)
   (hm : ∀ i j : Nat, 0 ≤ (i : Int) → i ≤ j → (j : Int) < (vs.length : Int) → F i ≤ F j)
   (hq : ∀ h' tk' t (k : Int), h.StaysIn h' → 0 ≤ k → k ≤ (vs.length : Int) → (∀ i : Nat, 0 ≤ (i : Int) → (i : Int) < k → F i ≤ x) → (∀ i : Nat, k ≤ (i : Int) → (i : Int) < (vs.length : Int) → x < F i) → Q (.int k t) ⟨h', g, d, tk', o⟩) :
   wpAny (model pg w) A (call (.ref 32) [.ref a, .int x t1] [(Str.ofString "key", .ref kf)]) Q E ⟨h, g, d, tk, o⟩ := by
  refine r_enter [(Str.ofString "a", .ref a), (Str.ofString "x", .int x t1), (Str.ofString "lo", .int 0 202), (Str.ofString "hi", .none), (Str.ofString "key", .ref kf)] X (by (clear h3 hkd hkf; omega)) rfl rfl
    (BindsTo.of_defaults rfl (X.1 24 _ rfl) rfl rfl rfl) (locs rfl) rfl rfl rfl (by decide) ?_
  intro h₁ tk₁ S
  walk_at "go"
  refine ite_b (fun hc => by (clear h3 hkd hkf hD hroom; omega)) fun hc => ?_
  walk_at "go"
  refine r_len (stays_list S.base hl) (by simp only [List.size_toArray]; (clear hc hkd hkf hD hroom; omega)) ?_
  intro t9 tk9
  simp only [List.size_toArray]
  walk_at "go"
  refine r_while (σ := Int × Int × Tok × Tok) (fun y => [(Str.ofString "a", .ref a), (Str.ofString "x", .int x t1), (Str.ofString "lo", .int y.1 y.2.2.1), (Str.ofString "hi", .int y.2.1 y.2.2.2), (Str.ofString "key", .ref kf)]) (fun _ => []) (fun _ => [])
    (fun y => 0 ≤ y.1 ∧ y.1 ≤ y.2.1 ∧ y.2.1 ≤ (vs.length : Int) ∧ (∀ i : Nat, 0 ≤ (i : Int) → (i : Int) < y.1 → F i ≤ x) ∧ (∀ i : Nat, y.2.1 ≤ (i : Int) → (i : Int) < (vs.length : Int) → x < F i))
    (fun y => (y.2.1 - y.1).toNat) (0, (vs.length : Int), 202, t9) (S.as (by walk_at "has")) ?_ ?_
  · refine ⟨by simp, by dsimp only; (clear hc hkd hkf hD hroom; omega), by simp, fun i a b => ?_, fun i a b => ?_⟩ <;> (dsimp only at a b; (clear hc h3 hkd hkf hD hroom; omega))
  clear S
  rintro ⟨lo', hi', u1, u2⟩ h₂ tk₂ ⟨p1, p2, p3, p4, p5⟩ S Kp hKp Qv hQv
  dsimp only at p1 p2 p3 p4 p5 S
  walk_at "go"
  refine ite_b (fun hc' => ?_) fun hc' => ?_
  · walk_at "go"
    refine i_fdiv (by decide) (PyProof.noPylong_small (by (clear hc' p3 p2 p1 hc h3 hkd hkf hD hroom; omega))) ?_
    walk_at "go"
    obtain ⟨n, hn⟩ := Int.eq_ofNat_of_zero_le (show 0 ≤ (lo' + hi').fdiv 2 by rw [Int.fdiv_eq_ediv_of_nonneg _ (by decide)]; (clear p3 p2 hc h3 hkd hkf hD hroom; omega))
    have hn1 : lo' ≤ (n : Int) := by rw [← hn, Int.fdiv_eq_ediv_of_nonneg _ (by decide)]; (clear hn p3 p2 p1 hc h3 hkd hkf hD hroom; omega)
    have hn2 : (n : Int) < hi' := by rw [← hn, Int.fdiv_eq_ediv_of_nonneg _ (by decide)]; (clear hn1 hn p3 p2 p1 hc h3 hkd hkf hD hroom; omega)
    rw [hn] at S
    refine r_callF hkf hkd rfl ?_
    walk_at "go"
    have hlt : n < vs.length := by (clear hn1 hn hc' p2 p1 hc h3 hkd hkf hD hroom; omega)
    refine r_itemL (v := vs[n]) (stays_list S.base hl) (by (clear hlt hn2 hn1 hn hc' p3 p2 p1 hc h3 hkd hkf hD hroom; omega)) (by (clear hn2 hn1 hn hc' p3 p2 p1 hc hkd hkf hD hroom; omega)) (by simp [hlt]) rfl ?_
    walk_at "go"
    refine hK n vs[n] (by simp [hlt]) _ _ _ _ _ _ _ _ (by show A.depth + 1 ≤ D; (clear hlt hn2 hn1 hn hc' p3 p2 p1 hc h3 hkd hkf hD; omega)) S.base ?_
    intro h₅ tk₅ t₅ hst₅
    replace S := S.stays hst₅
    walk_at "go"
    refine ite_b (fun hx => ?_) fun hx => ?_
    · walk_at "go"
      refine hKp (lo', n, _, _) _ _ ?_ ⟨p1, hn1, by dsimp only; (clear hx hn2 hn1 hn hc' p3 p2 p1 hc h3 hkd hkf hD hroom; omega), p4, fun i a b => ?_⟩ (S.as (by walk_at "has"))
      · dsimp only; (clear hx hlt hn1 hn p3 p2 p1 hc h3 hkd hkf hD hroom; omega)
      · have := hm n i (by (clear b a hx hlt hn2 hn1 hn hc' p3 p2 p1 hc h3 hkd hkf hD hroom; omega)) (by dsimp only at a; (clear b hx hlt hn2 hn1 hn hc' p3 p2 p1 hc h3 hkd hkf hD hroom; omega)) b
        (clear b a hlt hn2 hn1 hn hc' p3 p2 p1 hc h3 hkd hkf hD hroom; omega)
    · walk_at "go"
      refine hKp (n + 1, hi', _, _) _ _ ?_ ⟨by dsimp only; (clear hx hlt hn2 hn1 hn hc' p3 p2 p1 hc h3 hkd hkf hD hroom; omega), by dsimp only; (clear hx hlt hn1 hn hc' p3 p2 p1 hc h3 hkd hkf hD hroom; omega), p3, fun i a b => ?_, p5⟩ (S.as (by walk_at "has"))
      · dsimp only; (clear hx hlt hn p3 p2 p1 hc h3 hkd hkf hD hroom; omega)
      · have := hm i n a (by dsimp only at b; (clear a hx hlt hn2 hn1 hn hc' p3 p2 p1 hc h3 hkd hkf hD hroom; omega)) (by (clear b a hx hn2 hn1 hn hc' p3 p2 p1 hc h3 hkd hkf hD hroom; omega))
        (clear b a hlt hn2 hn1 hn hc' p3 p2 p1 hc h3 hkd hkf hD hroom; omega)
  · walk_at "go"
    refine hQv _ _ ?_
    walk_at "go"
    exact hq _ _ _ _ S.base p1 (by (clear p1 hc h3 hkd hkf hD hroom; omega)) p4 fun i a b => p5 i (by (clear b p3 p1 hc h3 hkd hkf hD hroom; omega)) b

theorem bisect_right_key2 {a kf : Addr} {vs : List Value} {F : Nat → Int} {x : Int} {t1 : Tok} {t2 : Tok} {ok : Obj} {fdk : FuncData} {D : Nat} (X : Bs w h) (hroom : A.depth + 1 < D) (hD : D ≤ recursionLimit)
   (hl : h.IsList a vs.toArray) (hkf : h.get? kf = some ok) (hkd : ok.data = .func fdk) (hK : KeyOk w kf h D vs F) (h3 : vs.length < 1000)
   (hm : ∀ i j : Nat, 0 ≤ (i : Int) → i ≤ j → (j : Int) < (vs.length : Int) → F i ≤ F j)
   (hq : ∀ h' tk' t (k : Int), h.StaysIn h' → 0 ≤ k → k ≤ (vs.length : Int) → (∀ i : Nat, 0 ≤ (i : Int) → (i : Int) < k → F i ≤ x) → (∀ i : Nat, k ≤ (i : Int) → (i : Int) < (vs.length : Int) → x < F i) → Q (.int k t) ⟨h', g, d, tk', o⟩) :
   wpAny (model pg w) A (call (.ref 32) [.ref a, .int x t1, .int 0 t2, .none] [(Str.ofString "key", .ref kf)]) Q E ⟨h, g, d, tk, o⟩ := by
  refine r_enter [(Str.ofString "a", .ref a), (Str.ofString "x", .int x t1), (Str.ofString "lo", .int 0 t2), (Str.ofString "hi", .none), (Str.ofString "key", .ref kf)] X (by (clear h3 hkd hkf; omega)) rfl rfl
    (BindsTo.of_defaults rfl (X.1 24 _ rfl) rfl rfl rfl) (locs rfl) rfl rfl rfl (by decide) ?_
  intro h₁ tk₁ S
  walk_at "go"
  refine ite_b (fun hc => by (clear h3 hkd hkf hD hroom; omega)) fun hc => ?_
  walk_at "go"
  refine r_len (stays_list S.base hl) (by simp only [List.size_toArray]; (clear hc hkd hkf hD hroom; omega)) ?_
  intro t9 tk9
  simp only [List.size_toArray]
  walk_at "go"
  refine r_while (σ := Int × Int × Tok × Tok) (fun y => [(Str.ofString "a", .ref a), (Str.ofString "x", .int x t1), (Str.ofString "lo", .int y.1 y.2.2.1), (Str.ofString "hi", .int y.2.1 y.2.2.2), (Str.ofString "key", .ref kf)]) (fun _ => []) (fun _ => [])
    (fun y => 0 ≤ y.1 ∧ y.1 ≤ y.2.1 ∧ y.2.1 ≤ (vs.length : Int) ∧ (∀ i : Nat, 0 ≤ (i : Int) → (i : Int) < y.1 → F i ≤ x) ∧ (∀ i : Nat, y.2.1 ≤ (i : Int) → (i : Int) < (vs.length : Int) → x < F i))
    (fun y => (y.2.1 - y.1).toNat) (0, (vs.length : Int), t2, t9) (S.as (by walk_at "has")) ?_ ?_
  · refine ⟨by simp, by dsimp only; (clear hc hkd hkf hD hroom; omega), by simp, fun i a b => ?_, fun i a b => ?_⟩ <;> (dsimp only at a b; (clear hc h3 hkd hkf hD hroom; omega))
  clear S
  rintro ⟨lo', hi', u1, u2⟩ h₂ tk₂ ⟨p1, p2, p3, p4, p5⟩ S Kp hKp Qv hQv
  dsimp only at p1 p2 p3 p4 p5 S
  walk_at "go"
  refine ite_b (fun hc' => ?_) fun hc' => ?_
  · walk_at "go"
    refine i_fdiv (by decide) (PyProof.noPylong_small (by (clear hc' p3 p2 p1 hc h3 hkd hkf hD hroom; omega))) ?_
    walk_at "go"
    obtain ⟨n, hn⟩ := Int.eq_ofNat_of_zero_le (show 0 ≤ (lo' + hi').fdiv 2 by rw [Int.fdiv_eq_ediv_of_nonneg _ (by decide)]; (clear p3 p2 hc h3 hkd hkf hD hroom; omega))
    have hn1 : lo' ≤ (n : Int) := by rw [← hn, Int.fdiv_eq_ediv_of_nonneg _ (by decide)]; (clear hn p3 p2 p1 hc h3 hkd hkf hD hroom; omega)
    have hn2 : (n : Int) < hi' := by rw [← hn, Int.fdiv_eq_ediv_of_nonneg _ (by decide)]; (clear hn1 hn p3 p2 p1 hc h3 hkd hkf hD hroom; omega)
    rw [hn] at S
    refine r_callF hkf hkd rfl ?_
    walk_at "go"
    have hlt : n < vs.length := by (clear hn1 hn hc' p2 p1 hc h3 hkd hkf hD hroom; omega)
    refine r_itemL (v := vs[n]) (stays_list S.base hl) (by (clear hlt hn2 hn1 hn hc' p3 p2 p1 hc h3 hkd hkf hD hroom; omega)) (by (clear hn2 hn1 hn hc' p3 p2 p1 hc hkd hkf hD hroom; omega)) (by simp [hlt]) rfl ?_
    walk_at "go"
    refine hK n vs[n] (by simp [hlt]) _ _ _ _ _ _ _ _ (by show A.depth + 1 ≤ D; (clear hlt hn2 hn1 hn hc' p3 p2 p1 hc h3 hkd hkf hD; omega)) S.base ?_
    intro h₅ tk₅ t₅ hst₅
    replace S := S.stays hst₅
    walk_at "go"
    refine ite_b (fun hx => ?_) fun hx => ?_
    · walk_at "go"
      refine hKp (lo', n, _, _) _ _ ?_ ⟨p1, hn1, by dsimp only; (clear hx hn2 hn1 hn hc' p3 p2 p1 hc h3 hkd hkf hD hroom; omega), p4, fun i a b => ?_⟩ (S.as (by walk_at "has"))
      · dsimp only; (clear hx hlt hn1 hn p3 p2 p1 hc h3 hkd hkf hD hroom; omega)
      · have := hm n i (by (clear b a hx hlt hn2 hn1 hn hc' p3 p2 p1 hc h3 hkd hkf hD hroom; omega)) (by dsimp only at a; (clear b hx hlt hn2 hn1 hn hc' p3 p2 p1 hc h3 hkd hkf hD hroom; omega)) b
        (clear b a hlt hn2 hn1 hn hc' p3 p2 p1 hc h3 hkd hkf hD hroom; omega)
    · walk_at "go"
      refine hKp (n + 1, hi', _, _) _ _ ?_ ⟨by dsimp only; (clear hx hlt hn2 hn1 hn hc' p3 p2 p1 hc h3 hkd hkf hD hroom; omega), by dsimp only; (clear hx hlt hn1 hn hc' p3 p2 p1 hc h3 hkd hkf hD hroom; omega), p3, fun i a b => ?_, p5⟩ (S.as (by walk_at "has"))
      · dsimp only; (clear hx hlt hn p3 p2 p1 hc h3 hkd hkf hD hroom; omega)
      · have := hm i n a (by dsimp only at b; (clear a hx hlt hn2 hn1 hn hc' p3 p2 p1 hc h3 hkd hkf hD hroom; omega)) (by (clear b a hx hn2 hn1 hn hc' p3 p2 p1 hc h3 hkd hkf hD hroom; omega))
        (clear b a hlt hn2 hn1 hn hc' p3 p2 p1 hc h3 hkd hkf hD hroom; omega)
  · walk_at "go"
    refine hQv _ _ ?_
    walk_at "go"
    exact hq _ _ _ _ S.base p1 (by (clear p1 hc h3 hkd hkf hD hroom; omega)) p4 fun i a b => p5 i (by (clear b p3 p1 hc h3 hkd hkf hD hroom; omega)) b

theorem bisect_left_key1 {a kf : Addr} {vs : List Value} {F : Nat → Int} {x : Int} {t1 : Tok} {ok : Obj} {fdk : FuncData} {D : Nat} (X : Bs w h) (hroom : A.depth + 1 < D) (hD : D ≤ recursionLimit)
   (hl : h.IsList a vs.toArray) (hkf : h.get? kf = some ok) (hkd : ok.data = .func fdk) (hK : KeyOk w kf h D vs F) (h3 : vs.length < 1000)
   (hm : ∀ i j : Nat, 0 ≤ (i : Int) → i ≤ j → (j : Int) < (vs.length : Int) → F i ≤ F j)
   (hq : ∀ h' tk' t (k : Int), h.StaysIn h' → 0 ≤ k → k ≤ (vs.length : Int) → (∀ i : Nat, 0 ≤ (i : Int) → (i : Int) < k → F i < x) → (∀ i : Nat, k ≤ (i : Int) → (i : Int) < (vs.length : Int) → x ≤ F i) → Q (.int k t) ⟨h', g, d, tk', o⟩) :
   wpAny (model pg w) A (call (.ref 41) [.ref a, .int x t1] [(Str.ofString "key", .ref kf)]) Q E ⟨h, g, d, tk, o⟩ := by
  refine r_enter [(Str.ofString "a", .ref a), (Str.ofString "x", .int x t1), (Str.ofString "lo", .int 0 216), (Str.ofString "hi", .none), (Str.ofString "key", .ref kf)] X (by (clear h3 hkd hkf; omega)) rfl rfl
    (BindsTo.of_defaults rfl (X.1 33 _ rfl) rfl rfl rfl) (locs rfl) rfl rfl rfl (by decide) ?_
  intro h₁ tk₁ S
  walk_at "go"
  refine ite_b (fun hc => by (clear h3 hkd hkf hD hroom; omega)) fun hc => ?_
  walk_at "go"
  refine r_len (stays_list S.base hl) (by simp only [List.size_toArray]; (clear hc hkd hkf hD hroom; omega)) ?_
  intro t9 tk9
  simp only [List.size_toArray]
  walk_at "go"
  refine r_while (σ := Int × Int × Tok × Tok) (fun y => [(Str.ofString "a", .ref a), (Str.ofString "x", .int x t1), (Str.ofString "lo", .int y.1 y.2.2.1), (Str.ofString "hi", .int y.2.1 y.2.2.2), (Str.ofString "key", .ref kf)]) (fun _ => []) (fun _ => [])
    (fun y => 0 ≤ y.1 ∧ y.1 ≤ y.2.1 ∧ y.2.1 ≤ (vs.length : Int) ∧ (∀ i : Nat, 0 ≤ (i : Int) → (i : Int) < y.1 → F i < x) ∧ (∀ i : Nat, y.2.1 ≤ (i : Int) → (i : Int) < (vs.length : Int) → x ≤ F i))
    (fun y => (y.2.1 - y.1).toNat) (0, (vs.length : Int), 216, t9) (S.as (by walk_at "has")) ?_ ?_
  · refine ⟨by simp, by dsimp only; (clear hc hkd hkf hD hroom; omega), by simp, fun i a b => ?_, fun i a b => ?_⟩ <;> (dsimp only at a b; (clear hc h3 hkd hkf hD hroom; omega))
  clear S
  rintro ⟨lo', hi', u1, u2⟩ h₂ tk₂ ⟨p1, p2, p3, p4, p5⟩ S Kp hKp Qv hQv
  dsimp only at p1 p2 p3 p4 p5 S
  walk_at "go"
  refine ite_b (fun hc' => ?_) fun hc' => ?_
  · walk_at "go"
    refine i_fdiv (by decide) (PyProof.noPylong_small (by (clear hc' p3 p2 p1 hc h3 hkd hkf hD hroom; omega))) ?_
    walk_at "go"
    obtain ⟨n, hn⟩ := Int.eq_ofNat_of_zero_le (show 0 ≤ (lo' + hi').fdiv 2 by rw [Int.fdiv_eq_ediv_of_nonneg _ (by decide)]; (clear p3 p2 hc h3 hkd hkf hD hroom; omega))
    have hn1 : lo' ≤ (n : Int) := by rw [← hn, Int.fdiv_eq_ediv_of_nonneg _ (by decide)]; (clear hn p3 p2 p1 hc h3 hkd hkf hD hroom; omega)
    have hn2 : (n : Int) < hi' := by rw [← hn, Int.fdiv_eq_ediv_of_nonneg _ (by decide)]; (clear hn1 hn p3 p2 p1 hc h3 hkd hkf hD hroom; omega)
    rw [hn] at S
    refine r_callF hkf hkd rfl ?_
    walk_at "go"
    have hlt : n < vs.length := by (clear hn1 hn hc' p2 p1 hc h3 hkd hkf hD hroom; omega)
    refine r_itemL (v := vs[n]) (stays_list S.base hl) (by (clear hlt hn2 hn1 hn hc' p3 p2 p1 hc h3 hkd hkf hD hroom; omega)) (by (clear hn2 hn1 hn hc' p3 p2 p1 hc hkd hkf hD hroom; omega)) (by simp [hlt]) rfl ?_
    walk_at "go"
    refine hK n vs[n] (by simp [hlt]) _ _ _ _ _ _ _ _ (by show A.depth + 1 ≤ D; (clear hlt hn2 hn1 hn hc' p3 p2 p1 hc h3 hkd hkf hD; omega)) S.base ?_
    intro h₅ tk₅ t₅ hst₅
    replace S := S.stays hst₅
    walk_at "go"
    refine ite_b (fun hx => ?_) fun hx => ?_
    · walk_at "go"
      refine hKp (n + 1, hi', _, _) _ _ ?_ ⟨by dsimp only; (clear hx hlt hn2 hn1 hn hc' p3 p2 p1 hc h3 hkd hkf hD hroom; omega), by dsimp only; (clear hx hlt hn1 hn hc' p3 p2 p1 hc h3 hkd hkf hD hroom; omega), p3, fun i a b => ?_, p5⟩ (S.as (by walk_at "has"))
      · dsimp only; (clear hx hlt hn p3 p2 p1 hc h3 hkd hkf hD hroom; omega)
      · have := hm i n a (by dsimp only at b; (clear a hx hlt hn2 hn1 hn hc' p3 p2 p1 hc h3 hkd hkf hD hroom; omega)) (by (clear b a hx hn2 hn1 hn hc' p3 p2 p1 hc h3 hkd hkf hD hroom; omega))
        (clear b a hlt hn2 hn1 hn hc' p3 p2 p1 hc h3 hkd hkf hD hroom; omega)
    · walk_at "go"
      refine hKp (lo', n, _, _) _ _ ?_ ⟨p1, hn1, by dsimp only; (clear hx hn2 hn1 hn hc' p3 p2 p1 hc h3 hkd hkf hD hroom; omega), p4, fun i a b => ?_⟩ (S.as (by walk_at "has"))
      · dsimp only; (clear hx hlt hn1 hn p3 p2 p1 hc h3 hkd hkf hD hroom; omega)
      · have := hm n i (by (clear b a hx hlt hn2 hn1 hn hc' p3 p2 p1 hc h3 hkd hkf hD hroom; omega)) (by dsimp only at a; (clear b hx hlt hn2 hn1 hn hc' p3 p2 p1 hc h3 hkd hkf hD hroom; omega)) b
        (clear b a hlt hn2 hn1 hn hc' p3 p2 p1 hc h3 hkd hkf hD hroom; omega)
  · walk_at "go"
    refine hQv _ _ ?_
    walk_at "go"
    exact hq _ _ _ _ S.base p1 (by (clear p1 hc h3 hkd hkf hD hroom; omega)) p4 fun i a b => p5 i (by (clear b p3 p1 hc h3 hkd hkf hD hroom; omega)) b

theorem bisect_left_key3 {a kf : Addr} {vs : List Value} {F : Nat → Int} {x : Int} {t1 : Tok} {lo hi : Int} {t2 t3 : Tok} {ok : Obj} {fdk : FuncData} {D : Nat} (X : Bs w h) (hroom : A.depth + 1 < D) (hD : D ≤ recursionLimit)
   (hl : h.IsList a vs.toArray) (hkf : h.get? kf = some ok) (hkd : ok.data = .func fdk) (hK : KeyOk w kf h D vs F) (h0 : 0 ≤ lo) (h1 : lo ≤ hi) (h2 : hi ≤ vs.length) (h3 : vs.length < 1000)
   (hm : ∀ i j : Nat, lo ≤ (i : Int) → i ≤ j → (j : Int) < hi → F i ≤ F j)
   (hq : ∀ h' tk' t (k : Int), h.StaysIn h' → lo ≤ k → k ≤ hi → (∀ i : Nat, lo ≤ (i : Int) → (i : Int) < k → F i < x) → (∀ i : Nat, k ≤ (i : Int) → (i : Int) < hi → x ≤ F i) → Q (.int k t) ⟨h', g, d, tk', o⟩) :
   wpAny (model pg w) A (call (.ref 41) [.ref a, .int x t1, .int lo t2, .int hi t3] [(Str.ofString "key", .ref kf)]) Q E ⟨h, g, d, tk, o⟩ := by
  refine r_enter [(Str.ofString "a", .ref a), (Str.ofString "x", .int x t1), (Str.ofString "lo", .int lo t2), (Str.ofString "hi", .int hi t3), (Str.ofString "key", .ref kf)] X (by (clear h3 h2 h1 h0 hkd hkf; omega)) rfl rfl
    (BindsTo.of_defaults rfl (X.1 33 _ rfl) rfl rfl rfl) (locs rfl) rfl rfl rfl (by decide) ?_
  intro h₁ tk₁ S
  walk_at "go"
  refine ite_b (fun hc => by (clear h3 h2 h1 hkd hkf hD hroom; omega)) fun hc => ?_
  walk_at "go"
  refine r_while (σ := Int × Int × Tok × Tok) (fun y => [(Str.ofString "a", .ref a), (Str.ofString "x", .int x t1), (Str.ofString "lo", .int y.1 y.2.2.1), (Str.ofString "hi", .int y.2.1 y.2.2.2), (Str.ofString "key", .ref kf)]) (fun _ => []) (fun _ => [])
    (fun y => lo ≤ y.1 ∧ y.1 ≤ y.2.1 ∧ y.2.1 ≤ hi ∧ (∀ i : Nat, lo ≤ (i : Int) → (i : Int) < y.1 → F i < x) ∧ (∀ i : Nat, y.2.1 ≤ (i : Int) → (i : Int) < hi → x ≤ F i))
    (fun y => (y.2.1 - y.1).toNat) (lo, hi, t2, t3) (S.as (by walk_at "has")) ?_ ?_
  · refine ⟨by simp, by dsimp only; (clear hc h3 h2 h0 hkd hkf hD hroom; omega), by simp, fun i a b => ?_, fun i a b => ?_⟩ <;> (dsimp only at a b; (clear hc h3 h2 h1 h0 hkd hkf hD hroom; omega))
  clear S
  rintro ⟨lo', hi', u1, u2⟩ h₂ tk₂ ⟨p1, p2, p3, p4, p5⟩ S Kp hKp Qv hQv
  dsimp only at p1 p2 p3 p4 p5 S
  walk_at "go"
  refine ite_b (fun hc' => ?_) fun hc' => ?_
  · walk_at "go"
    refine i_fdiv (by decide) (PyProof.noPylong_small (by (clear hc' p3 p2 p1 hc h3 h2 h1 h0 hkd hkf hD hroom; omega))) ?_
    walk_at "go"
    obtain ⟨n, hn⟩ := Int.eq_ofNat_of_zero_le (show 0 ≤ (lo' + hi').fdiv 2 by rw [Int.fdiv_eq_ediv_of_nonneg _ (by decide)]; (clear p3 p2 hc h3 h2 h1 hkd hkf hD hroom; omega))
    have hn1 : lo' ≤ (n : Int) := by rw [← hn, Int.fdiv_eq_ediv_of_nonneg _ (by decide)]; (clear hn p3 p2 p1 hc h3 h2 h1 h0 hkd hkf hD hroom; omega)
    have hn2 : (n : Int) < hi' := by rw [← hn, Int.fdiv_eq_ediv_of_nonneg _ (by decide)]; (clear hn1 hn p3 p2 p1 hc h3 h2 h1 h0 hkd hkf hD hroom; omega)
    rw [hn] at S
    refine r_callF hkf hkd rfl ?_
    walk_at "go"
    have hlt : n < vs.length := by (clear hn1 hn hc' p2 p1 hc h3 h1 h0 hkd hkf hD hroom; omega)
    refine r_itemL (v := vs[n]) (stays_list S.base hl) (by (clear hlt hn2 hn1 hn hc' p3 p2 p1 hc h3 h2 h1 h0 hkd hkf hD hroom; omega)) (by (clear hn2 hn1 hn hc' p3 p2 p1 hc h2 h1 h0 hkd hkf hD hroom; omega)) (by simp [hlt]) rfl ?_
    walk_at "go"
    refine hK n vs[n] (by simp [hlt]) _ _ _ _ _ _ _ _ (by show A.depth + 1 ≤ D; (clear hlt hn2 hn1 hn hc' p3 p2 p1 hc h3 h2 h1 h0 hkd hkf hD; omega)) S.base ?_
    intro h₅ tk₅ t₅ hst₅
    replace S := S.stays hst₅
    walk_at "go"
    refine ite_b (fun hx => ?_) fun hx => ?_
    · walk_at "go"
      refine hKp (n + 1, hi', _, _) _ _ ?_ ⟨by dsimp only; (clear hx hlt hn2 hn hc' p3 p2 hc h3 h2 h1 h0 hkd hkf hD hroom; omega), by dsimp only; (clear hx hlt hn1 hn hc' p3 p2 p1 hc h3 h2 h1 h0 hkd hkf hD hroom; omega), p3, fun i a b => ?_, p5⟩ (S.as (by walk_at "has"))
      · dsimp only; (clear hx hlt hn p3 p2 p1 hc h3 h2 h1 h0 hkd hkf hD hroom; omega)
      · have := hm i n a (by dsimp only at b; (clear a hx hlt hn2 hn1 hn hc' p3 p2 p1 hc h3 h2 h1 h0 hkd hkf hD hroom; omega)) (by (clear b a hx hlt hn1 hn hc' p2 p1 hc h3 h2 h1 h0 hkd hkf hD hroom; omega))
        (clear b a hlt hn2 hn1 hn hc' p3 p2 p1 hc h3 h2 h1 h0 hkd hkf hD hroom; omega)
    · walk_at "go"
      refine hKp (lo', n, _, _) _ _ ?_ ⟨p1, hn1, by dsimp only; (clear hx hlt hn1 hn hc' p2 p1 hc h3 h2 h1 h0 hkd hkf hD hroom; omega), p4, fun i a b => ?_⟩ (S.as (by walk_at "has"))
      · dsimp only; (clear hx hlt hn p3 p2 p1 hc h3 h2 h1 h0 hkd hkf hD hroom; omega)
      · have := hm n i (by (clear b a hx hlt hn2 hn hc' p3 p2 hc h3 h2 h1 h0 hkd hkf hD hroom; omega)) (by dsimp only at a; (clear b hx hlt hn2 hn1 hn hc' p3 p2 p1 hc h3 h2 h1 h0 hkd hkf hD hroom; omega)) b
        (clear b a hlt hn2 hn1 hn hc' p3 p2 p1 hc h3 h2 h1 h0 hkd hkf hD hroom; omega)
  · walk_at "go"
    refine hQv _ _ ?_
    walk_at "go"
    exact hq _ _ _ _ S.base p1 (by (clear p1 hc h3 h2 h1 h0 hkd hkf hD hroom; omega)) p4 fun i a b => p5 i (by (clear b p3 p1 hc h3 h2 h1 h0 hkd hkf hD hroom; omega)) b

end
end -- F3
section -- F4
open PySem PySem.W PyProof.Rows PySem.Calls
set_option Elab.async false
set_option maxRecDepth 100000
set_option maxHeartbeats 4000000
section
variable {w : World} {A : Around} {E : Value → Shared → Prop} {h : Heap} {g : Array GenState} {d : Drawn} {tk : Nat} {o : OsState} {Q : Value → Shared → Prop}
theorem law_left_ok {r : Addr} {its : Array Value} {v : Value} (X : Bs w h) (hroom : A.depth < recursionLimit) (ht : IsTup h r its) (hs : 0 < its.size) (hv : its[0]? = some v)
   (hq : ∀ h' tk', h.StaysIn h' → Q v ⟨h', g, d, tk', o⟩) :
   wpAny (model pg w) A (call (.ref 111) [.ref r]) Q E ⟨h, g, d, tk, o⟩ := by
  refine r_enter [(Str.ofString "rule", .ref r)] X hroom rfl rfl (BindsTo.of_eq rfl) (locs rfl) rfl rfl rfl (by decide) ?_
  intro h₁ tk₁ S
  walk_at "go"
  refine r_itemT (stays_tup S.base ht) (by decide) (by decide) (j := 0) (by simp [seqIndex?, hs]) hv rfl ?_
  walk_at "go"
  exact hq _ _ S.base

theorem insort_ok {a kf : Addr} {vs : List Value} {n : Nat} {F : Nat → Int} {r : Addr} {x : Int} {ok : Obj} {fdk : FuncData} {D : Nat} (X : Bs w (hideAll h [a])) (hroom : A.depth + 2 < D) (hD : D ≤ recursionLimit)
   (hl : h.get? a = some (lst vs n)) (hkf : (hideAll h [a]).get? kf = some ok) (hkd : ok.data = .func fdk) (hK : KeyOk w kf (hideAll h [a]) D vs F) (h3 : vs.length < 1000)
   (hx : KeyOk w kf (hideAll h [a]) D [.ref r] (fun _ => x))
   (hm : ∀ i j : Nat, i ≤ j → j < vs.length → F i ≤ F j)
   (hq : ∀ h' tk' (k : Nat), k ≤ vs.length → (∀ b ob, b ≠ a → h.get? b = some ob → h'.get? b = some ob) → h'.get? a = some (lst (vs.take k ++ .ref r :: vs.drop k) (n + 1)) → (∀ i : Nat, i < k → F i ≤ x) → (∀ i : Nat, k ≤ i → i < vs.length → x < F i) → Q .none ⟨h', g, d, tk', o⟩) :
   wpAny (model pg w) A (call (.ref 23) [.ref a, .ref r] [(Str.ofString "key", .ref kf)]) Q E ⟨h, g, d, tk, o⟩ := by
  have X' : Bs w h := X.keeps fun b ob e => of_hideAll _ e
  refine r_enterH [(Str.ofString "a", .ref a), (Str.ofString "x", .ref r), (Str.ofString "lo", .int 0 189), (Str.ofString "hi", .none), (Str.ofString "key", .ref kf)] [(a, lst vs n)] X
    (by intro p hp; rw [List.mem_singleton.mp hp]; exact hl) (by simp) (by omega) rfl rfl (BindsTo.of_defaults rfl (X'.1 15 _ rfl) rfl rfl rfl) (locs rfl) rfl rfl rfl (by decide) ?_
  intro h₁ tk₁ S
  replace S : St (hideAll h [a]) _ _ _ _ _ := S
  walk_at "go"
  refine' r_callKW1 (by walk_at "m"; exact ⟨rfl, rfl⟩) X rfl rfl rfl ?_
  walk_at "go"
  refine r_callF hkf hkd rfl ?_
  walk_at "go"
  refine hx 0 _ rfl _ _ _ _ _ _ _ _ (by show A.depth + 1 ≤ D; omega) S.base ?_
  intro h₅ tk₅ t₅ hst₅
  replace S := S.stays hst₅
  walk_at "go"
  refine bisect_right_key2 (D := D) (F := F) (X.keeps S.base) (by show A.depth + 1 + 1 < D; omega) hD (S.isList (.head _)) (S.base _ _ hkf) hkd ?_ h3 ?_ ?_
  · intro i v hv A' h' g' d' tk' o' Q' E' hA hs hk
    exact hK i v hv A' h' g' d' tk' o' Q' E' hA (fun b ob e => hs _ _ (S.base _ _ e)) hk
  · intro i j _ hij hj
    exact hm i j hij (by omega)
  intro h₆ tk₆ t₆ k hst₆ k1 k2 k3 k4
  replace S := S.stays hst₆
  walk_at "go"
  refine r_insert S k1 k2 (by walk_at "at") (by omega) ?_
  clear S
  intro h₇ S
  walk_at "go"
  refine hq _ _ k.toNat (by omega) ?_ (S.get (.head _)) (fun i hi => k3 i (by omega) (by omega)) (fun i hi hi' => k4 i (by omega) (by omega))
  intro b ob hb e
  exact S.base _ _ (hideAll_get _ e (by simpa using hb))
end
end -- F4
section -- F17
open PySem PySem.W PyProof.Rows PySem.Calls
set_option Elab.async false
set_option maxRecDepth 100000
set_option maxHeartbeats 4000000
set_option linter.unusedVariables false
theorem St.neMid {B : Heap} {L : Addr} {h : Heap} {l : List (Str × Value)} {l1 l2 tl : List (Addr × Obj)} {a : Addr} {x : Obj} {p : Addr × Obj} (S : St B L h l (l1 ++ (a, x) :: l2) tl) (hp : p ∈ l1 ++ l2) : p.1 ≠ a := by
  have S' := S.perm (own' := (a, x) :: (l1 ++ l2)) List.perm_middle.symm
  have nd := S'.nd
  rw [List.cons_append, List.map_cons, List.nodup_cons] at nd
  intro e
  exact nd.1 (e ▸ List.mem_map_of_mem (f := (·.1)) (List.mem_append_left _ hp))
section
variable {w : World} {A : Around} {E : Value → Shared → Prop} {h : Heap} {g : Array GenState} {d : Drawn} {tk : Nat} {o : OsState} {Q : Flow → Shared → Prop} {B : Heap} {L : Addr}
theorem key_ok {D : Nat} {ob : List (Addr × Obj)} {vs : List Value} {rs : List Rl} (X : Bs w B) (hD : D < recursionLimit) (hk : ∀ p ∈ ob, B.get? p.1 = some p.2) (x : RulesIn ob vs rs) : KeyOk w 111 B D vs (keyOf rs) := by
  intro i v hv A h g d tk o Q E hA hs hq
  refine hide fun Kz kz => ?_
  obtain ⟨r, hr, a, t1, t2, ra, ws, n, rfl, ma, mr, hi⟩ := x.get hv
  refine kz ?_
  clear kz Kz
  refine law_left_ok (its := #[.int r.l t1, .int r.s t2, .ref ra]) (X.keeps hs) (by (clear hv hr; omega)) ⟨_, hs _ _ (hk _ ma), rfl, 0, rfl⟩ (by simp) rfl fun h' tk' st => ?_
  have e : keyOf rs i = r.l := by rw [keyOf, hr]; rfl
  have := hq h' tk' t1 st
  rw [e] at this
  exact this
theorem KeyOk.congr {D : Nat} {kf : Addr} {vs : List Value} {F G : Nat → Int} (x : KeyOk w kf B D vs F) (e : ∀ i v, vs[i]? = some v → F i = G i) : KeyOk w kf B D vs G := by
  intro i v hv A h g d tk o Q E hA hs hq
  refine x i v hv A h g d tk o Q E hA hs fun h' tk' t st => ?_
  rw [e i v hv]
  exact hq h' tk' t st
theorem law_B {f : Addr} {cdv : Value} {body : List Stmt} {scope : Scope} {a : Addr} {p1 p2 p3 : Array Value} {ex : List (Addr × Obj)} {cl ra : Addr} {cvs rvs : List Value} {cn rn : Nat} {rs : List Rl} {obs : List (Addr × Obj)} (hdf : lawDef w.params = some (body, scope))
   (X : Bs w B) (hh : A.handled = none) (hroom : A.depth + 100 < recursionLimit)
   (S : St B L h [(Str.ofString "script", .ref a), (Str.ofString "cells", .ref cl), (Str.ofString "rules", .ref ra)] ((cl, lst cvs cn) :: (ra, lst rvs rn) :: obs) (tabL p1 p2 p3 ex)) (hRI : RulesIn obs rvs rs) (G : Gr rs)
   (next : ∀ h' tk' ta sa sta tvs tn sn tb, St B L h' [(Str.ofString "script", .ref a), (Str.ofString "cells", .ref cl), (Str.ofString "rules", .ref ra), (Str.ofString "table", .ref ta), (Str.ofString "spans", .ref sa), (Str.ofString "starts", .ref sta)]
       ((cl, lst cvs cn) :: (ra, lst rvs rn) :: (ta, lst tvs tn) :: (sa, { cls := .type "dict", data := .dict #[] }) :: (sta, lst [] sn) :: obs) (tabL p1 p2 p3 ex) → RulesIn obs tvs tb → SortedL tb → (∀ t, ofL tb t = ofL rs t) → tb.length = 7 → (∀ r ∈ tb, r ∈ rs) →
     wpAny (model pg w) (A.deeper (envOf (Str.ofString "law") scope L f cdv)) (execs (body.drop 6) (envOf (Str.ofString "law") scope L f cdv)) Q E ⟨h', g, d, tk', o⟩) :
   wpAny (model pg w) (A.deeper (envOf (Str.ofString "law") scope L f cdv)) (execs (body.drop 4) (envOf (Str.ofString "law") scope L f cdv)) Q E ⟨h, g, d, tk, o⟩ := by
  replace hdf : some _ = some _ := hdf
  cases hdf
  simp only [List.drop_succ_cons, List.drop_zero] at next ⊢
  have H : ∀ e : Env, (A.deeper e).handled = none := fun _ => hh
  have hrl := hRI.length
  rw [G.len] at hrl
  walk_at "go"
  refine r_dict0 S ?_
  clear S
  intro sa h₂ S
  walk_at "go"
  refine hide fun Kz kz => ?_
  obtain ⟨ta, sta, tn, sn, S⟩ : ∃ ta sta tn sn, St B L _ [(Str.ofString "script", .ref a), (Str.ofString "cells", .ref cl), (Str.ofString "rules", .ref ra), (Str.ofString "table", .ref ta), (Str.ofString "spans", .ref sa), (Str.ofString "starts", .ref sta)]
       ((cl, lst cvs cn) :: (ra, lst rvs rn) :: (ta, lst [] tn) :: (sa, { cls := .type "dict", data := .dict #[] }) :: (sta, lst [] sn) :: obs) (tabL p1 p2 p3 ex) := by
    refine ⟨_, _, 0, 0, ((S.sub (.cons _ (.refl _))).perm ?_).as (by walk_at "has")⟩
    exact ((List.perm_append_comm (l₁ := [_, _]) (l₂ := [_, _, _])).append_right obs).trans ((List.reverse_perm [_, _, _]).symm.append_right (_ :: _ :: obs))
  refine kz ?_
  clear kz Kz
  refine r_for (B := B) (L := L) (n := rvs.toArray.size) (LF := fun h => h.IsList ra rvs.toArray) (fun y : List Value × Nat × List Rl => [(Str.ofString "script", .ref a), (Str.ofString "cells", .ref cl), (Str.ofString "rules", .ref ra), (Str.ofString "table", .ref ta), (Str.ofString "spans", .ref sa), (Str.ofString "starts", .ref sta)])
    (fun y => (cl, lst cvs cn) :: (ra, lst rvs rn) :: (ta, lst y.1 y.2.1) :: (sa, { cls := .type "dict", data := .dict #[] }) :: (sta, lst [] sn) :: obs) (fun _ => tabL p1 p2 p3 ex)
    (fun i y => RulesIn obs y.1 y.2.2 ∧ SortedL y.2.2 ∧ (∀ t, ofL y.2.2 t = ofL (rs.take i) t) ∧ y.2.2.length = i ∧ ∀ r ∈ y.2.2, r ∈ rs) ([], tn, [])
    (fun _ => rfl) (fun _ _ => rfl) (fun _ _ _ _ _ _ S => S.isList (.tail _ (.tail _ (.head _)))) ⟨.nil, List.Pairwise.nil, fun t => by rw [List.take_zero], rfl, fun r hr => nomatch hr⟩ (fun I => Itr.list (H _) I ra _) ?_ ?_ ?_
  · intro Ki hKi
    walk_at "go"
    refine r_iterL S (S.isList (.tail _ (.head _))) ?_
    clear S
    intro I h₃ S
    exact hKi _ _ _ _ ⟨rfl, rfl⟩ S
  · clear S
    rintro i ⟨tvs, te, tb⟩ h₃ tk₃ v I oI ⟨J1, J2, J3, J4, J5⟩ hi7 hv hI S Kp hKp Qv hQv
    dsimp only at J1 J2 J3 J4 J5 S
    rw [List.size_toArray] at hi7
    rw [List.getElem?_toArray] at hv
    have jl := J1.length
    refine hide fun Kz kz => ?_
    obtain ⟨r, hr, aa, u1, u2, rra, ws, wn, rfl, ma, mr, hri⟩ := hRI.get hv
    refine kz ?_
    clear kz Kz
    walk_at "go"
    refine' r_callKW1 (by walk_at "m"; exact ⟨rfl, rfl⟩) X rfl rfl rfl ?_
    walk_at "go"
    have hX := X.keeps (S.hideOwn (as := [ta]) (by intro q hq; rw [List.mem_singleton.mp hq]; exact ⟨_, .tail _ (.tail _ (.tail _ (.head _)))⟩))
    have hob : ∀ p ∈ obs, ∀ h', St B L h' [(Str.ofString "rule", .ref aa), (Str.ofString "script", .ref a), (Str.ofString "cells", .ref cl), (Str.ofString "rules", .ref ra), (Str.ofString "table", .ref ta), (Str.ofString "spans", .ref sa), (Str.ofString "starts", .ref sta)] ((I, oI) :: (cl, lst cvs cn) :: (ra, lst rvs rn) :: (ta, lst tvs te) :: (sa, { cls := .type "dict", data := .dict #[] }) :: (sta, lst [] sn) :: obs) (tabL p1 p2 p3 ex) → (hideAll h' [ta]).get? p.1 = some p.2 := by
      intro p hp h' S
      refine hideAll_get _ (S.get (.tail _ (.tail _ (.tail _ (.tail _ (.tail _ (.tail _ hp))))))) fun hm => ?_
      exact St.neMid (l1 := [_, _, _]) S (.tail _ (.tail _ (.tail _ (.tail _ (.tail _ hp))))) (List.mem_singleton.mp hm)
    refine insort_ok (D := A.depth + 50) (F := keyOf tb) (x := r.l) hX (by show A.depth + 1 + 2 < A.depth + 50; (clear hv hr jl hI hi7 J4 hrl hroom hh; omega)) (by (clear hv hr jl hI hi7 J4 hrl hh; omega)) (S.get (.tail _ (.tail _ (.tail _ (.head _))))) (hX.1 111 _ rfl) rfl (key_ok hX (by (clear hv hr jl hI hi7 J4 hrl hh; omega)) (fun p hp => hob p hp _ S) J1) (by rw [jl, J4]; (clear hv hr hI hroom hh; omega))
      ((key_ok hX (by (clear hv hr jl hI hi7 J4 hrl hh; omega)) (fun p hp => hob p hp _ S) (.cons (r := r) ⟨aa, u1, u2, rra, ws, wn, rfl, ma, mr, hri⟩ .nil)).congr ?_) (fun i j hij hj => keyOf_mono J2 hij (by (clear hij hv hr hI hi7 hrl hroom hh; omega))) ?_
    · intro i v hv
      cases i with
      | zero => rfl
      | succ i => cases hv
    intro h₄ tk₄ k hk hkeep hta hk1 hk2
    rw [jl] at hk
    replace S := S.at (own' := (I, oI) :: (cl, lst cvs cn) :: (ra, lst rvs rn) :: (ta, lst (tvs.take k ++ .ref aa :: tvs.drop k) (te + 1)) :: (sa, { cls := .type "dict", data := .dict #[] }) :: (sta, lst [] sn) :: obs) (.tail (.tail (.tail .head))) (fun b ob hb e => hkeep b ob hb e) hta
    walk_at "go"
    have IS := ins_sorted J2 hk (r := r) hk1 (fun i h1 h2 => hk2 i h1 (by (clear h1 hta hk hv hr hI hi7 hrl hroom hh; omega)))
    have hrlt := (List.getElem?_eq_some_iff.mp hr).1
    refine hKp (_, _, tb.take k ++ r :: tb.drop k) _ _ ⟨(J1.take k).app (.cons ⟨aa, u1, u2, rra, ws, wn, rfl, ma, mr, hri⟩ (J1.drop k)), IS.1, fun t => ?_, ?_, ?_⟩ (S.as (by walk_at "has"))
    · rw [IS.2, J3, List.take_add_one, hr, Option.toList_some, ofL_snoc]
    · dsimp only
      rw [List.length_append, List.length_cons, List.length_take, List.length_drop]; (clear hrlt IS hta hv hr hI hi7 hrl hroom hh; omega)
    · intro q hq
      rcases List.mem_append.mp hq with hq | hq
      · exact J5 q (List.mem_of_mem_take hq)
      · rcases List.mem_cons.mp hq with rfl | hq
        · exact List.mem_of_getElem? hr
        · exact J5 q (List.mem_of_mem_drop hq)
  · clear S
    rintro ⟨tvs, te, tb⟩ h₃ tk₃ ⟨J1, J2, J3, J4, J5⟩ S
    dsimp only at J1 J2 J3 J4 J5 S
    rw [List.size_toArray, hrl] at J3 J4
    rw [List.take_of_length_le (by rw [G.len]; exact Nat.le_refl _)] at J3
    repeat (walk_at "n")
    exact next h₃ tk₃ ta sa sta tvs te sn tb S J1 J2 J3 J4 J5
end
end -- F17
section -- F18
open PySem PySem.W PyProof.Rows PySem.Calls
set_option Elab.async false
set_option maxRecDepth 100000
set_option maxHeartbeats 4000000
set_option linter.unusedVariables false
def SpanIn (ob : List (Addr × Obj)) (v : Value) (lo hi tot : Int) : Prop := ∃ a t1 t2 t3, v = .ref a ∧ (a, tup [.int lo t1, .int hi t2, .int tot t3]) ∈ ob
structure CS where
  svs : List Value
  sn : Nat
  st : List Int
  ob : Obj
  f : Int → Option Value
  obs : List (Addr × Obj)
structure CI (rs tb : List Rl) (rvs tvs : List Value) (u : Int) (i : Nat) (y : CS) : Prop where
  sv : IntsAre y.svs y.st
  sl : y.st.length = loT tb (256 + (i : Nat))
  sg : ∀ t' : Int, 256 ≤ t' → t' < 256 + (i : Nat) → ∀ j, j < (ofL tb t').length → y.st[loT tb t' + j]? = some (u * shr ((ofL tb t').take j))
  dd : IsD y.ob y.f i
  sp : ∀ t' : Int, 256 ≤ t' → t' < 256 + (i : Nat) → ∃ v, y.f t' = some v ∧ SpanIn y.obs v (loT tb t' : Nat) ((loT tb t' + (ofL tb t').length : Nat) : Int) (u * shr (ofL tb t'))
  ri : RulesIn y.obs rvs rs
  ti : RulesIn y.obs tvs tb
  i4 : i ≤ 4
section
variable {w : World} {A : Around} {E : Value → Shared → Prop} {h : Heap} {g : Array GenState} {d : Drawn} {tk : Nat} {o : OsState} {Q : Flow → Shared → Prop} {B : Heap} {L : Addr}
theorem unit_pick {t1 t2 t3 t4 : Tok} {k : Nat} (hk : k < 4) : ∃ (v : Nat) (t : Tok), (#[Value.int 20 t1, Value.int 60 t2, Value.int 4100 t3, Value.int 4133 t4] : Array Value)[k]? = some (.int (v : Nat) t) ∧ 1 ≤ v ∧ v ≤ 4133 := by
  obtain rfl | rfl | rfl | rfl : k = 0 ∨ k = 1 ∨ k = 2 ∨ k = 3 := by omega
  · exact ⟨20, t1, rfl, by (clear hk; omega), by (clear hk; omega)⟩
  · exact ⟨60, t2, rfl, by (clear hk; omega), by (clear hk; omega)⟩
  · exact ⟨4100, t3, rfl, by (clear hk; omega), by (clear hk; omega)⟩
  · exact ⟨4133, t4, rfl, by (clear hk; omega), by (clear hk; omega)⟩
theorem law_C {f : Addr} {cdv : Value} {body : List Stmt} {scope : Scope} {a : Addr} {vs : List Value} {ns : List Int} {p1 p2 p3 : Array Value} {ex : List (Addr × Obj)} {cl ra ta sa sta : Addr} {cvs rvs tvs : List Value} {cn rn tn sn : Nat} {rs tb : List Rl} {obs : List (Addr × Obj)} (hdf : lawDef w.params = some (body, scope))
   (X : Bs w B) (hh : A.handled = none) (hroom : A.depth + 100 < recursionLimit) (ha : B.IsList a vs.toArray) (hi : IntsAre vs ns)
   (S : St B L h [(Str.ofString "script", .ref a), (Str.ofString "cells", .ref cl), (Str.ofString "rules", .ref ra), (Str.ofString "table", .ref ta), (Str.ofString "spans", .ref sa), (Str.ofString "starts", .ref sta)]
       ((cl, lst cvs cn) :: (ra, lst rvs rn) :: (ta, lst tvs tn) :: (sa, { cls := .type "dict", data := .dict #[] }) :: (sta, lst [] sn) :: obs) (tabL p1 p2 p3 ex)) (hRI : RulesIn obs rvs rs) (G : Gr rs)
   (hTI : RulesIn obs tvs tb) (hso : SortedL tb) (hof : ∀ t, ofL tb t = ofL rs t) (htl : tb.length = 7) (htm : ∀ r ∈ tb, r ∈ rs)
   (next : ∀ h' tk' u tu svs sn st ob sf obs, St B L h' [(Str.ofString "cells", .ref cl), (Str.ofString "rules", .ref ra), (Str.ofString "table", .ref ta), (Str.ofString "spans", .ref sa), (Str.ofString "starts", .ref sta), (Str.ofString "unit", .int u tu)]
       ((cl, lst cvs cn) :: (ra, lst rvs rn) :: (ta, lst tvs tn) :: (sa, ob) :: (sta, lst svs sn) :: obs) (tabL p1 p2 p3 ex) → 0 < u → u < 2 ^ 4133 → CI rs tb rvs tvs u 4 ⟨svs, sn, st, ob, sf, obs⟩ →
     wpAny (model pg w) (A.deeper (envOf (Str.ofString "law") scope L f cdv)) (execs (body.drop 8) (envOf (Str.ofString "law") scope L f cdv)) Q E ⟨h', g, d, tk', o⟩) :
   wpAny (model pg w) (A.deeper (envOf (Str.ofString "law") scope L f cdv)) (execs (body.drop 6) (envOf (Str.ofString "law") scope L f cdv)) Q E ⟨h, g, d, tk, o⟩ := by
  replace hdf : some _ = some _ := hdf
  cases hdf
  simp only [List.drop_succ_cons, List.drop_zero] at next ⊢
  have H : ∀ e : Env, (A.deeper e).handled = none := fun _ => hh
  walk_at "go"
  refine r_sum S (H _) (stays_list S.base ha) hi ?_
  clear S
  intro sm tsm h₂ tk₂ S
  walk_at "go"
  refine i_fmod (by decide) ?_
  have hk : 0 ≤ sm.fmod 4 ∧ sm.fmod 4 < 4 := by rw [Int.fmod_eq_emod_of_nonneg _ (by decide)]; (clear htl hroom hh; omega)
  generalize sm.fmod 4 = k at hk
  obtain ⟨k, rfl⟩ := Int.eq_ofNat_of_zero_le hk.1
  obtain ⟨v, tv, hv, hv1, hv2⟩ := unit_pick (k := k) (by (clear htl hroom hh; omega))
  refine r_itemL (S.isList (.head _)) (by (clear hv2 hv1 hv htl hroom hh; omega)) (by (clear hv2 hv1 hv htl hroom hh; omega)) (by rw [Int.toNat_natCast]; exact hv) rfl ?_
  walk_at "go"
  refine i_shl (by omega) (by have : Builtin.Int.intBits 1 = 1 := (by decide); omega) ?_
  repeat (walk_at "n")
  refine hide fun Kz kz => ?_
  obtain ⟨u, hu, hu0, hu1, tu, S⟩ : ∃ u, u = 1 * 2 ^ ((v : Nat) : Int).toNat - 1 ∧ 0 < u ∧ u < 2 ^ 4133 ∧ ∃ tu, St B L _ [(Str.ofString "cells", .ref cl), (Str.ofString "rules", .ref ra), (Str.ofString "table", .ref ta), (Str.ofString "spans", .ref sa), (Str.ofString "starts", .ref sta), (Str.ofString "unit", .int u tu)]
       ((cl, lst cvs cn) :: (ra, lst rvs rn) :: (ta, lst tvs tn) :: (sa, { cls := .type "dict", data := .dict #[] }) :: (sta, lst [] sn) :: obs) (tabL p1 p2 p3 ex) := by
    refine ⟨_, rfl, ?_, ?_, _, (S.sub (.cons _ (.refl _))).as (by walk_at "has")⟩
    · rw [Int.one_mul, Int.toNat_natCast]
      have : (2 : Int) ^ 1 ≤ 2 ^ v := two_mono hv1
      (clear hv2 hv1 hv hk htl hroom hh; omega)
    · rw [Int.one_mul, Int.toNat_natCast]
      have : (2 : Int) ^ v ≤ 2 ^ 4133 := two_mono hv2
      generalize (2 : Int) ^ 4133 = z at *
      (clear hv2 hv1 hv hk htl hroom hh; omega)
  refine kz ?_
  clear kz Kz
  clear hu
  have hun : u.natAbs < 2 ^ 4133 := by
    have e := hu1
    rw [cast_two] at e
    (clear e hv2 hv1 hv hk htl hroom hh; omega)
  have hlo0 : loT tb 256 = 0 := loT_none fun r hr => (G.mem (htm r hr)).1
  have hs4 : ∀ r ∈ tb, 1 ≤ r.s ∧ r.s ≤ 4 := fun r hr => ⟨(G.mem (htm r hr)).2.2.1, (G.mem (htm r hr)).2.2.2.1⟩
  have htv := hTI.length
  walk_at "go"
  refine r_for (B := B) (L := L) (n := 4) (LF := fun _ => True) (fun y : CS => [(Str.ofString "cells", .ref cl), (Str.ofString "rules", .ref ra), (Str.ofString "table", .ref ta), (Str.ofString "spans", .ref sa), (Str.ofString "starts", .ref sta), (Str.ofString "unit", .int u tu)])
    (fun y => (cl, lst cvs cn) :: (ra, lst rvs rn) :: (ta, lst tvs tn) :: (sa, y.ob) :: (sta, lst y.svs y.sn) :: y.obs) (fun _ => tabL p1 p2 p3 ex) (CI rs tb rvs tvs u) ⟨[], sn, [], _, fun _ => none, obs⟩
    (fun _ => rfl) (fun _ _ => rfl) (fun _ _ _ _ _ _ _ => trivial) ⟨.nil, by rw [show (256 : Int) + ((0 : Nat) : Int) = 256 from rfl, hlo0]; rfl, fun t' h1 h2 => by (clear htv hlo0 hun hu1 hu0 hv2 hv1 hv hk htl hroom hh; omega), isD_nil, fun t' h1 h2 => by (clear htv hlo0 hun hu1 hu0 hv2 hv1 hv hk htl hroom hh; omega), hRI, hTI, by (clear htv hlo0 hun hu1 hu0 hv2 hv1 hv hk htl hroom hh; omega)⟩ (fun I => Itr.range (H _) I 256 4) ?_ ?_ ?_
  · intro Ki hKi
    walk_at "go"
    refine r_range2 S ?_
    clear S
    intro rr h₂ t1 tk₂ S
    walk_at "go"
    refine r_iterRange (n := 4) S (.head _) (by decide) (by decide) (by decide) ?_
    clear S
    intro I h₃ S
    exact hKi _ _ _ _ rfl (S.sub (.cons_cons _ (.cons _ (.refl _))))
  · clear S
    rintro i ⟨svs, sn, st, ob, sf, obs⟩ h₃ tk₃ v I oI ⟨J1, J2, J3, J4, J5, J6, J7, J8⟩ hi4 ⟨ti, rfl⟩ hI S Kp hKp Qv hQv
    dsimp only at J1 J2 J3 J4 J5 J6 J7 J8 S
    obtain ⟨t, ht⟩ : ∃ t, t = (256 : Int) + (i : Nat) := ⟨_, rfl⟩
    rw [← ht] at J2
    have hlot := loT_le tb (t + 1)
    have hlos := loT_succ tb t
    rw [htl] at hlot
    rw [← ht]
    walk_at "go"
    refine' r_callKW1 (by walk_at "m"; exact ⟨rfl, rfl⟩) X rfl rfl rfl ?_
    walk_at "go"
    refine bisect_left_key1 (D := A.depth + 50) (F := keyOf tb) (X.keeps S.base) (by show A.depth + 1 + 1 < A.depth + 50; (clear hlos hlot ht J2 hI hi4 J8 htv hlo0 hun hu1 hu0 hv2 hv1 hv hk htl hroom hh; omega)) (by (clear hlos hlot ht J2 hI hi4 J8 htv hlo0 hun hu1 hu0 hv2 hv1 hv hk htl hh; omega)) (S.isList (.tail _ (.tail _ (.tail _ (.head _))))) (S.base _ _ (X.1 111 _ rfl)) rfl (key_ok (ob := obs) (X.keeps S.base) (by (clear hlos hlot ht J2 hI hi4 J8 htv hlo0 hun hu1 hu0 hv2 hv1 hv hk htl hh; omega)) (fun p hp => S.get (.tail _ (.tail _ (.tail _ (.tail _ (.tail _ (.tail _ hp))))))) J7) (by (clear hlos hlot ht J2 hI hi4 J8 hlo0 hun hu1 hu0 hv2 hv1 hv hk hroom hh; omega)) (fun i j _ hij hj => keyOf_mono hso hij (by (clear hij hlos hlot ht J2 hI hi4 J8 hlo0 hun hu1 hu0 hv2 hv1 hv hk hroom hh; omega))) ?_
    intro h₄ tk₄ t4 k hst4 k0 k1 k2 k3
    replace S := S.stays hst4
    obtain ⟨k, rfl⟩ := Int.eq_ofNat_of_zero_le k0
    have hk := left_k (tb := tb) (t := t) (k := k) (by (clear hlos hlot ht J2 hI hi4 J8 hlo0 hun hu1 hu0 hv2 hv1 hv hk hroom hh; omega)) (fun i hi => k2 i (by (clear hi k1 k0 hlos hlot ht J2 hI hi4 J8 htv hlo0 hun hu1 hu0 hv2 hv1 hv hk htl hroom hh; omega)) (by (clear k1 k0 hlos hlot ht J2 hI hi4 J8 htv hlo0 hun hu1 hu0 hv2 hv1 hv hk htl hroom hh; omega))) (fun i hi hi' => k3 i (by (clear hi' k1 k0 hlos hlot ht J2 hI hi4 J8 htv hlo0 hun hu1 hu0 hv2 hv1 hv hk htl hroom hh; omega)) (by (clear hi k1 k0 hlos hlot ht J2 hI hi4 J8 hlo0 hun hu1 hu0 hv2 hv1 hv hk hroom hh; omega)))
    subst hk
    walk_at "go"
    refine' r_callKW1 (by walk_at "m"; exact ⟨rfl, rfl⟩) X rfl rfl rfl ?_
    walk_at "go"
    refine bisect_right_key1 (D := A.depth + 50) (F := keyOf tb) (X.keeps S.base) (by show A.depth + 1 + 1 < A.depth + 50; (clear k1 k0 hlos hlot ht J2 hI hi4 J8 htv hlo0 hun hu1 hu0 hv2 hv1 hv hk htl hroom hh; omega)) (by (clear k1 k0 hlos hlot ht J2 hI hi4 J8 htv hlo0 hun hu1 hu0 hv2 hv1 hv hk htl hh; omega)) (S.isList (.tail _ (.tail _ (.tail _ (.head _))))) (S.base _ _ (X.1 111 _ rfl)) rfl (key_ok (ob := obs) (X.keeps S.base) (by (clear k1 k0 hlos hlot ht J2 hI hi4 J8 htv hlo0 hun hu1 hu0 hv2 hv1 hv hk htl hh; omega)) (fun p hp => S.get (.tail _ (.tail _ (.tail _ (.tail _ (.tail _ (.tail _ hp))))))) J7) (by (clear k1 k0 hlos hlot ht J2 hI hi4 J8 hlo0 hun hu1 hu0 hv2 hv1 hv hk hroom hh; omega)) (fun i j _ hij hj => keyOf_mono hso hij (by (clear hij k1 k0 hlos hlot ht J2 hI hi4 J8 hlo0 hun hu1 hu0 hv2 hv1 hv hk hroom hh; omega))) ?_
    intro h₅ tk₅ t5 k hst5 k0 k1 k2 k3
    replace S := S.stays hst5
    obtain ⟨k, rfl⟩ := Int.eq_ofNat_of_zero_le k0
    have hk := right_k (tb := tb) (t := t) (k := k) (by (clear hlos hlot ht J2 hI hi4 J8 hlo0 hun hu1 hu0 hv2 hv1 hv hk hroom hh; omega)) (fun i hi => k2 i (by (clear hi k1 k0 hlos hlot ht J2 hI hi4 J8 htv hlo0 hun hu1 hu0 hv2 hv1 hv hk htl hroom hh; omega)) (by (clear k1 k0 hlos hlot ht J2 hI hi4 J8 htv hlo0 hun hu1 hu0 hv2 hv1 hv hk htl hroom hh; omega))) (fun i hi hi' => k3 i (by (clear hi' k1 k0 hlos hlot ht J2 hI hi4 J8 htv hlo0 hun hu1 hu0 hv2 hv1 hv hk htl hroom hh; omega)) (by (clear hi k1 k0 hlos hlot ht J2 hI hi4 J8 hlo0 hun hu1 hu0 hv2 hv1 hv hk hroom hh; omega)))
    subst hk
    walk_at "go"
    have hseg : RulesIn obs ((tvs.drop (loT tb t)).take (ofL tb t).length) (ofL tb t) := by
      have := (J7.drop (loT tb t)).take (ofL tb t).length
      rwa [seg_slice hso t] at this
    have e0 : (0 : Int) = u * shr ((ofL tb t).take 0) := by rw [List.take_zero, shr, Int.mul_zero]
    rw [e0] at S
    obtain ⟨tt0, S⟩ : ∃ tt0, St B L _ [(Str.ofString "total", .int (u * shr ((ofL tb t).take 0)) tt0), (Str.ofString "lo", .int (loT tb t : Nat) t4), (Str.ofString "hi", .int ((loT tb t + (ofL tb t).length : Nat) : Int) t5), (Str.ofString "left", .int t ti), (Str.ofString "cells", .ref cl), (Str.ofString "rules", .ref ra), (Str.ofString "table", .ref ta), (Str.ofString "spans", .ref sa), (Str.ofString "starts", .ref sta), (Str.ofString "unit", .int u tu)] ((I, oI) :: (cl, lst cvs cn) :: (ra, lst rvs rn) :: (ta, lst tvs tn) :: (sa, ob) :: (sta, lst svs sn) :: obs) (tabL p1 p2 p3 ex) :=
      ⟨_, (S.sub (.cons _ (.refl _))).as (by walk_at "has")⟩
    refine r_via (fun fl s' => fl = .next ∧ ∃ h' tk' tt svs' sn', s' = ⟨h', g, d, tk', o⟩ ∧ IntsAre svs' (st ++ (List.range (ofL tb t).length).map fun j => u * shr ((ofL tb t).take j)) ∧
      St B L h' [(Str.ofString "total", .int (u * shr (ofL tb t)) tt), (Str.ofString "lo", .int (loT tb t : Nat) t4), (Str.ofString "hi", .int ((loT tb t + (ofL tb t).length : Nat) : Int) t5), (Str.ofString "left", .int t ti), (Str.ofString "cells", .ref cl), (Str.ofString "rules", .ref ra), (Str.ofString "table", .ref ta), (Str.ofString "spans", .ref sa), (Str.ofString "starts", .ref sta), (Str.ofString "unit", .int u tu)] ((I, oI) :: (cl, lst cvs cn) :: (ra, lst rvs rn) :: (ta, lst tvs tn) :: (sa, ob) :: (sta, lst svs' sn') :: obs) (tabL p1 p2 p3 ex)) ?_ ?_
    · intro Kc hKc
      refine r_forX (fun _ => rfl) ?_
      walk_at "go"
      refine wpAny_Slice ?_
      refine r_part1 ?_
      walk_at "go"
      refine r_part1 ?_
      walk_at "go"
      refine r_part0 ?_
      refine r_slice (lo := some ((loT tb t : Nat) : Int)) (hi := some ((loT tb t + (ofL tb t).length : Nat) : Int)) S (S.isList (.tail _ (.tail _ (.tail _ (.head _))))) (.int _ _) (.int _ _) (by with_unfolding_all rfl) (fun _ => by with_unfolding_all rfl) (by (clear e0 k1 k0 hlos hlot ht J2 hI hi4 J8 hlo0 hun hu1 hu0 hv2 hv1 hv hk hroom hh; omega)) ?_
      clear S
      intro Ds h₆ S
      rw [slicePick_run _ _ _ (by rw [List.size_toArray]; (clear e0 hlot ht J2 hI hi4 J8 hlo0 hun hu1 hu0 hv2 hv1 hv hk hroom hh; omega)) (by (clear e0 k1 k0 hlos hlot ht J2 hI hi4 J8 htv hlo0 hun hu1 hu0 hv2 hv1 hv hk htl hroom hh; omega)), show loT tb t + (ofL tb t).length - loT tb t = (ofL tb t).length by (clear e0 k1 k0 hlos hlot ht J2 hI hi4 J8 htv hlo0 hun hu1 hu0 hv2 hv1 hv hk htl hroom hh; omega)] at S
      replace S : St B L _ _ ((Ds, lst ((tvs.drop (loT tb t)).take (ofL tb t).length) 0) :: _) _ := S
      generalize (tvs.drop (loT tb t)).take (ofL tb t).length = sv at hseg S
      have hsl := hseg.length
      walk_at "go"
      refine r_iterL S (S.isList (.head _)) ?_
      clear S
      intro I2 h₇ S
      refine r_floop (B := B) (L := L) (n := sv.toArray.size) (LF := fun h => h.IsList Ds sv.toArray) (fun y : List Value × Nat × Int × Tok => [(Str.ofString "total", .int y.2.2.1 y.2.2.2), (Str.ofString "lo", .int (loT tb t : Nat) t4), (Str.ofString "hi", .int ((loT tb t + (ofL tb t).length : Nat) : Int) t5), (Str.ofString "left", .int t ti), (Str.ofString "cells", .ref cl), (Str.ofString "rules", .ref ra), (Str.ofString "table", .ref ta), (Str.ofString "spans", .ref sa), (Str.ofString "starts", .ref sta), (Str.ofString "unit", .int u tu)])
        (fun y => (Ds, lst sv 0) :: (I, oI) :: (cl, lst cvs cn) :: (ra, lst rvs rn) :: (ta, lst tvs tn) :: (sa, ob) :: (sta, lst y.1 y.2.1) :: obs) (fun _ => tabL p1 p2 p3 ex)
        (fun j y => IntsAre y.1 (st ++ (List.range j).map fun j => u * shr ((ofL tb t).take j)) ∧ y.2.2.1 = u * shr ((ofL tb t).take j) ∧ j ≤ 7) (svs, sn, _, tt0) (fun _ _ => rfl) (fun _ _ _ _ _ _ S => S.isList (.tail _ (.head _)))
        ⟨by simpa using J1, rfl, by (clear hsl e0 k1 k0 hlos hlot ht J2 hI hi4 J8 htv hlo0 hun hu1 hu0 hv2 hv1 hv hk htl hroom hh; omega)⟩ (Itr.list (H _) I2 Ds _) ⟨rfl, rfl⟩ S ?_ ?_
      · clear S
        rintro j ⟨yv, ye, tot, ytk⟩ h₈ tk₈ v oI2 ⟨K1, K2, K3⟩ hj hv hI2 S Kp hKp Qv hQv
        dsimp only at K1 K2 K3 S
        rw [List.size_toArray] at hj
        rw [List.getElem?_toArray] at hv
        refine hide fun Kz kz => ?_
        obtain ⟨r, hr, aa, u1, u2, rra, ws, wn, rfl, ma, mr, hri⟩ := hseg.get hv
        refine kz ?_
        clear kz Kz
        have htk : (ofL tb t).take (j + 1) = (ofL tb t).take j ++ [r] := by rw [List.take_add_one, hr]; rfl
        have hrm := hs4 r (mem_ofL (List.mem_of_getElem? hr)).1
        walk_at "go"
        refine r_append S (by walk_at "at") (by rw [K1.length, List.length_append, List.length_map, List.length_range, J2]; have := loT_le tb t; simp [sizeLine]; (clear this hrm htk hv hr hI2 hj K2 e0 k1 k0 hlot ht hI hi4 J8 hlo0 hun hu1 hu0 hv2 hv1 hk hroom hh; omega)) ?_
        clear S
        intro h₉ S
        walk_at "go"
        refine r_itemT (items := #[_, _, _]) ⟨_, S.get (.tail _ (.tail _ (.tail _ (.tail _ (.tail _ (.tail _ (.tail _ (.tail _ ma)))))))), rfl, 0, rfl⟩ (by decide) (by decide) (j := 1) (v := .int r.s u2) rfl rfl rfl ?_
        walk_at "go"
        refine i_mul (mul_ok 4133 3 hun (by (clear htk hv hr hI2 hj K3 K2 hsl e0 k1 k0 hlos hlot ht J2 hI hi4 J8 htv hlo0 hun hu1 hu0 hv2 hv1 hk htl hroom hh; omega)) (by decide)) ?_
        walk_at "go"
        refine hKp (_, _, _, _) _ _ ⟨?_, ?_, by (clear hrm htk hv hr hI2 K2 e0 k1 k0 ht hI hi4 J8 hlo0 hun hu1 hu0 hv2 hv1 hk hroom hh; omega)⟩ (S.as (by walk_at "has"))
        · dsimp only
          rw [List.range_succ, List.map_append, ← List.append_assoc]
          have := ints_snoc K1 tot ytk
          rw [K2] at this ⊢
          exact this
        · dsimp only
          rw [htk, shr_append, Int.mul_add, K2, shr, shr, Int.add_zero]
      · clear S
        rintro ⟨yv, ye, tot, ytk⟩ h₈ tk₈ ⟨K1, K2, K3⟩ S
        dsimp only at K1 K2 K3 S
        rw [List.size_toArray, hsl] at K1 K2
        rw [List.take_length] at K2
        subst K2
        exact hKc _ _ ⟨rfl, _, _, _, yv, ye, rfl, K1, S.sub (.cons _ (.refl _))⟩
    clear S
    rintro _ _ ⟨rfl, h₆, tk₆, tt, svs', sn', rfl, hsv, S⟩
    walk_at "go"
    refine r_setD (f := sf) S (by walk_at "atf") J4 (by (clear e0 k1 k0 hlos hlot J2 hI htv hlo0 hun hu1 hu0 hv2 hv1 hv hk htl hroom hh; omega)) ?_
    clear S
    intro h₇ ob' tk₇ J4' S
    walk_at "go"
    have SE := starts_ext (tb := tb) (u := u) (st := st) (t := t) J2 (fun t' a1 a2 => J3 t' a1 (by (clear a1 e0 k1 k0 hlos hlot J2 hI hi4 J8 htv hlo0 hun hu1 hu0 hv2 hv1 hv hk htl hroom hh; omega))) (seg := (List.range (ofL tb t).length).map fun j => u * shr ((ofL tb t).take j)) (by simp) (fun j hj => by
      rw [List.length_map, List.length_range] at hj
      rw [List.getElem?_map, List.getElem?_range hj]; rfl)
    have ht1 : (256 : Int) + ((i + 1 : Nat) : Int) = t + 1 := by (clear SE e0 k1 k0 hlos hlot J2 hI hi4 J8 htv hlo0 hun hu1 hu0 hv2 hv1 hv hk htl hroom hh; omega)
    refine hKp ⟨svs', sn', _, ob', _, _ :: obs⟩ _ _ ⟨hsv, ?_, ?_, J4', ?_, J6.more fun p hp => .tail _ hp, J7.more fun p hp => .tail _ hp, by (clear ht1 SE e0 k1 k0 hlos hlot J2 hI htv hlo0 hun hu1 hu0 hv2 hv1 hv hk htl hroom hh; omega)⟩ ((S.perm (List.perm_middle (l₁ := [_, _, _, _, _, _]))).as (by walk_at "has"))
    · dsimp only
      rw [ht1]
      exact SE.1
    · dsimp only
      rw [ht1]
      exact SE.2
    · dsimp only
      intro t' a1 a2
      rw [ht1] at a2
      by_cases e : t' = t
      · subst e
        exact ⟨_, if_pos rfl, _, _, _, _, rfl, .head _⟩
      · refine hide fun Kz kz => ?_
        obtain ⟨v, b1, b2, b3, b4, b5, b6, b7⟩ := J5 t' a1 (by (clear a1 ht1 SE e0 k1 k0 hlos hlot J2 hI hi4 J8 htv hlo0 hun hu1 hu0 hv2 hv1 hv hk htl hroom hh; omega))
        refine kz ?_
        clear kz Kz
        exact ⟨v, (if_neg e).trans b1, b2, b3, b4, b5, b6, .tail _ b7⟩
  · clear S
    rintro ⟨svs, sn, st, ob, sf, obs⟩ h₃ tk₃ J S
    dsimp only at S
    repeat (walk_at "n")
    exact next h₃ tk₃ u tu svs sn st ob sf obs S hu0 hu1 J
end
end -- F18
section -- L21
open PySem PySem.W PyProof.Rows PySem.Calls
set_option Elab.async false
set_option maxRecDepth 100000
set_option maxHeartbeats 4000000
set_option linter.unusedVariables false
section
variable {B : Heap} {L : Addr} {h h' : Heap} {l : List (Str × Value)} {own tl nw : List (Addr × Obj)} {p1 p2 p3 q1 q2 q3 : Array Value} {ex : List (Addr × Obj)} {w : World}
theorem St.backN (S : St B L h l own (tabL p1 p2 p3 ex)) (V : TB B ex q1 q2 q3 p1 p2 p3) (x : TabsP h h') (hn : ∀ p ∈ nw, h.get? p.1 = none ∧ h'.get? p.1 = some p.2 ∧ ∀ vs, p.2.data ≠ .fields vs) (hd : (nw.map (·.1)).Nodup) :
    ∃ p1' p2' p3' ex', St B L h' l (nw ++ own) (tabL p1' p2' p3' ex') ∧ TB B ex' q1 q2 q3 p1' p2' p3' := by
  refine hide fun Kz kz => ?_
  obtain ⟨p1', p2', p3', ex', S', V1', V2', V3', hx⟩ := S.backT V.v1 V.v2 V.v3 x
  refine kz ?_
  clear kz Kz
  refine ⟨_, _, _, _, ⟨S'.fr, fun p hp => ?_, ?_⟩, V1', V2', V3'⟩
  · rw [List.append_assoc] at hp
    rcases List.mem_append.mp hp with hp | hp
    · refine hide fun Kz kz => ?_
      obtain ⟨a1, a2, a3⟩ := hn p hp
      refine kz ?_
      clear kz Kz
      refine ⟨a2, fun e => ?_, ?_⟩
      · refine hide fun Kz kz => ?_
        obtain ⟨m, F, _⟩ := S.fr
        obtain ⟨_, _, _, q, _⟩ := F.ns
        refine kz ?_
        clear kz Kz
        rw [e, q] at a1; cases a1
      · cases q : B.get? p.1 with
        | none => rfl
        | some ob => rw [S.keep _ _ q] at a1; cases a1
    · exact S'.nw p hp
  · rw [List.append_assoc, List.map_append, List.nodup_append]
    refine ⟨hd, S'.nd, fun a ha b hb e => ?_⟩
    refine hide fun Kz kz => ?_
    obtain ⟨p, hp, rfl⟩ := List.mem_map.mp ha
    obtain ⟨r, hr, e'⟩ := List.mem_map.mp hb
    refine kz ?_
    clear kz Kz
    have e : r.1 = p.1 := e'.trans e.symm
    refine hide fun Kz kz => ?_
    obtain ⟨a1, a2, a3⟩ := hn p hp
    refine kz ?_
    clear kz Kz
    have old : ∀ r : Addr × Obj, r ∈ own ++ tabL p1 p2 p3 ex → r.1 ≠ p.1 := fun r hr e => by
      have := (S.nw r hr).1
      rw [e, a1] at this; cases this
    rcases List.mem_append.mp hr with hr | hr
    · exact old r (List.mem_append_left _ hr) e
    · rcases List.mem_cons.mp hr with rfl | hr
      · exact old (57, tabObj p1) (List.mem_append_right _ (.head _)) e
      rcases List.mem_cons.mp hr with rfl | hr
      · exact old (64, tabObj p2) (List.mem_append_right _ (.tail _ (.head _))) e
      rcases List.mem_cons.mp hr with rfl | hr
      · exact old (125, tabObj p3) (List.mem_append_right _ (.tail _ (.tail _ (.head _)))) e
      rcases hx r hr with hr' | ⟨_, q, vs, t, hq, _⟩
      · exact old r (List.mem_append_right _ (.tail _ (.tail _ (.tail _ hr')))) e
      · have := (S'.tab (.tail _ (.tail _ (.tail _ hr)))).1
        rw [e, a2] at this
        rw [← Option.some.inj this] at hq
        exact a3 vs hq
theorem St.notTabL (S : St B L h l own (tabL p1 p2 p3 ex)) : L ∉ tabAs := fun hb => by
  have g1 := S.tab (.head _)
  have g2 := S.tab (.tail _ (.head _))
  have g3 := S.tab (.tail _ (.tail _ (.head _)))
  simp only [tabAs, List.mem_cons, List.not_mem_nil, or_false] at hb
  rcases hb with e | e | e
  · exact g1.2.1 e.symm
  · exact g2.2.1 e.symm
  · exact g3.2.1 e.symm
theorem St.backL {oL : Obj} (S : St B L h l own (tabL p1 p2 p3 ex)) (V : TB B ex q1 q2 q3 p1 p2 p3) (h0 : h.get? L = some oL) (hfr : oL.isFreed = false) (x : LedP L oL h h') (hn : ∀ p ∈ nw, h.get? p.1 = none ∧ h'.get? p.1 = some p.2 ∧ ∀ vs, p.2.data ≠ .fields vs) (hd : (nw.map (·.1)).Nodup) :
    ∃ p1' p2' p3' ex', St B L h' l (nw ++ own) (tabL p1' p2' p3' ex') ∧ TB B ex' q1 q2 q3 p1' p2' p3' := by
  obtain ⟨sl, hsl⟩ := x.fr
  have nT := S.notTabL
  obtain ⟨h2, hh2⟩ : ∃ h2, h2 = h'.update L (fun _ => oL) := ⟨_, rfl⟩
  have e0 : h2.get? L = some oL := by rw [hh2]; exact Heap.get?_update_self _ hsl hfr
  have e1 : ∀ b, b ≠ L → h2.get? b = h'.get? b := fun b hb => by rw [hh2]; exact Heap.get?_update_other _ _ (Ne.symm hb)
  have tp : ∀ {i : Info}, i.P ∈ tabAs → TP i h h' → TP i h h2 := fun {i} hi y => by
    have hP : i.P ≠ L := fun e => nT (e ▸ hi)
    rcases y with y | ⟨y, c, oc, y1, y2, y3, y4⟩
    · exact .inl ((e1 _ hP).trans y)
    · exact .inr ⟨y, c, oc, (e1 _ hP).trans y1, y2, (e1 _ fun e => by rw [e, h0] at y2; cases y2).trans y3, y4⟩
  have T : TabsP h h2 := ⟨fun b ob hb e => by
      by_cases hbL : b = L
      · subst hbL; rw [h0] at e; cases e; exact e0
      · exact (e1 b hbL).trans (x.sb b ob hb hbL e), tp (by decide) x.t1, tp (by decide) x.t2, tp (by decide) x.t3⟩
  refine hide fun Kz kz => ?_
  obtain ⟨p1', p2', p3', ex', S2, V2⟩ := S.backN V T (nw := nw) (fun p hp => by
    obtain ⟨a1, a2, a3⟩ := hn p hp
    exact ⟨a1, (e1 _ fun e => by rw [e, h0] at a1; cases a1).trans a2, a3⟩) hd
  refine kz ?_
  clear kz Kz
  exact ⟨_, _, _, _, S2.slots (fun b ob hb e => by rw [← e1 b hb]; exact e) e0 hsl, V2⟩
theorem St.hideTL (S : St B L h l own (tabL p1 p2 p3 ex)) : B.StaysIn (hideAll h (L :: tabAs)) := fun b ob e => hideAll_get _ (S.keep b ob e) fun hm => by
  rcases List.mem_cons.mp hm with rfl | hm
  · refine hide fun Kz kz => ?_
    obtain ⟨m, F, _⟩ := S.fr
    refine kz ?_
    clear kz Kz
    rw [kts_self F] at e; cases e
  · have h1 := (S.tab (.head _)).2.2
    have h2 := (S.tab (.tail _ (.head _))).2.2
    have h3 := (S.tab (.tail _ (.tail _ (.head _)))).2.2
    simp only [tabAs, List.mem_cons, List.not_mem_nil, or_false] at hm
    rcases hm with rfl | rfl | rfl
    · rw [h1] at e; cases e
    · rw [h2] at e; cases e
    · rw [h3] at e; cases e
theorem St.hidGetL {a : Addr} {ob : Obj} (S : St B L h l own (tabL p1 p2 p3 ex)) (hm : (a, ob) ∈ own) : (hideAll h (L :: tabAs)).get? a = some ob := hideAll_get _ (S.get hm) fun hb => by
  rcases List.mem_cons.mp hb with e | hb
  · exact (S.has hm).2.1 e
  · exact S.notTab hm hb
end
theorem data_of {H : Heap} {rs tb : List Rl} {rvs tvs svs : List Value} {u : Int} {tn sn : Nat} {st : List Int} {ob : Obj} {sf : Int → Option Value} {obs : List (Addr × Obj)} {ta sa sta : Addr} (G : Gr rs) (hso : SortedL tb) (hof : ∀ t, ofL tb t = ofL rs t) (htl : tb.length = 7) (htm : ∀ r ∈ tb, r ∈ rs)
    (J : CI rs tb rvs tvs u 4 ⟨svs, sn, st, ob, sf, obs⟩) (h1 : H.get? ta = some (lst tvs tn)) (h2 : H.get? sta = some (lst svs sn)) (h3 : H.get? sa = some ob) (hk : ∀ p ∈ obs, H.get? p.1 = some p.2) : Data H ta sa sta rs tb st u (loT tb) := by
  refine hide fun Kz kz => ?_
  obtain ⟨J1, J2, J3, J4, J5, J6, J7, J8⟩ := J
  refine kz ?_
  clear kz Kz
  dsimp only at J1 J2 J3 J4 J5 J6 J7 J8
  have h7 : loT tb 260 = 7 := by rw [loT_all fun r hr => by have := (G.mem (htm r hr)).2.1; omega, htl]
  refine ⟨⟨tvs, tn, h1, J7.at hk⟩, ⟨svs, sn, h2, J1⟩, ⟨sf, J4.map h3, fun t a b => ?_⟩, htl, by rw [J2]; exact h7, htm, fun t a b => ⟨?_, fun j hj => ?_⟩⟩
  · refine hide fun Kz kz => ?_
    obtain ⟨v, c1, c2, c3, c4, c5, c6, c7⟩ := J5 t a (by omega)
    refine kz ?_
    clear kz Kz
    rw [hof] at c7
    exact ⟨v, c1, c2, c3, c4, c5, c6, hk _ c7⟩
  · have := loT_succ tb t
    have := loT_le tb (t + 1)
    rw [hof] at *
    omega
  · rw [← hof] at hj ⊢
    exact ⟨seg_get hso hj, J3 t a (by omega) j hj⟩
end -- L21
section -- F1
open PySem PySem.W PyProof.Rows PySem.Calls
set_option Elab.async false
set_option maxRecDepth 100000
set_option maxHeartbeats 4000000
section
variable {w : World} {A : Around} {E : Value → Shared → Prop} {h : Heap} {g : Array GenState} {d : Drawn} {tk : Nat} {o : OsState} {Q : Value → Shared → Prop}
theorem isterminal_ok {x : Int} {t : Tok} (X : Bs w h) (hroom : A.depth < recursionLimit)
   (hq : ∀ h' tk', h.StaysIn h' → Q (.bool (decide (x < 256))) ⟨h', g, d, tk', o⟩) :
   wpAny (model pg w) A (call (.ref 90) [.int x t]) Q E ⟨h, g, d, tk, o⟩ := by
  refine r_enter [(Str.ofString "x", .int x t)] X hroom rfl rfl (BindsTo.of_eq rfl) (locs rfl) rfl rfl rfl (by decide) ?_
  intro h₁ tk₁ S
  repeat walk_at "m"
  exact hq _ _ S.keep
theorem isnonterminal_ok {x : Int} {t : Tok} (X : Bs w h) (hroom : A.depth < recursionLimit)
   (hq : ∀ h' tk', h.StaysIn h' → Q (.bool (decide (256 ≤ x))) ⟨h', g, d, tk', o⟩) :
   wpAny (model pg w) A (call (.ref 97) [.int x t]) Q E ⟨h, g, d, tk, o⟩ := by
  refine r_enter [(Str.ofString "x", .int x t)] X hroom rfl rfl (BindsTo.of_eq rfl) (locs rfl) rfl rfl rfl (by decide) ?_
  intro h₁ tk₁ S
  repeat walk_at "m"
  exact hq _ _ S.keep
theorem iseof_ok {x : Int} {t : Tok} (X : Bs w h) (hroom : A.depth < recursionLimit)
   (hq : ∀ h' tk', h.StaysIn h' → Q (.bool (decide (x = 0))) ⟨h', g, d, tk', o⟩) :
   wpAny (model pg w) A (call (.ref 104) [.int x t]) Q E ⟨h, g, d, tk, o⟩ := by
  refine r_enter [(Str.ofString "x", .int x t)] X hroom rfl rfl (BindsTo.of_eq rfl) (locs rfl) rfl rfl rfl (by decide) ?_
  intro h₁ tk₁ S
  repeat walk_at "m"
  exact hq _ _ S.keep
end
end -- F1
section -- F2
open PySem PySem.W PyProof.Rows PySem.Calls
set_option Elab.async false
set_option maxRecDepth 100000
set_option maxHeartbeats 4000000
section
variable {w : World} {A : Around} {E : Value → Shared → Prop} {h : Heap} {g : Array GenState} {d : Drawn} {tk : Nat} {o : OsState} {Q : Value → Shared → Prop}
theorem bisect_right_ints {a : Addr} {vs : List Value} {ns : List Int} {x lo hi : Int} {t1 t2 t3 : Tok} (X : Bs w h) (hroom : A.depth < recursionLimit) 
   (hl : h.IsList a vs.toArray) (hI : IntsAre vs ns) (h0 : 0 ≤ lo) (h1 : lo ≤ hi) (h2 : hi ≤ ns.length) (h3 : ns.length < 1000)
   (hm : ∀ i j : Nat, lo ≤ i → i ≤ j → (j : Int) < hi → ns.getD i 0 ≤ ns.getD j 0)
   (hq : ∀ h' tk' t (k : Int), h.StaysIn h' → lo ≤ k → k ≤ hi → (∀ i : Nat, lo ≤ i → (i : Int) < k → ns.getD i 0 ≤ x) → (∀ i : Nat, k ≤ i → (i : Int) < hi → x < ns.getD i 0) → Q (.int k t) ⟨h', g, d, tk', o⟩) :
   wpAny (model pg w) A (call (.ref 32) [.ref a, .int x t1, .int lo t2, .int hi t3]) Q E ⟨h, g, d, tk, o⟩ := by
  refine r_enter [(Str.ofString "a", .ref a), (Str.ofString "x", .int x t1), (Str.ofString "lo", .int lo t2), (Str.ofString "hi", .int hi t3), (Str.ofString "key", .none)] X hroom rfl rfl ?_ (locs rfl) rfl rfl rfl (by decide) ?_
  · refine' binds_dk rfl (X.1 24 _ rfl) rfl (X.1 25 _ rfl) rfl ?_ ?_
    rotate_left 2
    exact rfl
    exact rfl
  intro h₁ tk₁ S
  walk_at "go"
  refine ite_b (fun hc => by (clear h3 h2 h1 hroom; omega)) fun hc => ?_
  walk_at "go"
  refine r_while (σ := Int × Int × Tok × Tok) (fun y => [(Str.ofString "a", .ref a), (Str.ofString "x", .int x t1), (Str.ofString "lo", .int y.1 y.2.2.1), (Str.ofString "hi", .int y.2.1 y.2.2.2)]) (fun _ => []) (fun _ => [])
    (fun y => lo ≤ y.1 ∧ y.1 ≤ y.2.1 ∧ y.2.1 ≤ hi ∧ (∀ i : Nat, lo ≤ i → (i : Int) < y.1 → ns.getD i 0 ≤ x) ∧ (∀ i : Nat, y.2.1 ≤ i → (i : Int) < hi → x < ns.getD i 0))
    (fun y => (y.2.1 - y.1).toNat) (lo, hi, t2, t3) (S.as (by walk_at "has")) ?_ ?_
  · refine ⟨by simp, h1, by simp, fun i a b => ?_, fun i a b => ?_⟩ <;> (dsimp only at a b; (clear hc h3 h2 h1 h0 hroom; omega))
  clear S
  rintro ⟨lo', hi', u1, u2⟩ h₂ tk₂ ⟨p1, p2, p3, p4, p5⟩ S Kp hKp Qv hQv
  dsimp only at p1 p2 p3 p4 p5 S
  walk_at "go"
  refine ite_b (fun hc' => ?_) fun hc' => ?_
  · walk_at "go"
    refine i_fdiv (by decide) (PyProof.noPylong_small (by (clear hc' p3 p2 p1 hc h3 h2 h1 h0 hroom; omega))) ?_
    walk_at "go"
    obtain ⟨n, hn⟩ := Int.eq_ofNat_of_zero_le (show 0 ≤ (lo' + hi').fdiv 2 by rw [Int.fdiv_eq_ediv_of_nonneg _ (by decide)]; (clear p3 p2 hc h3 h2 h1 hroom; omega))
    have hn1 : lo' ≤ (n : Int) := by rw [← hn, Int.fdiv_eq_ediv_of_nonneg _ (by decide)]; (clear hn p3 p2 p1 hc h3 h2 h1 h0 hroom; omega)
    have hn2 : (n : Int) < hi' := by rw [← hn, Int.fdiv_eq_ediv_of_nonneg _ (by decide)]; (clear hn1 hn p3 p2 p1 hc h3 h2 h1 h0 hroom; omega)
    rw [hn] at S ⊢
    obtain ⟨u, hu⟩ := ints_get (i := n) hI (by (clear hn1 hn hc' p2 p1 hc h3 h1 h0 hroom; omega))
    refine r_itemL (stays_list S.base hl) (by (clear hu hn2 hn1 hn hc' p3 p2 p1 hc h3 h2 h1 h0 hroom; omega)) (by (clear hu hn1 hn p2 hc h1 hroom; omega)) (by simpa using hu) rfl ?_
    walk_at "go"
    have hg : ns.getD n 0 = ns[n] := by simp [List.getD, show n < ns.length by (clear hu hn1 hn hc' p2 p1 hc h3 h1 h0 hroom; omega)]
    refine ite_b (fun hx => ?_) fun hx => ?_
    · walk_at "go"
      refine hKp (lo', n, _, _) _ _ ?_ ⟨p1, hn1, by dsimp only; (clear hx hg hu hn1 hn hc' p2 p1 hc h3 h1 h0 hroom; omega), p4, fun i a b => ?_⟩ (S.as (by walk_at "has"))
      · dsimp only; (clear hx hg hu hn1 hn p2 p1 hc h3 h1 h0 hroom; omega)
      · have := hm n i (by (clear b a hx hg hu hn hc' p2 hc h3 h1 h0 hroom; omega)) (by dsimp only at a; (clear b hx hg hu hn1 hn hc' p2 p1 hc h3 h1 h0 hroom; omega)) b
        (clear b a hu hn1 hn hc' p2 p1 hc h3 h1 h0 hroom; omega)
    · walk_at "go"
      refine hKp (n + 1, hi', _, _) _ _ ?_ ⟨by dsimp only; (clear hx hg hu hn hc' p2 hc h3 h1 h0 hroom; omega), by dsimp only; (clear hx hg hu hn1 hn hc' p2 p1 hc h3 h1 h0 hroom; omega), p3, fun i a b => ?_, p5⟩ (S.as (by walk_at "has"))
      · dsimp only; (clear hx hg hu hn p2 p1 hc h3 h1 h0 hroom; omega)
      · have := hm i n a (by dsimp only at b; (clear a hx hg hu hn1 hn hc' p2 p1 hc h3 h1 h0 hroom; omega)) (by (clear b a hx hg hu hn1 hn hc' p2 p1 hc h3 h1 h0 hroom; omega))
        (clear b a hu hn1 hn hc' p2 p1 hc h3 h1 h0 hroom; omega)
  · walk_at "go"
    refine hQv _ _ ?_
    walk_at "go"
    exact hq _ _ _ _ S.base p1 (by (clear p1 hc h3 h2 h1 h0 hroom; omega)) p4 fun i a b => p5 i (by (clear b p3 p1 hc h3 h2 h1 h0 hroom; omega)) b
end
end -- F2
section -- F12
open PySem PySem.W PyProof.Rows PySem.Calls Builtin.Int
set_option Elab.async false
set_option maxRecDepth 100000
set_option maxHeartbeats 4000000
set_option linter.unusedVariables false
section
variable {w : World} {A : Around} {E : Value → Shared → Prop} {h : Heap} {g : Array GenState} {d : Drawn} {tk : Nat} {o : OsState} {Q : Value → Shared → Prop}
theorem bits_neg (a : Int) : intBits (-a) = intBits a := by
  have h1 := (intBits_le_iff (x := a) (m := intBits (-a))).mpr (by have := (intBits_le_iff (x := -a) (m := intBits (-a))).mp (Nat.le_refl _); rwa [Int.natAbs_neg] at this)
  have h2 := (intBits_le_iff (x := -a) (m := intBits a)).mpr (by have := (intBits_le_iff (x := a) (m := intBits a)).mp (Nat.le_refl _); rwa [Int.natAbs_neg])
  omega
theorem bits_inv {a : Int} (h : a < 0) : intBits (-a - 1) ≤ intBits a := by
  refine (intBits_le_iff (x := -a - 1)).mpr ?_
  have := (intBits_le_iff (x := a) (m := intBits a)).mp (Nat.le_refl _)
  omega
theorem divnot {a b : Int} (hb : 0 < b) : Builtin.bitNot ((-a - 1) / b) = a / b ∧ b + Builtin.bitNot ((-a - 1) % b) = a % b := by
  have h1 := Int.mul_ediv_add_emod (-a - 1) b
  have h2 := Int.emod_nonneg (-a - 1) (show b ≠ 0 by (clear h1; omega))
  have h3 := Int.emod_lt_of_pos (-a - 1) hb
  rw [show Builtin.bitNot ((-a - 1) / b) = -((-a - 1) / b) - 1 by unfold Builtin.bitNot; (clear h3 h2 h1 hb; omega), show Builtin.bitNot ((-a - 1) % b) = -((-a - 1) % b) - 1 by unfold Builtin.bitNot; (clear h3 h2 h1 hb; omega)]
  generalize (-a - 1) / b = q at *
  generalize (-a - 1) % b = r at *
  have := divmod_unique (N := a) (q := -q - 1) (r := b + (-r - 1)) hb (by rw [Int.sub_mul, Int.neg_mul, Int.mul_comm q b]; (clear h3 h2 hb; omega)) (by (clear h2 hb; omega)) (by (clear h3 hb; omega))
  exact this
theorem idm_pos {a b : Int} {t1 t2 : Tok} (X : Bs w (hideAll h tabAs)) (T : TabsH h) (hroom : A.depth + 40 < recursionLimit) (hh : A.handled = none) (ha : 0 ≤ a) (hba : intBits a ≤ 20000) (hb : 0 < b) (hbb : intBits b ≤ 7900)
   (hq : ∀ h' tk' r u1 u2, TabsP h h' → h.get? r = none → h'.get? r = some (tup [.int (a / b) u1, .int (a % b) u2]) → Q (.ref r) ⟨h', g, d, tk', o⟩) :
   wpAny (model pg w) A (call (.ref 83) [.int a t1, .int b t2]) Q E ⟨h, g, d, tk, o⟩ := by
  refine r_enterT [(Str.ofString "a", .int a t1), (Str.ofString "b", .int b t2)] X T (by (clear hbb hb hba ha hh; omega)) rfl rfl (BindsTo.of_eq rfl) (locs rfl) rfl rfl rfl (by decide) ?_
  intro h₁ tk₁ q1 q2 q3 e1 e2 e3 V1 V2 V3 S
  have V : TB (hideAll h tabAs) [] q1 q2 q3 q1 q2 q3 := ⟨V1, V2, V3⟩
  have H : ∀ e : Env, (A.deeper e).handled = none := fun _ => hh
  walk_at "s"
  refine ite_b (fun hc => absurd hc (by (clear e3 e2 e1 hbb hba ha hh hroom; omega))) (fun _ => ?_)
  walk_at "go"
  refine ite_b (fun hc => absurd hc (by (clear e3 e2 e1 hbb hba ha hh hroom; omega))) (fun _ => ?_)
  walk_at "go"
  refine ite_b (fun hc => absurd hc (by (clear e3 e2 e1 hbb hb hba hh hroom; omega))) (fun _ => ?_)
  walk_at "go"
  refine divmod_pos_ok (X.keeps S.hideT) (S.tabsB V) (by show A.depth + 1 + 30 < recursionLimit; (clear e3 e2 e1 hbb hb hba ha hh; omega)) (H _) ha hba hb hbb ?_
  intro h₂ tk₂ r u1 u2 hP hn ho
  refine hide fun Kz kz => ?_
  obtain ⟨p1, p2, p3, ex, S, V⟩ := S.backA V hP hn ho (fun vs e => nomatch e)
  refine kz ?_
  clear kz Kz
  walk_at "go"
  exact hq _ _ _ _ _ (S.endB V e1 e2 e3) (S.freshT (.head _)) (S.get (.head _))
theorem idm_posb {a b : Int} {t1 t2 : Tok} (X : Bs w (hideAll h tabAs)) (T : TabsH h) (hroom : A.depth + 41 < recursionLimit) (hh : A.handled = none) (hba : intBits a ≤ 20000) (hb : 0 < b) (hbb : intBits b ≤ 7900)
   (hq : ∀ h' tk' r u1 u2, TabsP h h' → h.get? r = none → h'.get? r = some (tup [.int (a / b) u1, .int (a % b) u2]) → Q (.ref r) ⟨h', g, d, tk', o⟩) :
   wpAny (model pg w) A (call (.ref 83) [.int a t1, .int b t2]) Q E ⟨h, g, d, tk, o⟩ := by
  by_cases ha : 0 ≤ a
  · exact idm_pos X T (by (clear ha hbb hb hba hh; omega)) hh ha hba hb hbb hq
  refine r_enterT [(Str.ofString "a", .int a t1), (Str.ofString "b", .int b t2)] X T (by (clear ha hbb hb hba hh; omega)) rfl rfl (BindsTo.of_eq rfl) (locs rfl) rfl rfl rfl (by decide) ?_
  intro h₁ tk₁ q1 q2 q3 e1 e2 e3 V1 V2 V3 S
  have V : TB (hideAll h tabAs) [] q1 q2 q3 q1 q2 q3 := ⟨V1, V2, V3⟩
  have H : ∀ e : Env, (A.deeper e).handled = none := fun _ => hh
  walk_at "s"
  refine ite_b (fun hc => absurd hc (by (clear e3 e2 e1 ha hbb hba hh hroom; omega))) (fun _ => ?_)
  walk_at "go"
  refine ite_b (fun hc => absurd hc (by (clear e3 e2 e1 ha hbb hba hh hroom; omega))) (fun _ => ?_)
  walk_at "go"
  refine ite_b (fun _ => ?_) (fun hc => absurd hc (by (clear e3 e2 e1 hbb hb hba hh hroom; omega)))
  walk_at "go"
  rw [show Builtin.bitNot a = -a - 1 by unfold Builtin.bitNot; (clear e3 e2 e1 ha hbb hb hba hh hroom; omega)]
  have hA := divnot (a := a) hb
  refine idm_pos (X.keeps S.hideT) (S.tabsB V) (by show A.depth + 1 + 40 < recursionLimit; (clear hA e3 e2 e1 ha hbb hb hba hh; omega)) (H _) (show 0 ≤ -a - 1 by (clear hA e3 e2 e1 hbb hb hba hh hroom; omega)) (Nat.le_trans (bits_inv (by (clear hA e3 e2 e1 ha hbb hb hba hh hroom; omega))) hba) hb hbb ?_
  intro h₂ tk₂ r u1 u2 hP hn ho
  refine hide fun Kz kz => ?_
  obtain ⟨p1, p2, p3, ex, S, V⟩ := S.backA V hP hn ho (fun vs e => nomatch e)
  refine kz ?_
  clear kz Kz
  walk_at "go"
  rw [hA.1, hA.2] at S
  exact hq _ _ _ _ _ (S.endB V e1 e2 e3) (S.freshT (.head _)) (S.get (.head _))
theorem idm_neg {a b : Int} {t1 t2 : Tok} (X : Bs w (hideAll h tabAs)) (T : TabsH h) (hroom : A.depth + 42 < recursionLimit) (hh : A.handled = none) (hba : intBits a ≤ 20000) (hb : b < 0) (hbb : intBits b ≤ 7900)
   (hq : ∀ h' tk' r u1 u2, TabsP h h' → h.get? r = none → h'.get? r = some (tup [.int (-a / -b) u1, .int (-(-a % -b)) u2]) → Q (.ref r) ⟨h', g, d, tk', o⟩) :
   wpAny (model pg w) A (call (.ref 83) [.int a t1, .int b t2]) Q E ⟨h, g, d, tk, o⟩ := by
  refine r_enterT [(Str.ofString "a", .int a t1), (Str.ofString "b", .int b t2)] X T (by (clear hbb hb hba hh; omega)) rfl rfl (BindsTo.of_eq rfl) (locs rfl) rfl rfl rfl (by decide) ?_
  intro h₁ tk₁ q1 q2 q3 e1 e2 e3 V1 V2 V3 S
  have V : TB (hideAll h tabAs) [] q1 q2 q3 q1 q2 q3 := ⟨V1, V2, V3⟩
  have H : ∀ e : Env, (A.deeper e).handled = none := fun _ => hh
  walk_at "s"
  refine ite_b (fun hc => absurd hc (by (clear e3 e2 e1 hbb hba hh hroom; omega))) (fun _ => ?_)
  walk_at "go"
  refine ite_b (fun _ => ?_) (fun hc => absurd hc (by (clear e3 e2 e1 hbb hba hh hroom; omega)))
  walk_at "go"
  refine idm_posb (X.keeps S.hideT) (S.tabsB V) (by show A.depth + 1 + 41 < recursionLimit; (clear e3 e2 e1 hbb hb hba hh; omega)) (H _) (by rw [bits_neg]; exact hba) (show 0 < -b by (clear e3 e2 e1 hbb hba hh hroom; omega)) (by rw [bits_neg]; exact hbb) ?_
  intro h₂ tk₂ r u1 u2 hP hn ho
  refine hide fun Kz kz => ?_
  obtain ⟨p1, p2, p3, ex, S, V⟩ := S.backA V hP hn ho (fun vs e => nomatch e)
  refine kz ?_
  clear kz Kz
  walk_at "go"
  exact hq _ _ _ _ _ (S.endB V e1 e2 e3) (S.freshT (.head _)) (S.get (.head _))
theorem idm_zero {base : Heap} {outer : List Env} {a : Int} {t1 t2 : Tok} (X : Bs w h) (hroom : A.depth < recursionLimit) (hh : A.handled = none) (K : Below A base outer h)
   (hE : ∀ h' tk' e, RaisedSN base h outer e (.type "ZeroDivisionError") [] h' → h.UpToSlots h' → E (.ref e) ⟨h', g, d, tk', o⟩) :
   wpAny (model pg w) A (call (.ref 83) [.int a t1, .int 0 t2]) Q E ⟨h, g, d, tk, o⟩ := by
  refine r_enterE [(Str.ofString "a", .int a t1), (Str.ofString "b", .int 0 t2)] X hroom rfl rfl (BindsTo.of_eq rfl) (locs rfl) rfl rfl rfl (by decide) ?_
  intro h₁ tk₁ S
  have H : ∀ e : Env, (A.deeper e).handled = none := fun _ => hh
  walk_at "s"
  refine ite_b (fun _ => ?_) (fun hc => absurd rfl hc)
  walk_at "go"
  refine Raise_classB (X := "ZeroDivisionError") (H _) excClass_ZeroDivisionError (by rw [isSubtype_type]; kernel_rfl) ?_ ?_
  · walk_at "go"
    exact ⟨rfl, rfl⟩
  intro h₂ e hx
  refine hide fun Kz kz => ?_
  obtain ⟨m, F, _⟩ := S.fr
  refine kz ?_
  clear kz Kz
  refine leave_newS K hx F News.nil ?_
  intro h₃ R _ hu
  exact hE _ _ _ R hu
end
end -- F12
section -- F13
open PySem PySem.W PyProof.Rows PySem.Calls Builtin.Int
set_option Elab.async false
set_option maxRecDepth 100000
set_option maxHeartbeats 4000000
set_option linter.unusedVariables false
theorem ints_unsnoc : ∀ {vs : List Value} {ns : List Int} {c : Int}, IntsAre vs (ns ++ [c]) → ∃ vs' t, vs = vs' ++ [.int c t] ∧ IntsAre vs' ns
  | _, [], c, .cons _ t .nil => ⟨[], t, rfl, .nil⟩
  | _, n :: ns, c, .cons _ t r => let ⟨vs', t', e, q⟩ := ints_unsnoc r; ⟨_ :: vs', t', by rw [e]; rfl, .cons _ t q⟩
structure LS where
  n : Nat
  pile : List Int
  pv : List Value
  pe : Nat
  told : List Int
  tv : List Value
  te : Nat
  a : Nat
  ta : Tok
  x : Int
  tx : Tok
  p : Int
  w : List Int
  T : Int
  S : Int
  c : Int
  ks : List (Int × List Rl × Rl)
  p1 : Array Value
  p2 : Array Value
  p3 : Array Value
  ex : List (Addr × Obj)
structure LI (rs : List Rl) (u rest : Int) (B : Heap) (q1 q2 q3 : Array Value) (W : List Int) (top p' SC : Int) (y : LS) : Prop where
  run : Run rs y.n y.pile y.a y.p y.w top p' y.T y.S y.ks
  pv : IntsAre y.pv y.pile.reverse
  tv : IntsAre y.tv y.told
  told : y.told ++ y.w = W
  x : y.x = u * (y.p + y.T * y.c) + rest
  sc : y.S * y.c = SC
  tb : TB B y.ex q1 q2 q3 y.p1 y.p2 y.p3
  a3 : y.a ≤ 3
  xb : y.x.natAbs ≤ 2 ^ 9000 * (y.a + 1)
  sy : ∀ t ∈ y.pile, 0 ≤ t ∧ t ≤ 259
  sz : y.pile.length + y.told.length ≤ 2 + 3 * y.a
theorem xb_step {A s sh m up tot x : Int} {z1 z2 z3 : Nat} (h : s ≤ sh) (h0 : 0 ≤ s) (hd : A * sh + m = x) (hx : x.natAbs ≤ z1) (hu : up ≤ m) (hu0 : 0 ≤ up) (hm : m < tot) (ht : tot < (z3 : Int)) (hz : z3 * 2 ≤ z2) :
    (A * s + m - up).natAbs ≤ z1 + z2 := by
  rcases Int.le_total 0 A with h5 | h5
  · have m1 := Int.mul_le_mul_of_nonneg_left h h5
    have m2 := Int.mul_nonneg h5 h0
    generalize A * s = q1 at *
    generalize A * sh = q2 at *
    clear h h0 h5
    omega
  · have m1 := Int.mul_le_mul_of_nonpos_left h5 h
    have m2 := Int.mul_nonpos_of_nonpos_of_nonneg h5 h0
    generalize A * s = q1 at *
    generalize A * sh = q2 at *
    clear h h0 h5
    omega
section
variable {w : World} {A : Around} {E : Value → Shared → Prop} {h : Heap} {g : Array GenState} {d : Drawn} {tk : Nat} {o : OsState} {Q : Value → Shared → Prop}
theorem idm_side {sd x b : Int} {t1 t2 : Tok} (hsd : sd = 1 ∨ sd = -1) (X : Bs w (hideAll h tabAs)) (T : TabsH h) (hroom : A.depth + 42 < recursionLimit) (hh : A.handled = none) (hba : intBits x ≤ 20000) (hb : 0 < b) (hbb : intBits b ≤ 7900)
   (hq : ∀ h' tk' r u1 u2, TabsP h h' → h.get? r = none → h'.get? r = some (tup [.int (x / b) u1, .int (sd * (x % b)) u2]) → Q (.ref r) ⟨h', g, d, tk', o⟩) :
   wpAny (model pg w) A (call (.ref 83) [.int (sd * x) t1, .int (sd * b) t2]) Q E ⟨h, g, d, tk, o⟩ := by
  rcases hsd with rfl | rfl
  · simp only [Int.one_mul] at hq ⊢
    exact idm_posb X T (by (clear hbb hb hba hh; omega)) hh hba hb hbb hq
  · have e1 : (-1 : Int) * x = -x := by (clear hbb hb hba hh hroom; omega)
    have e2 : (-1 : Int) * b = -b := by (clear e1 hbb hb hba hh hroom; omega)
    rw [e1, e2]
    refine idm_neg X T hroom hh (by rw [bits_neg]; exact hba) (by (clear e2 e1 hbb hba hh hroom; omega)) (by rw [bits_neg]; exact hbb) ?_
    intro h' tk' r u1 u2 a1 a2 a3
    rw [Int.neg_neg, Int.neg_neg] at a3
    rw [show -(x % b) = -1 * (x % b) by (clear a3 a2 e2 e1 hbb hb hba hh hroom; omega)] at a3
    exact hq h' tk' r u1 u2 a1 a2 a3
theorem led_ok {ta sa sta L1 : Addr} {oL : Obj} {le : Env} {rs tb : List Rl} {st : List Int} {u x rest : Int} {lo : Int → Nat} {t1 t2 : Tok} {n : Nat} {W : List Int} {p top p' T S0 c : Int} {ks : List (Int × List Rl × Rl)} (G : Gr rs)
   (X : Bs w (hideAll h (L1 :: tabAs))) (Dt : Data (hideAll h (L1 :: tabAs)) ta sa sta rs tb st u lo) (TH' : TabsH h) (hL : h.get? L1 = some oL) (hLt : L1 ∉ tabAs) (hdat : ∀ vs, oL.data ≠ .fields vs)
   (hfr : A.frames = some [le]) (hk1 : le.scope.kind ≠ .module) (hlf : le.frame = some L1) (hroom : A.depth + 60 < recursionLimit) (hh : A.handled = none)
   (hu : 0 < u) (hu2 : u < 2 ^ 4200) (h0 : 0 ≤ rest) (h1 : rest < u) (R : Run rs n [256, 0] 0 p W top p' T S0 ks) (hx : x = u * (p + T * c) + rest) (hxb : x.natAbs ≤ 2 ^ 9000)
   (hq : ∀ h' tk' r ta' vs e t1 t2, LedP L1 oL h h' → h.get? r = none → h.get? ta' = none → h'.get? r = some (tup [.ref ta', .int top t1, .int (u * (p' + S0 * c) + rest) t2]) → h'.get? ta' = some (lst vs e) → IntsAre vs W → Q (.ref r) ⟨h', g, d, tk', o⟩) :
   wpAny (model pg w) A (call (.ref 123) [.ref ta, .ref sa, .ref sta, .int u t1, .int x t2]) Q E ⟨h, g, d, tk, o⟩ := by
  refine r_enterL [(Str.ofString "table", .ref ta), (Str.ofString "spans", .ref sa), (Str.ofString "starts", .ref sta), (Str.ofString "unit", .int u t1), (Str.ofString "x", .int x t2)] X TH' hL hLt hdat (by (clear hxb hx h1 h0 hu2 hu hh hlf hk1 hfr hLt hL; omega)) rfl rfl (BindsTo.of_eq rfl) (locs rfl) rfl rfl rfl (by decide) ?_
  intro h₁ tk₁ q1 q2 q3 e1 e2 e3 V Sm
  have H : ∀ e : Env, (A.deeper e).handled = none := fun _ => hh
  generalize hB : hideAll h (L1 :: tabAs) = B at X Dt V Sm
  rename St _ _ _ _ _ _ => S
  walk_at "go"
  refine hide fun Kz kz => ?_
  obtain ⟨pl, tl, t0, t256, tq, pe, te, S⟩ : ∃ pl tl t0 t256 tq pe te, St B h.objs.size _ [(Str.ofString "pile", .ref pl), (Str.ofString "told", .ref tl), (Str.ofString "asked", .int ((0 : Nat) : Int) tq), (Str.ofString "x", .int x t2), (Str.ofString "table", .ref ta), (Str.ofString "spans", .ref sa), (Str.ofString "starts", .ref sta), (Str.ofString "unit", .int u t1)] [(tl, lst [] te), (pl, lst [.int 0 t0, .int 256 t256] pe), (L1, oL)] (tabL q1 q2 q3 []) := ⟨_, _, _, _, _, _, _, (S.sub (.cons _ (.refl _))).as (by walk_at "has")⟩
  refine kz ?_
  clear kz Kz
  refine r_while (B := B) (L := h.objs.size) (fun y : LS => [(Str.ofString "pile", .ref pl), (Str.ofString "told", .ref tl), (Str.ofString "asked", .int (y.a : Int) y.ta), (Str.ofString "x", .int y.x y.tx), (Str.ofString "table", .ref ta), (Str.ofString "spans", .ref sa), (Str.ofString "starts", .ref sta), (Str.ofString "unit", .int u t1)])
    (fun y => [(tl, lst y.tv y.te), (pl, lst y.pv y.pe), (L1, oL)]) (fun y => tabL y.p1 y.p2 y.p3 y.ex) (LI rs u rest B q1 q2 q3 W top p' (S0 * c)) (·.n)
    ⟨n, [256, 0], _, pe, [], [], te, 0, tq, x, t2, p, W, T, S0, c, ks, q1, q2, q3, []⟩ S
    ⟨R, .cons _ _ (.cons _ _ .nil), .nil, rfl, hx, rfl, V, Nat.zero_le _, by simpa using hxb, (by intro t ht; simp at ht; (clear hB e3 e2 e1 hxb hx h1 h0 hu2 hu hh hroom hlf hk1 hfr hLt hL; omega)), by simp⟩ ?_
  clear S
  rintro ⟨n, pile, pv, pe, told, tv, te, a, tq, x, tx, p, w', T, S1, c1, ks, p1, p2, p3, ex⟩ h₂ tk₂ ⟨I1, I2, I3, I4, I5, I6, I7, I8, I9, I10, I11⟩ S Kp hKp Qv hQv
  dsimp only at I1 I2 I3 I4 I5 I6 I7 I8 I9 I10 I11 S
  walk_at "go"
  cases pile with
  | nil => cases I1
  | cons t pile =>
  rw [List.reverse_cons] at I2
  refine hide fun Kz kz => ?_
  obtain ⟨pv', tt, rfl, I2'⟩ := ints_unsnoc I2
  refine kz ?_
  clear kz Kz
  have hsz2 : pv'.length ≤ 11 := by
    have := I2'.length
    rw [List.length_cons] at I11
    rw [this, List.length_reverse]
    (clear this I9 I6 I5 I4 hB e3 e2 e1 hxb hx h1 h0 hu2 hu hh hroom hlf hk1 hfr hLt hL; omega)
  refine r_pop S (by walk_at "at") (by simp [sizeLine]; (clear I11 I9 I8 I6 I5 I4 hB e3 e2 e1 hxb hx h1 h0 hu2 hu hh hroom hlf hk1 hfr hLt hL; omega)) ?_
  clear S
  intro h₃ S
  walk_at "go"
  have ht := I10 t (.head _)
  have fin : (¬ (0 < t ∧ t < 256) ∧ (ofL rs t = [] ∨ a = 3)) → ∀ h' tk' l rr sl u1 u2 p1 p2 p3 ex, St B h.objs.size h' l [(rr, tup [.ref tl, .int t u1, .int x u2]), (tl, lst tv te), (pl, lst pv' (pe + 1)), (L1, { oL with slots := sl })] (tabL p1 p2 p3 ex) → TB B ex q1 q2 q3 p1 p2 p3 → Q (.ref rr) ⟨h', g, d, tk', o⟩ := by
    rintro ⟨f1, f2⟩ h' tk' l rr sl u1 u2 p1 p2 p3 ex S V
    have hrun : w' = [] ∧ top = t ∧ p' = p ∧ T = 1 ∧ S1 = 1 := run_stop I1 f1 f2 fun a b c d e _ => ⟨a, b, c, d, e⟩
    refine hide fun Kz kz => ?_
    obtain ⟨rfl, rfl, rfl, rfl, rfl⟩ := hrun
    refine kz ?_
    clear kz Kz
    rw [List.append_nil] at I4
    have ex : x = u * (p' + S0 * c) + rest := by rw [I5, ← I6]
    rw [ex] at S
    subst hB
    refine hq h' tk' rr tl tv te u1 u2 (St.endL (own := [_, _, _]) S V hL e1 e2 e3) ?_ ?_ (S.get (.head _)) (S.get (.tail _ (.head _))) (I4 ▸ I3)
    · refine S.freshL ?_ (.head _)
      have nd := S.nd
      simp at nd
      exact nd.1.2.2.1
    · refine S.freshL ?_ (.tail _ (.head _))
      have nd := S.nd
      simp at nd
      exact nd.2.1.2.1
  refine iseof_ok (X.keeps S.base) (by show A.depth + 1 < recursionLimit; (clear ht hsz2 I11 I9 I8 I6 I5 I4 hB e3 e2 e1 hxb hx h1 h0 hu2 hu hh hlf hk1 hfr hLt hL; omega)) ?_
  intro h₄ tk₄ hst₄
  replace S := S.stays hst₄
  walk_at "go"
  refine ite_b (fun hc => ?_) (fun hc => ?_)
  · walk_at "go"
    exact hQv _ _ (fin ⟨by (clear ht hsz2 I11 I9 I8 I6 I5 I4 hB e3 e2 e1 hxb hx h1 h0 hu2 hu hh hroom hlf hk1 hfr hLt hL; omega), .inl (ofL_nil G (.inl (by (clear ht hsz2 I11 I9 I8 I6 I5 I4 hB e3 e2 e1 hxb hx h1 h0 hu2 hu hh hroom hlf hk1 hfr hLt hL; omega))))⟩ _ _ _ _ oL.slots _ _ _ _ _ _ S I7)
  walk_at "go"
  refine isterminal_ok (X.keeps S.base) (by show A.depth + 1 < recursionLimit; (clear hc ht hsz2 I11 I9 I8 I6 I5 I4 hB e3 e2 e1 hxb hx h1 h0 hu2 hu hh hlf hk1 hfr hLt hL; omega)) ?_
  intro h₅ tk₅ hst₅
  replace S := S.stays hst₅
  walk_at "go"
  refine ite_b (fun hc2 => ?_) (fun hc2 => ?_)
  · have hrun : ∃ n' w'', n = n' + 1 ∧ w' = t :: w'' ∧ Run rs n' pile a p w'' top p' T S1 ks := run_tell I1 ⟨by (clear I6 I5 I11 I4 hsz2 I9 I8 hB e3 e2 e1 hxb hx h1 h0 hu2 hu hh hroom hlf hk1 hfr hLt hL; omega), hc2⟩ fun a b c d e => ⟨a, b, c, d, e⟩
    refine hide fun Kz kz => ?_
    obtain ⟨n', w'', rfl, rfl, I1'⟩ := hrun
    refine kz ?_
    clear kz Kz
    walk_at "go"
    refine r_append S (by walk_at "at") (by rw [I3.length]; rw [List.length_cons] at I11; simp [sizeLine]; (clear I4 hc2 hc ht hsz2 I9 I6 I5 hB e3 e2 e1 hxb hx h1 h0 hu2 hu hh hroom hlf hk1 hfr hLt hL; omega)) ?_
    clear S
    intro h₆ S
    walk_at "go"
    refine hKp ⟨n', pile, pv', pe + 1, told ++ [t], tv ++ [.int t tt], te + 1, a, tq, x, tx, p, w'', T, S1, c1, ks, p1, p2, p3, ex⟩ _ _ (Nat.lt_succ_self _) ⟨I1', I2', ints_snoc I3 _ _, by rw [List.append_assoc]; exact I4, I5, I6, I7, I8, I9, fun q hq' => I10 q (.tail _ hq'), ?_⟩ (S.as (by walk_at "has"))
    dsimp only
    rw [List.length_append]
    rw [List.length_cons] at I11
    simp
    (clear I4 hc2 hc ht hsz2 I9 I8 I6 I5 hB e3 e2 e1 hxb hx h1 h0 hu2 hu hh hroom hlf hk1 hfr hLt hL; omega)
  walk_at "go"
  refine ite_b (fun hc3 => ?_) (fun hc3 => ?_)
  · walk_at "go"
    exact hQv _ _ (fin ⟨by (clear hc3 hc hsz2 I11 I9 I8 I6 I5 I4 hB e3 e2 e1 hxb hx h1 h0 hu2 hu hh hroom hlf hk1 hfr hLt hL; omega), .inr (by (clear hc2 hc ht hsz2 I11 I9 I8 I6 I5 I4 hB e3 e2 e1 hxb hx h1 h0 hu2 hu hh hroom hlf hk1 hfr hLt hL; omega))⟩ _ _ _ _ oL.slots _ _ _ _ _ _ S I7)
  walk_at "go"
  refine hide fun Kz kz => ?_
  obtain ⟨⟨tvs, tn, ht1, ht2⟩, ⟨svs, sn, hs1, hs2⟩, ⟨f, hf1, hf2⟩, Tb'⟩ := id Dt
  obtain ⟨v, hf3, spa, z1, z2, z3, rfl, hspa⟩ := hf2 t (by (clear hs1 ht1 hc3 hc hsz2 I11 I9 I8 I6 I5 I4 hB e3 e2 e1 hxb hx h1 h0 hu2 hu hh hroom hlf hk1 hfr hLt hL; omega)) (by (clear hs1 ht1 hc3 hc hsz2 I11 I9 I8 I6 I5 I4 hB e3 e2 e1 hxb hx h1 h0 hu2 hu hh hroom hlf hk1 hfr hLt hL; omega))
  refine kz ?_
  clear kz Kz
  refine r_itemD (let ⟨ob, es, ep, a, b⟩ := hf1; ⟨ob, es, ep, S.base _ _ a, b⟩) hf3 rfl ?_
  intro tk₆
  refine r_unT (vs := [_, _, _]) S (H _) ⟨_, S.base _ _ hspa, rfl, 0, rfl⟩ rfl rfl ?_
  clear S
  intro h₇ S _
  walk_at "go"
  refine i_fmod (by decide) ?_
  have hm2 : (a : Int).fmod 2 = 0 ∨ (a : Int).fmod 2 = 1 := by rw [Int.fmod_eq_emod_of_nonneg _ (by decide)]; (clear hf3 hspa hs1 ht1 hc3 hc2 hc ht hsz2 I11 I9 I8 I6 I5 I4 hB e3 e2 e1 hxb hx h1 h0 hu2 hu hh hroom hlf hk1 hfr hLt hL; omega)
  refine i_mul (mul_ok 2 1 (by decide) (by rcases hm2 with e | e <;> rw [e] <;> decide) (by decide)) ?_
  walk_at "go"
  have hsd : 1 - 2 * (a : Int).fmod 2 = 1 ∨ 1 - 2 * (a : Int).fmod 2 = -1 := by (clear hf3 hspa hs1 ht1 hc3 hc2 hc ht hsz2 I11 I9 I8 I6 I5 I4 hB e3 e2 e1 hxb hx h1 h0 hu2 hu hh hroom hlf hk1 hfr hLt hL; omega)
  generalize 1 - 2 * (a : Int).fmod 2 = sd at hsd S
  have hxb : x.natAbs < 2 ^ 9003 := by
    have : 2 ^ 9000 * (a + 1) ≤ 2 ^ 9000 * 4 := Nat.mul_le_mul_left _ (by (clear hsd hm2 hf3 hspa hs1 ht1 hc3 hc2 hc ht hsz2 I11 I9 I6 I5 I4 hB e3 e2 e1 hxb hx h1 h0 hu2 hu hh hroom hlf hk1 hfr hLt hL; omega))
    have e : 2 ^ 9003 = 2 ^ 9000 * 8 := Nat.pow_add 2 9000 3
    have e2 : 0 < 2 ^ 9000 := Nat.two_pow_pos _
    generalize 2 ^ 9000 = z at *
    (clear e2 hxb hsd hm2 hf3 hspa hs1 ht1 hc3 hc2 hc ht hsz2 I11 I8 I6 I5 I4 hB e3 e1 hx h1 h0 hu2 hu hh hroom hlf hk1 hfr hLt hL; omega)
  have hsdn : sd.natAbs < 2 ^ 1 := by rcases hsd with e | e <;> rw [e] <;> decide
  refine wpAny_Try_except ?_
  walk_at "go"
  refine i_mul (mul_ok 1 9003 hsdn hxb (by decide)) ?_
  walk_at "go"
  have hsh := G.shares t
  have htot : 0 ≤ u * shr (ofL rs t) ∧ u * shr (ofL rs t) < 2 ^ 4205 := by
    refine ⟨Int.mul_nonneg (by (clear hsh hsdn hxb hsd hm2 hf3 hspa hs1 ht1 hc3 hc2 hc ht hsz2 I11 I9 I8 I6 I5 I4 hB e3 e2 e1 hx h1 h0 hh hroom hlf hk1 hfr hLt hL; omega)) (by (clear hsdn hxb hsd hm2 hf3 hspa hs1 ht1 hc3 hc2 hc ht hsz2 I11 I9 I8 I6 I5 I4 hB e3 e2 e1 hx h1 h0 hu2 hu hh hroom hlf hk1 hfr hLt hL; omega)), ?_⟩
    have e1 : u * shr (ofL rs t) ≤ u * 32 := Int.mul_le_mul_of_nonneg_left (by (clear hsdn hxb hsd hm2 hf3 hspa hs1 ht1 hc3 hc2 hc ht hsz2 I11 I9 I8 I6 I5 I4 hB e3 e2 e1 hx h1 h0 hu2 hu hh hroom hlf hk1 hfr hLt hL; omega)) (by (clear hsh hsdn hxb hsd hm2 hf3 hspa hs1 ht1 hc3 hc2 hc ht hsz2 I11 I9 I8 I6 I5 I4 hB e3 e2 e1 hx h1 h0 hh hroom hlf hk1 hfr hLt hL; omega))
    have e2 : (2 : Int) ^ 4205 = 2 ^ 4200 * 2 ^ 5 := Int.pow_add 2 4200 5
    rw [e2, show (2 : Int) ^ 5 = 32 by decide]
    generalize (2 : Int) ^ 4200 = z at *
    (clear hsh hsdn hxb hsd hm2 hf3 hspa hs1 ht1 hc3 hc2 hc ht hsz2 I11 I9 I8 I6 I5 I4 hB e3 hx h1 h0 hu hh hroom hlf hk1 hfr hLt hL; omega)
  have htotn : (u * shr (ofL rs t)).natAbs < 2 ^ 4205 := by
    have e := htot.2
    rw [cast_two] at e
    (clear e hsh hsdn hxb hsd hm2 hf3 hspa hs1 ht1 hc3 hc2 hc ht hsz2 I11 I9 I8 I6 I5 I4 hB e3 e2 e1 hx h1 h0 hu2 hu hh hroom hlf hk1 hfr hLt hL; omega)
  refine i_mul (mul_ok 1 4205 hsdn htotn (by decide)) ?_
  walk_at "go"
  by_cases hnil : ofL rs t = []
  · rw [show sd * (u * shr (ofL rs t)) = 0 by rw [hnil, shr]; (clear hnil htotn htot hsh hsdn hxb hsd hm2 hf3 hspa hs1 ht1 hc3 hc2 hc ht hsz2 I11 I9 I8 I6 I5 I4 hB e3 e2 e1 hx h1 h0 hu2 hu hh hroom hlf hk1 hfr hLt hL; omega)]
    refine idm_zero (X.keeps S.base) (by show A.depth + 1 < recursionLimit; (clear hnil htotn htot hsh hsdn hxb hsd hm2 hf3 hspa hs1 ht1 hc3 hc2 hc ht hsz2 I11 I9 I8 I6 I5 I4 hB e3 e2 e1 hx h1 h0 hu2 hu hh hlf hk1 hfr hLt hL; omega)) (H _) (S.frames hfr rfl hk1 hlf hdat (.tail _ (.tail _ (.head _)))) ?_
    intro h₈ tk₈ e hR hup
    refine hide fun Kz kz => ?_
    obtain ⟨m, F, hm⟩ := S.fr
    refine kz ?_
    clear kz Kz
    refine caught_M (T' := "ZeroDivisionError") hfr F hup hR X rfl bi_zero PySem.F.isExc_ZeroDivisionError PySem.F.notTuple_ZeroDivisionError (by rw [isSubtype_type]; kernel_rfl) (by decide) rfl rfl rfl (by passes_own) ?_
    intro h₉ F₉ hk₉ hu₉
    obtain ⟨sl, S⟩ := St.turned (own := [(tl, _), (pl, _)]) S hm F₉ (fun b ob e n1 n2 => hk₉ b ob e (by simp [envOf, hlf]; exact ⟨n1, n2⟩)) hu₉ hdat
    walk_at "go"
    exact hQv _ _ (fin ⟨by (clear hnil htotn htot hsh hsdn hxb hsd hm2 hf3 hspa hs1 ht1 hc3 hc hsz2 I11 I9 I8 I6 I5 I4 hB e3 e2 e1 hx h1 h0 hu2 hu hh hroom hlf hk1 hfr hLt hL; omega), .inl hnil⟩ _ _ _ _ sl _ _ _ _ _ _ S I7)
  have hpos : 0 < shr (ofL rs t) := by
    have := List.length_pos_iff.mpr hnil
    (clear hnil htotn htot hsdn hxb hsd hm2 hf3 hspa hs1 ht1 hc3 hc2 hc ht hsz2 I11 I9 I8 I6 I5 I4 hB e3 e2 e1 hx h1 h0 hu2 hu hh hroom hlf hk1 hfr hLt hL; omega)
  refine idm_side hsd (X.keeps S.hideT) (S.tabsB I7) (by show A.depth + 1 + 42 < recursionLimit; (clear hpos hnil htotn htot hsh hsdn hxb hsd hm2 hf3 hspa hs1 ht1 hc3 hc2 hc ht hsz2 I11 I9 I8 I6 I5 I4 hB e3 e2 e1 hx h1 h0 hu2 hu hh hlf hk1 hfr hLt hL; omega)) (H _) (intBits_le_iff.mpr (Nat.lt_of_lt_of_le hxb (Nat.pow_le_pow_right (by decide) (by decide)))) (Int.mul_pos hu hpos) (intBits_le_iff.mpr (Nat.lt_of_lt_of_le htotn (Nat.pow_le_pow_right (by decide) (by decide)))) ?_
  intro h₈ tk₈ r8 u1 u2 hP hn8 ho8
  refine hide fun Kz kz => ?_
  obtain ⟨p1, p2, p3, ex, S, I7⟩ := S.backA I7 hP hn8 ho8 (fun vs e => nomatch e)
  refine kz ?_
  clear kz Kz
  walk_at "go"
  have hrun : ∃ n' T' S' ks' pre r post, n = n' + 1 ∧ T = shr (ofL rs t) * T' ∧ S1 = r.s * S' ∧ ofL rs t = pre ++ r :: post ∧ shr pre ≤ p % shr (ofL rs t) ∧ p % shr (ofL rs t) < shr pre + r.s ∧
      Run rs n' (r.r ++ pile) (a + 1) (p / shr (ofL rs t) * r.s + (p % shr (ofL rs t) - shr pre)) w' top p' T' S' ks' := run_ask I1 (fun z => hc2 z.2) (fun z => z.elim (fun q => hnil q) fun f2 => by (clear I6 I5 ho8 hpos hnil htotn hsh hf3 hspa I11 I4 hn8 hxb hs1 ht1 hsz2 I9 I8 hB e3 e2 e1 hx h1 h0 hu2 hu hh hroom hlf hk1 hfr hLt hL; omega)) fun n' T' S' ks' pre r post a _ _ b c d e f g => ⟨n', T', S', ks', pre, r, post, a, b, c, d, e, f, g⟩
  refine hide fun Kz kz => ?_
  obtain ⟨n', T', S', ks', pre, r, post, rfl, rfl, rfl, hof, b1, b2, I1'⟩ := hrun
  refine kz ?_
  clear kz Kz
  have LSt := led_step (p := p) (R := T') (c := c1) (s := r.s) (st := shr pre) hu h0 h1 hpos
  rw [← I5] at LSt
  have hrm := G.mem (mem_ofL (rs := rs) (t := t) (r := r) (by rw [hof]; simp)).1
  have hseg := Tb'.seg t (by (clear LSt b2 b1 hof I6 I5 ho8 hn8 hpos hnil htotn htot hsh hsdn hxb hsd hm2 hf3 hspa hs1 ht1 hc3 hc hsz2 I11 I9 I8 I4 hB e3 e2 e1 hx h1 h0 hu2 hu hh hroom hlf hk1 hfr hLt hL; omega)) (by (clear LSt b2 b1 hof I6 I5 ho8 hn8 hpos hnil htotn htot hsh hsdn hxb hsd hm2 hf3 hspa hs1 ht1 hc3 hc hsz2 I11 I9 I8 I4 hB e3 e2 e1 hx h1 h0 hu2 hu hh hroom hlf hk1 hfr hLt hL; omega))
  have hs1' : ∀ q ∈ ofL rs t, 1 ≤ q.s := fun q hq => (G.mem (mem_ofL hq).1).2.2.1
  have hmod : x % (u * shr (ofL rs t)) < 2 ^ 4205 ∧ 0 ≤ x % (u * shr (ofL rs t)) := ⟨Int.lt_trans (Int.emod_lt_of_pos _ (Int.mul_pos hu hpos)) htot.2, Int.emod_nonneg _ (Int.ne_of_gt (Int.mul_pos hu hpos))⟩
  have hmodn : (sd * (x % (u * shr (ofL rs t)))).natAbs < 2 ^ 4205 := by
    have e := hmod.1
    rw [cast_two] at e
    rcases hsd with q | q <;> rw [q] <;> (clear q e hseg LSt b2 b1 hof I6 I5 ho8 hn8 hpos hnil htotn htot hsh hsdn hxb hm2 hf3 hspa hs1 ht1 hc3 hc2 hc ht hsz2 I11 I9 I8 I4 hB e3 e2 e1 hx h1 h0 hu2 hu hh hroom hlf hk1 hfr hLt hL; omega)
  have hss : sd * (sd * (x % (u * shr (ofL rs t)))) = x % (u * shr (ofL rs t)) := by rcases hsd with q | q <;> rw [q] <;> (clear q hmodn hmod hseg LSt b2 b1 hof I6 I5 ho8 hn8 hpos hnil htotn htot hsh hsdn hxb hm2 hf3 hspa hs1 ht1 hc3 hc2 hc ht hsz2 I11 I9 I8 I4 hB e3 e2 e1 hx h1 h0 hu2 hu hh hroom hlf hk1 hfr hLt hL; omega)
  refine i_mul (mul_ok 1 4205 hsdn hmodn (by decide)) ?_
  rw [hss]
  walk_at "go"
  refine bisect_right_ints (X.keeps S.base) (by show A.depth + 1 < recursionLimit; (clear hss hmodn hmod hseg LSt b2 b1 hof I6 I5 ho8 hn8 hpos hnil htotn htot hsh hsdn hxb hsd hm2 hf3 hspa hs1 ht1 hc3 hc2 hc ht hsz2 I11 I9 I8 I4 hB e3 e2 e1 hx h1 h0 hu2 hu hh hlf hk1 hfr hLt hL; omega)) ⟨_, S.base _ _ hs1, rfl, sn, rfl⟩ hs2 (by (clear hss hmodn hmod hseg LSt b2 b1 hof I6 I5 ho8 hn8 hpos hnil htotn htot hsh hsdn hxb hsd hm2 hf3 hspa hs1 ht1 hc3 hc2 hc ht hsz2 I11 I9 I8 I4 hB e3 e2 e1 hx h1 h0 hu2 hu hh hroom hlf hk1 hfr hLt hL; omega)) (by (clear hss hmodn hmod hseg LSt b2 b1 hof I6 I5 ho8 hn8 hnil htotn htot hsdn hxb hsd hm2 hf3 hspa hs1 ht1 hc3 hc2 hc ht hsz2 I11 I9 I8 I4 hB e3 e2 e1 hx h1 h0 hu2 hu hh hroom hlf hk1 hfr hLt hL; omega)) (by rw [Tb'.l2]; (clear hss hmodn hmod LSt b2 b1 hof I6 I5 ho8 hn8 hpos hnil htotn htot hsh hsdn hxb hsd hm2 hf3 hspa hs1 ht1 hc3 hc2 hc ht hsz2 I11 I9 I8 I4 hB e3 e2 e1 hx h1 h0 hu2 hu hh hroom hlf hk1 hfr hLt hL; omega)) (by rw [Tb'.l2]; (clear hss hmodn hmod hseg LSt b2 b1 hof I6 I5 ho8 hn8 hpos hnil htotn htot hsh hsdn hxb hsd hm2 hf3 hspa hs1 ht1 hc3 hc2 hc ht hsz2 I11 I9 I8 I4 hB e3 e2 e1 hx h1 h0 hu2 hu hh hroom hlf hk1 hfr hLt hL; omega)) (st_mono hs1' hu fun j hj => (hseg.2 j hj).2) ?_
  intro h₉ tk₉ t9 kk hst9 k1 k2 k3 k4
  rw [LSt.2.1] at k3 k4
  have hk := pick_k hof hs1' hu h0 h1 (fun j hj => (hseg.2 j hj).2) b1 b2 k1 k2 k3 k4
  subst hk
  replace S := S.stays hst9
  repeat walk_at "n"
  rw [show (lo t : Int) + pre.length + 1 - 1 = ((lo t + pre.length : Nat) : Int) by (clear k2 k1 hss hmodn hmod hseg LSt b2 b1 hof I6 I5 ho8 hn8 hpos hnil htotn htot hsh hsdn hxb hsd hm2 hf3 hspa hs1 ht1 hc3 hc2 hc ht hsz2 I11 I9 I8 I4 hB e3 e2 e1 hx h1 h0 hu2 hu hh hroom hlf hk1 hfr hLt hL; omega)] at S
  have hpl : pre.length < (ofL rs t).length := by rw [hof, List.length_append, List.length_cons]; (clear k2 k1 hss hmodn hmod hseg LSt b2 b1 hof I6 I5 ho8 hn8 hpos hnil htotn htot hsh hsdn hxb hsd hm2 hf3 hspa hs1 ht1 hc3 hc2 hc ht hsz2 I11 I9 I8 I4 hB e3 e2 e1 hx h1 h0 hu2 hu hh hroom hlf hk1 hfr hLt hL; omega)
  have htb : tb[lo t + pre.length]? = some r := by
    rw [(hseg.2 _ hpl).1, hof]
    simp
  have hstk : st[lo t + pre.length]? = some (u * shr pre) := by
    rw [(hseg.2 _ hpl).2, hof, List.take_left]
  refine hide fun Kz kz => ?_
  obtain ⟨rv, hrv, ra, y1, y2, rra, rvs, rn, rfl, hra, hrra, hri⟩ := ht2.get htb
  refine kz ?_
  clear kz Kz
  have hqn : (x / (u * shr (ofL rs t))).natAbs < 2 ^ 9003 := Nat.lt_of_le_of_lt (Int.natAbs_ediv_le_natAbs ..) hxb
  have hun : u.natAbs < 2 ^ 4200 := by
    have e := hu2
    rw [cast_two] at e
    (clear e hqn hrra hra hrv hstk htb hpl k2 k1 hss hmodn hmod hseg LSt b2 b1 hof I6 I5 ho8 hn8 hpos hnil htotn htot hsh hsdn hxb hsd hm2 hf3 hspa hs1 ht1 hc3 hc2 hc ht hsz2 I11 I9 I8 I4 hB e3 e2 e1 hx h1 h0 hh hroom hlf hk1 hfr hLt hL; omega)
  walk_at "go"
  refine i_mul (mul_ok 9003 4200 hqn hun (by decide)) ?_
  walk_at "go"
  refine r_itemL (items := tvs.toArray) ⟨_, S.base _ _ ht1, rfl, tn, rfl⟩ (by (clear hun hqn hrra hra hrv hstk htb hpl k2 k1 hss hmodn hmod hseg LSt b2 b1 hof I6 I5 ho8 hn8 hpos hnil htotn htot hsh hsdn hxb hsd hm2 hf3 hspa hs1 ht1 hc3 hc2 hc ht hsz2 I11 I9 I8 I4 hB e3 e2 e1 hx h1 h0 hu2 hu hh hroom hlf hk1 hfr hLt hL; omega)) (by (clear hun hqn hrra hra hrv hstk htb hpl k1 hss hmodn hmod LSt b2 b1 hof I6 I5 ho8 hn8 hpos hnil htotn htot hsh hsdn hxb hsd hm2 hf3 hspa hs1 ht1 hc3 hc2 hc ht hsz2 I11 I9 I8 I4 hB e3 e2 e1 hx h1 h0 hu2 hu hh hroom hlf hk1 hfr hLt hL; omega)) (by rw [Int.toNat_natCast, List.getElem?_toArray]; exact hrv) rfl ?_
  walk_at "go"
  refine r_itemT (items := #[_, _, _]) ⟨_, S.base _ _ hra, rfl, 0, rfl⟩ (by decide) (by decide) (j := 1) (v := .int r.s y2) rfl rfl rfl ?_
  walk_at "go"
  have hrs4 : r.s.natAbs < 2 ^ 3 := by
    have := hrm.2.2.1
    have := hrm.2.2.2.1
    (clear this hun hqn hrra hra hrv hstk htb hpl k2 k1 hss hmodn hmod hseg LSt b2 b1 hof I6 I5 ho8 hn8 hpos hnil htotn htot hsh hsdn hxb hsd hm2 hf3 hspa hs1 ht1 hc3 hc2 hc ht hsz2 I11 I9 I8 I4 hB e3 e2 e1 hx h1 h0 hu2 hu hh hroom hlf hk1 hfr hLt hL; omega)
  have hqun : (x / (u * shr (ofL rs t)) * u).natAbs < 2 ^ 13203 := by
    rw [Int.natAbs_mul, show (13203 : Nat) = 9003 + 4200 from rfl, Nat.pow_add]
    exact Nat.mul_lt_mul_of_lt_of_le hqn (Nat.le_of_lt hun) (Nat.two_pow_pos _)
  refine i_mul (mul_ok 13203 3 hqun hrs4 (by decide)) ?_
  walk_at "go"
  refine i_mul (mul_ok 1 4205 hsdn hmodn (by decide)) ?_
  rw [hss]
  walk_at "go"
  obtain ⟨ts, hsv⟩ : ∃ ts, svs[lo t + pre.length]? = some (.int (u * shr pre) ts) := by
    have hlt : lo t + pre.length < st.length := (List.getElem?_eq_some_iff.mp hstk).1
    obtain ⟨ts, e⟩ := ints_get hs2 hlt
    have : st[lo t + pre.length] = u * shr pre := (List.getElem?_eq_some_iff.mp hstk).2
    exact ⟨ts, by rw [e, this]⟩
  refine r_itemL (items := svs.toArray) ⟨_, S.base _ _ hs1, rfl, sn, rfl⟩ (by (clear hsv hqun hrs4 hun hqn hrra hra hrv hstk htb hpl k2 k1 hss hmodn hmod hseg LSt b2 b1 hof I6 I5 ho8 hn8 hpos hnil htotn htot hsh hsdn hxb hsd hm2 hf3 hspa hs1 ht1 hc3 hc2 hc ht hsz2 I11 I9 I8 I4 hB e3 e2 e1 hx h1 h0 hu2 hu hh hroom hlf hk1 hfr hLt hL; omega)) (by (clear hsv hqun hrs4 hun hqn hrra hra hrv hstk htb hpl k1 hss hmodn hmod LSt b2 b1 hof I6 I5 ho8 hn8 hpos hnil htotn htot hsh hsdn hxb hsd hm2 hf3 hspa hs1 ht1 hc3 hc2 hc ht hsz2 I11 I9 I8 I4 hB e3 e2 e1 hx h1 h0 hu2 hu hh hroom hlf hk1 hfr hLt hL; omega)) (by rw [Int.toNat_natCast, List.getElem?_toArray]; exact hsv) rfl ?_
  walk_at "go"
  refine hide fun Kz kz => ?_
  obtain ⟨tx', tk', S⟩ : ∃ tx' tkk, St B h.objs.size _ [(Str.ofString "x", .int (x / (u * shr (ofL rs t)) * u * r.s + x % (u * shr (ofL rs t)) - u * shr pre) tx'), (Str.ofString "k", .int ((lo t + pre.length : Nat) : Int) tkk), (Str.ofString "pile", .ref pl), (Str.ofString "told", .ref tl), (Str.ofString "asked", .int (a : Int) tq), (Str.ofString "table", .ref ta), (Str.ofString "spans", .ref sa), (Str.ofString "starts", .ref sta), (Str.ofString "unit", .int u t1)] [(tl, lst tv te), (pl, lst pv' (pe + 1)), (L1, oL)] (tabL p1 p2 p3 ex) := ⟨_, _, (S.sub (.cons _ (.refl _))).as (by walk_at "has")⟩
  refine kz ?_
  clear kz Kz
  refine r_for (B := B) (L := h.objs.size) (n := rvs.toArray.size) (LF := fun h => h.IsList rra rvs.toArray) (fun y : List Value × Nat => [(Str.ofString "x", .int (x / (u * shr (ofL rs t)) * u * r.s + x % (u * shr (ofL rs t)) - u * shr pre) tx'), (Str.ofString "k", .int ((lo t + pre.length : Nat) : Int) tk'), (Str.ofString "pile", .ref pl), (Str.ofString "told", .ref tl), (Str.ofString "asked", .int (a : Int) tq), (Str.ofString "table", .ref ta), (Str.ofString "spans", .ref sa), (Str.ofString "starts", .ref sta), (Str.ofString "unit", .int u t1)])
    (fun y => [(tl, lst tv te), (pl, lst y.1 y.2), (L1, oL)]) (fun _ => tabL p1 p2 p3 ex) (fun i y => IntsAre y.1 (pile.reverse ++ r.r.reverse.take i) ∧ i ≤ 3) (pv', pe + 1)
    (fun _ => rfl) (fun _ _ => rfl) (fun i y h I oI _ S => ⟨_, S.base _ _ hrra, rfl, rn, rfl⟩) ⟨by rw [List.take_zero, List.append_nil]; exact I2', by (clear hsv hqun hrs4 hun hqn hrra hra hrv hstk htb hpl k2 k1 hss hmodn hmod hseg LSt b2 b1 hof I6 I5 ho8 hn8 hpos hnil htotn htot hsh hsdn hxb hsd hm2 hf3 hspa hs1 ht1 hc3 hc2 hc ht hsz2 I11 I9 I8 I4 hB e3 e2 e1 hx h1 h0 hu2 hu hh hroom hlf hk1 hfr hLt hL; omega)⟩ (fun I => Itr.rev (H _) I rra _) ?_ ?_ ?_
  · intro Ki hKi
    walk_at "go"
    refine r_itemL (items := tvs.toArray) ⟨_, S.base _ _ ht1, rfl, tn, rfl⟩ (by (clear hsv hqun hrs4 hun hqn hrra hra hrv hstk htb hpl k2 k1 hss hmodn hmod hseg LSt b2 b1 hof I6 I5 ho8 hn8 hpos hnil htotn htot hsh hsdn hxb hsd hm2 hf3 hspa hs1 ht1 hc3 hc2 hc ht hsz2 I11 I9 I8 I4 hB e3 e2 e1 hx h1 h0 hu2 hu hh hroom hlf hk1 hfr hLt hL; omega)) (by (clear hsv hqun hrs4 hun hqn hrra hra hrv hstk htb hpl k1 hss hmodn hmod LSt b2 b1 hof I6 I5 ho8 hn8 hpos hnil htotn htot hsh hsdn hxb hsd hm2 hf3 hspa hs1 ht1 hc3 hc2 hc ht hsz2 I11 I9 I8 I4 hB e3 e2 e1 hx h1 h0 hu2 hu hh hroom hlf hk1 hfr hLt hL; omega)) (by rw [Int.toNat_natCast, List.getElem?_toArray]; exact hrv) rfl ?_
    walk_at "go"
    refine r_itemT (items := #[_, _, _]) ⟨_, S.base _ _ hra, rfl, 0, rfl⟩ (by decide) (by decide) (j := 2) (v := .ref rra) rfl rfl rfl ?_
    walk_at "go"
    refine r_rev (items := rvs.toArray) S ⟨_, S.base _ _ hrra, rfl, rn, rfl⟩ ?_
    clear S
    intro ri h₃ S
    refine r_iterRev S (.head _) ?_
    exact hKi _ _ _ _ ⟨Nat.zero_le _, rfl, by simp [revObj]⟩ (S.as (by walk_at "has"))
  · clear S
    rintro i ⟨yv, ye⟩ hx tkx v I oI ⟨y1, y2⟩ hi hv hI S Kp hKp Qv hQv
    dsimp only at y1 y2 S
    rw [List.size_toArray] at hi hv
    have hlen := hri.length
    refine hide fun Kz kz => ?_
    obtain ⟨f, tl', hrr, _, _, htl', _⟩ := hrm.2.2.2.2
    refine kz ?_
    clear kz Kz
    have hl3 : r.r.length ≤ 3 := by rw [hrr, List.length_cons]; (clear hrr hlen hI hv hi y2 hsv hqun hrs4 hun hqn hrra hra hrv hstk htb hpl k2 k1 hss hmodn hmod hseg LSt b2 b1 hof I6 I5 ho8 hn8 hpos hnil htotn htot hsh hsdn hxb hsd hm2 hf3 hspa hs1 ht1 hc3 hc2 hc ht hsz2 I11 I9 I8 I4 hB e3 e2 e1 h1 h0 hu2 hu hh hroom hlf hk1 hfr hLt hL; omega)
    obtain ⟨tc, hc⟩ := ints_get hri (i := rvs.length - 1 - i) (by (clear hl3 htl' hrr hI hv hsv hqun hrs4 hun hqn hrra hra hrv hstk htb hpl k2 k1 hss hmodn hmod hseg LSt b2 b1 hof I6 I5 ho8 hn8 hpos hnil htotn htot hsh hsdn hxb hsd hm2 hf3 hspa hs1 ht1 hc3 hc2 hc ht hsz2 I11 I9 I8 I4 hB e3 e2 e1 h1 h0 hu2 hu hh hroom hlf hk1 hfr hLt hL; omega))
    rw [List.getElem?_toArray, hc] at hv
    obtain rfl := Option.some.inj hv
    have htake : r.r.reverse.take (i + 1) = r.r.reverse.take i ++ [r.r[rvs.length - 1 - i]'(by (clear hv hc hl3 htl' hrr hI hsv hqun hrs4 hun hqn hrra hra hrv hstk htb hpl k2 k1 hss hmodn hmod hseg LSt b2 b1 hof I6 I5 ho8 hn8 hpos hnil htotn htot hsh hsdn hxb hsd hm2 hf3 hspa hs1 ht1 hc3 hc2 ht hsz2 I11 I9 I8 I4 hB e3 e2 e1 h1 h0 hu2 hu hh hroom hlf hk1 hfr hLt hL; omega))] := by
      rw [List.take_add_one, List.getElem?_reverse (by (clear hv hc hl3 htl' hrr hI y2 hsv hqun hrs4 hun hqn hrra hra hrv hstk htb hpl k2 k1 hss hmodn hmod hseg LSt b2 b1 hof I6 I5 ho8 hn8 hpos hnil htotn htot hsh hsdn hxb hsd hm2 hf3 hspa hs1 ht1 hc3 hc2 ht hsz2 I11 I9 I8 I4 hB e3 e2 e1 h1 h0 hu2 hu hh hroom hlf hk1 hfr hLt hL; omega)), show r.r.length - 1 - i = rvs.length - 1 - i by (clear hv hc hl3 htl' hrr hI y2 hsv hqun hrs4 hun hqn hrra hra hrv hstk htb hpl k2 k1 hss hmodn hmod hseg LSt b2 b1 hof I6 I5 ho8 hn8 hpos hnil htotn htot hsh hsdn hxb hsd hm2 hf3 hspa hs1 ht1 hc3 hc2 ht hsz2 I11 I9 I8 I4 hB e3 e2 e1 h1 h0 hu2 hu hh hroom hlf hk1 hfr hLt hL; omega), List.getElem?_eq_getElem (by (clear hv hc hl3 htl' hrr hI hsv hqun hrs4 hun hqn hrra hra hrv hstk htb hpl k2 k1 hss hmodn hmod hseg LSt b2 b1 hof I6 I5 ho8 hn8 hpos hnil htotn htot hsh hsdn hxb hsd hm2 hf3 hspa hs1 ht1 hc3 hc2 ht hsz2 I11 I9 I8 I4 hB e3 e2 e1 h1 h0 hu2 hu hh hroom hlf hk1 hfr hLt hL; omega))]
      rfl
    generalize r.r[rvs.length - 1 - i]'(by (clear htake hv hc hl3 htl' hrr hI hsv hqun hrs4 hun hqn hrra hra hrv hstk htb hpl k2 k1 hss hmodn hmod hseg LSt b2 b1 hof I6 I5 ho8 hn8 hpos hnil htotn htot hsh hsdn hxb hsd hm2 hf3 hspa hs1 ht1 hc3 hc2 ht hsz2 I11 I9 I8 I4 hB e3 e2 e1 h1 h0 hu2 hu hh hroom hlf hk1 hfr hLt hL; omega)) = cc at htake S
    walk_at "go"
    refine r_append S (by walk_at "at") (by rw [y1.length, List.length_append, List.length_reverse, List.length_take]; rw [List.length_cons] at I11; simp [sizeLine]; (clear htake hv hc hl3 htl' hrr hI hsv hqun hrs4 hun hqn hrra hra hrv hstk htb hpl k2 k1 hss hmodn hmod hseg LSt b2 b1 hof I6 I5 ho8 hn8 hpos hnil htotn htot hsh hsdn hxb hsd hm2 hf3 hspa hs1 ht1 hc3 hc2 ht hsz2 I9 I4 hB e3 e2 e1 h1 h0 hu2 hu hh hroom hlf hk1 hfr hLt hL; omega)) ?_
    clear S
    intro h₆ S
    walk_at "go"
    refine hKp (_, _) _ _ ⟨?_, by (clear htake hv hc htl' hrr hI hsv hqun hrs4 hun hqn hrra hra hrv hstk htb hpl k2 k1 hss hmodn hmod hseg LSt b2 b1 hof I6 I5 ho8 hn8 hpos hnil htotn htot hsh hsdn hxb hsd hm2 hf3 hspa hs1 ht1 hc3 hc2 ht hsz2 I11 I9 I8 I4 hB e3 e2 e1 h1 h0 hu2 hu hh hroom hlf hk1 hfr hLt hL; omega)⟩ (S.as (by walk_at "has"))
    rw [htake, ← List.append_assoc]
    exact ints_snoc y1 _ _
  · clear S
    rintro ⟨yv, ye⟩ hx tkx ⟨y1, _⟩ S
    dsimp only at y1 S
    rw [List.size_toArray, hri.length, List.take_of_length_le (by rw [List.length_reverse]; (clear hsv hqun hrs4 hun hqn hrra hra hrv hstk htb hpl k2 k1 hss hmodn hmod hseg LSt b2 b1 hof I6 I5 ho8 hn8 hpos hnil htotn htot hsh hsdn hxb hsd hm2 hf3 hspa hs1 ht1 hc3 hc2 hc ht hsz2 I11 I9 I8 I4 hB e3 e2 e1 h1 h0 hu2 hu hh hroom hlf hk1 hfr hLt hL; omega)), ← List.reverse_append] at y1
    walk_at "go"
    rw [show (a : Int) + 1 = ((a + 1 : Nat) : Int) by (clear hsv hqun hrs4 hun hqn hrra hra hrv hstk htb hpl k2 k1 hss hmodn hmod hseg LSt b2 b1 hof I6 I5 ho8 hn8 hpos hnil htotn htot hsh hsdn hxb hsd hm2 hf3 hspa hs1 ht1 hc3 hc2 hc ht hsz2 I11 I9 I8 I4 hB e3 e2 e1 h1 h0 hu2 hu hh hroom hlf hk1 hfr hLt hL; omega)] at S
    refine hide fun Kz kz => ?_
    obtain ⟨tq', S⟩ : ∃ tq', St B h.objs.size _ [(Str.ofString "pile", .ref pl), (Str.ofString "told", .ref tl), (Str.ofString "asked", .int ((a + 1 : Nat) : Int) tq'), (Str.ofString "x", .int (x / (u * shr (ofL rs t)) * u * r.s + x % (u * shr (ofL rs t)) - u * shr pre) tx'), (Str.ofString "table", .ref ta), (Str.ofString "spans", .ref sa), (Str.ofString "starts", .ref sta), (Str.ofString "unit", .int u t1)] [(tl, lst tv te), (pl, lst yv ye), (L1, oL)] (tabL p1 p2 p3 ex) := ⟨_, S.as (by walk_at "has")⟩
    obtain ⟨f, tl', hrr, f1, f2, htl', htl2⟩ := hrm.2.2.2.2
    refine kz ?_
    clear kz Kz
    refine hKp ⟨n', r.r ++ pile, yv, ye, told, tv, te, a + 1, tq', _, tx', _, w', T', S', r.s * c1, ks', p1, p2, p3, ex⟩ _ _ (Nat.lt_succ_self _) ⟨I1', y1, I3, I4, ?_, ?_, I7, by dsimp only; (clear htl' f2 f1 hrr hsv hqun hrs4 hun hqn hrra hra hrv hstk htb hpl k2 k1 hss hmodn hmod hseg LSt b2 b1 hof I6 I5 ho8 hn8 hpos hnil htotn hsh hxb hf3 hspa hs1 ht1 hc2 hc ht hsz2 I11 I9 I4 hB e3 e2 e1 h1 h0 hh hroom hlf hk1 hfr hLt hL; omega), ?_, ?_, ?_⟩ S
    · dsimp only
      rw [LSt.1, LSt.2.1]
      exact LSt.2.2
    · dsimp only
      rw [← I6, Int.mul_comm r.s S', Int.mul_assoc]
    · dsimp only
      have hsT : r.s ≤ shr (ofL rs t) := by
        have a1 := shr_nonneg (l := pre) fun q hq => hs1' q (by rw [hof]; simp [hq])
        have a2 := shr_nonneg (l := post) fun q hq => hs1' q (by rw [hof]; simp [hq])
        rw [hof, shr_append, shr]
        (clear htl' f2 f1 hrr hsv hqun hrs4 hun hqn hrra hra hrv hstk htb hpl k2 k1 hss hmodn hmod hseg LSt b2 b1 hof I6 I5 ho8 hn8 hpos hnil htotn htot hsh hsdn hxb hsd hm2 hf3 hspa hs1 ht1 hc3 hc2 hc ht hsz2 I11 I9 I8 I4 hB e3 e2 e1 h1 h0 hu2 hu hh hroom hlf hk1 hfr hLt hL; omega)
      have hd := Int.mul_ediv_add_emod x (u * shr (ofL rs t))
      have hmm : u * shr pre ≤ x % (u * shr (ofL rs t)) := by
        rw [LSt.2.1]
        have : u * shr pre ≤ u * (p % shr (ofL rs t)) := Int.mul_le_mul_of_nonneg_left b1 (by (clear hd hsT htl' f2 f1 hrr hsv hqun hrs4 hun hqn hrra hra hrv hstk htb hpl k2 k1 hss hmodn hmod hseg LSt b2 b1 hof I6 I5 ho8 hn8 hpos hnil htotn htot hsh hsdn hxb hsd hm2 hf3 hspa hs1 ht1 hc3 hc2 hc ht hsz2 I11 I9 I8 I4 hB e3 e2 e1 h1 h0 hh hroom hlf hk1 hfr hLt hL; omega))
        (clear hd hsT htl' f2 f1 hrr hsv hqun hrs4 hun hqn hrra hra hrv hstk htb hpl k2 k1 hmodn hmod hseg b2 b1 hof I6 ho8 hn8 hpos hnil htotn htot hsh hsdn hxb hsd hm2 hf3 hspa hs1 ht1 hc3 hc2 hc ht hsz2 I11 I9 I8 I4 hB e3 e2 e1 hh hroom hlf hk1 hfr hLt hL; omega)
      have hpre0 : 0 ≤ u * shr pre := Int.mul_nonneg (by (clear hmm hd hsT htl' f2 f1 hrr hsv hqun hrs4 hun hqn hrra hra hrv hstk htb hpl k2 k1 hss hmodn hmod hseg LSt b2 b1 hof I6 I5 ho8 hn8 hpos hnil htotn htot hsh hsdn hxb hsd hm2 hf3 hspa hs1 ht1 hc3 hc2 hc ht hsz2 I11 I9 I8 I4 hB e3 e2 e1 h1 h0 hh hroom hlf hk1 hfr hLt hL; omega)) (shr_nonneg fun q hq => hs1' q (by rw [hof]; simp [hq]))
      have hml := Int.emod_lt_of_pos x (Int.mul_pos hu hpos)
      have e1 : u * shr (ofL rs t) * (x / (u * shr (ofL rs t))) = x / (u * shr (ofL rs t)) * u * shr (ofL rs t) := by rw [Int.mul_comm, Int.mul_assoc]
      rw [e1] at hd
      have hbig : (2 : Nat) ^ 4205 * 2 ^ 1 ≤ 2 ^ 9000 := by rw [← Nat.pow_add]; exact Nat.pow_le_pow_right (by decide) (by decide)
      rw [Nat.pow_one] at hbig
      rw [show 2 ^ 9000 * (a + 1 + 1) = 2 ^ 9000 * (a + 1) + 2 ^ 9000 by rw [Nat.mul_add _ (a + 1) 1, Nat.mul_one]]
      exact xb_step hsT (Int.le_trans (by decide) hrm.2.2.1) hd I9 hmm hpre0 hml (Int.lt_of_le_of_lt Int.le_natAbs (Int.ofNat_lt.mpr htotn)) hbig
    · dsimp only
      intro q hq
      rcases List.mem_append.mp hq with hq | hq
      · rw [hrr] at hq
        rcases List.mem_cons.mp hq with rfl | hq
        · (clear hrr htl' hsv hqun hrs4 hun hqn hrra hra hrv hstk htb hpl k2 k1 hss hmodn hmod hseg LSt b2 b1 hof I6 I5 ho8 hn8 hpos hnil htotn htot hsh hsdn hxb hsd hm2 hf3 hspa hs1 ht1 hc3 hc2 hc ht hsz2 I11 I9 I8 I4 hB e3 e2 e1 h1 h0 hu2 hu hh hroom hlf hk1 hfr hLt hL; omega)
        · have := htl2 q hq; (clear htl' f2 f1 hrr hsv hqun hrs4 hun hqn hrra hra hrv hstk htb hpl k2 k1 hss hmodn hmod hseg LSt b2 b1 hof I6 I5 ho8 hn8 hpos hnil htotn htot hsh hsdn hxb hsd hm2 hf3 hspa hs1 ht1 hc3 hc2 hc ht hsz2 I11 I9 I8 I4 hB e3 e2 e1 h1 h0 hu2 hu hh hroom hlf hk1 hfr hLt hL; omega)
      · exact I10 q (.tail _ hq)
    · dsimp only
      rw [List.length_append, hrr, List.length_cons]
      rw [List.length_cons] at I11
      (clear f2 f1 hrr hsv hqun hrs4 hun hqn hrra hra hrv hstk htb hpl k2 k1 hss hmodn hmod hseg LSt b2 b1 hof I6 I5 ho8 hn8 hpos hnil htotn htot hsh hsdn hxb hsd hm2 hf3 hspa hs1 ht1 hc3 hc2 hc ht hsz2 I9 I8 I4 hB e3 e2 e1 h1 h0 hu2 hu hh hroom hlf hk1 hfr hLt hL; omega)
end
end -- F13
section -- F14
open PySem PySem.W PyProof.Rows PySem.Calls Builtin.Int
set_option Elab.async false
set_option maxRecDepth 100000
set_option maxHeartbeats 4000000
set_option linter.unusedVariables false
abbrev Pk : Type := Int × List Rl × Rl
structure BS where
  n : Nat
  pile : List Int
  pv : List Value
  pe : Nat
  pt : List (Addr × Tok × Tok × Pk)
  ke : Nat
  a : Nat
  p : Int
  T : Int
  S : Int
  ks : List Pk
  p1 : Array Value
  p2 : Array Value
  p3 : Array Value
  ex : List (Addr × Obj)
structure BT where
  x : Int
  tx : Tok
  p1 : Array Value
  p2 : Array Value
  p3 : Array Value
  ex : List (Addr × Obj)
def ptV (pt : List (Addr × Tok × Tok × Pk)) : List Value := (pt.map fun q => Value.ref q.1).reverse
def ptK (pt : List (Addr × Tok × Tok × Pk)) : List Pk := (pt.map fun q => q.2.2.2).reverse
def ptO (rs : List Rl) (u : Int) (lo : Int → Nat) (pt : List (Addr × Tok × Tok × Pk)) : List (Addr × Obj) := pt.map fun q => (q.1, tup [.int ((lo q.2.2.2.1 + q.2.2.2.2.1.length : Nat) : Int) q.2.1, .int (u * shr (ofL rs q.2.2.2.1)) q.2.2.1])
def PkOk (rs tb : List Rl) (st : List Int) (u : Int) (lo : Int → Nat) (k : Pk) : Prop :=
  k.2.2 ∈ rs ∧ tb[lo k.1 + k.2.1.length]? = some k.2.2 ∧ st[lo k.1 + k.2.1.length]? = some (u * shr k.2.1) ∧ 0 ≤ shr k.2.1 ∧ shr k.2.1 ≤ 28 ∧ 0 ≤ shr (ofL rs k.1) ∧ shr (ofL rs k.1) ≤ 28
structure BI (rs tb : List Rl) (st : List Int) (u : Int) (lo : Int → Nat) (B : Heap) (q1 q2 q3 : Array Value) (W : List Int) (top p' : Int) (KS : List Pk) (i : Nat) (y : BS) : Prop where
  run : Run rs y.n y.pile y.a y.p (W.drop i) top p' y.T y.S y.ks
  pv : IntsAre y.pv y.pile.reverse
  ks : ptK y.pt ++ y.ks = KS
  tbs : TB B y.ex q1 q2 q3 y.p1 y.p2 y.p3
  a3 : y.a ≤ 3
  sy : ∀ t ∈ y.pile, 0 ≤ t ∧ t ≤ 259
  sz : y.pile.length ≤ 2 + 3 * y.a
  pl : y.pt.length ≤ y.a
  ok : ∀ q ∈ y.pt, PkOk rs tb st u lo q.2.2.2
section
variable {w : World} {A : Around} {E : Value → Shared → Prop} {h : Heap} {g : Array GenState} {d : Drawn} {tk : Nat} {o : OsState} {Q : Value → Shared → Prop}
theorem back_ok {ta sa sta da : Addr} {rs tb : List Rl} {st : List Int} {u x rest : Int} {lo : Int → Nat} {t1 t2 : Tok} {n : Nat} {W : List Int} {p top p' T S0 c : Int} {ks : List (Int × List Rl × Rl)} {dvs : List Value} {dn : Nat} (G : Gr rs)
   (X : Bs w (hideAll h tabAs)) (Dt : Data (hideAll h tabAs) ta sa sta rs tb st u lo) (TH' : TabsH h) (hda : (hideAll h tabAs).get? da = some (lst dvs dn)) (hdi : IntsAre dvs W)
   (hroom : A.depth + 60 < recursionLimit) (hh : A.handled = none)
   (hu : 0 < u) (hu2 : u < 2 ^ 4200) (h0 : 0 ≤ rest) (h1 : rest < u) (R : Run rs n [256, 0] 0 p W top p' T S0 ks) (hx : x = u * (p' + S0 * c) + rest) (hxb : x.natAbs ≤ 2 ^ 9000)
   (hq : ∀ h' tk' t, TabsP h h' → Q (.int (u * (p + T * c) + rest) t) ⟨h', g, d, tk', o⟩) :
   wpAny (model pg w) A (call (.ref 130) [.ref ta, .ref sa, .ref sta, .int u t1, .ref da, .int x t2]) Q E ⟨h, g, d, tk, o⟩ := by
  refine r_enterT [(Str.ofString "table", .ref ta), (Str.ofString "spans", .ref sa), (Str.ofString "starts", .ref sta), (Str.ofString "unit", .int u t1), (Str.ofString "told", .ref da), (Str.ofString "x", .int x t2)] X TH' (by (clear hxb hx h1 h0 hu2 hu hh hda; omega)) rfl rfl (BindsTo.of_eq rfl) (locs rfl) rfl rfl rfl (by decide) ?_
  intro h₁ tk₁ q1 q2 q3 e1 e2 e3 V1 V2 V3 Sm
  have V : TB (hideAll h tabAs) [] q1 q2 q3 q1 q2 q3 := ⟨V1, V2, V3⟩
  have H : ∀ e : Env, (A.deeper e).handled = none := fun _ => hh
  generalize hB : hideAll h tabAs = B at X Dt V Sm hda
  rename St _ _ _ _ _ _ => S
  walk_at "go"
  refine hide fun Kz kz => ?_
  obtain ⟨pl, pk, t0, t256, pe, ke, S⟩ : ∃ pl pk t0 t256 pe ke, St B h.objs.size _ [(Str.ofString "pile", .ref pl), (Str.ofString "picks", .ref pk), (Str.ofString "x", .int x t2), (Str.ofString "table", .ref ta), (Str.ofString "spans", .ref sa), (Str.ofString "starts", .ref sta), (Str.ofString "unit", .int u t1), (Str.ofString "told", .ref da)] [(pk, lst [] ke), (pl, lst [.int 0 t0, .int 256 t256] pe)] (tabL q1 q2 q3 []) := ⟨_, _, _, _, _, _, (S.sub (.cons _ (.refl _))).as (by walk_at "has")⟩
  obtain ⟨⟨tvs, tn, ht1, ht2⟩, ⟨svs, sn, hs1, hs2⟩, ⟨f, hf1, hf2⟩, Tb'⟩ := id Dt
  refine kz ?_
  clear kz Kz
  refine r_for (B := B) (L := h.objs.size) (n := dvs.toArray.size) (LF := fun h => h.IsList da dvs.toArray) (fun y : BS => [(Str.ofString "pile", .ref pl), (Str.ofString "picks", .ref pk), (Str.ofString "x", .int x t2), (Str.ofString "table", .ref ta), (Str.ofString "spans", .ref sa), (Str.ofString "starts", .ref sta), (Str.ofString "unit", .int u t1), (Str.ofString "told", .ref da)])
    (fun y => (pk, lst (ptV y.pt) y.ke) :: (pl, lst y.pv y.pe) :: ptO rs u lo y.pt) (fun y => tabL y.p1 y.p2 y.p3 y.ex) (BI rs tb st u lo B q1 q2 q3 W top p' ks)
    ⟨n, [256, 0], [.int 0 t0, .int 256 t256], pe, [], ke, 0, p, T, S0, ks, q1, q2, q3, []⟩
    (fun _ => rfl) (fun _ _ => rfl) (fun i y h I oI _ S => ⟨_, S.base _ _ hda, rfl, dn, rfl⟩)
    ⟨R, .cons _ _ (.cons _ _ .nil), rfl, V, Nat.zero_le _, (by intro t ht; simp at ht; (clear hs1 ht1 hda hB e3 e2 e1 hxb hx h1 h0 hu2 hu hh hroom; omega)), by simp, by simp, by simp⟩ (fun I => Itr.list (H _) I da _) ?_ ?_ ?_
  · intro Ki hKi
    walk_at "go"
    refine r_iterL S ⟨_, S.base _ _ hda, rfl, dn, rfl⟩ ?_
    clear S
    intro I h₂ S
    exact hKi _ _ _ _ ⟨rfl, rfl⟩ S
  · clear S
    rintro i ⟨n, pile, pv, pe, pt, ke, a, p, T, S1, ks', p1, p2, p3, ex⟩ h₂ tk₂ v I oI ⟨I1, I2, I3, I4, I5, I6, I7, I8, I9⟩ hi hv hI S Kp hKp Qv hQv
    dsimp only at I1 I2 I3 I4 I5 I6 I7 I8 I9 S
    rw [List.size_toArray] at hi
    have hlen := hdi.length
    obtain ⟨tsg, hsg⟩ := ints_get hdi (i := i) (by (clear hI hv I8 I7 I5 I3 hs1 ht1 hda hB e3 e2 e1 hxb hx h1 h0 hu2 hu hh hroom; omega))
    rw [List.getElem?_toArray, hsg] at hv
    obtain rfl := Option.some.inj hv
    have hdrop : W.drop i = W[i]'(by (clear hv hsg hI I8 I7 I5 I3 hs1 ht1 hda hB e3 e2 e1 hxb hx h1 h0 hu2 hu hh hroom; omega)) :: W.drop (i + 1) := List.drop_eq_getElem_cons (by (clear hv hsg hI I8 I7 I5 I3 hs1 ht1 hda hB e3 e2 e1 hxb hx h1 h0 hu2 hu hh hroom; omega))
    rw [hdrop] at I1
    generalize W[i]'(by (clear hdrop hv hsg hI I8 I7 I5 I3 hs1 ht1 hda hB e3 e2 e1 hxb hx h1 h0 hu2 hu hh hroom; omega)) = sg at I1 S
    refine hide fun Kz kz => ?_
    obtain ⟨t, pile, rfl⟩ := run_pile I1
    refine kz ?_
    clear kz Kz
    rw [List.reverse_cons] at I2
    refine hide fun Kz kz => ?_
    obtain ⟨pv', tt, rfl, I2'⟩ := ints_unsnoc I2
    refine kz ?_
    clear kz Kz
    have hpl : pv'.length ≤ 11 := by
      have := I2'.length
      rw [List.length_cons] at I7
      rw [this, List.length_reverse]
      (clear this hdrop hv hsg hlen hI hi I8 I3 hs1 ht1 hda hB e3 e2 e1 hxb hx h1 h0 hu2 hu hh hroom; omega)
    have ht := I6 t (.head _)
    have hsz1 : (-1 + (((pv' ++ [Value.int t tt]).toArray.size : Nat) : Int)).toNat = pv'.length := by rw [List.size_toArray, List.length_append, List.length_singleton]; (clear ht hdrop hv hsg I7 hlen hI hi I8 I5 I3 hs1 ht1 hda hB e3 e2 e1 hxb hx h1 h0 hu2 hu hh hroom; omega)
    walk_at "go"
    refine r_itemN (items := (pv' ++ [Value.int t tt]).toArray) (v := .int t tt) ⟨_, S.get (.tail _ (.tail _ (.head _))), rfl, pe, rfl⟩ (by (clear hsz1 ht hpl hdrop hv hsg I7 hlen hI hi I8 I5 I3 hs1 ht1 hda hB e3 e2 e1 hxb hx h1 h0 hu2 hu hh hroom; omega)) (by rw [List.size_toArray, List.length_append, List.length_singleton]; (clear ht hdrop hv hsg I7 hlen hI hi I8 I5 I3 hs1 ht1 hda hB e3 e2 e1 hxb hx h1 h0 hu2 hu hh hroom; omega)) (by (clear hsz1 ht hpl hdrop hv hsg I7 hlen hI hi I8 I5 I3 hs1 ht1 hda hB e3 e2 e1 hxb hx h1 h0 hu2 hu hh hroom; omega)) (by rw [hsz1]; simp) rfl ?_
    walk_at "go"
    refine isnonterminal_ok (X.keeps S.base) (by show A.depth + 1 < recursionLimit; (clear hsz1 ht hpl hdrop hv hsg I7 hlen hI hi I8 I5 I3 hs1 ht1 hda hB e3 e2 e1 hxb hx h1 h0 hu2 hu hh; omega)) ?_
    intro h₃ tk₃ hst₃
    replace S := S.stays hst₃
    walk_at "go"
    have hrs := run_sign G I1 ht.1
    refine ite_b (fun hc => ?_) (fun hc => ?_)
    · rcases hrs with ⟨_, hlt, _⟩ | ⟨ht256, ha3, pre, r, post, rtl, ks2, n', p2', T', S', hof, hrr, rfl, R'⟩
      · (clear hsz1 hpl hdrop hv hsg I7 hlen hI hi I8 I5 I3 hs1 ht1 hda hB e3 e2 e1 hxb hx h1 h0 hu2 hu hh hroom; omega)
      walk_at "go"
      refine r_pop S (by walk_at "at") (by simp [sizeLine]; (clear I3 hrr hof ha3 ht256 hc ht hdrop hv hsg I7 hlen hI hi I8 I5 hs1 ht1 hda hB e3 e2 e1 hxb hx h1 h0 hu2 hu hh hroom; omega)) ?_
      clear S
      intro h₄ S
      refine hide fun Kz kz => ?_
      obtain ⟨v, hf3, spa, z1, z2, z3, rfl, hspa⟩ := hf2 t (by (clear I3 hrr hof ha3 hc hsz1 ht hpl hdrop hv hsg I7 hlen hI hi I8 I5 hs1 ht1 hda hB e3 e2 e1 hxb hx h1 h0 hu2 hu hh hroom; omega)) (by (clear I3 hrr hof ha3 ht256 hsz1 hpl hdrop hv hsg I7 hlen hI hi I8 I5 hs1 ht1 hda hB e3 e2 e1 hxb hx h1 h0 hu2 hu hh hroom; omega))
      refine kz ?_
      clear kz Kz
      refine r_itemD (let ⟨ob, es, ep, a, b⟩ := hf1; ⟨ob, es, ep, S.base _ _ a, b⟩) hf3 rfl ?_
      intro tk₅
      refine r_unT (vs := [_, _, _]) S (H _) ⟨_, S.base _ _ hspa, rfl, 0, rfl⟩ rfl rfl ?_
      clear S
      intro h₅ S _
      walk_at "go"
      refine' r_callKW1 (by walk_at "m"; exact ⟨rfl, rfl⟩) X rfl rfl rfl ?_
      walk_at "go"
      refine r_lam S X I4 rfl rfl rfl rfl rfl rfl rfl ?_
      clear S
      intro lf c' pm ctv p3' ex' h₆ tk₆ S I4' hcr
      walk_at "go"
      have hseg := Tb'.seg t (by (clear hf3 hspa I3 hrr hof ha3 hc hsz1 ht hpl hdrop hv hsg I7 hlen hI hi I8 I5 hs1 ht1 hda hB e3 e2 e1 hxb hx h1 h0 hu2 hu hh hroom; omega)) (by (clear hf3 hspa I3 hrr hof ha3 ht256 hsz1 hpl hdrop hv hsg I7 hlen hI hi I8 I5 hs1 ht1 hda hB e3 e2 e1 hxb hx h1 h0 hu2 hu hh hroom; omega))
      have htl : tvs.length = 7 := by rw [ht2.length, Tb'.l1]
      obtain ⟨F, hF'⟩ : ∃ F : Nat → Int, ∀ j q, tb[j]? = some q → F j = - hd1 q := ⟨fun j => - hd1 (tb.getD j r), fun j q e => by simp [List.getD_eq_getElem?_getD, e]⟩
      have hF : ∀ j q, (ofL rs t)[j]? = some q → F (lo t + j) = - hd1 q := fun j q e => by
        have hj : j < (ofL rs t).length := (List.getElem?_eq_some_iff.mp e).1
        exact hF' _ _ (by rw [(hseg.2 j hj).1, e])
      have hrh : hd1 r = sg := by rw [hd1, hrr]; rfl
      refine bisect_left_key3 (D := A.depth + 10) (F := F) (X.keeps S.base) (by show A.depth + 1 + 1 < A.depth + 10; (clear hrh htl hseg hf3 hspa I3 hrr hof ha3 ht256 hc hsz1 ht hpl hdrop hv hsg I7 hlen hI hi I8 I5 hs1 ht1 hda hB e3 e2 e1 hxb hx h1 h0 hu2 hu hh hroom; omega)) (by (clear hrh htl hseg hf3 hspa I3 hrr hof ha3 ht256 hc hsz1 ht hpl hdrop hv hsg I7 hlen hI hi I8 I5 hs1 ht1 hda hB e3 e2 e1 hxb hx h1 h0 hu2 hu hh; omega)) ⟨_, S.base _ _ ht1, rfl, tn, rfl⟩ (S.get (.head _)) rfl ?_ (by (clear hrh htl hseg hf3 hspa I3 hrr hof ha3 ht256 hc hsz1 ht hpl hdrop hv hsg I7 hlen hI hi I8 I5 hs1 ht1 hda hB e3 e2 e1 hxb hx h1 h0 hu2 hu hh hroom; omega)) (by (clear hrh htl hseg hf3 hspa I3 hrr hof ha3 ht256 hc hsz1 ht hpl hdrop hv hsg I7 hlen hI hi I8 I5 hs1 ht1 hda hB e3 e2 e1 hxb hx h1 h0 hu2 hu hh hroom; omega)) (by (clear hrh hf3 hspa I3 hrr hof ha3 ht256 hc hsz1 ht hpl hdrop hv hsg I7 hlen hI hi I8 I5 hs1 ht1 hda hB e3 e2 e1 hxb hx h1 h0 hu2 hu hh hroom; omega)) (by (clear hrh hseg hf3 hspa I3 hrr hof ha3 ht256 hc hsz1 ht hpl hdrop hv hsg I7 hlen hI hi I8 I5 hs1 ht1 hda hB e3 e2 e1 hxb hx h1 h0 hu2 hu hh hroom; omega)) (key_mono (G.headsL t) hF) ?_
      · have hB6 := S.base
        have hlam := S.get (.head _)
        intro i v hv A' h' g' d' tk' o' Q' E' hA hs hk
        have hi7 : i < tb.length := by rw [← ht2.length]; exact (List.getElem?_eq_some_iff.mp hv).1
        refine hide fun Kz kz => ?_
        obtain ⟨v', hv', ra, y1, y2, rra, rvs, rn, rfl, hra, hrra, hri⟩ := ht2.get (List.getElem?_eq_getElem hi7)
        refine kz ?_
        clear kz Kz
        rw [hv'] at hv
        obtain rfl := Option.some.inj hv
        have hrm := G.mem (Tb'.mem _ (List.getElem_mem hi7))
        have hFi := hF' i _ (List.getElem?_eq_getElem hi7)
        generalize tb[i] = r' at *
        refine hide fun Kz kz => ?_
        obtain ⟨_, _, _, _, f0, tl', hrr', _, _, _, _⟩ := hrm
        refine kz ?_
        clear kz Kz
        rw [hrr'] at hri
        have hFi' : F i = - f0 := by rw [hFi, hd1, hrr']; rfl
        rw [hFi'] at hk
        cases hri with
        | @cons _ tc ws _ hri' =>
        clear S
        refine r_enterLam [(Str.ofString "rule", .ref ra)] (X.keeps fun b ob e => hs _ _ (hB6 _ _ e)) (by (clear hrra hFi' hrr' hFi hra hv hv' hi7 hlam hrh htl hseg hf3 hspa I3 hrr hof ha3 ht256 hc hsz1 ht hpl hdrop hsg I7 hI I8 I5 hs1 ht1 hda hB e3 e2 e1 hxb hx h1 h0 hu2 hu hh; omega)) (hs _ _ hlam) (hcr.keeps hs) rfl (locs rfl) rfl rfl rfl (by decide) ?_
        intro h₁' tk₁' S
        walk_at "go"
        refine r_itemT (items := #[_, _, _]) ⟨_, S.base _ _ (hs _ _ (hB6 _ _ hra)), rfl, 0, rfl⟩ (by decide) (by decide) (j := 2) (v := .ref rra) rfl rfl rfl ?_
        walk_at "go"
        refine r_itemL (items := (Value.int f0 tc :: ws).toArray) ⟨_, S.base _ _ (hs _ _ (hB6 _ _ hrra)), rfl, rn, rfl⟩ (by decide) (by decide) (v := .int f0 tc) (by simp) rfl ?_
        walk_at "go"
        exact hk _ _ _ S.base
      intro h₇ tk₇ t7 k hst7 k1 k2 k3 k4
      have hk := pick_b hof (G.headsL t) hF k1 k2 (by rw [hrh]; exact k3) (by rw [hrh]; exact k4)
      subst hk
      replace S := (S.stays hst7).sub (.cons _ (.refl _))
      walk_at "go"
      have hptl : (ptV pt).length ≤ 3 := by simp [ptV]; (clear k2 k1 hrh htl hseg hf3 hspa I3 hrr hof ht256 hc hsz1 ht hpl hdrop hv hsg I7 hlen hI hi hs1 ht1 hda hB e3 e2 e1 hxb hx h1 h0 hu2 hu hh hroom; omega)
      rename_i r8 _ _ _
      refine r_append S (by walk_at "at") (by simp [sizeLine]; (clear k2 k1 hrh htl hseg hf3 hspa I3 hrr hof ha3 ht256 hc hsz1 ht hpl hdrop hv hsg I7 hlen hI hi I8 I5 hs1 ht1 hda hB e3 e2 e1 hxb hx h1 h0 hu2 hu hh hroom; omega)) ?_
      clear S
      intro h₈ S
      walk_at "go"
      have hpl2 : pre.length < (ofL rs t).length := by rw [hof, List.length_append, List.length_cons]; (clear hptl k2 k1 hrh htl hseg hf3 hspa I3 hrr hof ha3 ht256 hc hsz1 ht hpl hdrop hv hsg I7 hlen hI hi I8 I5 hs1 ht1 hda hB e3 e2 e1 hxb hx h1 h0 hu2 hu hh hroom; omega)
      have htb : tb[lo t + pre.length]? = some r := by
        rw [(hseg.2 _ hpl2).1, hof]
        simp
      have hstk : st[lo t + pre.length]? = some (u * shr pre) := by
        rw [(hseg.2 _ hpl2).2, hof, List.take_left]
      refine hide fun Kz kz => ?_
      obtain ⟨rv, hrv, ra, y1, y2, rra, rvs, rn, rfl, hra, hrra, hri⟩ := ht2.get htb
      refine kz ?_
      clear kz Kz
      have hrm := G.mem (mem_ofL (rs := rs) (t := t) (r := r) (by rw [hof]; simp)).1
      have hrmem := (mem_ofL (rs := rs) (t := t) (r := r) (by rw [hof]; simp)).1
      have hsh := G.shares t
      have hs1' : ∀ q ∈ ofL rs t, 1 ≤ q.s := fun q hq => (G.mem (mem_ofL hq).1).2.2.1
      have hpre0 : 0 ≤ shr pre := shr_nonneg fun q hq => hs1' q (by rw [hof]; simp [hq])
      have hpreT : shr pre ≤ shr (ofL rs t) := by
        have a2 := shr_nonneg (l := r :: post) fun q hq => hs1' q (by rw [hof]; simp at hq ⊢; rcases hq with h | h <;> simp [h])
        rw [hof, shr_append]
        (clear hpre0 hsh hrra hra hrv hstk htb hpl2 hptl k2 k1 hrh htl hseg hf3 hspa I3 hrr hof ha3 ht256 hc hsz1 ht hpl hdrop hv hsg I7 hlen hI hi I8 I5 hs1 ht1 hda hB e3 e2 e1 hxb hx h1 h0 hu2 hu hh hroom; omega)
      have hpv : ptV ((r8, t7, z3, (t, pre, r)) :: pt) = ptV pt ++ [.ref r8] := by simp [ptV]
      have hpo : ptO rs u lo ((r8, t7, z3, (t, pre, r)) :: pt) = (r8, tup [.int ((lo t + pre.length : Nat) : Int) t7, .int (u * shr (ofL rs t)) z3]) :: ptO rs u lo pt := rfl
      replace S : St B h.objs.size h₈ [(Str.ofString "k", Value.int ((lo t + pre.length : Nat) : Int) t7), (Str.ofString "sign", Value.int sg tsg), (Str.ofString "pile", .ref pl), (Str.ofString "picks", .ref pk), (Str.ofString "x", .int x t2), (Str.ofString "table", .ref ta), (Str.ofString "spans", .ref sa), (Str.ofString "starts", .ref sta), (Str.ofString "unit", .int u t1), (Str.ofString "told", .ref da)]
          ((I, oI) :: (pk, lst (ptV ((r8, t7, z3, (t, pre, r)) :: pt)) (ke + 1)) :: (pl, lst pv' (pe + 1)) :: ptO rs u lo ((r8, t7, z3, (t, pre, r)) :: pt)) (tabL p1 p2 p3' ex') := by
        rw [hpv, hpo]
        refine (S.perm ?_).as (by walk_at "has")
        exact (List.perm_append_comm (l₁ := [_, _, _]) (l₂ := [_])).append_right (ptO rs u lo pt)
      have hok : PkOk rs tb st u lo (t, pre, r) := ⟨hrmem, htb, hstk, hpre0, by show shr pre ≤ 28; (clear hpo hpv hpre0 hrra hra hrv hstk htb hpl2 hptl k2 k1 hrh htl hseg hf3 hspa I3 hrr hof ha3 ht256 hc hsz1 ht hpl hdrop hv hsg I7 hlen hI hi I8 I5 hs1 ht1 hda hB e3 e2 e1 hxb hx h1 h0 hu2 hu hh hroom; omega), by show 0 ≤ shr (ofL rs t); (clear hpo hpv hsh hrra hra hrv hstk htb hpl2 hptl k2 k1 hrh htl hseg hf3 hspa I3 hrr hof ha3 ht256 hc hsz1 ht hpl hdrop hv hsg I7 hlen hI hi I8 I5 hs1 ht1 hda hB e3 e2 e1 hxb hx h1 h0 hu2 hu hh hroom; omega), by show shr (ofL rs t) ≤ 28; (clear hpo hpv hpreT hpre0 hrra hra hrv hstk htb hpl2 hptl k2 k1 hrh htl hseg hf3 hspa I3 hrr hof ha3 ht256 hc hsz1 ht hpl hdrop hv hsg I7 hlen hI hi I8 I5 hs1 ht1 hda hB e3 e2 e1 hxb hx h1 h0 hu2 hu hh hroom; omega)⟩
      clear hpv
      generalize hpk : ptV ((r8, t7, z3, (t, pre, r)) :: pt) = pkv at S
      refine r_for (B := B) (L := h.objs.size) (n := rvs.toArray.size) (LF := fun h => h.IsList rra rvs.toArray) (fun y : List Value × Nat => [(Str.ofString "k", Value.int ((lo t + pre.length : Nat) : Int) t7), (Str.ofString "sign", Value.int sg tsg), (Str.ofString "pile", .ref pl), (Str.ofString "picks", .ref pk), (Str.ofString "x", .int x t2), (Str.ofString "table", .ref ta), (Str.ofString "spans", .ref sa), (Str.ofString "starts", .ref sta), (Str.ofString "unit", .int u t1), (Str.ofString "told", .ref da)])
        (fun y => (I, oI) :: (pk, lst pkv (ke + 1)) :: (pl, lst y.1 y.2) :: ptO rs u lo ((r8, t7, z3, (t, pre, r)) :: pt)) (fun _ => tabL p1 p2 p3' ex') (fun i y => IntsAre y.1 (pile.reverse ++ r.r.reverse.take i) ∧ i ≤ 3) (pv', pe + 1)
        (fun _ => rfl) (fun _ _ => rfl) (fun i y h I oI _ S => ⟨_, S.base _ _ hrra, rfl, rn, rfl⟩) ⟨by rw [List.take_zero, List.append_nil]; exact I2', by (clear hpk hpo hpreT hpre0 hsh hrra hra hrv hstk htb hpl2 hptl k2 k1 hrh htl hseg hf3 hspa I3 hrr hof ha3 ht256 hc hsz1 ht hpl hdrop hv hsg I7 hlen hI hi I8 I5 hs1 ht1 hda hB e3 e2 e1 hxb hx h1 h0 hu2 hu hh hroom; omega)⟩ (fun I => Itr.rev (H _) I rra _) ?_ ?_ ?_
      · intro Ki hKi
        walk_at "go"
        refine r_itemL (items := tvs.toArray) ⟨_, S.base _ _ ht1, rfl, tn, rfl⟩ (by (clear hpk hpo hpreT hpre0 hsh hrra hra hrv hstk htb hpl2 hptl k2 hrh htl hseg hf3 hspa I3 hrr hof ha3 ht256 hc hsz1 ht hpl hdrop hv hsg I7 hlen hI hi I8 I5 hs1 ht1 hda hB e3 e2 e1 hxb hx h1 h0 hu2 hu hh hroom; omega)) (by (clear hpk hpo hpreT hpre0 hsh hrra hra hrv hstk htb hptl k2 k1 hrh htl hf3 hspa I3 hrr hof ha3 ht256 hc hsz1 ht hpl hdrop hv hsg I7 hlen hI hi I8 I5 hs1 ht1 hda hB e3 e2 e1 hxb hx h1 h0 hu2 hu hh hroom; omega)) (by rw [Int.toNat_natCast, List.getElem?_toArray]; exact hrv) rfl ?_
        walk_at "go"
        refine r_itemT (items := #[_, _, _]) ⟨_, S.base _ _ hra, rfl, 0, rfl⟩ (by decide) (by decide) (j := 2) (v := .ref rra) rfl rfl rfl ?_
        walk_at "go"
        refine r_rev (items := rvs.toArray) S ⟨_, S.base _ _ hrra, rfl, rn, rfl⟩ ?_
        clear S
        intro ri h₃ S
        refine r_iterRev S (.head _) ?_
        exact hKi _ _ _ _ ⟨Nat.zero_le _, rfl, by simp [revObj]⟩ S
      · clear S
        rintro i ⟨yv, ye⟩ hx tkx v I' oI' ⟨y1, y2⟩ hi hv hI S Kp hKp Qv hQv
        dsimp only at y1 y2 S
        rw [List.size_toArray] at hi hv
        have hlen := hri.length
        refine hide fun Kz kz => ?_
        obtain ⟨f, tl', hrr, _, _, htl', _⟩ := hrm.2.2.2.2
        refine kz ?_
        clear kz Kz
        have hl3 : r.r.length ≤ 3 := by rw [hrr, List.length_cons]; (clear hrr hlen hI hv hi y2 hpk hpo hpreT hpre0 hsh hrra hra hrv hstk htb hpl2 hptl k2 k1 hrh htl hseg hf3 hspa I3 hof ha3 ht256 hc hsz1 ht hpl hdrop hsg I7 I8 I5 hs1 ht1 hda hB e3 e2 e1 hxb h1 h0 hu2 hu hh hroom; omega)
        obtain ⟨tc, hc⟩ := ints_get hri (i := rvs.length - 1 - i) (by (clear hl3 htl' hrr hI hv hpk hpo hpreT hpre0 hsh hrra hra hrv hstk htb hpl2 hptl k2 k1 hrh htl hseg hf3 hspa I3 hof ha3 ht256 hc hsz1 ht hpl hdrop hsg I7 I8 I5 hs1 ht1 hda hB e3 e2 e1 hxb h1 h0 hu2 hu hh hroom; omega))
        rw [List.getElem?_toArray, hc] at hv
        obtain rfl := Option.some.inj hv
        have htake : r.r.reverse.take (i + 1) = r.r.reverse.take i ++ [r.r[rvs.length - 1 - i]'(by (clear hv hc hl3 htl' hrr hI hpk hpo hpreT hpre0 hsh hrra hra hrv hstk htb hpl2 hptl k2 k1 hrh htl hseg hf3 hspa I3 hof ha3 ht256 hsz1 ht hpl hdrop hsg I7 I8 I5 hs1 ht1 hda hB e3 e2 e1 hxb h1 h0 hu2 hu hh hroom; omega))] := by
          rw [List.take_add_one, List.getElem?_reverse (by (clear hv hc hl3 htl' hrr hI y2 hpk hpo hpreT hpre0 hsh hrra hra hrv hstk htb hpl2 hptl k2 k1 hrh htl hseg hf3 hspa I3 hof ha3 ht256 hsz1 ht hpl hdrop hsg I7 I8 I5 hs1 ht1 hda hB e3 e2 e1 hxb h1 h0 hu2 hu hh hroom; omega)), show r.r.length - 1 - i = rvs.length - 1 - i by (clear hv hc hl3 htl' hrr hI y2 hpk hpo hpreT hpre0 hsh hrra hra hrv hstk htb hpl2 hptl k2 k1 hrh htl hseg hf3 hspa I3 hof ha3 ht256 hsz1 ht hpl hdrop hsg I7 I8 I5 hs1 ht1 hda hB e3 e2 e1 hxb h1 h0 hu2 hu hh hroom; omega), List.getElem?_eq_getElem (by (clear hv hc hl3 htl' hrr hI hpk hpo hpreT hpre0 hsh hrra hra hrv hstk htb hpl2 hptl k2 k1 hrh htl hseg hf3 hspa I3 hof ha3 ht256 hsz1 ht hpl hdrop hsg I7 I8 I5 hs1 ht1 hda hB e3 e2 e1 hxb h1 h0 hu2 hu hh hroom; omega))]
          rfl
        generalize r.r[rvs.length - 1 - i]'(by (clear htake hv hc hl3 htl' hrr hI hpk hpo hpreT hpre0 hsh hrra hra hrv hstk htb hpl2 hptl k2 k1 hrh htl hseg hf3 hspa I3 hof ha3 ht256 hsz1 ht hpl hdrop hsg I7 I8 I5 hs1 ht1 hda hB e3 e2 e1 hxb h1 h0 hu2 hu hh hroom; omega)) = cc at htake S
        walk_at "go"
        refine r_append S (by walk_at "at") (by rw [y1.length, List.length_append, List.length_reverse, List.length_take]; rw [List.length_cons] at I7; simp [sizeLine]; (clear htake hv hc htl' hrr hI hpk hpo hpreT hpre0 hsh hrra hra hrv hstk htb hpl2 hptl k2 k1 hrh htl hseg hf3 hspa I3 hof ht256 hsz1 ht hpl hdrop hsg I8 hs1 ht1 hda hB e3 e2 e1 hxb h1 h0 hu2 hu hh hroom; omega)) ?_
        clear S
        intro h₆ S
        walk_at "go"
        refine hKp (_, _) _ _ ⟨?_, by (clear htake hv hc htl' hrr hI hpk hpo hpreT hpre0 hsh hrra hra hrv hstk htb hpl2 hptl k2 k1 hrh htl hseg hf3 hspa I3 hof ha3 ht256 hsz1 ht hpl hdrop hsg I7 I8 I5 hs1 ht1 hda hB e3 e2 e1 hxb h1 h0 hu2 hu hh hroom; omega)⟩ (S.as (by walk_at "has"))
        rw [htake, ← List.append_assoc]
        exact ints_snoc y1 _ _
      · clear S
        rintro ⟨yv, ye⟩ hx tkx ⟨y1, _⟩ S
        dsimp only at y1 S
        rw [List.size_toArray, hri.length, List.take_of_length_le (by rw [List.length_reverse]; (clear hpk hpo hpreT hpre0 hsh hrra hra hrv hstk htb hpl2 hptl k2 k1 hrh htl hseg hf3 hspa I3 hrr hof ha3 ht256 hc hsz1 ht hpl hdrop hv hsg I7 hlen hI hi I8 I5 hs1 ht1 hda hB e3 e2 e1 hxb h1 h0 hu2 hu hh hroom; omega)), ← List.reverse_append, hrr, List.cons_append, List.reverse_cons] at y1
        refine hide fun Kz kz => ?_
        obtain ⟨yv', ty, rfl, y1'⟩ := ints_unsnoc y1
        refine kz ?_
        clear kz Kz
        have hrl : rtl.length ≤ 2 := by
          refine hide fun Kz kz => ?_
          obtain ⟨f, tl', e, _, _, h, _⟩ := hrm.2.2.2.2
          refine kz ?_
          clear kz Kz
          rw [hrr] at e
          injection e with _ e
          rw [e]; exact h
        walk_at "go"
        refine r_pop S (by walk_at "at") (by rw [y1'.length, List.length_reverse, List.length_append]; rw [List.length_cons] at I7; simp [sizeLine]; (clear hpk hpo hpreT hpre0 hsh hrra hra hrv hstk htb hpl2 hptl k2 k1 hrh htl hseg hf3 hspa I3 hrr hof ht256 hc hsz1 ht hpl hdrop hv hsg hlen hI hi I8 hs1 ht1 hda hB e3 e2 e1 hxb h1 h0 hu2 hu hh hroom; omega)) ?_
        clear S
        intro h₉ S
        walk_at "go"
        refine ite_nb (fun hc => absurd rfl hc) (fun _ => ?_)
        walk_at "go"
        have hks : ptK ((r8, t7, z3, (t, pre, r)) :: pt) ++ ks2 = ks := by rw [← I3]; simp [ptK]
        refine hKp ⟨n', rtl ++ pile, yv', ye + 1, (r8, t7, z3, (t, pre, r)) :: pt, ke + 1, a + 1, p2', T', S', ks2, p1, p2, p3', ex'⟩ _ _ ⟨R', y1', hks, I4', by dsimp only; (clear hks hrl hpk hpo hpreT hpre0 hsh hrra hra hrv hstk htb hpl2 hptl k2 k1 hrh htl hseg hf3 hspa I3 hrr hof ht256 hc hsz1 ht hpl hdrop hv hsg I7 hlen hI hi I8 hs1 ht1 hda hB e3 e2 e1 hxb h1 h0 hu2 hu hh hroom; omega), ?_, ?_, ?_, ?_⟩ ?_
        · dsimp only
          intro q hq
          rcases List.mem_append.mp hq with hq | hq
          · refine hide fun Kz kz => ?_
            obtain ⟨f, tl', e, _, _, _, h⟩ := hrm.2.2.2.2
            refine kz ?_
            clear kz Kz
            rw [hrr] at e
            injection e with _ e
            have := h q (e ▸ hq)
            (clear e hks hrl hpk hpo hpreT hpre0 hsh hrra hra hrv hstk htb hpl2 hptl k2 k1 hrh htl hseg hf3 hspa I3 hrr hof ha3 ht256 hc hsz1 ht hpl hdrop hv hsg I7 hlen hI hi I8 I5 hs1 ht1 hda hB e3 e2 e1 hxb h1 h0 hu2 hu hh hroom; omega)
          · exact I6 q (.tail _ hq)
        · dsimp only
          rw [List.length_append]
          rw [List.length_cons] at I7
          (clear hks hpk hpo hpreT hpre0 hsh hrra hra hrv hstk htb hpl2 hptl k2 k1 hrh htl hseg hf3 hspa I3 hrr hof ha3 ht256 hc hsz1 ht hpl hdrop hv hsg hlen hI hi I8 I5 hs1 ht1 hda hB e3 e2 e1 hxb h1 h0 hu2 hu hh hroom; omega)
        · dsimp only
          rw [List.length_cons]; (clear hks hrl hpk hpo hpreT hpre0 hsh hrra hra hrv hstk htb hpl2 hptl k2 k1 hrh htl hseg hf3 hspa I3 hrr hof ha3 ht256 hc hsz1 ht hpl hdrop hv hsg I7 hlen hI hi I5 hs1 ht1 hda hB e3 e2 e1 hxb h1 h0 hu2 hu hh hroom; omega)
        · dsimp only
          intro q hq
          rcases List.mem_cons.mp hq with rfl | hq
          · exact hok
          · exact I9 q hq
        · dsimp only
          rw [hpk]
          exact S.as (by walk_at "has")
    · rcases hrs with ⟨rfl, hlt, n', R'⟩ | ⟨ht256, _⟩
      · walk_at "go"
        refine r_pop S (by walk_at "at") (by simp [sizeLine]; (clear hlt hc ht hdrop hv hsg I7 hlen hI hi I8 I5 I3 hs1 ht1 hda hB e3 e2 e1 hxb hx h1 h0 hu2 hu hh hroom; omega)) ?_
        clear S
        intro h₉ S
        walk_at "go"
        refine ite_nb (fun hc => absurd rfl hc) (fun _ => ?_)
        walk_at "go"
        refine hKp ⟨n', pile, pv', pe + 1, pt, ke, a, p, T, S1, ks', p1, p2, p3, ex⟩ _ _ ⟨R', I2', I3, I4, I5, fun q hq => I6 q (.tail _ hq), ?_, I8, I9⟩ (S.as (by walk_at "has"))
        dsimp only
        rw [List.length_cons] at I7
        (clear hlt hc hsz1 ht hpl hdrop hv hsg hlen hI hi I8 I5 I3 hs1 ht1 hda hB e3 e2 e1 hxb hx h1 h0 hu2 hu hh hroom; omega)
      · (clear hsz1 hpl hdrop hv hsg I7 hlen hI hi I8 I5 I3 hs1 ht1 hda hB e3 e2 e1 hxb hx h1 h0 hu2 hu hh hroom; omega)
  · clear S
    rintro ⟨n', pile, pv, pe, pt, ke, a, p'', T', S1, ks', p1, p2, p3, ex⟩ h₂ tk₂ ⟨I1, I2, I3, I4, I5, I6, I7, I8, I9⟩ S
    dsimp only at I1 I2 I3 I4 I5 I6 I7 I8 I9 S
    rw [List.size_toArray, hdi.length, List.drop_length] at I1
    obtain rfl := run_nil G I1
    rw [List.append_nil] at I3
    walk_at "go"
    have hpl3 : pt.length ≤ 3 := by (clear I3 I7 hs1 ht1 hda hB e3 e2 e1 hxb hx h1 h0 hu2 hu hh hroom; omega)
    have hvl : (ptV pt).length = pt.length := by simp [ptV]
    have hun : u.natAbs < 2 ^ 4200 := by
      have e := hu2
      rw [cast_two] at e
      (clear e hvl hpl3 I3 I8 I7 I5 hs1 ht1 hda hB e3 e2 e1 hxb hx h1 h0 hh hroom; omega)
    refine r_forG (B := B) (L := h.objs.size) (n := (ptV pt).toArray.size) (LF := fun h => h.IsList pk (ptV pt).toArray) (fun y : BT => [(Str.ofString "x", .int y.x y.tx), (Str.ofString "table", .ref ta), (Str.ofString "starts", .ref sta), (Str.ofString "unit", .int u t1)])
      (fun y => (pk, lst (ptV pt) ke) :: ptO rs u lo pt) (fun y => tabL y.p1 y.p2 y.p3 y.ex) (fun i y => y.x = bk rs u (ptK (pt.take i)) x ∧ TB B y.ex q1 q2 q3 y.p1 y.p2 y.p3 ∧ i ≤ 3 ∧ y.x.natAbs ≤ 2 ^ (9000 + 5 * i))
      ⟨x, t2, p1, p2, p3, ex⟩ (fun _ => rfl) (fun i oI h => ⟨_, _, h.2.1, h.2.2, noTup_rev⟩) (fun i y h I oI _ S => ⟨_, S.get (.tail _ (.head _)), rfl, ke, rfl⟩) ⟨by simp [ptK, bk], I4, by (clear hun hvl hpl3 I3 I8 I7 I5 hs1 ht1 hda hB e3 e2 e1 hxb hx h1 h0 hu2 hu hh hroom; omega), hxb⟩ (fun I => Itr.rev (H _) I pk _) ?_ ?_ ?_
    · intro Ki hKi
      walk_at "go"
      refine r_rev (items := (ptV pt).toArray) S ⟨_, S.get (.head _), rfl, ke, rfl⟩ ?_
      clear S
      intro ri h₃ S
      refine r_iterRev S (.head _) ?_
      exact hKi _ _ _ _ ⟨Nat.zero_le _, rfl, by simp [revObj]⟩ ((S.sub (.cons_cons _ (.cons_cons _ (.cons _ (.refl _))))).as (by walk_at "has"))
    · clear S
      rintro i ⟨x', tx', p1, p2, p3, ex⟩ h₃ tk₃ v I oI ⟨Y1, Y2, Y3, Y4⟩ hi hv hI S Kp hKp Qv hQv
      dsimp only at Y1 Y2 Y3 Y4 S
      rw [List.size_toArray] at hi hv
      have hi' : i < pt.length := by (clear hI hv Y4 Y3 Y1 hun hpl3 I3 I8 I7 I5 hs1 ht1 hda hB e3 e2 e1 hxb hx h1 h0 hu2 hu hh hroom; omega)
      refine hide fun Kz kz => ?_
      obtain ⟨⟨ka, tk1, tk2, ⟨kt, kpre, kr⟩⟩, hq⟩ : ∃ q, q = pt[i] := ⟨_, rfl⟩
      refine kz ?_
      clear kz Kz
      have hmem : (ka, tk1, tk2, (kt, kpre, kr)) ∈ pt := by rw [hq]; exact List.getElem_mem hi'
      have hv2 : (ptV pt)[(ptV pt).length - 1 - i]? = some (.ref ka) := by
        rw [ptV, List.length_reverse, List.getElem?_reverse (by simp; (clear hq hi' hI hv Y4 Y1 hun hpl3 I3 I8 I7 I5 hs1 ht1 hda hB e3 e2 e1 hxb hx h1 h0 hu2 hu hh hroom; omega)), List.length_map, show pt.length - 1 - (pt.length - 1 - i) = i by (clear hq hi' hI hv Y4 Y1 hun I3 I8 I7 I5 hs1 ht1 hda hB e3 e2 e1 hxb hx h1 h0 hu2 hu hh hroom; omega), List.getElem?_map, List.getElem?_eq_getElem hi', ← hq]
        rfl
      rw [List.getElem?_toArray, hv2] at hv
      obtain rfl := Option.some.inj hv
      have htake : ptK (pt.take (i + 1)) = (kt, kpre, kr) :: ptK (pt.take i) := by
        rw [ptK, List.take_add_one, List.getElem?_eq_getElem hi', ← hq]
        simp [ptK]
      refine hide fun Kz kz => ?_
      obtain ⟨K1, K2, K3, K4, K5, K6, K7⟩ := I9 _ hmem
      refine kz ?_
      clear kz Kz
      dsimp only at K1 K2 K3 K4 K5 K6 K7
      have hkm := G.mem K1
      have hmo : (ka, tup [.int ((lo kt + kpre.length : Nat) : Int) tk1, .int (u * shr (ofL rs kt)) tk2]) ∈ (I, oI) :: (pk, lst (ptV pt) ke) :: ptO rs u lo pt := .tail _ (.tail _ (List.mem_map_of_mem (f := fun q : Addr × Tok × Tok × Pk => ((q.1, tup [.int ((lo q.2.2.2.1 + q.2.2.2.2.1.length : Nat) : Int) q.2.1, .int (u * shr (ofL rs q.2.2.2.1)) q.2.2.1]) : Addr × Obj)) hmem))
      refine r_unT (vs := [_, _]) S (H _) (isTup_own S hmo) rfl rfl ?_
      clear S
      intro h₄ S _
      walk_at "go"
      refine hide fun Kz kz => ?_
      obtain ⟨rv, hrv, ra, y1, y2, rra, rvs, rn, rfl, hra, hrra, hri⟩ := ht2.get K2
      refine kz ?_
      clear kz Kz
      have hlt7 : lo kt + kpre.length < 7 := by
        have := (List.getElem?_eq_some_iff.mp K2).1
        rw [Tb'.l1] at this
        exact this
      refine r_itemL (items := tvs.toArray) ⟨_, S.base _ _ ht1, rfl, tn, rfl⟩ (by (clear hlt7 hrra hra hrv K7 K6 K5 K4 K3 K2 htake hv hv2 hq hi' hI hi Y4 Y3 Y1 hun hvl hpl3 I3 I8 I7 I5 hs1 ht1 hda hB e3 e2 e1 hxb hx h1 h0 hu2 hu hh hroom; omega)) (by (clear hrra hra hrv K7 K6 K5 K4 K3 K2 htake hv hv2 hq hi' hI hi Y4 Y3 Y1 hun hvl hpl3 I3 I8 I7 I5 hs1 ht1 hda hB e3 e2 e1 hxb hx h1 h0 hu2 hu hh hroom; omega)) (by rw [Int.toNat_natCast, List.getElem?_toArray]; exact hrv) rfl ?_
      walk_at "go"
      refine r_itemT (items := #[_, _, _]) ⟨_, S.base _ _ hra, rfl, 0, rfl⟩ (by decide) (by decide) (j := 1) (v := .int kr.s y2) rfl rfl rfl ?_
      walk_at "go"
      have hrs4 : kr.s.natAbs < 2 ^ 3 := by
        have := hkm.2.2.1
        have := hkm.2.2.2.1
        (clear this hlt7 hrra hra hrv K7 K6 K5 K4 K3 K2 htake hv hv2 hq hi' hI hi Y4 Y3 Y1 hun hvl hpl3 I3 I8 I7 I5 hs1 ht1 hda hB e3 e2 e1 hxb hx h1 h0 hu2 hu hh hroom; omega)
      refine i_mul (mul_ok 4200 3 hun hrs4 (by decide)) ?_
      walk_at "go"
      have hus : 0 < u * kr.s := Int.mul_pos hu (by have := hkm.2.2.1; (clear this hrs4 hlt7 hrra hra hrv K7 K6 K5 K4 K3 K2 htake hv hv2 hq hi' hI hi Y4 Y3 Y1 hun hvl hpl3 I3 I8 I7 I5 hs1 ht1 hda hB e3 e2 e1 hxb hx h1 h0 hu2 hu hh hroom; omega))
      have husb : (u * kr.s).natAbs < 2 ^ 4203 := by
        rw [Int.natAbs_mul, show (4203 : Nat) = 4200 + 3 from rfl, Nat.pow_add]
        exact Nat.mul_lt_mul_of_lt_of_le hun (Nat.le_of_lt hrs4) (Nat.two_pow_pos _)
      have hx2 : x'.natAbs < 2 ^ 9016 := Nat.lt_of_le_of_lt Y4 (Nat.pow_lt_pow_right (by decide) (by (clear husb hus hrs4 hlt7 hrra hra hrv K7 K6 K5 K4 K3 K2 htake hv hv2 hq hi' hI hi Y4 Y1 hun hvl hpl3 I3 I8 I7 I5 hs1 ht1 hda hB e3 e2 e1 hxb hx h1 h0 hu2 hu hh hroom; omega)))
      refine idm_posb (X.keeps S.hideT) (S.tabsB Y2) (by show A.depth + 1 + 41 < recursionLimit; (clear hx2 husb hus hrs4 hlt7 hrra hra hrv K7 K6 K5 K4 K3 K2 htake hv hv2 hq hi' hI hi Y4 Y3 Y1 hun hvl hpl3 I3 I8 I7 I5 hs1 ht1 hda hB e3 e2 e1 hxb hx h1 h0 hu2 hu hh; omega)) (H _) (intBits_le_iff.mpr (Nat.lt_of_lt_of_le hx2 (Nat.pow_le_pow_right (by decide) (by decide)))) hus (intBits_le_iff.mpr (Nat.lt_of_lt_of_le husb (Nat.pow_le_pow_right (by decide) (by decide)))) ?_
      intro h₅ tk₅ r5 u1 u2 hP hn5 ho5
      refine hide fun Kz kz => ?_
      obtain ⟨p1, p2, p3, ex, S, Y2⟩ := S.backA Y2 hP hn5 ho5 (fun vs e => nomatch e)
      refine kz ?_
      clear kz Kz
      walk_at "go"
      have hqn : (x' / (u * kr.s)).natAbs < 2 ^ 9016 := Nat.lt_of_le_of_lt (Int.natAbs_ediv_le_natAbs ..) hx2
      have htotn : (u * shr (ofL rs kt)).natAbs < 2 ^ 4205 := by
        rw [Int.natAbs_mul, show (4205 : Nat) = 4200 + 5 from rfl, Nat.pow_add]
        exact Nat.mul_lt_mul_of_lt_of_le hun (by (clear hqn ho5 hn5 hx2 husb hus hrs4 hlt7 hrra hra hrv K5 K4 K3 K2 htake hv hv2 hq hi' hI hi Y4 Y3 Y1 hun hvl hpl3 I3 I8 I7 I5 hs1 ht1 hda hB e3 e2 e1 hxb hx h1 h0 hu2 hu hh hroom; omega)) (by decide)
      refine i_mul (mul_ok 9016 4205 hqn htotn (by decide)) ?_
      walk_at "go"
      obtain ⟨ts, hsv⟩ : ∃ ts, svs[lo kt + kpre.length]? = some (.int (u * shr kpre) ts) := by
        have hlt : lo kt + kpre.length < st.length := (List.getElem?_eq_some_iff.mp K3).1
        obtain ⟨ts, e⟩ := ints_get hs2 hlt
        have : st[lo kt + kpre.length] = u * shr kpre := (List.getElem?_eq_some_iff.mp K3).2
        exact ⟨ts, by rw [e, this]⟩
      refine r_itemL (items := svs.toArray) ⟨_, S.base _ _ hs1, rfl, sn, rfl⟩ (by (clear hsv htotn hqn ho5 hn5 hx2 husb hus hrs4 hlt7 hrra hra hrv K7 K6 K5 K4 K3 K2 htake hv hv2 hq hi' hI hi Y4 Y3 Y1 hun hvl hpl3 I3 I8 I7 I5 hs1 ht1 hda hB e3 e2 e1 hxb hx h1 h0 hu2 hu hh hroom; omega)) (by (clear hsv htotn hqn ho5 hn5 hx2 husb hus hrs4 hrra hra hrv K7 K6 K5 K4 K3 K2 htake hv hv2 hq hi' hI hi Y4 Y3 Y1 hun hvl hpl3 I3 I8 I7 I5 hs1 ht1 hda hB e3 e2 e1 hxb hx h1 h0 hu2 hu hh hroom; omega)) (by rw [Int.toNat_natCast, List.getElem?_toArray]; exact hsv) rfl ?_
      walk_at "go"
      have hbs : -(32 * ((2 ^ (9000 + 5 * i) : Nat) : Int)) ≤ x' / (u * kr.s) * (u * shr (ofL rs kt)) + u * shr kpre + x' % (u * kr.s) ∧ x' / (u * kr.s) * (u * shr (ofL rs kt)) + u * shr kpre + x' % (u * kr.s) ≤ 32 * ((2 ^ (9000 + 5 * i) : Nat) : Int) := by
        refine bk_size hu hkm.2.2.1 hkm.2.2.2.1 K6 K7 K4 K5 ?_ (by (clear hsv htotn hqn ho5 hn5 husb hrs4 hlt7 hrra hra hrv K7 K6 K5 K4 K3 K2 htake hv hv2 hq hi' hI hi Y3 hun hvl hpl3 I3 I8 I7 I5 hs1 ht1 hda hB e3 e2 e1 hxb hx h1 h0 hu2 hu hh hroom; omega)) (by (clear hsv htotn hqn ho5 hn5 husb hrs4 hlt7 hrra hra hrv K7 K6 K5 K4 K3 K2 htake hv hv2 hq hi' hI hi Y3 hun hvl hpl3 I3 I8 I7 I5 hs1 ht1 hda hB e3 e2 e1 hxb hx h1 h0 hu2 hu hh hroom; omega))
        have e1 : (2 : Nat) ^ 4200 * 2 ^ 8 ≤ 2 ^ (9000 + 5 * i) := by rw [← Nat.pow_add]; exact Nat.pow_le_pow_right (by decide) (by (clear hsv htotn hqn ho5 hn5 hx2 husb hus hrs4 hlt7 hrra hra hrv K7 K6 K5 K4 K3 K2 htake hv hv2 hq hi' hI hi Y4 Y1 hun hvl hpl3 I3 I8 I7 I5 hs1 ht1 hda hB e3 e2 e1 hxb hx h1 h0 hu2 hu hh hroom; omega))
        have e2 : (2 : Nat) ^ 8 = 256 := by decide
        rw [e2] at e1
        generalize (2 : Nat) ^ 4200 = z1 at *
        generalize (2 : Nat) ^ (9000 + 5 * i) = z2 at *
        (clear Y4 e2 hsv htotn hqn ho5 hn5 hx2 husb hus hrs4 hlt7 hrra hra hrv K7 K6 K5 K4 K3 K2 htake hv hv2 hq hi' hI hi Y3 Y1 hvl hpl3 I3 I8 I7 I5 hs1 ht1 hda hB e3 hxb hx h1 h0 hh hroom; omega)
      refine hKp ⟨_, _, p1, p2, p3, ex⟩ _ _ ⟨?_, Y2, by (clear hbs hsv htotn hqn ho5 hn5 hx2 husb hus hrs4 hlt7 hrra hra hrv K7 K6 K5 K4 K3 K2 htake hv hv2 hq hi' hI Y4 Y1 hun I3 I8 I7 I5 hs1 ht1 hda hB e3 e2 e1 hxb hx h1 h0 hu2 hu hh hroom; omega), ?_⟩ ((S.sub (.cons _ (.refl _))).as (by walk_at "has"))
      · dsimp only
        rw [htake, bk, ← Y1]
      · dsimp only
        rw [show 9000 + 5 * (i + 1) = (9000 + 5 * i) + 5 by (clear hbs hsv htotn hqn ho5 hn5 hx2 husb hus hrs4 hlt7 hrra hra hrv K7 K6 K5 K4 K3 K2 htake hv hv2 hq hi' hI hi Y4 Y3 Y1 hun hvl hpl3 I3 I8 I7 I5 hs1 ht1 hda hB e3 e2 e1 hxb hx h1 h0 hu2 hu hh hroom; omega), Nat.pow_add 2 (9000 + 5 * i) 5, show (2 : Nat) ^ 5 = 32 by decide]
        generalize (2 : Nat) ^ (9000 + 5 * i) = z2 at *
        (clear Y4 hsv htotn hqn ho5 hn5 hx2 husb hus hrs4 hlt7 hrra hra hrv K7 K6 K5 K4 K3 K2 htake hv hv2 hq hi' hI hi Y3 Y1 hun hvl hpl3 I3 I8 I7 I5 hs1 ht1 hda hB e3 e2 e1 hxb hx h1 h0 hu2 hu hh hroom; omega)
    · clear S
      rintro ⟨x', tx', p1, p2, p3, ex⟩ h₃ tk₃ ⟨Y1, Y2, Y3, Y4⟩ S
      dsimp only at Y1 Y2 Y3 Y4 S
      rw [List.size_toArray, hvl, List.take_length, I3, hx, run_back G hu h0 h1 R c] at Y1
      walk_at "go"
      rw [Y1]
      subst hB
      exact hq _ _ _ (S.endB Y2 e1 e2 e3)
end
end -- F14
section -- F15
open PySem PySem.W PyProof.Rows PySem.Calls Builtin.Int
set_option Elab.async false
set_option maxRecDepth 100000
set_option maxHeartbeats 4000000
set_option linter.unusedVariables false
theorem ring_size {t : Int} {k : Nat} {rs : List Rl} (h : ∀ r ∈ rs, 1 ≤ r.s ∧ r.s ≤ 4) : (ringF t k rs).length ≤ 4 * rs.length := by
  have h1 := ring_len (t := t) k (rs := rs) fun r hr => (h r hr).1
  have h2 := shr_bounds (rs := ofL rs t) fun r hr => h r (mem_ofL hr).1
  have h3 : (ofL rs t).length ≤ rs.length := List.length_filter_le ..
  omega
theorem line_pw : ((List.range 24).map fun i => (0 : Int) + (i : Nat)).Pairwise (· < ·) := by decide
theorem line_get {c : Nat} (hc : c < 24) : ((List.range 24).map fun i => (0 : Int) + (i : Nat))[c]? = some (c : Int) := by
  rw [List.getElem?_map, List.getElem?_range hc]
  simp
theorem cells6 {cm : Str → Option Value} {n1 n2 n3 n4 n5 n6 : Str} {c1 c2 c3 c4 c5 c6 : Addr} {cells : List (Addr × Obj)} (x : CellsAre cm [(n1, c1), (n2, c2), (n3, c3), (n4, c4), (n5, c5), (n6, c6)] cells) :
    ∃ o1 o2 o3 o4 o5 o6, cells = [(c1, o1), (c2, o2), (c3, o3), (c4, o4), (c5, o5), (c6, o6)] ∧ o1.data = .cell (cm n1) ∧ o2.data = .cell (cm n2) ∧ o3.data = .cell (cm n3) ∧ o4.data = .cell (cm n4) ∧ o5.data = .cell (cm n5) ∧ o6.data = .cell (cm n6) := by
  cases x with | cons h1 x => cases x with | cons h2 x => cases x with | cons h3 x => cases x with | cons h4 x => cases x with | cons h5 x => cases x with | cons h6 x => cases x; exact ⟨_, _, _, _, _, _, rfl, h1, h2, h3, h4, h5, h6⟩
structure DlS where
  n : Nat
  pile : List Int
  pv : List Value
  pe : Nat
  told : List Int
  tv : List Value
  te : Nat
  a : Nat
  ta : Tok
  tot : Int
  tt : Tok
  sh : Int
  ts : Tok
  line : List Int
  la : Addr
  lv : List Value
  le : Nat
  p : Nat
  w : List Int
  T : Int
  S : Int
  ks : List (Int × List Rl × Rl)
  o1 : Obj
  o2 : Obj
  o3 : Obj
  o4 : Obj
  v2 : Option Value
  v3 : Option Value
  v4 : Option Value
structure DlI (rs : List Rl) (c : Nat) (W : List Int) (top p' T0 S0 : Int) (y : DlS) : Prop where
  run : Run rs y.n y.pile y.a (y.p : Int) y.w top p' y.T y.S y.ks
  pv : IntsAre y.pv y.pile.reverse
  tv : IntsAre y.tv y.told
  told : y.told ++ y.w = W
  tot : y.tot * y.T = T0
  sh : y.sh * y.S = S0
  totb : y.tot.natAbs < 2 ^ (5 * y.a + 1)
  shb : y.sh.natAbs < 2 ^ (3 * y.a + 1)
  a3 : y.a ≤ 3
  sy : ∀ t ∈ y.pile, 0 ≤ t ∧ t ≤ 259
  sz : y.pile.length + y.told.length ≤ 2 + 3 * y.a
  lv : IntsAre y.lv y.line
  lp : y.line.Pairwise (· < ·)
  lg : y.line[y.p]? = some (c : Int)
  ll : y.line.length ≤ 24
  d1 : y.o1.data = .cell (some (.ref y.la))
  d2 : y.o2.data = .cell y.v2
  d3 : y.o3.data = .cell y.v3
  d4 : y.o4.data = .cell y.v4
section
variable {w : World} {A : Around} {E : Value → Shared → Prop} {h : Heap} {g : Array GenState} {d : Drawn} {tk : Nat} {o : OsState} {Q : Value → Shared → Prop}
theorem dealt_ok {ra : Addr} {rs : List Rl} {rvs : List Value} {rn : Nat} {c : Nat} {t1 : Tok} {n : Nat} {W : List Int} {top p' T S0 : Int} {ks : List (Int × List Rl × Rl)} (G : Gr rs)
   (X : Bs w (hideAll h tabAs)) (TH' : TabsH h) (hra : (hideAll h tabAs).get? ra = some (lst rvs rn)) (hrr : RulesAt (hideAll h tabAs) rvs rs)
   (hroom : A.depth + 10 < recursionLimit) (hun : A.units + 100 < cLine) (hh : A.handled = none) (hc : c < 24) (R : Run rs n [256, 0] 0 (c : Int) W top p' T S0 ks)
   (hq : ∀ h' tk' r ta' vs e t1 t2 t3 t4, TabsP h h' → h.get? r = none → h.get? ta' = none → h'.get? r = some (tup [.ref ta', .int top t1, .int p' t2, .int T t3, .int S0 t4]) → h'.get? ta' = some (lst vs e) → IntsAre vs W → Q (.ref r) ⟨h', g, d, tk', o⟩) :
   wpAny (model pg w) A (call (.ref 116) [.ref ra, .int (c : Int) t1]) Q E ⟨h, g, d, tk, o⟩ := by
  refine r_enterC [(Str.ofString "rules", .ref ra), (Str.ofString "n", .int (c : Int) t1)] [] X TH' (by (clear hc hh hun hra; omega)) rfl rfl (BindsTo.of_eq rfl) rfl (by decide) (by intro p hp; cases hp) rfl rfl rfl ?_
  intro h₁ tk₁ q1 q2 q3 cells e1 e2 e3 V1 V2 V3 Y Sm
  have V : TB (hideAll h tabAs) [] q1 q2 q3 q1 q2 q3 := ⟨V1, V2, V3⟩
  have H : ∀ e : Env, (A.deeper e).handled = none := fun _ => hh
  generalize hB : hideAll h tabAs = B at X V Sm hra hrr
  refine hide fun Kz kz => ?_
  obtain ⟨o4, o3, o2, o1, oN, oR, rfl, y4, y3, y2, y1, yN, yR⟩ := cells6 Y
  refine kz ?_
  clear kz Kz
  replace yR : oR.data = .cell (some (.ref ra)) := yR
  replace yN : oN.data = .cell (some (.int (c : Int) t1)) := yN
  replace y1 : o1.data = .cell none := y1
  replace y2 : o2.data = .cell none := y2
  replace y3 : o3.data = .cell none := y3
  replace y4 : o4.data = .cell none := y4
  rename St _ _ _ _ _ _ => S
  walk_at "go"
  refine r_listRange (n := 24) (H _) S (.head _) (by decide) (by decide) (by decide) (by decide) ?_
  clear S
  intro la lv le h₂ tk₂ S hlv
  walk_at "go"
  refine r_stc S rfl rfl rfl y1 (by walk_at "atf") ?_
  clear S
  intro h₃ o1' y1' S
  walk_at "go"
  refine hide fun Kz kz => ?_
  obtain ⟨pl, tl, t0, t256, ta, tt, ts, pe, te, S⟩ : ∃ pl tl t0 t256 ta tt ts pe te, St B h.objs.size _ [(Str.ofString "pile", .ref pl), (Str.ofString "told", .ref tl), (Str.ofString "asked", .int ((0 : Nat) : Int) ta), (Str.ofString "totals", .int 1 tt), (Str.ofString "shares", .int 1 ts)]
    [(tl, lst [] te), (pl, lst [.int 0 t0, .int 256 t256] pe), (la, lst lv le), (h.objs.size + 1 + 1 + 1 + 1 + 1 + 1, o4), (h.objs.size + 1 + 1 + 1 + 1 + 1, o3), (h.objs.size + 1 + 1 + 1 + 1, o2), (h.objs.size + 1 + 1 + 1, o1'), (h.objs.size + 1 + 1, oN), (h.objs.size + 1, oR)] (tabL q1 q2 q3 []) :=
    ⟨_, _, _, _, _, _, _, _, _, (S.sub (.cons _ (.cons_cons _ (.cons_cons _ (.cons_cons _ (.cons _ (.refl _))))))).as (by walk_at "has")⟩
  refine kz ?_
  clear kz Kz
  have ll := hlv.length
  rw [List.length_map, List.length_range] at ll
  refine r_while (B := B) (L := h.objs.size) (fun y : DlS => [(Str.ofString "pile", .ref pl), (Str.ofString "told", .ref tl), (Str.ofString "asked", .int (y.a : Int) y.ta), (Str.ofString "totals", .int y.tot y.tt), (Str.ofString "shares", .int y.sh y.ts)])
    (fun y => [(tl, lst y.tv y.te), (pl, lst y.pv y.pe), (y.la, lst y.lv y.le), (h.objs.size + 1 + 1 + 1 + 1 + 1 + 1, y.o4), (h.objs.size + 1 + 1 + 1 + 1 + 1, y.o3), (h.objs.size + 1 + 1 + 1 + 1, y.o2), (h.objs.size + 1 + 1 + 1, y.o1), (h.objs.size + 1 + 1, oN), (h.objs.size + 1, oR)]) (fun _ => tabL q1 q2 q3 []) (DlI rs c W top p' T S0) (·.n)
    ⟨n, [256, 0], _, pe, [], [], te, 0, ta, 1, tt, 1, ts, _, la, lv, le, c, W, T, S0, ks, o1', o2, o3, o4, none, none, none⟩ S
    ⟨R, .cons _ _ (.cons _ _ .nil), .nil, rfl, Int.one_mul _, Int.one_mul _, (by show (1 : Int).natAbs < 2 ^ (5 * 0 + 1); decide), (by show (1 : Int).natAbs < 2 ^ (3 * 0 + 1); decide), Nat.zero_le _, (by intro t ht; simp at ht; (clear ll y1' y4 y3 y2 y1 yN yR hra hB e3 e2 e1 hc hh hun hroom; omega)), by simp, hlv, line_pw, line_get hc, by simp, y1', y2, y3, y4⟩ ?_
  clear S
  rintro ⟨n, pile, pv, pe, told, tv, te, a, ta, tot, tt, sh, ts, line, la, lv, le, p, w', T, S1, ks, o1, o2, o3, o4, v2, v3, v4⟩ h₂ tk₂ ⟨I1, I2, I3, I4, I5, I6, I7, I8, I9, I10, I11, I12, I13, I14, I15, y1, y2, y3, y4⟩ S Kp hKp Qv hQv
  dsimp only at I1 I2 I3 I4 I5 I6 I7 I8 I9 I10 I11 I12 I13 I14 I15 y1 y2 y3 y4 S
  walk_at "go"
  cases pile with
  | nil => cases I1
  | cons t pile =>
  rw [List.reverse_cons] at I2
  refine hide fun Kz kz => ?_
  obtain ⟨pv', tt', rfl, I2'⟩ := ints_unsnoc I2
  refine kz ?_
  clear kz Kz
  have hsz2 : pv'.length ≤ 11 := by
    have := I2'.length
    rw [List.length_cons] at I11
    rw [this, List.length_reverse]
    (clear this y4 y3 y2 y1 I15 I14 I8 I7 I6 I5 I4 ll y1' yN yR hra hB e3 e2 e1 hc hh hun hroom; omega)
  refine r_pop S (by walk_at "at") (by simp [sizeLine]; (clear I11 y4 y3 y2 y1 I15 I14 I9 I8 I7 I6 I5 I4 ll y1' yN yR hra hB e3 e2 e1 hc hh hun hroom; omega)) ?_
  clear S
  intro h₃ S
  walk_at "go"
  refine r_stc S rfl rfl rfl y2 (by walk_at "atf") ?_
  clear S
  intro h₄ o2' y2' S
  walk_at "go"
  have ht := I10 t (.head _)
  refine r_via (fun b s' => b = decide (0 < t ∧ t < 256) ∧ ∃ tk', s' = ⟨h₄, g, d, tk', o⟩) ?_ ?_
  · intro Kc hKc
    refine isTrue_chain ?_
    walk_at "go"
    refine test_link ?_
    walk_at "go"
    refine ite_b (fun z1 => ?_) (fun z1 => ?_)
    · refine test_last ?_
      walk_at "go"
      exact hKc _ _ ⟨by simp [z1], _, rfl⟩
    · exact hKc _ _ ⟨by simp [z1], _, rfl⟩
  rintro _ _ ⟨rfl, tk₄, rfl⟩
  refine ite_b (fun hc2 => ?_) (fun hc2 => ?_)
  · have hrun : ∃ n' w'', n = n' + 1 ∧ w' = t :: w'' ∧ Run rs n' pile a p w'' top p' T S1 ks := run_tell I1 hc2 fun a b c d e => ⟨a, b, c, d, e⟩
    refine hide fun Kz kz => ?_
    obtain ⟨n', w'', rfl, rfl, I1'⟩ := hrun
    refine kz ?_
    clear kz Kz
    walk_at "go"
    refine r_append S (by walk_at "at") (by rw [I3.length]; rw [List.length_cons] at I11; simp [sizeLine]; (clear I4 hc2 ht y2' hsz2 y4 y3 y2 y1 I15 I14 I8 I7 I6 I5 ll y1' yN yR hra hB e3 e2 e1 hc hh hun hroom; omega)) ?_
    clear S
    intro h₆ S
    walk_at "go"
    refine hKp ⟨n', pile, pv', pe + 1, told ++ [t], tv ++ [.int t tt'], te + 1, a, ta, tot, tt, sh, ts, line, la, lv, le, p, w'', T, S1, ks, o1, o2', o3, o4, _, v3, v4⟩ _ _ (Nat.lt_succ_self _) ⟨I1', I2', ints_snoc I3 _ _, by rw [List.append_assoc]; exact I4, I5, I6, I7, I8, I9, fun q hq' => I10 q (.tail _ hq'), ?_, I12, I13, I14, I15, y1, y2', y3, y4⟩ (S.as (by walk_at "has"))
    dsimp only
    rw [List.length_append]
    rw [List.length_cons] at I11
    simp
    (clear I4 hc2 ht y2' hsz2 y4 y3 y2 y1 I15 I14 I9 I8 I7 I6 I5 ll y1' yN yR hra hB e3 e2 e1 hc hh hun hroom; omega)
  repeat (walk_at "n")
  replace S := S.as (l' := [(Str.ofString "pile", .ref pl), (Str.ofString "told", .ref tl), (Str.ofString "asked", .int (a : Int) ta), (Str.ofString "totals", .int tot tt), (Str.ofString "shares", .int sh ts)]) (by walk_at "has")
  refine r_cut (fun s' => ∃ h' tk' D o3' vs e, s' = ⟨h', g, d, tk', o⟩ ∧ o3'.data = .cell (some (.ref D)) ∧ IntsAre vs (ringF t 0 rs) ∧
    St B h.objs.size h' [(Str.ofString "pile", .ref pl), (Str.ofString "told", .ref tl), (Str.ofString "asked", .int (a : Int) ta), (Str.ofString "totals", .int tot tt), (Str.ofString "shares", .int sh ts)]
      [(D, lst vs e), (tl, lst tv te), (pl, lst pv' (pe + 1)), (la, lst lv le), (h.objs.size + 1 + 1 + 1 + 1 + 1 + 1, o4), (h.objs.size + 1 + 1 + 1 + 1 + 1, o3'), (h.objs.size + 1 + 1 + 1 + 1, o2'), (h.objs.size + 1 + 1 + 1, o1), (h.objs.size + 1 + 1, oN), (h.objs.size + 1, oR)] (tabL q1 q2 q3 [])) ?_ ?_
  · intro Kc hKc
    walk_at "go"
    refine r_comp (B := B) (L := h.objs.size) rfl (by decide) rfl (by decide) (fun _ => rfl) ?_
    intro Ki hKi
    walk_at "go"
    refine r_iterRange (n := 7) S (.head _) (by decide) (by decide) (by decide) ?_
    clear S
    intro I h₅ S
    refine hKi _ _ _ _ _ _ (S.sub (.cons_cons _ (.cons _ (.refl _)))) ?_
    clear S
    intro oL C D h₆ tk₆ Z S
    replace S := S.perm (own' := (I, itRg 0 7) :: (D, lst [] 0) :: (h.objs.size, oL) :: [(tl, lst tv te), (pl, lst pv' (pe + 1)), (la, lst lv le), (h.objs.size + 1 + 1 + 1 + 1 + 1 + 1, o4), (h.objs.size + 1 + 1 + 1 + 1 + 1, o3), (h.objs.size + 1 + 1 + 1 + 1, o2'), (h.objs.size + 1 + 1 + 1, o1), (h.objs.size + 1 + 1, oN), (h.objs.size + 1, oR)]) (List.perm_middle (l₁ := [_, _])).symm
    refine r_cout (B := B) (n := 7) (fun _ => []) (fun y : List Value × Nat => (D, lst y.1 y.2) :: (h.objs.size, oL) :: [(tl, lst tv te), (pl, lst pv' (pe + 1)), (la, lst lv le), (h.objs.size + 1 + 1 + 1 + 1 + 1 + 1, o4), (h.objs.size + 1 + 1 + 1 + 1 + 1, o3), (h.objs.size + 1 + 1 + 1 + 1, o2'), (h.objs.size + 1 + 1 + 1, o1), (h.objs.size + 1 + 1, oN), (h.objs.size + 1, oR)]) (fun _ => tabL q1 q2 q3 [])
      (fun i y => IntsAre y.1 (ringF t 0 (rs.take i))) ([], 0) (fun _ _ => rfl) (fun _ => rfl) (fun _ _ _ _ _ _ => trivial) .nil (Itr.range (H _) I 0 7) rfl S (fun Q E hq => r_selfRange (S.get (.head _)) hq) ?_ ?_
    · clear S
      rintro i ⟨yv, ye⟩ h₇ tk₇ v oI J1 hi ⟨ti, rfl⟩ hI S Kp hKp
      dsimp only at J1 S
      walk_at "go"
      refine tests_one ?_
      walk_at "go"
      have hi7 : i < rs.length := by rw [G.len]; exact hi
      refine hide fun Kz kz => ?_
      obtain ⟨r, hri⟩ : ∃ r, rs[i]? = some r := ⟨_, List.getElem?_eq_getElem hi7⟩
      obtain ⟨_, hv, rla, u1, u2, rra, rvv, rnn, rfl, hrla, hrra, hrint⟩ := hrr.get hri
      refine kz ?_
      clear kz Kz
      have hz : ((0 : Int) + (i : Nat)).toNat = i := by (clear hrra hrla hv hri hi7 hI hc2 ht y2' hsz2 I11 y4 y3 y2 y1 I15 I14 I9 I8 I7 I6 I5 I4 ll y1' yN yR hra hB e3 e2 e1 hc hh hun hroom; omega)
      have hrm := G.mem (List.mem_of_getElem? hri)
      have hsz := ring_size (t := t) (k := 0) (rs := rs.take i) fun q hq => let z := G.mem (List.mem_of_mem_take hq); ⟨z.2.2.1, z.2.2.2.1⟩
      rw [List.length_take, G.len] at hsz
      have htk : ringF t 0 (rs.take (i + 1)) = ringF t 0 (rs.take i) ++ (if r.l = t then List.replicate r.s.toNat (i : Int) else []) := by
        rw [List.take_add_one, hri, Option.toList_some, ring_snoc, List.length_take, Nat.zero_add, Nat.min_eq_left (by (clear hsz hrra hrla hv hri hI hi hc2 ht y2' hsz2 I11 y4 y3 y2 y1 I15 I14 I9 I8 I7 I6 I5 I4 ll y1' yN yR hra hB e3 e2 e1 hc hh hun hroom; omega))]
      refine r_itemL (items := rvs.toArray) ⟨_, S.base _ _ hra, rfl, rn, rfl⟩ (by (clear htk hsz hrra hrla hv hri hi7 hI hc2 ht y2' hsz2 I11 y4 y3 y2 y1 I15 I14 I9 I8 I7 I6 I5 I4 ll y1' yN yR hra hB e3 e2 e1 hc hh hun hroom; omega)) (by (clear htk hsz hrra hrla hv hri hi7 hI hc2 ht y2' hsz2 I11 y4 y3 y2 y1 I15 I14 I9 I8 I7 I6 I5 I4 ll y1' yN yR hra hB e3 e2 e1 hc hh hun hroom; omega)) (by rw [hz, List.getElem?_toArray]; exact hv) rfl ?_
      walk_at "go"
      refine r_itemT (items := #[_, _, _]) ⟨_, S.base _ _ hrla, rfl, 0, rfl⟩ (by decide) (by decide) (j := 0) (v := .int r.l u1) rfl rfl rfl ?_
      walk_at "go"
      refine ite_b (fun hl => ?_) (fun hl => ?_)
      · walk_at "go"
        refine r_itemL (items := rvs.toArray) ⟨_, S.base _ _ hra, rfl, rn, rfl⟩ (by (clear hl htk hsz hrra hrla hv hri hi7 hI hc2 ht y2' hsz2 I11 y4 y3 y2 y1 I15 I14 I9 I8 I7 I6 I5 I4 ll y1' yN yR hra hB e3 e2 e1 hc hh hun hroom; omega)) (by (clear hl htk hsz hrra hrla hv hri hi7 hI hc2 ht y2' hsz2 I11 y4 y3 y2 y1 I15 I14 I9 I8 I7 I6 I5 I4 ll y1' yN yR hra hB e3 e2 e1 hc hh hun hroom; omega)) (by rw [hz, List.getElem?_toArray]; exact hv) rfl ?_
        walk_at "go"
        refine r_itemT (items := #[_, _, _]) ⟨_, S.base _ _ hrla, rfl, 0, rfl⟩ (by decide) (by decide) (j := 1) (v := .int r.s u2) rfl rfl rfl ?_
        walk_at "go"
        refine r_iterRange (n := r.s.toNat) S (.head _) (by (clear hl htk hsz hz hrra hrla hv hri hi7 hI hi hc2 ht y2' hsz2 I11 y4 y3 y2 y1 I15 I14 I9 I8 I7 I6 I5 I4 ll y1' yN yR hra hB e3 e2 e1 hc hh hun hroom; omega)) (by decide) (by (clear hl htk hsz hz hrra hrla hv hri hi7 hI hi hc2 ht y2' hsz2 I11 y4 y3 y2 y1 I15 I14 I9 I8 I7 I6 I5 I4 ll y1' yN yR hra hB e3 e2 e1 hc hh hun hroom; omega)) ?_
        clear S
        intro I2 h₈ S
        replace S := S.sub (.cons_cons _ (.cons _ (.refl _)))
        refine r_cin (B := B) (n := r.s.toNat) (fun _ => [(Str.ofString "r", .int (0 + (i : Nat)) ti)]) (fun y : List Value × Nat => (I, oI) :: (D, lst y.1 y.2) :: (h.objs.size, oL) :: [(tl, lst tv te), (pl, lst pv' (pe + 1)), (la, lst lv le), (h.objs.size + 1 + 1 + 1 + 1 + 1 + 1, o4), (h.objs.size + 1 + 1 + 1 + 1 + 1, o3), (h.objs.size + 1 + 1 + 1 + 1, o2'), (h.objs.size + 1 + 1 + 1, o1), (h.objs.size + 1 + 1, oN), (h.objs.size + 1, oR)]) (fun _ => tabL q1 q2 q3 [])
          (fun j y => IntsAre y.1 (ringF t 0 (rs.take i) ++ List.replicate j (i : Int))) (yv, ye) (fun _ _ => rfl) (fun _ _ _ _ _ _ => trivial) (by simpa using J1) (Itr.range (H _) I2 0 r.s.toNat) (by simp) S (fun Q E hq => r_selfRange (S.get (.head _)) hq) ?_ ?_
        · clear S
          rintro j ⟨zv, ze⟩ h₉ tk₉ v oI2 K1 hj ⟨tj, rfl⟩ hI2 S Kp hKp
          dsimp only at K1 S
          walk_at "go"
          refine tests_nil ?_
          walk_at "go"
          refine r_append S (by walk_at "at") (by rw [K1.length, List.length_append, List.length_replicate]; simp [sizeLine]; (clear hI2 hl htk hrra hrla hv hri hi7 hI hc2 ht y2' hsz2 I11 y4 y3 y2 y1 I15 I14 I9 I8 I7 I6 I5 I4 ll y1' yN yR hra hB e3 e2 e1 hc hh hun hroom; omega)) ?_
          clear S
          intro h₁₀ S
          refine hKp (_, _) _ _ ?_ (S.as (by walk_at "has"))
          dsimp only
          rw [List.replicate_succ', ← List.append_assoc]
          have := ints_snoc K1 (0 + (i : Nat) : Int) ti
          simpa only [Int.zero_add] using this
        · clear S
          rintro ⟨zv, ze⟩ h₉ tk₉ K1 S
          dsimp only at K1 S
          refine ⟨_, rfl, hKp (zv, ze) _ _ ?_ (S.as (by walk_at "has"))⟩
          dsimp only
          rw [htk, if_pos hl]
          exact K1
      · refine hKp (yv, ye) _ _ ?_ (S.as (by walk_at "has"))
        dsimp only
        rw [htk, if_neg hl, List.append_nil]
        exact J1
    · clear S
      rintro ⟨yv, ye⟩ h₇ tk₇ J1 S
      dsimp only at J1 S
      rw [List.take_of_length_le (by rw [G.len]; exact Nat.le_refl _)] at J1
      refine comp_end Z S fun h₈ S => ?_
      refine r_stc S rfl rfl rfl y3 (by walk_at "atf") ?_
      clear S
      intro h₉ o3' y3' S
      exact hKc _ ⟨_, _, D, o3', yv, ye, rfl, y3', J1, S⟩
  clear S
  rintro _ ⟨h₅, tk₅, D, o3', rv, re, rfl, y3', hring, S⟩
  refine r_cut (fun s' => ∃ h' tk' tp, s' = ⟨h', g, d, tk', o⟩ ∧ St B h.objs.size h' [(Str.ofString "place", .int (p : Int) tp), (Str.ofString "pile", .ref pl), (Str.ofString "told", .ref tl), (Str.ofString "asked", .int (a : Int) ta), (Str.ofString "totals", .int tot tt), (Str.ofString "shares", .int sh ts)] [(D, lst rv re), (tl, lst tv te), (pl, lst pv' (pe + 1)), (la, lst lv le), (h.objs.size + 1 + 1 + 1 + 1 + 1 + 1, o4), (h.objs.size + 1 + 1 + 1 + 1 + 1, o3'), (h.objs.size + 1 + 1 + 1 + 1, o2'), (h.objs.size + 1 + 1 + 1, o1), (h.objs.size + 1 + 1, oN), (h.objs.size + 1, oR)] (tabL q1 q2 q3 [])) ?_ ?_
  · intro Kc hKc
    walk_at "go"
    refine r_comp (B := B) (L := h.objs.size) rfl (by decide) rfl (by decide) (fun _ => rfl) ?_
    intro Ki hKi
    walk_at "go"
    refine r_iterL S (S.isList (by k_mem)) ?_
    clear S
    intro I h₆ S
    refine hKi _ _ _ _ _ _ S ?_
    clear S
    intro oL C F h₇ tk₇ Z S
    replace S := S.perm (own' := (I, itL la 0) :: (F, lst [] 0) :: (h.objs.size, oL) :: [(D, lst rv re), (tl, lst tv te), (pl, lst pv' (pe + 1)), (la, lst lv le), (h.objs.size + 1 + 1 + 1 + 1 + 1 + 1, o4), (h.objs.size + 1 + 1 + 1 + 1 + 1, o3'), (h.objs.size + 1 + 1 + 1 + 1, o2'), (h.objs.size + 1 + 1 + 1, o1), (h.objs.size + 1 + 1, oN), (h.objs.size + 1, oR)]) (List.perm_middle (l₁ := [_, _])).symm
    refine r_cloop (B := B) (n := lv.toArray.size) (LF := fun h => h.IsList la lv.toArray) (fun _ => []) (fun y : List Value × Nat => (F, lst y.1 y.2) :: (h.objs.size, oL) :: [(D, lst rv re), (tl, lst tv te), (pl, lst pv' (pe + 1)), (la, lst lv le), (h.objs.size + 1 + 1 + 1 + 1 + 1 + 1, o4), (h.objs.size + 1 + 1 + 1 + 1 + 1, o3'), (h.objs.size + 1 + 1 + 1 + 1, o2'), (h.objs.size + 1 + 1 + 1, o1), (h.objs.size + 1 + 1, oN), (h.objs.size + 1, oR)]) (fun _ => tabL q1 q2 q3 [])
      (fun i y => IntsAre y.1 ((line.take i).filter fun x => decide (x < (c : Int)))) ([], 0) (fun _ _ => rfl) (fun i y h oI _ S => S.isList (by k_mem)) .nil (Itr.list (H _) I la _) ⟨rfl, rfl⟩ S (fun Q E hq => r_selfL (i := 0) (S.get (.head _)) hq) ?_ ?_
    · clear S
      rintro i ⟨yv, ye⟩ h₈ tk₈ v oI J1 hi hv hI S Kp hKp
      dsimp only at J1 S
      rw [List.size_toArray] at hi
      have hlen := I12.length
      obtain ⟨tc, hcx⟩ := ints_get I12 (i := i) (by (clear hI hv y3' hc2 ht y2' hsz2 I11 y4 y3 y2 y1 I15 I14 I9 I8 I7 I6 I5 I4 ll y1' yN yR hra hB e3 e2 e1 hc hh hun hroom; omega))
      rw [List.getElem?_toArray, hcx] at hv
      obtain rfl := Option.some.inj hv
      have htk : line.take (i + 1) = line.take i ++ [line[i]'(by (clear hv hcx hI y3' hc2 ht y2' hsz2 I11 y4 y3 y2 y1 I15 I14 I9 I8 I7 I6 I5 I4 ll y1' yN yR hra hB e3 e2 e1 hc hh hun hroom; omega))] := by
        rw [List.take_add_one, List.getElem?_eq_getElem (by (clear hv hcx hI y3' hc2 ht y2' hsz2 I11 y4 y3 y2 y1 I15 I14 I9 I8 I7 I6 I5 I4 ll y1' yN yR hra hB e3 e2 e1 hc hh hun hroom; omega))]; rfl
      generalize line[i]'(by (clear htk hv hcx hI y3' hc2 ht y2' hsz2 I11 y4 y3 y2 y1 I15 I14 I9 I8 I7 I6 I5 I4 ll y1' yN yR hra hB e3 e2 e1 hc hh hun hroom; omega)) = cc at htk S
      have hfl : ((line.take i).filter fun x => decide (x < (c : Int))).length ≤ 24 := Nat.le_trans (List.length_filter_le ..) (by rw [List.length_take]; (clear htk hv hcx hI y3' hc2 ht y2' hsz2 I11 y4 y3 y2 y1 I14 I9 I8 I7 I6 I5 I4 ll y1' yN yR hra hB e3 e2 e1 hc hh hun hroom; omega))
      walk_at "go"
      refine tests_one ?_
      walk_at "go"
      refine ite_b (fun hl => ?_) (fun hl => ?_)
      · walk_at "go"
        refine r_append S (by walk_at "at") (by rw [J1.length]; simp [sizeLine]; (clear hl htk hv hcx hlen hI hi y3' hc2 ht y2' hsz2 I11 y4 y3 y2 y1 I15 I14 I9 I8 I7 I6 I5 I4 ll y1' yN yR hra hB e3 e2 e1 hc hh hun hroom; omega)) ?_
        clear S
        intro h₁₀ S
        refine hKp (_, _) _ _ ?_ (S.as (by walk_at "has"))
        dsimp only
        rw [htk, List.filter_append, List.filter_cons_of_pos (by simpa using hl)]
        exact ints_snoc J1 _ _
      · refine hKp (yv, ye) _ _ ?_ (S.as (by walk_at "has"))
        dsimp only
        rw [htk, List.filter_append, List.filter_cons_of_neg (by simpa using hl)]
        simpa using J1
    · clear S
      rintro ⟨yv, ye⟩ h₈ tk₈ J1 S
      dsimp only at J1 S
      rw [List.size_toArray, I12.length, List.take_length] at J1
      have hyl : yv.length = p := by rw [J1.length, place_of I13 I14]
      refine comp_end Z S fun h₉ S => ?_
      walk_at "go"
      refine r_len (items := yv.toArray) (S.isList (.head _)) (by rw [List.size_toArray, hyl]; have := (List.getElem?_eq_some_iff.mp I14).1; (clear hyl y3' hc2 ht y2' hsz2 I11 y4 y3 y2 y1 I14 I9 I8 I7 I6 I5 I4 ll y1' yN yR hra hB e3 e2 e1 hc hh hun hroom; omega)) ?_
      intro _ _
      rw [show ((yv.toArray.size : Nat) : Int) = (p : Int) by rw [List.size_toArray, hyl]]
      walk_at "go"
      exact hKc _ ⟨_, _, _, rfl, (S.sub (.cons _ (.refl _))).as (by walk_at "has")⟩
  clear S
  rintro _ ⟨h₆, tk₆, tp, rfl, S⟩
  have hrl := ring_len (t := t) 0 (rs := rs) fun r hr => (G.mem hr).2.2.1
  have hsh := G.shares t
  have hrnil : ringF t 0 rs = [] ↔ ofL rs t = [] := by
    constructor
    · intro z
      rw [z] at hrl
      refine List.length_eq_zero_iff.mp ?_
      simp at hrl
      (clear z y3' hc2 ht y2' hsz2 I11 y4 y3 y2 y1 I15 I14 I9 I8 I7 I6 I5 I4 ll y1' yN yR hra hB e3 e2 e1 hc hh hun hroom; omega)
    · intro z
      rw [z] at hrl
      refine List.length_eq_zero_iff.mp ?_
      simp [shr] at hrl
      simpa using hrl
  walk_at "go"
  refine r_via (fun b s' => b = decide (ofL rs t = [] ∨ a = 3) ∧ ∃ h' tk', s' = ⟨h', g, d, tk', o⟩ ∧ St B h.objs.size h' [(Str.ofString "place", .int (p : Int) tp), (Str.ofString "pile", .ref pl), (Str.ofString "told", .ref tl), (Str.ofString "asked", .int (a : Int) ta), (Str.ofString "totals", .int tot tt), (Str.ofString "shares", .int sh ts)] [(D, lst rv re), (tl, lst tv te), (pl, lst pv' (pe + 1)), (la, lst lv le), (h.objs.size + 1 + 1 + 1 + 1 + 1 + 1, o4), (h.objs.size + 1 + 1 + 1 + 1 + 1, o3'), (h.objs.size + 1 + 1 + 1 + 1, o2'), (h.objs.size + 1 + 1 + 1, o1), (h.objs.size + 1 + 1, oN), (h.objs.size + 1, oR)] (tabL q1 q2 q3 [])) ?_ ?_
  · intro Kc hKc
    refine isTrue_or ?_
    walk_at "go"
    refine r_eqL (S.isList (by k_mem)) (S.isList (.head _)) hring .nil (by show A.units + 3 + 64 < cLine; (clear hrnil hsh hrl y3' hc2 ht y2' hsz2 I11 y4 y3 y2 y1 I15 I14 I9 I8 I7 I6 I5 I4 ll y1' yN yR hra hB e3 e2 e1 hc hh hroom; omega)) ?_
    walk_at "go"
    refine ite_b (fun z => ?_) (fun z => ?_)
    · exact hKc _ _ ⟨by simp [hrnil.mp z], _, _, rfl, S.sub (.cons _ (.refl _))⟩
    · refine isTrue_or ?_
      walk_at "go"
      refine ite_b (fun z2 => ?_) (fun z2 => ?_)
      · exact hKc _ _ ⟨by simp; right; (clear z hrnil hsh hrl y3' hc2 ht y2' hsz2 I11 y4 y3 y2 y1 I15 I14 I9 I8 I7 I6 I5 I4 ll y1' yN yR hra hB e3 e2 e1 hc hh hun hroom; omega), _, _, rfl, S.sub (.cons _ (.refl _))⟩
      · refine isTrue_or_nil ?_
        refine hKc _ _ ⟨?_, _, _, rfl, S.sub (.cons _ (.refl _))⟩
        have z3 : ¬ (ofL rs t = [] ∨ a = 3) := fun q => q.elim (fun q => z (hrnil.mpr q)) (fun q => z2 (by (clear z2 z hrnil hsh hrl y3' hc2 ht y2' hsz2 I11 y4 y3 y2 y1 I15 I14 I9 I8 I7 I6 I5 I4 ll y1' yN yR hra hB e3 e2 e1 hc hh hun hroom; omega)))
        exact (decide_eq_false z3).symm
  clear S
  rintro _ _ ⟨rfl, h₇, tk₇, rfl, S⟩
  refine ite_b (fun hc3 => ?_) (fun hc3 => ?_)
  · have hrun : w' = [] ∧ top = t ∧ p' = (p : Int) ∧ T = 1 ∧ S1 = 1 := run_stop I1 hc2 hc3 fun a b c d e _ => ⟨a, b, c, d, e⟩
    refine hide fun Kz kz => ?_
    obtain ⟨rfl, rfl, rfl, rfl, rfl⟩ := hrun
    refine kz ?_
    clear kz Kz
    rw [List.append_nil] at I4
    rw [Int.mul_one] at I5 I6
    subst I5 I6
    walk_at "go"
    refine hQv _ _ ?_
    subst hB
    exact hq _ _ _ _ _ _ _ _ _ _ (S.endB V e1 e2 e3) (S.freshT (.head _)) (S.freshT (.tail _ (.tail _ (.head _)))) (S.get (.head _)) (S.get (.tail _ (.tail _ (.head _)))) (I4 ▸ I3)
  have hrun : ∃ n' T' S' ks' pre r post, n = n' + 1 ∧ T = shr (ofL rs t) * T' ∧ S1 = r.s * S' ∧ ofL rs t = pre ++ r :: post ∧ shr pre ≤ (p : Int) % shr (ofL rs t) ∧ (p : Int) % shr (ofL rs t) < shr pre + r.s ∧
      Run rs n' (r.r ++ pile) (a + 1) ((p : Int) / shr (ofL rs t) * r.s + ((p : Int) % shr (ofL rs t) - shr pre)) w' top p' T' S' ks' := run_ask I1 hc2 hc3 fun n' T' S' ks' pre r post a _ _ b c d e f g => ⟨n', T', S', ks', pre, r, post, a, b, c, d, e, f, g⟩
  refine hide fun Kz kz => ?_
  obtain ⟨n', T', S', ks', pre, r, post, rfl, rfl, rfl, hof, b1, b2, I1'⟩ := hrun
  refine kz ?_
  clear kz Kz
  have hol : 0 < (ofL rs t).length := by rw [hof, List.length_append, List.length_cons]; (clear b2 b1 hof I6 I5 hc3 hrnil hsh hrl y3' hc2 ht y2' hsz2 I11 y4 y3 y2 y1 I15 I14 I9 I8 I7 I4 ll y1' yN yR hra hB e3 e2 e1 hc hh hun hroom; omega)
  have hTpos : 0 < shr (ofL rs t) := by (clear b2 b1 hof I6 I5 hc3 hrnil y3' hc2 ht y2' hsz2 I11 y4 y3 y2 y1 I15 I14 I9 I8 I7 I4 ll y1' yN yR hra hB e3 e2 e1 hc hh hun hroom; omega)
  have hrlp : 0 < (ringF t 0 rs).length := by (clear hol b2 b1 hof I6 I5 hc3 hrnil hsh y3' hc2 ht y2' hsz2 I11 y4 y3 y2 y1 I15 I14 I9 I8 I7 I4 ll y1' yN yR hra hB e3 e2 e1 hc hh hun hroom; omega)
  have hs1 : ∀ q ∈ rs, 1 ≤ q.s := fun q hq => (G.mem hq).2.2.1
  have hjl : p % (ringF t 0 rs).length < (ringF t 0 rs).length := Nat.mod_lt _ hrlp
  refine hide fun Kz kz => ?_
  obtain ⟨i, r', hci, hri, -, -, hof'⟩ := ring_get 0 hs1 (List.getElem?_eq_getElem hjl)
  refine kz ?_
  clear kz Kz
  rw [Nat.zero_add] at hci
  have NP := next_place hs1 (t := t) (p := p) hri hTpos (by rw [G.len]; decide) (by rw [List.getElem?_eq_getElem hjl, hci])
  refine hide fun Kz kz => ?_
  obtain ⟨rfl, rfl, rfl⟩ := part_one (l := ofL rs t) (fun q hq => hs1 q (mem_ofL hq).1) hof NP.2.2.2 b1 b2 NP.2.1 NP.2.2.1
  refine kz ?_
  clear kz Kz
  have hi7 : i < 7 := by have := (List.getElem?_eq_some_iff.mp hri).1; rw [G.len] at this; exact this
  have hrlen := hring.length
  have hr28 : (ringF t 0 rs).length ≤ 28 := by (clear hi7 hof NP hof' hri b2 b1 hci hrlp hTpos I6 I5 hc3 hrnil y3' hc2 ht y2' hsz2 I11 y4 y3 y2 y1 I15 I14 I9 I8 I7 I4 ll y1' yN yR hra hB e3 e2 e1 hc hh hun hroom; omega)
  obtain ⟨trk, hrk⟩ := ints_get hring hjl
  rw [hci] at hrk
  have hp24 : p < 24 := by have := (List.getElem?_eq_some_iff.mp I14).1; (clear hrk hr28 hrlen hi7 hof NP hof' hri b2 b1 hci hrlp hTpos hol I6 I5 hc3 hrnil hsh hrl y3' hc2 ht y2' hsz2 I11 y4 y3 y2 y1 I14 I9 I8 I7 I4 ll y1' yN yR hra hB e3 e2 e1 hc hh hun hroom; omega)
  refine hide fun Kz kz => ?_
  obtain ⟨_, hrv, rla, u1, u2, rra, rvv, rnn, rfl, hrla, hrra, hrint⟩ := hrr.get hri
  refine kz ?_
  clear kz Kz
  have hrm := G.mem (List.mem_of_getElem? hri)
  walk_at "go"
  refine r_len (items := rv.toArray) (S.isList (by k_mem)) (by rw [List.size_toArray]; (clear hrra hrla hrv hp24 hrk hi7 hof NP hof' hri b2 b1 hci hrlp hol I6 I5 hc3 hrnil hsh y3' hc2 ht y2' hsz2 I11 y4 y3 y2 y1 I15 I14 I9 I8 I7 I4 ll y1' yN yR hra hB e3 e2 e1 hc hh hun hroom; omega)) ?_
  intro _ _
  rw [show ((rv.toArray.size : Nat) : Int) = (((ringF t 0 rs).length : Nat) : Int) by rw [List.size_toArray, hrlen]]
  walk_at "go"
  refine i_fmod (by (clear hrra hrla hrv hp24 hrk hi7 hof NP hof' hri b2 b1 hci hrlp hol I6 I5 hc3 hrnil hsh y3' hc2 ht y2' hsz2 I11 y4 y3 y2 y1 I15 I14 I9 I8 I7 I4 ll y1' yN yR hra hB e3 e2 e1 hc hh hun hroom; omega)) ?_
  rw [show ((p : Int)).fmod (((ringF t 0 rs).length : Nat) : Int) = ((p % (ringF t 0 rs).length : Nat) : Int) by rw [Int.fmod_eq_emod_of_nonneg _ (by (clear hrra hrla hrv hp24 hrk hi7 hof NP hof' hri b2 b1 hci hrlp hol I6 I5 hc3 hrnil hsh y3' hc2 ht y2' hsz2 I11 y4 y3 y2 y1 I15 I14 I9 I8 I7 I4 ll y1' yN yR hra hB e3 e2 e1 hc hh hun hroom; omega))]; exact (Int.natCast_emod ..).symm]
  walk_at "go"
  refine r_itemL (items := rv.toArray) (S.isList (by k_mem)) (by (clear hrra hrla hrv hp24 hrk hr28 hrlen hi7 hof NP hof' hri b2 b1 hci hrlp hTpos hol I6 I5 hc3 hrnil hsh hrl y3' hc2 ht y2' hsz2 I11 y4 y3 y2 y1 I15 I14 I9 I8 I7 I4 ll y1' yN yR hra hB e3 e2 e1 hc hh hun hroom; omega)) (by (clear hrra hrla hrv hp24 hrk hi7 hof NP hof' hri b2 b1 hci hrlp hol I6 I5 hc3 hrnil hsh y3' hc2 ht y2' hsz2 I11 y4 y3 y2 y1 I15 I14 I9 I8 I7 I4 ll y1' yN yR hra hB e3 e2 e1 hc hh hun hroom; omega)) (by rw [Int.toNat_natCast, List.getElem?_toArray]; exact hrk) rfl ?_
  walk_at "go"
  refine r_stc S rfl rfl rfl y4 (by walk_at "atf") ?_
  clear S
  intro h₈ o4' y4' S
  repeat (walk_at "n")
  refine r_cut (fun s' => ∃ h' tk' la2 o1' lv2 le2, s' = ⟨h', g, d, tk', o⟩ ∧ o1'.data = .cell (some (.ref la2)) ∧ IntsAre lv2 (keep (fun k => decide ((ringF t 0 rs).getD (k % (ringF t 0 rs).length) 0 = (i : Int))) 0 line) ∧
    St B h.objs.size h' [(Str.ofString "place", .int (p : Int) tp), (Str.ofString "pile", .ref pl), (Str.ofString "told", .ref tl), (Str.ofString "asked", .int (a : Int) ta), (Str.ofString "totals", .int tot tt), (Str.ofString "shares", .int sh ts)] [(la2, lst lv2 le2), (D, lst rv re), (tl, lst tv te), (pl, lst pv' (pe + 1)), (h.objs.size + 1 + 1 + 1 + 1 + 1 + 1, o4'), (h.objs.size + 1 + 1 + 1 + 1 + 1, o3'), (h.objs.size + 1 + 1 + 1 + 1, o2'), (h.objs.size + 1 + 1 + 1, o1'), (h.objs.size + 1 + 1, oN), (h.objs.size + 1, oR)] (tabL q1 q2 q3 [])) ?_ ?_
  · generalize hfd : (fun k => decide ((ringF t 0 rs).getD (k % (ringF t 0 rs).length) 0 = (i : Int))) = fk
    intro Kc hKc
    walk_at "go"
    refine r_comp (B := B) (L := h.objs.size) rfl (by decide) rfl (by decide) (fun _ => rfl) ?_
    intro Ki hKi
    walk_at "go"
    refine r_len (items := lv.toArray) (S.isList (by k_mem)) (by rw [List.size_toArray, I12.length]; (clear hfd y4' hrra hrla hrv hp24 hrk hr28 hrlen hi7 hof NP hof' hri b2 b1 hci hrlp hTpos hol I6 I5 hc3 hrnil hsh hrl y3' hc2 ht y2' hsz2 I11 y4 y3 y2 y1 I14 I9 I8 I7 I4 ll y1' yN yR hra hB e3 e2 e1 hc hh hun hroom; omega)) ?_
    intro _ _
    rw [show ((lv.toArray.size : Nat) : Int) = ((line.length : Nat) : Int) by rw [List.size_toArray, I12.length]]
    walk_at "go"
    refine r_iterRange (n := line.length) S (.head _) (by (clear hfd y4' hrra hrla hrv hp24 hrk hr28 hrlen hi7 hof NP hof' hri b2 b1 hci hrlp hTpos hol I6 I5 hc3 hrnil hsh hrl y3' hc2 ht y2' hsz2 I11 y4 y3 y2 y1 I15 I14 I9 I8 I7 I4 ll y1' yN yR hra hB e3 e2 e1 hc hh hun hroom; omega)) (by decide) (by (clear hfd y4' hrra hrla hrv hp24 hrk hr28 hrlen hi7 hof NP hof' hri b2 b1 hci hrlp hTpos hol I6 I5 hc3 hrnil hsh hrl y3' hc2 ht y2' hsz2 I11 y4 y3 y2 y1 I14 I9 I8 I7 I4 ll y1' yN yR hra hB e3 e2 e1 hc hh hun hroom; omega)) ?_
    clear S
    intro I h₉ S
    refine hKi _ _ _ _ _ _ (S.sub (.cons_cons _ (.cons _ (.refl _)))) ?_
    clear S
    intro oL C F h₁₀ tk₁₀ Z S
    replace S := S.perm (own' := (I, itRg 0 line.length) :: (F, lst [] 0) :: (h.objs.size, oL) :: [(D, lst rv re), (tl, lst tv te), (pl, lst pv' (pe + 1)), (la, lst lv le), (h.objs.size + 1 + 1 + 1 + 1 + 1 + 1, o4'), (h.objs.size + 1 + 1 + 1 + 1 + 1, o3'), (h.objs.size + 1 + 1 + 1 + 1, o2'), (h.objs.size + 1 + 1 + 1, o1), (h.objs.size + 1 + 1, oN), (h.objs.size + 1, oR)]) (List.perm_middle (l₁ := [_, _])).symm
    refine r_cloop (B := B) (n := line.length) (LF := fun _ => True) (fun _ => []) (fun y : List Value × Nat => (F, lst y.1 y.2) :: (h.objs.size, oL) :: [(D, lst rv re), (tl, lst tv te), (pl, lst pv' (pe + 1)), (la, lst lv le), (h.objs.size + 1 + 1 + 1 + 1 + 1 + 1, o4'), (h.objs.size + 1 + 1 + 1 + 1 + 1, o3'), (h.objs.size + 1 + 1 + 1 + 1, o2'), (h.objs.size + 1 + 1 + 1, o1), (h.objs.size + 1 + 1, oN), (h.objs.size + 1, oR)]) (fun _ => tabL q1 q2 q3 [])
      (fun i y => IntsAre y.1 (keep fk 0 (line.take i))) ([], 0) (fun _ _ => rfl) (fun _ _ _ _ _ _ => trivial) .nil (Itr.range (H _) I 0 line.length) (by simp) S (fun Q E hq => r_selfRange (S.get (.head _)) hq) ?_ ?_
    · clear S
      rintro k ⟨yv, ye⟩ h₁₁ tk₁₁ v oI J1 hk ⟨tk', rfl⟩ hI S Kp hKp
      dsimp only at J1 S
      have htk : line.take (k + 1) = line.take k ++ [line[k]] := by
        rw [List.take_add_one, List.getElem?_eq_getElem hk]; rfl
      have hkl : (keep fk 0 (line.take k)).length ≤ 24 := Nat.le_trans (keep_sub 0 _).length_le (by rw [List.length_take]; (clear htk hI hfd y4' hrra hrla hrv hp24 hrk hr28 hrlen hi7 hof NP hof' hri b2 b1 hci hrlp hTpos hol I6 I5 hc3 hrnil hsh hrl y3' hc2 ht y2' hsz2 I11 y4 y3 y2 y1 I14 I9 I8 I7 I4 ll y1' yN yR hra hB e3 e2 e1 hc hh hun hroom; omega))
      have hkm : k % (ringF t 0 rs).length < (ringF t 0 rs).length := Nat.mod_lt _ hrlp
      obtain ⟨tkk, hkk⟩ := ints_get hring hkm
      have hfk : fk k = decide ((ringF t 0 rs)[k % (ringF t 0 rs).length] = (i : Int)) := by
        rw [← hfd]
        dsimp only
        rw [List.getD_eq_getElem?_getD, List.getElem?_eq_getElem hkm]; rfl
      generalize (ringF t 0 rs)[k % (ringF t 0 rs).length] = rk at hkk hfk
      obtain ⟨tc, hcx⟩ := ints_get I12 hk
      walk_at "go"
      refine tests_one ?_
      walk_at "go"
      refine r_len (items := rv.toArray) (S.isList (by k_mem)) (by rw [List.size_toArray]; (clear hcx hfk hkk hkm hkl htk hI hk hfd y4' hrra hrla hrv hp24 hrk hi7 hof NP hof' hri b2 b1 hci hrlp hol I6 I5 hc3 hrnil hsh y3' hc2 ht y2' hsz2 I11 y4 y3 y2 y1 I15 I14 I9 I8 I7 I4 ll y1' yN yR hra hB e3 e2 e1 hc hh hun hroom; omega)) ?_
      intro _ _
      rw [show ((rv.toArray.size : Nat) : Int) = (((ringF t 0 rs).length : Nat) : Int) by rw [List.size_toArray, hrlen]]
      walk_at "go"
      refine i_fmod (by (clear hcx hfk hkk hkm hkl htk hI hk hfd y4' hrra hrla hrv hp24 hrk hi7 hof NP hof' hri b2 b1 hci hrlp hol I6 I5 hc3 hrnil hsh y3' hc2 ht y2' hsz2 I11 y4 y3 y2 y1 I15 I14 I9 I8 I7 I4 ll y1' yN yR hra hB e3 e2 e1 hc hh hun hroom; omega)) ?_
      rw [show ((0 : Int) + (k : Nat)).fmod (((ringF t 0 rs).length : Nat) : Int) = ((k % (ringF t 0 rs).length : Nat) : Int) by rw [Int.zero_add, Int.fmod_eq_emod_of_nonneg _ (by (clear hcx hfk hkk hkm hkl htk hI hk hfd y4' hrra hrla hrv hp24 hrk hi7 hof NP hof' hri b2 b1 hci hrlp hol I6 I5 hc3 hrnil hsh y3' hc2 ht y2' hsz2 I11 y4 y3 y2 y1 I15 I14 I9 I8 I7 I4 ll y1' yN yR hra hB e3 e2 e1 hc hh hun hroom; omega))]; exact (Int.natCast_emod ..).symm]
      walk_at "go"
      refine r_itemL (items := rv.toArray) (S.isList (by k_mem)) (by (clear hcx hfk hkk hkm hkl htk hI hk hfd y4' hrra hrla hrv hp24 hrk hr28 hrlen hi7 hof NP hof' hri b2 b1 hci hrlp hTpos hol I6 I5 hc3 hrnil hsh hrl y3' hc2 ht y2' hsz2 I11 y4 y3 y2 y1 I15 I14 I9 I8 I7 I4 ll y1' yN yR hra hB e3 e2 e1 hc hh hun hroom; omega)) (by (clear hcx hfk hkk hkl htk hI hk hfd y4' hrra hrla hrv hp24 hrk hi7 hof NP hof' hri b2 b1 hci hrlp hol I6 I5 hc3 hrnil hsh y3' hc2 ht y2' hsz2 I11 y4 y3 y2 y1 I15 I14 I9 I8 I7 I4 ll y1' yN yR hra hB e3 e2 e1 hc hh hun hroom; omega)) (by rw [Int.toNat_natCast, List.getElem?_toArray]; exact hkk) rfl ?_
      walk_at "go"
      refine ite_b (fun hl => ?_) (fun hl => ?_)
      · walk_at "go"
        refine r_itemL (items := lv.toArray) (S.isList (by k_mem)) (by (clear hl hcx hfk hkk hkm hkl htk hI hk hfd y4' hrra hrla hrv hp24 hrk hr28 hrlen hi7 hof NP hof' hri b2 b1 hci hrlp hTpos hol I6 I5 hc3 hrnil hsh hrl y3' hc2 ht y2' hsz2 I11 y4 y3 y2 y1 I15 I14 I9 I8 I7 I4 ll y1' yN yR hra hB e3 e2 e1 hc hh hun hroom; omega)) (by (clear hl hcx hfk hkk hkm hkl htk hI hfd y4' hrra hrla hrv hp24 hrk hr28 hrlen hi7 hof NP hof' hri b2 b1 hci hrlp hTpos hol I6 I5 hc3 hrnil hsh hrl y3' hc2 ht y2' hsz2 I11 y4 y3 y2 y1 I14 I9 I8 I7 I4 ll y1' yN yR hra hB e3 e2 e1 hc hh hun hroom; omega)) (by rw [show ((0 : Int) + (k : Nat)).toNat = k by (clear hl hcx hfk hkk hkm hkl htk hI hk hfd y4' hrra hrla hrv hp24 hrk hr28 hrlen hi7 hof NP hof' hri b2 b1 hci hrlp hTpos hol I6 I5 hc3 hrnil hsh hrl y3' hc2 ht y2' hsz2 I11 y4 y3 y2 y1 I15 I14 I9 I8 I7 I4 ll y1' yN yR hra hB e3 e2 e1 hc hh hun hroom; omega), List.getElem?_toArray]; exact hcx) rfl ?_
        walk_at "go"
        refine r_append S (by walk_at "at") (by rw [J1.length]; simp [sizeLine]; (clear hl hcx hfk hkk hkm htk hI hk hfd y4' hrra hrla hrv hp24 hrk hr28 hrlen hi7 hof NP hof' hri b2 b1 hci hrlp hTpos hol I6 I5 hc3 hrnil hsh hrl y3' hc2 ht y2' hsz2 I11 y4 y3 y2 y1 I15 I14 I9 I8 I7 I4 ll y1' yN yR hra hB e3 e2 e1 hc hh hun hroom; omega)) ?_
        clear S
        intro h₁₂ S
        refine hKp (_, _) _ _ ?_ (S.as (by walk_at "has"))
        dsimp only
        rw [htk, keep_snoc, List.length_take, Nat.zero_add, Nat.min_eq_left (by (clear hl hcx hfk hkk hkm hkl htk hI hfd y4' hrra hrla hrv hp24 hrk hr28 hrlen hi7 hof NP hof' hri b2 b1 hci hrlp hTpos hol I6 I5 hc3 hrnil hsh hrl y3' hc2 ht y2' hsz2 I11 y4 y3 y2 y1 I15 I14 I9 I8 I7 I4 ll y1' yN yR hra hB e3 e2 e1 hc hh hun hroom; omega)), hfk, if_pos (by simpa using hl)]
        exact ints_snoc J1 _ _
      · refine hKp (yv, ye) _ _ ?_ (S.as (by walk_at "has"))
        dsimp only
        rw [htk, keep_snoc, List.length_take, Nat.zero_add, Nat.min_eq_left (by (clear hl hcx hfk hkk hkm hkl htk hI hfd y4' hrra hrla hrv hp24 hrk hr28 hrlen hi7 hof NP hof' hri b2 b1 hci hrlp hTpos hol I6 I5 hc3 hrnil hsh hrl y3' hc2 ht y2' hsz2 I11 y4 y3 y2 y1 I15 I14 I9 I8 I7 I4 ll y1' yN yR hra hB e3 e2 e1 hc hh hun hroom; omega)), hfk, if_neg (by simpa using hl), List.append_nil]
        exact J1
    · clear S
      rintro ⟨yv, ye⟩ h₁₁ tk₁₁ J1 S
      dsimp only at J1 S
      rw [List.take_length] at J1
      refine comp_end Z S fun h₁₂ S => ?_
      refine r_stc S rfl rfl rfl y1 (by walk_at "atf") ?_
      clear S
      intro h₁₃ o1' y1' S
      exact hKc _ ⟨_, _, F, o1', yv, ye, rfl, y1', J1, S.sub (.cons_cons _ (.cons_cons _ (.cons_cons _ (.cons_cons _ (.cons _ (.refl _))))))⟩
  clear S
  rintro _ ⟨h₉, tk₉, la2, o1', lv2, le2, rfl, y1', hlv2, S⟩
  walk_at "go"
  refine r_for (B := B) (L := h.objs.size) (n := rvv.toArray.size) (LF := fun h => h.IsList rra rvv.toArray) (fun y : List Value × Nat => [(Str.ofString "pile", .ref pl), (Str.ofString "told", .ref tl), (Str.ofString "asked", .int (a : Int) ta), (Str.ofString "totals", .int tot tt), (Str.ofString "shares", .int sh ts)])
    (fun y => [(la2, lst lv2 le2), (D, lst rv re), (tl, lst tv te), (pl, lst y.1 y.2), (h.objs.size + 1 + 1 + 1 + 1 + 1 + 1, o4'), (h.objs.size + 1 + 1 + 1 + 1 + 1, o3'), (h.objs.size + 1 + 1 + 1 + 1, o2'), (h.objs.size + 1 + 1 + 1, o1'), (h.objs.size + 1 + 1, oN), (h.objs.size + 1, oR)]) (fun _ => tabL q1 q2 q3 []) (fun i y => IntsAre y.1 (pile.reverse ++ r.r.reverse.take i) ∧ i ≤ 3) (pv', pe + 1)
    (fun _ => rfl) (fun _ _ => rfl) (fun i y h I oI _ S => ⟨_, S.base _ _ hrra, rfl, rnn, rfl⟩) ⟨by rw [List.take_zero, List.append_nil]; exact I2', by (clear y1' y4' hrra hrla hrv hp24 hrk hr28 hrlen hi7 hof NP hof' hri b2 b1 hci hrlp hTpos hol I6 I5 hc3 hrnil hsh hrl y3' hc2 ht y2' hsz2 I11 y4 y3 y2 y1 I15 I14 I9 I8 I7 I4 ll yN yR hra hB e3 e2 e1 hc hh hun hroom; omega)⟩ (fun I => Itr.rev (H _) I rra _) ?_ ?_ ?_
  · intro Ki hKi
    walk_at "go"
    refine r_itemL (items := rvs.toArray) ⟨_, S.base _ _ hra, rfl, rn, rfl⟩ (by (clear y1' y4' hrra hrla hrv hp24 hrk hr28 hrlen hof NP hof' hri b2 b1 hci hrlp hTpos hol I6 I5 hc3 hrnil hsh hrl y3' hc2 ht y2' hsz2 I11 y4 y3 y2 y1 I15 I14 I9 I8 I7 I4 ll yN yR hra hB e3 e2 e1 hc hh hun hroom; omega)) (by (clear y1' y4' hrra hrla hrv hp24 hrk hr28 hrlen hof NP hof' hri b2 b1 hci hrlp hTpos hol I6 I5 hc3 hrnil hsh hrl y3' hc2 ht y2' hsz2 I11 y4 y3 y2 y1 I15 I14 I9 I8 I7 I4 ll yN yR hra hB e3 e2 e1 hc hh hun hroom; omega)) (by rw [Int.toNat_natCast, List.getElem?_toArray]; exact hrv) rfl ?_
    walk_at "go"
    refine r_itemT (items := #[_, _, _]) ⟨_, S.base _ _ hrla, rfl, 0, rfl⟩ (by decide) (by decide) (j := 2) (v := .ref rra) rfl rfl rfl ?_
    walk_at "go"
    refine r_rev (items := rvv.toArray) S ⟨_, S.base _ _ hrra, rfl, rnn, rfl⟩ ?_
    clear S
    intro ri h₁₀ S
    refine r_iterRev S (.head _) ?_
    exact hKi _ _ _ _ ⟨Nat.zero_le _, rfl, by simp [revObj]⟩ (S.as (by walk_at "has"))
  · clear S
    rintro k ⟨yv, ye⟩ hx tkx v I oI ⟨z1, z2⟩ hk hv hI S Kp hKp Qv hQv
    dsimp only at z1 z2 S
    rw [List.size_toArray] at hk hv
    have hlen := hrint.length
    refine hide fun Kz kz => ?_
    obtain ⟨f, tl', hrr, _, _, htl', _⟩ := hrm.2.2.2.2
    refine kz ?_
    clear kz Kz
    have hl3 : r.r.length ≤ 3 := by rw [hrr, List.length_cons]; (clear hrr hlen hI hv hk z2 y1' y4' hrra hrla hrv hp24 hrk hr28 hrlen hi7 hof NP hof' hri b2 b1 hci hrlp hTpos hol I6 I5 hc3 hrnil hsh hrl y3' hc2 ht y2' hsz2 I11 y4 y3 y2 y1 I15 I14 I9 I8 I7 I4 ll yN yR hra hB e3 e2 e1 hc hh hun hroom; omega)
    obtain ⟨tc, hcx⟩ := ints_get hrint (i := rvv.length - 1 - k) (by (clear hl3 htl' hrr hI hv y1' y4' hrra hrla hrv hp24 hrk hr28 hrlen hi7 hof NP hof' hri b2 b1 hci hrlp hTpos hol I6 I5 hc3 hrnil hsh hrl y3' hc2 ht y2' hsz2 I11 y4 y3 y2 y1 I15 I14 I9 I8 I7 I4 ll yN yR hra hB e3 e2 e1 hc hh hun hroom; omega))
    rw [List.getElem?_toArray, hcx] at hv
    obtain rfl := Option.some.inj hv
    have htake : r.r.reverse.take (k + 1) = r.r.reverse.take k ++ [r.r[rvv.length - 1 - k]'(by (clear hv hcx hl3 htl' hrr hI y1' y4' hrra hrla hrv hp24 hrk hr28 hrlen hi7 hof NP hof' hri b2 b1 hci hrlp hTpos hol I6 I5 hc3 hrnil hsh hrl y3' hc2 ht y2' hsz2 I11 y4 y3 y2 y1 I15 I14 I9 I8 I7 I4 ll yN yR hra hB e3 e2 e1 hc hh hun hroom; omega))] := by
      rw [List.take_add_one, List.getElem?_reverse (by (clear hv hcx hl3 htl' hrr hI z2 y1' y4' hrra hrla hrv hp24 hrk hr28 hrlen hi7 hof NP hof' hri b2 b1 hci hrlp hTpos hol I6 I5 hc3 hrnil hsh hrl y3' hc2 ht y2' hsz2 I11 y4 y3 y2 y1 I15 I14 I9 I8 I7 I4 ll yN yR hra hB e3 e2 e1 hc hh hun hroom; omega)), show r.r.length - 1 - k = rvv.length - 1 - k by (clear hv hcx hl3 htl' hrr hI z2 y1' y4' hrra hrla hrv hp24 hrk hr28 hrlen hi7 hof NP hof' hri b2 b1 hci hrlp hTpos hol I6 I5 hc3 hrnil hsh hrl y3' hc2 ht y2' hsz2 I11 y4 y3 y2 y1 I15 I14 I9 I8 I7 I4 ll yN yR hra hB e3 e2 e1 hc hh hun hroom; omega), List.getElem?_eq_getElem (by (clear hv hcx hl3 htl' hrr hI y1' y4' hrra hrla hrv hp24 hrk hr28 hrlen hi7 hof NP hof' hri b2 b1 hci hrlp hTpos hol I6 I5 hc3 hrnil hsh hrl y3' hc2 ht y2' hsz2 I11 y4 y3 y2 y1 I15 I14 I9 I8 I7 I4 ll yN yR hra hB e3 e2 e1 hc hh hun hroom; omega))]
      rfl
    generalize r.r[rvv.length - 1 - k]'(by (clear htake hv hcx hl3 htl' hrr hI y1' y4' hrra hrla hrv hp24 hrk hr28 hrlen hi7 hof NP hof' hri b2 b1 hci hrlp hTpos hol I6 I5 hc3 hrnil hsh hrl y3' hc2 ht y2' hsz2 I11 y4 y3 y2 y1 I15 I14 I9 I8 I7 I4 ll yN yR hra hB e3 e2 e1 hc hh hun hroom; omega)) = cc at htake S
    walk_at "go"
    refine r_append S (by walk_at "at") (by rw [z1.length, List.length_append, List.length_reverse, List.length_take]; rw [List.length_cons] at I11; simp [sizeLine]; (clear htake hv hcx hl3 htl' hrr hI y1' y4' hrra hrla hrv hp24 hrk hr28 hrlen hi7 hof NP hof' hri b2 b1 hci hrlp hTpos hol I6 I5 hc3 hrnil hsh hrl y3' hc2 ht y2' hsz2 y4 y3 y2 y1 I15 I14 I8 I7 I4 ll yN yR hra hB e3 e2 e1 hc hh hun hroom; omega)) ?_
    clear S
    intro h₁₁ S
    walk_at "go"
    refine hKp (_, _) _ _ ⟨?_, by (clear htake hv hcx htl' hrr hI y1' y4' hrra hrla hrv hp24 hrk hr28 hrlen hi7 hof NP hof' hri b2 b1 hci hrlp hTpos hol I6 I5 hc3 hrnil hsh hrl y3' hc2 ht y2' hsz2 I11 y4 y3 y2 y1 I15 I14 I9 I8 I7 I4 ll yN yR hra hB e3 e2 e1 hc hh hun hroom; omega)⟩ (S.as (by walk_at "has"))
    rw [htake, ← List.append_assoc]
    exact ints_snoc z1 _ _
  · clear S
    rintro ⟨yv, ye⟩ hx tkx ⟨z1, _⟩ S
    dsimp only at z1 S
    rw [List.size_toArray, hrint.length, List.take_of_length_le (by rw [List.length_reverse]; (clear y1' y4' hrra hrla hrv hp24 hrk hr28 hrlen hi7 hof NP hof' hri b2 b1 hci hrlp hTpos hol I6 I5 hc3 hrnil hsh hrl y3' hc2 ht y2' hsz2 I11 y4 y3 y2 y1 I15 I14 I9 I8 I7 I4 ll yN yR hra hB e3 e2 e1 hc hh hun hroom; omega)), ← List.reverse_append] at z1
    walk_at "go"
    refine r_len (items := rv.toArray) (S.isList (by k_mem)) (by rw [List.size_toArray]; (clear y1' y4' hrra hrla hrv hp24 hrk hi7 hof NP hof' hri b2 b1 hci hrlp hol I6 I5 hc3 hrnil hsh y3' hc2 ht y2' hsz2 I11 y4 y3 y2 y1 I15 I14 I9 I8 I7 I4 ll yN yR hra hB e3 e2 e1 hc hh hun hroom; omega)) ?_
    intro _ _
    rw [show ((rv.toArray.size : Nat) : Int) = shr (ofL rs t) by rw [List.size_toArray, hrlen, hrl]]
    walk_at "go"
    have hT5 : (shr (ofL rs t)).natAbs < 2 ^ 5 := by (clear y1' y4' hrra hrla hrv hp24 hrk hi7 hof NP hof' hri b2 b1 hci hrlp hol I6 I5 hc3 hrnil hsh y3' hc2 ht y2' hsz2 I11 y4 y3 y2 y1 I15 I14 I9 I8 I7 I4 ll yN yR hra hB e3 e2 e1 hc hh hun hroom; omega)
    have hs3 : r.s.natAbs < 2 ^ 3 := by
      have := hrm.2.2.1
      have := hrm.2.2.2.1
      (clear this hT5 y1' y4' hrra hrla hrv hp24 hrk hr28 hrlen hi7 hof NP hof' hri b2 b1 hci hrlp hTpos hol I6 I5 hc3 hrnil hsh hrl y3' hc2 ht y2' hsz2 I11 y4 y3 y2 y1 I15 I14 I9 I8 I7 I4 ll yN yR hra hB e3 e2 e1 hc hh hun hroom; omega)
    refine i_mul (mul_ok (5 * a + 1) 5 I7 hT5 (by (clear hs3 hT5 y1' y4' hrra hrla hrv hp24 hrk hr28 hrlen hi7 hof NP hof' hri b2 b1 hci hrlp hTpos hol I6 I5 hc3 hrnil hsh hrl y3' hc2 ht y2' hsz2 I11 y4 y3 y2 y1 I15 I14 I8 I7 I4 ll yN yR hra hB e3 e2 e1 hc hh hun hroom; omega))) ?_
    walk_at "go"
    refine r_itemL (items := rvs.toArray) ⟨_, S.base _ _ hra, rfl, rn, rfl⟩ (by (clear hs3 hT5 y1' y4' hrra hrla hrv hp24 hrk hr28 hrlen hof NP hof' hri b2 b1 hci hrlp hTpos hol I6 I5 hc3 hrnil hsh hrl y3' hc2 ht y2' hsz2 I11 y4 y3 y2 y1 I15 I14 I9 I8 I7 I4 ll yN yR hra hB e3 e2 e1 hc hh hun hroom; omega)) (by (clear hs3 hT5 y1' y4' hrra hrla hrv hp24 hrk hr28 hrlen hof NP hof' hri b2 b1 hci hrlp hTpos hol I6 I5 hc3 hrnil hsh hrl y3' hc2 ht y2' hsz2 I11 y4 y3 y2 y1 I15 I14 I9 I8 I7 I4 ll yN yR hra hB e3 e2 e1 hc hh hun hroom; omega)) (by rw [Int.toNat_natCast, List.getElem?_toArray]; exact hrv) rfl ?_
    walk_at "go"
    refine r_itemT (items := #[_, _, _]) ⟨_, S.base _ _ hrla, rfl, 0, rfl⟩ (by decide) (by decide) (j := 1) (v := .int r.s u2) rfl rfl rfl ?_
    walk_at "go"
    refine i_mul (mul_ok (3 * a + 1) 3 I8 hs3 (by (clear hs3 hT5 y1' y4' hrra hrla hrv hp24 hrk hr28 hrlen hi7 hof NP hof' hri b2 b1 hci hrlp hTpos hol I6 I5 hc3 hrnil hsh hrl y3' hc2 ht y2' hsz2 I11 y4 y3 y2 y1 I15 I14 I8 I7 I4 ll yN yR hra hB e3 e2 e1 hc hh hun hroom; omega))) ?_
    walk_at "go"
    rw [show (a : Int) + 1 = ((a + 1 : Nat) : Int) by (clear hs3 hT5 y1' y4' hrra hrla hrv hp24 hrk hr28 hrlen hi7 hof NP hof' hri b2 b1 hci hrlp hTpos hol I6 I5 hc3 hrnil hsh hrl y3' hc2 ht y2' hsz2 I11 y4 y3 y2 y1 I15 I14 I9 I8 I7 I4 ll yN yR hra hB e3 e2 e1 hc hh hun hroom; omega)] at S
    refine hide fun Kz kz => ?_
    obtain ⟨f, tl', hrr, f1, f2, htl', htl2⟩ := hrm.2.2.2.2
    refine kz ?_
    clear kz Kz
    replace S := (S.sub (own' := [(la2, lst lv2 le2), (tl, lst tv te), (pl, lst yv ye), (h.objs.size + 1 + 1 + 1 + 1 + 1 + 1, o4'), (h.objs.size + 1 + 1 + 1 + 1 + 1, o3'), (h.objs.size + 1 + 1 + 1 + 1, o2'), (h.objs.size + 1 + 1 + 1, o1'), (h.objs.size + 1 + 1, oN), (h.objs.size + 1, oR)]) (.cons _ (.cons_cons _ (.cons _ (.refl _))))).perm (own' := [(tl, lst tv te), (pl, lst yv ye), (la2, lst lv2 le2), (h.objs.size + 1 + 1 + 1 + 1 + 1 + 1, o4'), (h.objs.size + 1 + 1 + 1 + 1 + 1, o3'), (h.objs.size + 1 + 1 + 1 + 1, o2'), (h.objs.size + 1 + 1 + 1, o1'), (h.objs.size + 1 + 1, oN), (h.objs.size + 1, oR)]) (List.perm_middle (l₁ := [_, _]))
    rw [← NP.1] at I1'
    refine hKp ⟨n', r.r ++ pile, yv, ye, told, tv, te, a + 1, _, tot * shr (ofL rs t), _, sh * r.s, _, _, la2, lv2, le2, _, w', T', S', ks', o1', o2', o3', o4', _, _, _⟩ _ _ (Nat.lt_succ_self _) ⟨I1', z1, I3, I4, ?_, ?_, ?_, ?_, by dsimp only; (clear htl' f2 f1 hrr hs3 hT5 y1' y4' hrra hrla hrv hp24 hrk hi7 hof NP hof' hri b2 b1 hci hrlp hol I6 I5 hrnil hsh y3' hc2 ht y2' hsz2 I11 y4 y3 y2 y1 I15 I14 I8 I7 I4 ll yN yR hra hB e3 e2 e1 hc hh hun hroom; omega), ?_, ?_, hlv2, I13.sublist (keep_sub 0 _), keep_get I14 ?_, ?_, y1', y2', y3', y4'⟩ (S.as (by walk_at "has"))
    · dsimp only
      rw [← I5, Int.mul_assoc]
    · dsimp only
      rw [← I6, Int.mul_assoc]
    · dsimp only
      rw [Int.natAbs_mul, show 5 * (a + 1) + 1 = (5 * a + 1) + 5 by (clear htl' f2 f1 hrr hs3 hT5 y1' y4' hrra hrla hrv hp24 hrk hr28 hrlen hi7 hof NP hof' hri b2 b1 hci hrlp hTpos hol I6 I5 hc3 hrnil hsh hrl y3' hc2 ht y2' hsz2 I11 y4 y3 y2 y1 I15 I14 I9 I8 I7 I4 ll yN yR hra hB e3 e2 e1 hc hh hun hroom; omega), Nat.pow_add]
      exact Nat.mul_lt_mul_of_lt_of_le I7 (Nat.le_of_lt hT5) (by decide)
    · dsimp only
      rw [Int.natAbs_mul, show 3 * (a + 1) + 1 = (3 * a + 1) + 3 by (clear htl' f2 f1 hrr hs3 hT5 y1' y4' hrra hrla hrv hp24 hrk hr28 hrlen hi7 hof NP hof' hri b2 b1 hci hrlp hTpos hol I6 I5 hc3 hrnil hsh hrl y3' hc2 ht y2' hsz2 I11 y4 y3 y2 y1 I15 I14 I9 I8 I7 I4 ll yN yR hra hB e3 e2 e1 hc hh hun hroom; omega), Nat.pow_add]
      exact Nat.mul_lt_mul_of_lt_of_le I8 (Nat.le_of_lt hs3) (by decide)
    · dsimp only
      intro q hq
      rcases List.mem_append.mp hq with hq | hq
      · rw [hrr] at hq
        rcases List.mem_cons.mp hq with rfl | hq
        · (clear hrr htl' hs3 hT5 y1' y4' hrra hrla hrv hp24 hrk hr28 hrlen hi7 hof NP hof' hri b2 b1 hci hrlp hTpos hol I6 I5 hc3 hrnil hsh hrl y3' hc2 ht y2' hsz2 I11 y4 y3 y2 y1 I15 I14 I9 I8 I7 I4 ll yN yR hra hB e3 e2 e1 hc hh hun hroom; omega)
        · have := htl2 q hq; (clear htl' f2 f1 hrr hs3 hT5 y1' y4' hrra hrla hrv hp24 hrk hr28 hrlen hi7 hof NP hof' hri b2 b1 hci hrlp hTpos hol I6 I5 hc3 hrnil hsh hrl y3' hc2 ht y2' hsz2 I11 y4 y3 y2 y1 I15 I14 I9 I8 I7 I4 ll yN yR hra hB e3 e2 e1 hc hh hun hroom; omega)
      · exact I10 q (.tail _ hq)
    · dsimp only
      rw [List.length_append, hrr, List.length_cons]
      rw [List.length_cons] at I11
      (clear f2 f1 hrr hs3 hT5 y1' y4' hrra hrla hrv hp24 hrk hr28 hrlen hi7 hof NP hof' hri b2 b1 hci hrlp hTpos hol I6 I5 hc3 hrnil hsh hrl y3' hc2 ht y2' hsz2 y4 y3 y2 y1 I15 I14 I9 I8 I7 I4 ll yN yR hra hB e3 e2 e1 hc hh hun hroom; omega)
    · simp only [decide_eq_true_eq]
      rw [List.getD_eq_getElem?_getD, List.getElem?_eq_getElem hjl, hci]; rfl
    · exact Nat.le_trans (keep_sub 0 _).length_le I15
end
end -- F15
section -- F19
open PySem PySem.W PyProof.Rows PySem.Calls
set_option Elab.async false
set_option maxRecDepth 100000
set_option maxHeartbeats 4000000
set_option linter.unusedVariables false
structure ES where
  p1 : Array Value
  p2 : Array Value
  p3 : Array Value
  ex : List (Addr × Obj)
theorem lst_ne_tup {vs ws : List Value} {n : Nat} : lst vs n ≠ tup ws := fun e => by
  have h := congrArg Obj.cls e
  injection h with h
  exact absurd h (by decide)
theorem nat_mul {a b : Int} {m k : Nat} (ha : a.natAbs < 2 ^ m) (hb : b.natAbs < 2 ^ k) : (a * b).natAbs < 2 ^ (m + k) := by
  rw [Int.natAbs_mul, Nat.pow_add]
  exact Nat.mul_lt_mul_of_lt_of_le ha (Nat.le_of_lt hb) (Nat.two_pow_pos _)
theorem nat_add {a b : Int} {m : Nat} (ha : a.natAbs < 2 ^ m) (hb : b.natAbs < 2 ^ m) : (a + b).natAbs < 2 ^ (m + 1) := by
  rw [Nat.pow_succ]
  omega
theorem nat_up {a : Int} {m k : Nat} (ha : a.natAbs < 2 ^ m) (h : m ≤ k) : a.natAbs < 2 ^ k := Nat.lt_of_lt_of_le ha (Nat.pow_le_pow_right (by decide) h)
theorem pick_m {t1 t2 tu : Tok} {u : Int} {j : Nat} (hj : j < 3) : ∃ (m : Int) (t : Tok), (#[Value.int 1 t1, Value.int 1 t2, Value.int u tu] : Array Value)[j]? = some (.int m t) ∧ (m = 1 ∨ m = u) := by
  obtain rfl | rfl | rfl : j = 0 ∨ j = 1 ∨ j = 2 := by omega
  · exact ⟨1, t1, rfl, .inl rfl⟩
  · exact ⟨1, t2, rfl, .inl rfl⟩
  · exact ⟨u, tu, rfl, .inr rfl⟩
theorem pick_r {t1 t2 t3 : Tok} {u : Int} {j : Nat} (hj : j < 3) (hu : 0 < u) : ∃ (m : Int) (t : Tok), (#[Value.int 0 t1, Value.int (u - 1) t2, Value.int (u.fdiv 3) t3] : Array Value)[j]? = some (.int m t) ∧ 0 ≤ m ∧ m < u := by
  obtain rfl | rfl | rfl : j = 0 ∨ j = 1 ∨ j = 2 := by (clear hu; omega)
  · exact ⟨0, t1, rfl, by (clear hj hu; omega), by (clear hj; omega)⟩
  · exact ⟨u - 1, t2, rfl, by (clear hj; omega), by (clear hj hu; omega)⟩
  · refine ⟨u.fdiv 3, t3, rfl, ?_⟩
    rw [Int.fdiv_eq_ediv_of_nonneg _ (by decide)]
    (clear hj; omega)
section
variable {w : World} {A : Around} {E : Value → Shared → Prop} {h : Heap} {g : Array GenState} {d : Drawn} {tk : Nat} {o : OsState} {Q : Flow → Shared → Prop} {B : Heap} {L : Addr}
theorem law_D {f : Addr} {cdv : Value} {body : List Stmt} {scope : Scope} {p1 p2 p3 q1 q2 q3 : Array Value} {ex : List (Addr × Obj)} {cl ra ta sa sta : Addr} {cvs rvs tvs svs : List Value} {cs : List Int} {cn rn tn sn : Nat} {rs tb : List Rl} {st : List Int} {u : Int} {tu : Tok} {ob : Obj} {sf : Int → Option Value} {obs : List (Addr × Obj)} (hdf : lawDef w.params = some (body, scope))
   (X : Bs w B) (hh : A.handled = none) (hroom : A.depth + 100 < recursionLimit) (hun : A.units + 200 < cLine) (hfr : A.frames = some [])
   (S : St B L h [(Str.ofString "cells", .ref cl), (Str.ofString "rules", .ref ra), (Str.ofString "table", .ref ta), (Str.ofString "spans", .ref sa), (Str.ofString "starts", .ref sta), (Str.ofString "unit", .int u tu)]
       ((cl, lst cvs cn) :: (ra, lst rvs rn) :: (ta, lst tvs tn) :: (sa, ob) :: (sta, lst svs sn) :: obs) (tabL p1 p2 p3 ex)) (V : TB B ex q1 q2 q3 p1 p2 p3) (hcs : IntsAre cvs cs) (hcl : cs.length = 8) (G : Gr rs)
   (hso : SortedL tb) (hof : ∀ t, ofL tb t = ofL rs t) (htl : tb.length = 7) (htm : ∀ r ∈ tb, r ∈ rs) (hu0 : 0 < u) (hu1 : u < 2 ^ 4133) (J : CI rs tb rvs tvs u 4 ⟨svs, sn, st, ob, sf, obs⟩)
   (hq : ∀ h' tk' l own p1 p2 p3 ex, St B L h' l own (tabL p1 p2 p3 ex) → Q (.ret (.bool true)) ⟨h', g, d, tk', o⟩) :
   wpAny (model pg w) (A.deeper (envOf (Str.ofString "law") scope L f cdv)) (execs (body.drop 8) (envOf (Str.ofString "law") scope L f cdv)) Q E ⟨h, g, d, tk, o⟩ := by
  obtain ⟨le, hle⟩ : ∃ e, e = envOf (Str.ofString "law") scope L f cdv := ⟨_, rfl⟩
  replace hdf : some _ = some _ := hdf
  cases hdf
  have hl1 : le.frame = some L := by rw [hle]; rfl
  have hl2 : le.scope.kind ≠ .module := by
    rw [hle]
    intro e
    cases e
  simp only [List.drop_succ_cons, List.drop_zero]
  have H : ∀ e : Env, (A.deeper e).handled = none := fun _ => hh
  have hunn : u.natAbs < 2 ^ 4133 := by
    have e := hu1
    rw [cast_two] at e
    (clear e hl2 hl1 hle htl hcl hfr hun hroom hh; omega)
  walk_at "go"
  refine r_for (B := B) (L := L) (n := 3) (LF := fun _ => True) (fun y : ES => [(Str.ofString "cells", .ref cl), (Str.ofString "rules", .ref ra), (Str.ofString "table", .ref ta), (Str.ofString "spans", .ref sa), (Str.ofString "starts", .ref sta), (Str.ofString "unit", .int u tu)])
    (fun y => (cl, lst cvs cn) :: (ra, lst rvs rn) :: (ta, lst tvs tn) :: (sa, ob) :: (sta, lst svs sn) :: obs) (fun y => tabL y.p1 y.p2 y.p3 y.ex) (fun _ y => TB B y.ex q1 q2 q3 y.p1 y.p2 y.p3) ⟨p1, p2, p3, ex⟩
    (fun _ => rfl) (fun _ _ => rfl) (fun _ _ _ _ _ _ _ => trivial) V (fun I => Itr.range (H _) I 0 3) ?_ ?_ ?_
  · intro Ki hKi
    walk_at "go"
    refine r_iterRange (n := 3) S (.head _) (by decide) (by decide) (by decide) ?_
    clear S
    intro I h₃ S
    exact hKi _ _ _ _ rfl (S.sub (.cons_cons _ (.cons _ (.refl _))))
  · clear S V
    rintro j ⟨p1, p2, p3, ex⟩ h₁ tk₁ v I oI V hj ⟨tj, rfl⟩ hI S Kp hKp Qv hQv
    dsimp only at V S
    obtain ⟨tc, hcv⟩ := ints_get hcs (i := j) (by (clear hI hunn hl2 hl1 hle hu1 hu0 htl hfr hun hroom hh; omega))
    have hjn : ((0 : Int) + (j : Nat)).toNat = j := by (clear hcv hI hunn hl2 hl1 hle hu1 hu0 htl hcl hfr hun hroom hh; omega)
    walk_at "go"
    refine r_itemL (items := cvs.toArray) (S.isList (.tail _ (.head _))) (by (clear hcv hI hunn hl2 hl1 hle hu1 hu0 htl hcl hfr hun hroom hh; omega)) (by (clear hcv hI hunn hl2 hl1 hle hu1 hu0 htl hcl hfr hun hroom hh; omega)) (by rw [hjn, List.getElem?_toArray]; exact hcv) rfl ?_
    walk_at "go"
    refine i_fmod (by decide) ?_
    walk_at "go"
    refine r_itemL (items := cvs.toArray) (S.isList (.tail _ (.head _))) (by (clear hcv hI hunn hl2 hl1 hle hu1 hu0 htl hcl hfr hun hroom hh; omega)) (by (clear hcv hI hunn hl2 hl1 hle hu1 hu0 htl hcl hfr hun hroom hh; omega)) (by rw [hjn, List.getElem?_toArray]; exact hcv) rfl ?_
    walk_at "go"
    refine i_fdiv (by decide) (PyProof.noPylong_small (by decide)) ?_
    walk_at "go"
    refine i_fmod (by decide) ?_
    walk_at "go"
    have hc24 : 0 ≤ (cs[j]'(by (clear hcv hI hunn hl2 hl1 hle hu1 hu0 htl hfr hun hroom hh; omega))).fmod 24 ∧ (cs[j]'(by (clear hcv hI hunn hl2 hl1 hle hu1 hu0 htl hfr hun hroom hh; omega))).fmod 24 < 24 := by rw [Int.fmod_eq_emod_of_nonneg _ (by decide)]; (clear hcv hI hunn hl2 hl1 hle hu1 hu0 htl hfr hun hroom hh; omega)
    have htr : 0 ≤ ((cs[j]'(by (clear hc24 hcv hI hunn hl2 hl1 hle hu1 hu0 htl hfr hun hroom hh; omega))).fdiv 24).fmod 2001 ∧ ((cs[j]'(by (clear hc24 hcv hI hunn hl2 hl1 hle hu1 hu0 htl hfr hun hroom hh; omega))).fdiv 24).fmod 2001 < 2001 := by rw [Int.fmod_eq_emod_of_nonneg _ (by decide)]; (clear hc24 hcv hI hunn hl2 hl1 hle hu1 hu0 htl hfr hun hroom hh; omega)
    generalize (cs[j]'(by (clear htr hc24 hcv hI hunn hl2 hl1 hle hu1 hu0 htl hfr hun hroom hh; omega))).fmod 24 = c0 at hc24 ⊢
    generalize ((cs[j]'(by (clear hc24 htr hcv hI hunn hl2 hl1 hle hu1 hu0 htl hfr hun hroom hh; omega))).fdiv 24).fmod 2001 = t0 at htr ⊢
    obtain ⟨c, rfl⟩ := Int.eq_ofNat_of_zero_le hc24.1
    obtain ⟨m, tm, hm, hm1⟩ := pick_m (u := u) (j := j) hj
    refine r_itemL (S.isList (.head _)) (by (clear hm1 hm hc24 htr hcv hI hunn hl2 hl1 hle hu1 hu0 htl hcl hfr hun hroom hh; omega)) (by (clear hm1 hm hc24 htr hcv hI hunn hl2 hl1 hle hu1 hu0 htl hcl hfr hun hroom hh; omega)) (by rw [hjn]; exact hm) rfl ?_
    walk_at "go"
    have hmn : m.natAbs < 2 ^ 4133 := by
      rcases hm1 with rfl | rfl
      · exact Nat.one_lt_two_pow (by decide)
      · exact hunn
    have ht0 : (t0 - 1000).natAbs < 2 ^ 11 := by (clear hmn hm1 hm hc24 hjn hcv hI hj hunn hl2 hl1 hle hu1 hu0 htl hcl hfr hun hroom hh; omega)
    refine i_mul (mul_ok 11 4133 ht0 hmn (by decide)) ?_
    have htrn : ((t0 - 1000) * m).natAbs < 2 ^ 4144 := by
      rw [Int.natAbs_mul, show (4144 : Nat) = 11 + 4133 from rfl, Nat.pow_add]
      exact Nat.mul_lt_mul_of_lt_of_le ht0 (Nat.le_of_lt hmn) (Nat.two_pow_pos _)
    generalize (t0 - 1000) * m = tr at htrn ⊢
    walk_at "go"
    refine i_fdiv (by decide) (PyProof.noPylong_small (by decide)) ?_
    walk_at "go"
    obtain ⟨rst, trs, hrs, hr0, hr1⟩ := pick_r (u := u) (j := j) hj hu0
    refine r_itemL (S.isList (.head _)) (by (clear hr1 hr0 hrs htrn ht0 hmn hm1 hm hc24 htr hcv hI hunn hl2 hl1 hle hu1 hu0 htl hcl hfr hun hroom hh; omega)) (by (clear hr1 hr0 hrs htrn ht0 hmn hm1 hm hc24 htr hcv hI hunn hl2 hl1 hle hu1 hu0 htl hcl hfr hun hroom hh; omega)) (by rw [hjn]; exact hrs) rfl ?_
    walk_at "go"
    refine hide fun Kz kz => ?_
    obtain ⟨tn0, tt0, S⟩ : ∃ tn0 tt0, St B L _ [(Str.ofString "rest", .int rst trs), (Str.ofString "n", .int (c : Int) tn0), (Str.ofString "turns", .int tr tt0), (Str.ofString "cells", .ref cl), (Str.ofString "rules", .ref ra), (Str.ofString "table", .ref ta), (Str.ofString "spans", .ref sa), (Str.ofString "starts", .ref sta), (Str.ofString "unit", .int u tu)]
      ((I, oI) :: (cl, lst cvs cn) :: (ra, lst rvs rn) :: (ta, lst tvs tn) :: (sa, ob) :: (sta, lst svs sn) :: obs) (tabL p1 p2 p3 ex) := ⟨_, _, (S.sub (.cons _ (.cons _ (.cons _ (.refl _))))).as (by walk_at "has")⟩
    obtain ⟨n, W, top, p', T, S0, ks, R⟩ := run_ex G 10 [256] 0 (c : Int) (by decide) (by decide) (by intro t ht; simp at ht; (clear hr1 hr0 hrs htrn ht0 hmn hm1 hm hc24 htr hjn hcv hI hj hunn hl2 hl1 hle hu1 hu0 htl hcl hfr hun hroom hh; omega)) (by (clear hr1 hr0 hrs htrn ht0 hmn hm1 hm htr hjn hcv hI hj hunn hl2 hl1 hle hu1 hu0 htl hcl hfr hun hroom hh; omega))
    refine kz ?_
    clear kz Kz
    have RS := run_size G R (by decide) (by (clear hr1 hr0 hrs htrn ht0 hmn hm1 hm htr hjn hcv hI hj hunn hl2 hl1 hle hu1 hu0 htl hcl hfr hun hroom hh; omega))
    refine dealt_ok (rs := rs) (rvs := rvs) (rn := rn) G (X.keeps S.hideT) (S.tabsB V) (S.hidGet (.tail _ (.tail _ (.head _)))) (J.ri.at (fun p hp => S.hidGet (.tail _ (.tail _ (.tail _ (.tail _ (.tail _ (.tail _ hp)))))))) (by show A.depth + 1 + 10 < recursionLimit; (clear RS hr1 hr0 hrs htrn ht0 hmn hm1 hm hc24 htr hjn hcv hI hj hunn hl2 hl1 hle hu1 hu0 htl hcl hfr hun hh; omega)) (by show A.units + 3 + 100 < cLine; (clear RS hr1 hr0 hrs htrn ht0 hmn hm1 hm hc24 htr hjn hcv hI hj hunn hl2 hl1 hle hu1 hu0 htl hcl hfr hroom hh; omega)) (H _) (by (clear RS hr1 hr0 hrs htrn ht0 hmn hm1 hm htr hjn hcv hI hj hunn hl2 hl1 hle hu1 hu0 htl hcl hfr hun hroom hh; omega)) R ?_
    intro h₂ tk₂ r ta' dvs de t1 t2 t3 t4 hP hn1 hn2 ho1 ho2 hdv
    refine hide fun Kz kz => ?_
    obtain ⟨p1, p2, p3, ex, S, V⟩ := S.backN V hP (nw := [(r, tup [.ref ta', .int top t1, .int p' t2, .int T t3, .int S0 t4]), (ta', lst dvs de)]) (fun p hp => by
      rcases List.mem_cons.mp hp with rfl | hp
      · exact ⟨hn1, ho1, fun vs e => nomatch e⟩
      · rw [List.mem_singleton.mp hp]
        exact ⟨hn2, ho2, fun vs e => nomatch e⟩) (by
      simp only [List.map_cons, List.map_nil, List.nodup_cons, List.mem_singleton]
      refine ⟨fun e => ?_, by simp, List.nodup_nil⟩
      rw [e, ho2] at ho1
      exact lst_ne_tup (Option.some.inj ho1))
    refine kz ?_
    clear kz Kz
    replace S : St B L h₂ _ ((r, tup [.ref ta', .int top t1, .int p' t2, .int T t3, .int S0 t4]) :: (ta', lst dvs de) :: (I, oI) :: (cl, lst cvs cn) :: (ra, lst rvs rn) :: (ta, lst tvs tn) :: (sa, ob) :: (sta, lst svs sn) :: obs) (tabL p1 p2 p3 ex) := S
    walk_at "go"
    have e28 : (28 : Int) ^ (3 - 0) = 21952 := by decide
    have e4 : (4 : Int) ^ (3 - 0) = 64 := by decide
    rw [e28, e4] at RS
    have hTn : T.natAbs < 2 ^ 15 := by (clear e4 e28 ho2 ho1 hn2 hn1 hr1 hr0 hrs htrn ht0 hmn hm1 hm hc24 htr hjn hcv hI hj hunn hl2 hl1 hle hu1 hu0 htl hcl hfr hun hroom hh; omega)
    have hSn : S0.natAbs < 2 ^ 7 := by (clear hTn e4 e28 ho2 ho1 hn2 hn1 hr1 hr0 hrs htrn ht0 hmn hm1 hm hc24 htr hjn hcv hI hj hunn hl2 hl1 hle hu1 hu0 htl hcl hfr hun hroom hh; omega)
    refine i_mul (mul_ok 15 4144 hTn htrn (by decide)) ?_
    walk_at "go"
    have hcn : (c : Int).natAbs < 2 ^ 5 := by (clear hSn hTn e4 e28 ho2 ho1 hn2 hn1 RS hr1 hr0 hrs htrn ht0 hmn hm1 hm htr hjn hcv hI hj hunn hl2 hl1 hle hu1 hu0 htl hcl hfr hun hroom hh; omega)
    have hpn : p'.natAbs < 2 ^ 5 := by (clear hcn hSn hTn e4 e28 ho2 ho1 hn2 hn1 hr1 hr0 hrs htrn ht0 hmn hm1 hm htr hjn hcv hI hj hunn hl2 hl1 hle hu1 hu0 htl hcl hfr hun hroom hh; omega)
    have hxn : ((c : Int) + T * tr).natAbs < 2 ^ 4160 := nat_add (nat_up hcn (by decide)) (nat_mul hTn htrn)
    have hdn : (p' + S0 * tr).natAbs < 2 ^ 4160 := nat_add (nat_up hpn (by decide)) (nat_up (nat_mul hSn htrn) (by decide))
    refine i_mul (mul_ok 4133 4160 hunn hxn (by decide)) ?_
    walk_at "go"
    refine i_mul (mul_ok 7 4144 hSn htrn (by decide)) ?_
    walk_at "go"
    refine i_mul (mul_ok 4133 4160 hunn hdn (by decide)) ?_
    walk_at "go"
    have hrn : rst.natAbs < 2 ^ 4133 := by (clear hdn hxn hpn hcn hSn hTn e4 e28 ho2 ho1 hn2 hn1 RS hrs htrn ht0 hmn hm1 hm hc24 htr hjn hcv hI hj hunn hl2 hl1 hle htl hcl hfr hun hroom hh; omega)
    have hu2 : u < 2 ^ 4200 := Int.lt_of_lt_of_le hu1 (two_mono (by decide))
    have hxb : (u * ((c : Int) + T * tr) + rst).natAbs ≤ 2 ^ 9000 := Nat.le_of_lt (nat_up (nat_add (nat_mul hunn hxn) (nat_up hrn (by decide))) (by decide))
    have hdb : (u * (p' + S0 * tr) + rst).natAbs ≤ 2 ^ 9000 := Nat.le_of_lt (nat_up (nat_add (nat_mul hunn hdn) (nat_up hrn (by decide))) (by decide))
    refine hide fun Kz kz => ?_
    obtain ⟨tx, td, S⟩ : ∃ tx td, St B L _ [(Str.ofString "x", .int (u * ((c : Int) + T * tr) + rst) tx), (Str.ofString "due", .int (u * (p' + S0 * tr) + rst) td), (Str.ofString "told", .ref ta'), (Str.ofString "top", .int top t1), (Str.ofString "cells", .ref cl), (Str.ofString "rules", .ref ra), (Str.ofString "table", .ref ta), (Str.ofString "spans", .ref sa), (Str.ofString "starts", .ref sta), (Str.ofString "unit", .int u tu)]
      ((ta', lst dvs de) :: (I, oI) :: (cl, lst cvs cn) :: (ra, lst rvs rn) :: (ta, lst tvs tn) :: (sa, ob) :: (sta, lst svs sn) :: obs) (tabL p1 p2 p3 ex) := ⟨_, _, (S.sub (.cons _ (.cons _ (.refl _)))).as (by walk_at "has")⟩
    obtain ⟨oL, hoL, hdat, hfree⟩ := S.frame
    refine kz ?_
    clear kz Kz
    refine led_ok (L1 := L) (oL := oL) (le := le) (rs := rs) (tb := tb) (st := st) (lo := loT tb) (rest := rst) (c := tr) G (X.keeps S.hideTL)
      (data_of G hso hof htl htm J (S.hidGetL (.tail _ (.tail _ (.tail _ (.tail _ (.head _)))))) (S.hidGetL (.tail _ (.tail _ (.tail _ (.tail _ (.tail _ (.tail _ (.head _)))))))) (S.hidGetL (.tail _ (.tail _ (.tail _ (.tail _ (.tail _ (.head _))))))) (fun p hp => S.hidGetL (.tail _ (.tail _ (.tail _ (.tail _ (.tail _ (.tail _ (.tail _ hp)))))))))
      (S.tabsB V) hoL S.notTabL hdat (by rw [hle]; show A.frames.map _ = some [_]; rw [hfr]; rfl) hl2 hl1 (by show A.depth + 1 + 60 < recursionLimit; (clear hfree hoL hdb hxb hu2 hrn hdn hxn hpn hcn hSn hTn e4 e28 ho2 ho1 hn2 hn1 RS hr1 hr0 hrs htrn ht0 hmn hm1 hm hc24 htr hjn hcv hI hj hunn hl2 hl1 hle hu1 hu0 htl hcl hfr hun hh; omega)) (H _) hu0 hu2 hr0 hr1 R rfl hxb ?_
    intro h₃ tk₃ r2 ta2 vs2 e2 t5 t6 hL2 hn3 hn4 ho3 ho4 hvs2
    refine hide fun Kz kz => ?_
    obtain ⟨p1, p2, p3, ex, S, V⟩ := S.backL V hoL hfree hL2 (nw := [(r2, tup [.ref ta2, .int top t5, .int (u * (p' + S0 * tr) + rst) t6]), (ta2, lst vs2 e2)]) (fun p hp => by
      rcases List.mem_cons.mp hp with rfl | hp
      · exact ⟨hn3, ho3, fun vs e => nomatch e⟩
      · rw [List.mem_singleton.mp hp]
        exact ⟨hn4, ho4, fun vs e => nomatch e⟩) (by
      simp only [List.map_cons, List.map_nil, List.nodup_cons, List.mem_singleton]
      refine ⟨fun e => ?_, by simp, List.nodup_nil⟩
      rw [e, ho4] at ho3
      exact lst_ne_tup (Option.some.inj ho3))
    refine kz ?_
    clear kz Kz
    replace S : St B L h₃ _ ((r2, tup [.ref ta2, .int top t5, .int (u * (p' + S0 * tr) + rst) t6]) :: (ta2, lst vs2 e2) :: (ta', lst dvs de) :: (I, oI) :: (cl, lst cvs cn) :: (ra, lst rvs rn) :: (ta, lst tvs tn) :: (sa, ob) :: (sta, lst svs sn) :: obs) (tabL p1 p2 p3 ex) := S
    walk_at "go"
    refine r_neT (S.get (.tail _ (.head _))) (S.get (.head _)) (S.get (.tail _ (.tail _ (.head _)))) (S.get (.tail _ (.tail _ (.tail _ (.head _))))) hvs2 hdv (by show A.units + 3 + 64 < cLine; (clear ho4 ho3 hn4 hn3 hfree hoL hdb hxb hu2 hrn hdn hxn hpn hcn hSn hTn e4 e28 ho2 ho1 hn2 hn1 RS hr1 hr0 hrs htrn ht0 hmn hm1 hm hc24 htr hjn hcv hI hj hunn hl2 hl1 hle hu1 hu0 htl hcl hfr hroom hh; omega)) ?_
    walk_at "go"
    refine back_ok (rs := rs) (tb := tb) (st := st) (lo := loT tb) (rest := rst) (c := tr) G (X.keeps S.hideT)
      (data_of G hso hof htl htm J (S.hidGet (.tail _ (.tail _ (.tail _ (.tail _ (.tail _ (.tail _ (.tail _ (.head _))))))))) (S.hidGet (.tail _ (.tail _ (.tail _ (.tail _ (.tail _ (.tail _ (.tail _ (.tail _ (.tail _ (.head _))))))))))) (S.hidGet (.tail _ (.tail _ (.tail _ (.tail _ (.tail _ (.tail _ (.tail _ (.tail _ (.head _)))))))))) (fun p hp => S.hidGet (.tail _ (.tail _ (.tail _ (.tail _ (.tail _ (.tail _ (.tail _ (.tail _ (.tail _ (.tail _ hp))))))))))))
      (S.tabsB V) (S.hidGet (.tail _ (.tail _ (.tail _ (.head _))))) hdv (by show A.depth + 1 + 60 < recursionLimit; (clear ho4 ho3 hn4 hn3 hfree hoL hdb hxb hu2 hrn hdn hxn hpn hcn hSn hTn e4 e28 ho2 ho1 hn2 hn1 RS hr1 hr0 hrs htrn ht0 hmn hm1 hm hc24 htr hjn hcv hI hj hunn hl2 hl1 hle hu1 hu0 htl hcl hfr hun hh; omega)) (H _) hu0 hu2 hr0 hr1 R rfl hdb ?_
    intro h₄ tk₄ t7 hP4
    refine hide fun Kz kz => ?_
    obtain ⟨p1, p2, p3, ex, S, V⟩ := S.backB V hP4
    refine kz ?_
    clear kz Kz
    walk_at "go"
    refine ite_nb (fun hc => absurd rfl hc) (fun _ => ?_)
    walk_at "go"
    exact hKp ⟨p1, p2, p3, ex⟩ _ _ V ((S.sub (.cons _ (.cons _ (.cons _ (.cons _ (.refl _)))))).as (by walk_at "has"))
  · clear S V
    rintro ⟨p1, p2, p3, ex⟩ h₂ tk₂ V S
    dsimp only at V S
    walk_at "go"
    exact hq _ _ _ _ _ _ _ _ S
end
end -- F19
section -- F20
open PySem PySem.W PyProof.Rows PySem.Calls
set_option Elab.async false
set_option maxRecDepth 100000
set_option maxHeartbeats 8000000
set_option linter.unusedVariables false
section
variable {w : World} {A : Around} {E : Value → Shared → Prop} {h : Heap} {g : Array GenState} {d : Drawn} {tk : Nat} {o : OsState} {Q : Flow → Shared → Prop} {B : Heap} {L : Addr}
theorem law_ok {f : Addr} {cdv : Value} {body : List Stmt} {scope : Scope} {a : Addr} {vs : List Value} {ns : List Int} {p1 p2 p3 q1 q2 q3 : Array Value} {ex : List (Addr × Obj)} (hdf : lawDef w.params = some (body, scope))
   (X : Bs w B) (hh : A.handled = none) (hroom : A.depth + 100 < recursionLimit) (hun : A.units + 200 < cLine) (hfr : A.frames = some [])
   (S : St B L h [(Str.ofString "script", .ref a)] [] (tabL p1 p2 p3 ex)) (V : TB B ex q1 q2 q3 p1 p2 p3) (ha : B.IsList a vs.toArray) (hi : IntsAre vs ns) (hlen : ns.length ≤ 63)
   (hq : ∀ h' tk' l own p1 p2 p3 ex, St B L h' l own (tabL p1 p2 p3 ex) → Q (.ret (.bool true)) ⟨h', g, d, tk', o⟩) :
   wpAny (model pg w) (A.deeper (envOf (Str.ofString "law") scope L f cdv)) (execs body (envOf (Str.ofString "law") scope L f cdv)) Q E ⟨h, g, d, tk, o⟩ := by
  refine law_A hdf X hh S ha hi hlen ?_
  intro h₁ tk₁ cl ra cvs cn cs rvs rn rs obs S hcs hcl hRI G
  refine law_B hdf X hh hroom S hRI G ?_
  intro h₂ tk₂ ta sa sta tvs tn sn tb S hTI hso hof htl htm
  refine law_C hdf X hh hroom ha hi S hRI G hTI hso hof htl htm ?_
  intro h₃ tk₃ u tu svs sn st ob sf obs S hu0 hu1 J
  exact law_D hdf X hh hroom hun hfr S V hcs hcl G hso hof htl htm hu0 hu1 J hq
end
end -- F20
end Mine
end
section
open PySem PySem.W PyProof.Rows
set_option Elab.async false
set_option maxRecDepth 100000 in
set_option maxHeartbeats 8000000 in
theorem PySem.Challenge.cw_rs0144_01_holds : PySem.Challenge.rw_rs0144_01.Holds :=
  Mine.hd (by
  k_go0
  rename_i ns hs hlay0 hL1 hr1 hl2 as4 as3 a vs as0 hL ra w1 r0 hI hr hc1 hc2 hD h₁ X' T' K' F' c1 c2 N' l0
  refine Mine.law_ok (A := callerA) (B := ghostOf _ [(129, 125), (68, 64), (61, 57)]) (a := a) (vs := vs) (ns := ns) (p1 := #[]) (p2 := #[]) (p3 := #[]) (q1 := #[]) (q2 := #[]) (q3 := #[]) (ex := []) rfl ⟨X', _, _, _, _, topRead_of T', T'.bmain⟩ rfl (by decide) (by rw [cLine_is]; decide) rfl
    ⟨⟨_, F', fun x v e => e⟩, ?hn, ?hd⟩ ⟨.inl ⟨rfl, .inl rfl⟩, .inl ⟨rfl, .inl rfl⟩, .inl ⟨rfl, .inl rfl⟩⟩ lifted hI (by omega) ?hq
  case hn =>
    intro p hp
    rcases List.mem_cons.mp hp with rfl | hp
    · exact N' _ (.tail _ (.tail _ (.head _)))
    rcases List.mem_cons.mp hp with rfl | hp
    · exact N' _ (.tail _ (.head _))
    rcases List.mem_cons.mp hp with rfl | hp
    · exact N' _ (.head _)
    cases hp
  case hd => decide
  case hq =>
    intro h' tk' l own p1 p2 p3 ex S
    obtain ⟨m, F, _⟩ := S.fr
    exact ⟨goodW_bool F (by assumption) (fun _ => rfl) (postW_of rfl (w_eq_bool (w_res rfl) w_lit) (by first | rfl | decide | w_fin)), ⟨_, (S.tab (.tail _ (.tail _ (.head _)))).1⟩, ⟨_, (S.tab (.tail _ (.head _))).1⟩, ⟨_, (S.tab (.head _)).1⟩, trivial⟩)
end
