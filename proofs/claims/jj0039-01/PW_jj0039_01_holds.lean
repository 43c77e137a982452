import PyProof.Rows.All
import Wide.All
import OpenK.AllK
import Wide.FinOn
import Lean
import PySem.Challenge.RW_jj0039_01
open PySem PySem.W PyProof.Rows PySem.Spec PySem.Calls
set_option Elab.async false
set_option compiler.extract_closed false
namespace Mine
section
local macro_rules | `(tactic| o_head $_) => `(tactic| assumption)
set_option maxRecDepth 100000 in
set_option maxHeartbeats 8000000 in
set_option Elab.async true in
-- k0 says nothing: its proof has the kit write the heap behind the module's top out as one constant, k0.heap_1_1, and then gives the premise back
theorem k0 (_h : PySem.Challenge.rw_jj0039_01.row.Holds) : PySem.Challenge.rw_jj0039_01.row.Holds := by
  w_on
  k_head
end

abbrev Led := List (Addr × Obj)

/-- a contract of a tree, said from under any caller, over any ledger -/
def Ctr (w : World) (p : Program) (loose : List Str) (mean : ExcName → Option Value) (mg mb : Str → Option Value) (D U : Nat) (P : Led → Prop) (t : Sem Value) (Post : Led → Value → Led → Prop) : Prop :=
  ∀ (dp un : Nat) (gd : Option (List Code)) (cn : Str) (cs : Scope) (a : Addr) (ccd : Value) (cl : List (Str × Addr)) (outer : List Env) (A₀ : Around) (base h₀ : Heap) (L : Addr) (m : Str → Option Value) (news : Led) (s : Shared)
    (Q E : Value → Shared → Prop),
    Below A₀ base outer h₀ → Fr h₀ L s.heap m → (k0.heap_1_1 w.params).In h₀ → News h₀ L s.heap news → Top p loose mean mg mb h₀ → cs.kind = .function → P news → dp + D < recursionLimit → un + U < cLine →
    (∀ r h' tk' news', Fr h₀ L h' m → News h₀ L h' news' → Post news r news' → Q r { s with heap := h', toks := tk' }) →
    wpAny (model PySem.Challenge.rw_jj0039_01.row.prog w) (ktrTop dp un gd cn cs L a ccd cl outer) t Q E s

/-- a contract of a tree of no value -/
def CtrU (w : World) (p : Program) (loose : List Str) (mean : ExcName → Option Value) (mg mb : Str → Option Value) (D U : Nat) (P : Led → Prop) (t : Sem Unit) (Post : Led → Led → Prop) : Prop :=
  ∀ (dp un : Nat) (gd : Option (List Code)) (cn : Str) (cs : Scope) (a : Addr) (ccd : Value) (cl : List (Str × Addr)) (outer : List Env) (A₀ : Around) (base h₀ : Heap) (L : Addr) (m : Str → Option Value) (news : Led) (s : Shared)
    (Q : Unit → Shared → Prop) (E : Value → Shared → Prop),
    Below A₀ base outer h₀ → Fr h₀ L s.heap m → (k0.heap_1_1 w.params).In h₀ → News h₀ L s.heap news → Top p loose mean mg mb h₀ → cs.kind = .function → P news → dp + D < recursionLimit → un + U < cLine →
    (∀ h' tk' news', Fr h₀ L h' m → News h₀ L h' news' → Post news news' → Q () { s with heap := h', toks := tk' }) →
    wpAny (model PySem.Challenge.rw_jj0039_01.row.prog w) (ktrTop dp un gd cn cs L a ccd cl outer) t Q E s

/-- one quad-edge object as the ledger bears it -/
def Qo (news : Led) (ctx : Value) (x d : Addr) (l r : Addr) (st : Value) : Prop :=
  ∃ (h1 h2 h3 h4 : Int) (t1 t2 t3 t4 : Tok) (n : Nat), (x, instObj 156 d) ∈ news ∧
    (d, dictOf [⟨h1, .str (Str.ofString "_context") t1, ctx⟩, ⟨h2, .str (Str.ofString "_left_from_start") t2, .ref l⟩, ⟨h3, .str (Str.ofString "_rotated") t3, .ref r⟩, ⟨h4, .str (Str.ofString "_start") t4, st⟩] n) ∈ news

noncomputable def ro (j : Nat) : Nat := 4 * (j / 4) + (j + 1) % 4
noncomputable def upd {α : Type} (f : Nat → α) (i : Nat) (v : α) : Nat → α := fun j => if j = i then v else f j

structure Gr (news : Led) (ctx : Addr) (N : Nat) (ob dc : Nat → Addr) (lf : Nat → Nat) (st : Nat → Value) : Prop where
  four : N % 4 = 0
  at_ : ∀ j, j < N → Qo news (.ref ctx) (ob j) (dc j) (ob (lf j)) (ob (ro j)) (st j)
  inj : ∀ i j, i < N → j < N → dc i = dc j → i = j
  lt : ∀ j, j < N → lf j < N
  flat : ∀ j, j < N → handedIn (st j) = true

theorem ro_lt {N j : Nat} (h4 : N % 4 = 0) (h : j < N) : ro j < N := by unfold ro; omega
theorem Gr.ro_lt {news : Led} {ctx : Addr} {N : Nat} {ob dc : Nat → Addr} {lf : Nat → Nat} {st : Nat → Value} (G : Gr news ctx N ob dc lf st) {j : Nat} (h : j < N) : ro j < N := Mine.ro_lt G.four h

/-- every object that is no dict is kept -/
def KeepND (news news' : Led) : Prop := ∀ p ∈ news, p.2.cls ≠ .type "dict" → p ∈ news'
theorem KeepND.refl {news : Led} : KeepND news news := fun _ h _ => h
theorem KeepND.trans {a b c : Led} (x : KeepND a b) (y : KeepND b c) : KeepND a c := fun p h k => y p (x p h k) k

local macro_rules | `(tactic| k_room) => `(tactic| ktr_room)
local macro_rules | `(tactic| k_units) => `(tactic| ktr_units)
local macro_rules | `(tactic| k_enter) => `(tactic| (refine' code_def ?k1 ?k2 ?k3 ?k4 ?k5 ?kA ?kF ?kK ?k6 ?k7 ?k8 ?k9 ?kB ?_ ?c2 ?c3 ?c4 ?c5; (case kA | kF => exact rfl); (case kK => first | exact rfl | assumption); (case k1 | k2 | k3 | k4 | k5 => k_asm); (case k6 | k7 => k_is); (case k8 => ktr_room); (case k9 => first | exact BindsTo.of_eq rfl | exact binds_K (by k_in) rfl (by k_is) rfl rfl rfl); (case c5 => decide); (case kB => exact locs rfl); (case c2 | c3 | c4 => exact rfl); k_whole; intro g' L' h' FG' F' N' B' X' T'; (try dsimp only); (try k_lift B'); (try k_fold)))
local macro_rules | `(tactic| k_handed) => `(tactic| assumption)




section
variable {w : World} {p : Program} {loose : List Str} {mean : ExcName → Option Value} {mg mb : Str → Option Value} {ctx : Addr} {N : Nat} {ob dc : Nat → Addr} {lf : Nat → Nat} {st : Nat → Value} {pl : Bool} {j : Nat} {x : Addr}

set_option maxRecDepth 100000 in
set_option maxHeartbeats 8000000 in
theorem get_rotated (hx : x = ob j) (hj : j < N) : Ctr w p loose mean mg mb 4 40 (fun news => Gr news ctx N ob dc lf st) (getAttr (.ref x) (Str.ofString "rotated") pl) (fun news r news' => r = .ref (ob (ro j)) ∧ news' = news) := by
  subst hx
  intro dp un gd cn cs a ccd cl outer A₀ base h₀ L m news s Q E B F X N T hk hP hd hu hret
  obtain ⟨h1, h2, h3, h4, t1, t2, t3, t4, n, hP1, hP2⟩ := hP.at_ j hj
  k_steps
  exact hret _ _ _ _ (by k_asm) (by k_asm) ⟨rfl, rfl⟩

set_option maxRecDepth 100000 in
set_option maxHeartbeats 8000000 in
theorem get_left (hx : x = ob j) (hj : j < N) : Ctr w p loose mean mg mb 4 40 (fun news => Gr news ctx N ob dc lf st) (getAttr (.ref x) (Str.ofString "left_from_start") pl) (fun news r news' => r = .ref (ob (lf j)) ∧ news' = news) := by
  subst hx
  intro dp un gd cn cs a ccd cl outer A₀ base h₀ L m news s Q E B F X N T hk hP hd hu hret
  obtain ⟨h1, h2, h3, h4, t1, t2, t3, t4, n, hP1, hP2⟩ := hP.at_ j hj
  k_steps
  exact hret _ _ _ _ (by k_asm) (by k_asm) ⟨rfl, rfl⟩

set_option maxRecDepth 100000 in
set_option maxHeartbeats 8000000 in
theorem get_start (hx : x = ob j) (hj : j < N) : Ctr w p loose mean mg mb 4 40 (fun news => Gr news ctx N ob dc lf st) (getAttr (.ref x) (Str.ofString "start") pl) (fun news r news' => r = st j ∧ news' = news) := by
  subst hx
  intro dp un gd cn cs a ccd cl outer A₀ base h₀ L m news s Q E B F X N T hk hP hd hu hret
  obtain ⟨h1, h2, h3, h4, t1, t2, t3, t4, n, hP1, hP2⟩ := hP.at_ j hj
  have hfl := hP.flat j hj
  k_steps
  refine handed_on hfl ?_
  exact hret _ _ _ _ (by k_asm) (by k_asm) ⟨rfl, rfl⟩

set_option maxRecDepth 100000 in
set_option maxHeartbeats 8000000 in
theorem get_context (hx : x = ob j) (hj : j < N) : Ctr w p loose mean mg mb 4 40 (fun news => Gr news ctx N ob dc lf st) (getAttr (.ref x) (Str.ofString "context") pl) (fun news r news' => r = .ref ctx ∧ news' = news) := by
  subst hx
  intro dp un gd cn cs a ccd cl outer A₀ base h₀ L m news s Q E B F X N T hk hP hd hu hret
  obtain ⟨h1, h2, h3, h4, t1, t2, t3, t4, n, hP1, hP2⟩ := hP.at_ j hj
  k_steps
  exact hret _ _ _ _ (by k_asm) (by k_asm) ⟨rfl, rfl⟩
end



theorem Ctr.use {w : World} {p : Program} {loose : List Str} {mean : ExcName → Option Value} {mg mb : Str → Option Value} {D U : Nat} {P : Led → Prop} {t : Sem Value} {Post : Led → Value → Led → Prop}
    {dp un : Nat} {gd : Option (List Code)} {cn : Str} {cs : Scope} {a : Addr} {ccd : Value} {cl : List (Str × Addr)} {outer : List Env} {A₀ : Around} {base h₀ : Heap} {L : Addr} {m : Str → Option Value} {news : Led} {s : Shared}
    {Q E : Value → Shared → Prop} (C : Ctr w p loose mean mg mb D U P t Post)
    (B : Below A₀ base outer h₀) (F : Fr h₀ L s.heap m) (X : (k0.heap_1_1 w.params).In h₀) (N : News h₀ L s.heap news) (T : Top p loose mean mg mb h₀) (hk : cs.kind = .function) (hP : P news) (hd : dp + D < recursionLimit) (hu : un + U < cLine)
    (ret : ∀ r h' tk' news', Fr h₀ L h' m → News h₀ L h' news' → Post news r news' → Q r { s with heap := h', toks := tk' }) :
    wpAny (model PySem.Challenge.rw_jj0039_01.row.prog w) (ktrTop dp un gd cn cs L a ccd cl outer) t Q E s := C _ _ _ _ _ _ _ _ _ _ _ _ _ _ _ _ _ _ B F X N T hk hP hd hu ret

theorem CtrU.use {w : World} {p : Program} {loose : List Str} {mean : ExcName → Option Value} {mg mb : Str → Option Value} {D U : Nat} {P : Led → Prop} {t : Sem Unit} {Post : Led → Led → Prop}
    {dp un : Nat} {gd : Option (List Code)} {cn : Str} {cs : Scope} {a : Addr} {ccd : Value} {cl : List (Str × Addr)} {outer : List Env} {A₀ : Around} {base h₀ : Heap} {L : Addr} {m : Str → Option Value} {news : Led} {s : Shared}
    {Q : Unit → Shared → Prop} {E : Value → Shared → Prop} (C : CtrU w p loose mean mg mb D U P t Post)
    (B : Below A₀ base outer h₀) (F : Fr h₀ L s.heap m) (X : (k0.heap_1_1 w.params).In h₀) (N : News h₀ L s.heap news) (T : Top p loose mean mg mb h₀) (hk : cs.kind = .function) (hP : P news) (hd : dp + D < recursionLimit) (hu : un + U < cLine)
    (ret : ∀ h' tk' news', Fr h₀ L h' m → News h₀ L h' news' → Post news news' → Q () { s with heap := h', toks := tk' }) :
    wpAny (model PySem.Challenge.rw_jj0039_01.row.prog w) (ktrTop dp un gd cn cs L a ccd cl outer) t Q E s := C _ _ _ _ _ _ _ _ _ _ _ _ _ _ _ _ _ _ B F X N T hk hP hd hu ret

structure Ext (N : Nat) (ob ob' : Nat → Addr) : Prop where
  eq : ∀ j, j < N → ob' j = ob j
theorem Ext.to {N : Nat} {ob ob' : Nat → Addr} (h : Ext N ob ob') {j : Nat} (hj : j < N) : ob j = ob' j := (h.eq j hj).symm
theorem lt4 {j N : Nat} (h : j < N) : j < N + 4 := by omega
theorem lt40 {N : Nat} : N < N + 4 := by omega
local macro_rules | `(tactic| ktr_rel) => `(tactic| first | exact rfl | assumption | with_reducible exact lt40 | with_reducible exact lt4 (by assumption) | exact Gr.ro_lt (by assumption) (by ktr_rel) | exact Gr.lt (by assumption) _ (by ktr_rel) | with_reducible exact Ext.to (by assumption) (by assumption))
-- what every call of a contract begins with; what is left: its condition, then the rest
local macro_rules | `(tactic| ktr_call 99 $c:term) => `(tactic| (
  (refine' Ctr.use $c ?k1 ?k2 ?k3 ?k4 ?k5 ?kK ?kP ?kd ?ku ?kR)
  (case k1 | k2 | k3 | k4 | k5 => k_asm)
  (case kK => first | exact rfl | assumption)
  (case kd => ktr_room)
  (case ku => ktr_units)
  (case' kR => skip)
  (case' kP => skip)))
-- a reading contract at its call (the first term is a dummy)
local macro_rules | `(tactic| ktr_call () $c:term) => `(tactic| (
  ktr_call 99 $c
  (ktr_rel)
  (all_goals (try with_reducible exact rfl))
  (all_goals (try with_reducible exact Ext.to (by assumption) (by assumption)))
  (all_goals (first | ktr_rel | (intro r9 h9 tk9 news9 F9 N9 o9; obtain ⟨e9, e8⟩ := o9; subst e9; subst e8; (try dsimp only); (try k_fold))))))
local macro_rules | `(tactic| walk_at "getAttr ref") => `(tactic| (k_here; (with_reducible show wpAny _ _ (getAttr (Value.ref _) (PySem.Str.ofString "rotated") _) _ _ _); k_dflt (ktr_call () (get_rotated _ _))))
local macro_rules | `(tactic| walk_at "getAttr ref") => `(tactic| (k_here; (with_reducible show wpAny _ _ (getAttr (Value.ref _) (PySem.Str.ofString "left_from_start") _) _ _ _); k_dflt (ktr_call () (get_left _ _))))
local macro_rules | `(tactic| walk_at "getAttr ref") => `(tactic| (k_here; (with_reducible show wpAny _ _ (getAttr (Value.ref _) (PySem.Str.ofString "start") _) _ _ _); k_dflt (ktr_call () (get_start _ _))))

section
variable {w : World} {p : Program} {loose : List Str} {mean : ExcName → Option Value} {mg mb : Str → Option Value} {ctx : Addr} {N : Nat} {ob dc : Nat → Addr} {lf : Nat → Nat} {st : Nat → Value} {pl : Bool} {j : Nat} {x : Addr}

set_option maxRecDepth 100000 in
set_option maxHeartbeats 8000000 in
theorem get_opposite (hx : x = ob j) (hj : j < N) : Ctr w p loose mean mg mb 8 80 (fun news => Gr news ctx N ob dc lf st) (getAttr (.ref x) (Str.ofString "opposite") pl) (fun news r news' => r = .ref (ob (ro (ro j))) ∧ news' = news) := by
  subst hx
  intro dp un gd cn cs a ccd cl outer A₀ base h₀ L m news s Q E B F X N T hk hP hd hu hret
  obtain ⟨h1, h2, h3, h4, t1, t2, t3, t4, n, hP1, hP2⟩ := hP.at_ j hj
  k_steps
  exact hret _ _ _ _ (by k_asm) (by k_asm) ⟨rfl, rfl⟩

end
local macro_rules | `(tactic| walk_at "getAttr ref") => `(tactic| (k_here; (with_reducible show wpAny _ _ (getAttr (Value.ref _) (PySem.Str.ofString "opposite") _) _ _ _); k_dflt (ktr_call () (get_opposite _ _))))
section
variable {w : World} {p : Program} {loose : List Str} {mean : ExcName → Option Value} {mg mb : Str → Option Value} {ctx : Addr} {N : Nat} {ob dc : Nat → Addr} {lf : Nat → Nat} {st : Nat → Value} {pl : Bool} {j : Nat} {x : Addr}
set_option maxRecDepth 100000 in
set_option maxHeartbeats 8000000 in
theorem get_end (hx : x = ob j) (hj : j < N) : Ctr w p loose mean mg mb 12 120 (fun news => Gr news ctx N ob dc lf st) (getAttr (.ref x) (Str.ofString "end") pl) (fun news r news' => r = st (ro (ro j)) ∧ news' = news) := by
  subst hx
  intro dp un gd cn cs a ccd cl outer A₀ base h₀ L m news s Q E B F X N T hk hP hd hu hret
  obtain ⟨h1, h2, h3, h4, t1, t2, t3, t4, n, hP1, hP2⟩ := hP.at_ j hj
  have hfl := hP.flat _ (hP.ro_lt (hP.ro_lt hj))
  k_steps
  refine handed_on hfl ?_
  exact hret _ _ _ _ (by k_asm) (by k_asm) ⟨rfl, rfl⟩

set_option maxRecDepth 100000 in
set_option maxHeartbeats 8000000 in
theorem get_left_end (hx : x = ob j) (hj : j < N) : Ctr w p loose mean mg mb 12 120 (fun news => Gr news ctx N ob dc lf st) (getAttr (.ref x) (Str.ofString "left_from_end") pl) (fun news r news' => r = .ref (ob (ro (lf (ro (ro (ro j)))))) ∧ news' = news) := by
  subst hx
  intro dp un gd cn cs a ccd cl outer A₀ base h₀ L m news s Q E B F X N T hk hP hd hu hret
  obtain ⟨h1, h2, h3, h4, t1, t2, t3, t4, n, hP1, hP2⟩ := hP.at_ j hj
  k_steps
  exact hret _ _ _ _ (by k_asm) (by k_asm) ⟨rfl, rfl⟩

set_option maxRecDepth 100000 in
set_option maxHeartbeats 8000000 in
theorem get_right_end (hx : x = ob j) (hj : j < N) : Ctr w p loose mean mg mb 12 120 (fun news => Gr news ctx N ob dc lf st) (getAttr (.ref x) (Str.ofString "right_from_end") pl) (fun news r news' => r = .ref (ob (lf (ro (ro j)))) ∧ news' = news) := by
  subst hx
  intro dp un gd cn cs a ccd cl outer A₀ base h₀ L m news s Q E B F X N T hk hP hd hu hret
  obtain ⟨h1, h2, h3, h4, t1, t2, t3, t4, n, hP1, hP2⟩ := hP.at_ j hj
  k_steps
  exact hret _ _ _ _ (by k_asm) (by k_asm) ⟨rfl, rfl⟩

set_option maxRecDepth 100000 in
set_option maxHeartbeats 8000000 in
theorem get_right (hx : x = ob j) (hj : j < N) : Ctr w p loose mean mg mb 12 120 (fun news => Gr news ctx N ob dc lf st) (getAttr (.ref x) (Str.ofString "right_from_start") pl) (fun news r news' => r = .ref (ob (ro (lf (ro j)))) ∧ news' = news) := by
  subst hx
  intro dp un gd cn cs a ccd cl outer A₀ base h₀ L m news s Q E B F X N T hk hP hd hu hret
  obtain ⟨h1, h2, h3, h4, t1, t2, t3, t4, n, hP1, hP2⟩ := hP.at_ j hj
  k_steps
  exact hret _ _ _ _ (by k_asm) (by k_asm) ⟨rfl, rfl⟩
end



theorem news_func {h₀ h : Heap} {L : Addr} {news : Led} (N : News h₀ L h news) {a : Addr} {o o' : Obj} (h1 : (a, o) ∈ news) (h2 : (a, o') ∈ news) : o = o' :=
  Option.some.inj ((N _ h1).1.symm.trans (N _ h2).1)
theorem news_split {h₀ h : Heap} {L : Addr} {news : Led} (N : News h₀ L h news) {d : Addr} {o : Obj} (hm : (d, o) ∈ news) : News h₀ L h ((d, o) :: news.filter (fun p => decide (p.1 ≠ d))) := by
  intro p hp
  rcases List.mem_cons.mp hp with rfl | hp
  · exact N _ hm
  · exact N _ (List.mem_filter.mp hp).1
theorem filter_off {news : Led} {d : Addr} : ∀ p ∈ news.filter (fun p => decide (p.1 ≠ d)), p.1 ≠ d := fun p hp => of_decide_eq_true (List.mem_filter.mp hp).2
theorem mem_off {news : Led} {d : Addr} {p : Addr × Obj} (hp : p ∈ news) (hd : p.1 ≠ d) : p ∈ news.filter (fun p => decide (p.1 ≠ d)) := List.mem_filter.mpr ⟨hp, decide_eq_true hd⟩

theorem upd_self {α : Type} (f : Nat → α) (i : Nat) (v : α) : upd f i v i = v := by unfold upd; rw [if_pos rfl]
theorem upd_ne {α : Type} (f : Nat → α) {i j : Nat} (v : α) (h : j ≠ i) : upd f i v j = f j := by unfold upd; rw [if_neg h]

theorem Qo.mono {news news' : Led} {ctx : Value} {x d l r : Addr} {st : Value} (q : Qo news ctx x d l r st) (hx : ∀ o, (x, o) ∈ news → (x, o) ∈ news') (hd : ∀ o, (d, o) ∈ news → (d, o) ∈ news') : Qo news' ctx x d l r st :=
  let ⟨h1, h2, h3, h4, t1, t2, t3, t4, n, a, b⟩ := q
  ⟨h1, h2, h3, h4, t1, t2, t3, t4, n, hx _ a, hd _ b⟩
theorem Gr.mono {news news' : Led} {ctx : Addr} {N : Nat} {ob dc : Nat → Addr} {lf : Nat → Nat} {st : Nat → Value} (G : Gr news ctx N ob dc lf st) (h : ∀ p ∈ news, p ∈ news') : Gr news' ctx N ob dc lf st :=
  ⟨G.four, fun j hj => (G.at_ j hj).mono (fun _ e => h _ e) fun _ e => h _ e, G.inj, G.lt, G.flat⟩
/-- no object's address is another one's dict's -/
theorem Gr.ob_ne {h₀ h : Heap} {L : Addr} {news : Led} {ctx : Addr} {N : Nat} {ob dc : Nat → Addr} {lf : Nat → Nat} {st : Nat → Value} (W : News h₀ L h news) (G : Gr news ctx N ob dc lf st) {i j : Nat} (hi : i < N) (hj : j < N) : ob i ≠ dc j := by
  obtain ⟨_, _, _, _, _, _, _, _, _, a, _⟩ := G.at_ i hi
  obtain ⟨_, _, _, _, _, _, _, _, _, _, b⟩ := G.at_ j hj
  intro e
  rw [e] at a
  have := news_func W a b
  cases this
theorem Gr.put {h₀ h : Heap} {L : Addr} {news news' : Led} {ctx : Addr} {N : Nat} {ob dc : Nat → Addr} {lf lf' : Nat → Nat} {st st' : Nat → Value} (W : News h₀ L h news) (G : Gr news ctx N ob dc lf st) {j : Nat} (hj : j < N)
    (hk : ∀ p ∈ news, p.1 ≠ dc j → p ∈ news') (hq : Qo news' (.ref ctx) (ob j) (dc j) (ob (lf' j)) (ob (ro j)) (st' j)) (h1 : ∀ i, i ≠ j → lf' i = lf i) (h2 : ∀ i, i ≠ j → st' i = st i) (h3 : lf' j < N) (h4 : handedIn (st' j) = true) :
    Gr news' ctx N ob dc lf' st' := by
  refine ⟨G.four, fun i hi => ?_, G.inj, fun i hi => ?_, fun i hi => ?_⟩
  · by_cases e : i = j
    · rw [e]; exact hq
    · rw [h1 i e, h2 i e]
      exact (G.at_ i hi).mono (fun o ho => hk _ ho (G.ob_ne W hi hj)) fun o ho => hk _ ho fun z => e (G.inj i j hi hj z)
  · by_cases e : i = j
    · rw [e]; exact h3
    · rw [h1 i e]; exact G.lt i hi
  · by_cases e : i = j
    · rw [e]; exact h4
    · rw [h2 i e]; exact G.flat i hi
theorem keepND_put {h₀ h : Heap} {L : Addr} {news news' : Led} (W : News h₀ L h news) {d : Addr} {o : Obj} (hd : (d, o) ∈ news) (hc : o.cls = .type "dict") (hk : ∀ p ∈ news, p.1 ≠ d → p ∈ news') : KeepND news news' := by
  rintro ⟨a, x⟩ hp hn
  refine hk _ hp fun e => hn ?_
  have e' : a = d := e
  subst e'
  rw [news_func W hp hd]; exact hc

section
variable {w : World} {p : Program} {loose : List Str} {mean : ExcName → Option Value} {mg mb : Str → Option Value} {ctx : Addr} {N : Nat} {ob dc : Nat → Addr} {lf : Nat → Nat} {st : Nat → Value} {j k : Nat} {v : Value} {x y : Addr}

set_option maxRecDepth 100000 in
set_option maxHeartbeats 8000000 in
theorem set_left (hx : x = ob j) (hy : y = ob k) (hj : j < N) (hk : k < N) : CtrU w p loose mean mg mb 4 40 (fun news => Gr news ctx N ob dc lf st) (setAttr (.ref x) (Str.ofString "_left_from_start") (.ref y)) (fun news news' => Gr news' ctx N ob dc (upd lf j k) st ∧ KeepND news news') := by
  subst hx hy
  intro dp un gd cn cs a ccd cl outer A₀ base h₀ L m news s Q E B F X N T hk0 hP hd hu hret
  obtain ⟨h1, h2, h3, h4, t1, t2, t3, t4, n, hP1, hP2⟩ := hP.at_ j hj
  have N0 := news_split N hP2
  have m1 := mem_off hP1 (hP.ob_ne N hj hj)
  refine' set_dict (es' := [⟨h1, .str (Str.ofString "_context") t1, .ref ctx⟩, ⟨h2, .str (Str.ofString "_left_from_start") t2, .ref (ob k)⟩, ⟨h3, .str (Str.ofString "_rotated") t3, .ref (ob (ro j))⟩, ⟨h4, .str (Str.ofString "_start") t4, st j⟩]) (n' := n) ?k1 ?k2 N0 (InstAt.of_news N hP1 hP2) ?k5 ?k6 ?k7 ?k8 ?k9 ?k10 ?k11 (Upd.head filter_off) ?k13 ?_
  case k1 => k_asm
  case k2 => k_asm
  case k5 => exact rfl
  case k6 => k_is
  case k7 => k_is
  case k8 => k_is
  case k9 => k_is
  case k10 => k_get
  case k11 => with_unfolding_all rfl
  case k13 => exact Nat.le_of_ble_eq_true rfl
  intro h' F' N'
  have hkeep : ∀ p ∈ news, p.1 ≠ dc j → p ∈ ((dc j, dictOf [⟨h1, .str (Str.ofString "_context") t1, .ref ctx⟩, ⟨h2, .str (Str.ofString "_left_from_start") t2, .ref (ob k)⟩, ⟨h3, .str (Str.ofString "_rotated") t3, .ref (ob (ro j))⟩, ⟨h4, .str (Str.ofString "_start") t4, st j⟩] n) :: news.filter (fun p => decide (p.1 ≠ dc j))) := fun p hp hne => .tail _ (mem_off hp hne)
  refine hret _ _ _ F' N' ⟨hP.put N hj hkeep ⟨h1, h2, h3, h4, t1, t2, t3, t4, n, .tail _ m1, ?_⟩ (fun i hi => upd_ne _ _ hi) (fun _ _ => rfl) (by rw [upd_self]; exact hk) (hP.flat j hj), keepND_put N hP2 rfl hkeep⟩
  rw [upd_self]; exact .head _

set_option maxRecDepth 100000 in
set_option maxHeartbeats 8000000 in
theorem set_start (hx : x = ob j) (hj : j < N) (hv : handedIn v = true) : CtrU w p loose mean mg mb 4 40 (fun news => Gr news ctx N ob dc lf st) (setAttr (.ref x) (Str.ofString "_start") v) (fun news news' => ∃ st', st' = upd st j v ∧ Gr news' ctx N ob dc lf st' ∧ KeepND news news') := by
  subst hx
  intro dp un gd cn cs a ccd cl outer A₀ base h₀ L m news s Q E B F X N T hk0 hP hd hu hret
  obtain ⟨h1, h2, h3, h4, t1, t2, t3, t4, n, hP1, hP2⟩ := hP.at_ j hj
  have N0 := news_split N hP2
  have m1 := mem_off hP1 (hP.ob_ne N hj hj)
  refine' set_dict (es' := [⟨h1, .str (Str.ofString "_context") t1, .ref ctx⟩, ⟨h2, .str (Str.ofString "_left_from_start") t2, .ref (ob (lf j))⟩, ⟨h3, .str (Str.ofString "_rotated") t3, .ref (ob (ro j))⟩, ⟨h4, .str (Str.ofString "_start") t4, v⟩]) (n' := n) ?k1 ?k2 N0 (InstAt.of_news N hP1 hP2) ?k5 ?k6 ?k7 ?k8 ?k9 ?k10 ?k11 (Upd.head filter_off) ?k13 ?_
  case k1 => k_asm
  case k2 => k_asm
  case k5 => exact rfl
  case k6 => k_is
  case k7 => k_is
  case k8 => k_is
  case k9 => k_is
  case k10 => k_get
  case k11 => with_unfolding_all rfl
  case k13 => exact Nat.le_of_ble_eq_true rfl
  intro h' F' N'
  have hkeep : ∀ p ∈ news, p.1 ≠ dc j → p ∈ ((dc j, dictOf [⟨h1, .str (Str.ofString "_context") t1, .ref ctx⟩, ⟨h2, .str (Str.ofString "_left_from_start") t2, .ref (ob (lf j))⟩, ⟨h3, .str (Str.ofString "_rotated") t3, .ref (ob (ro j))⟩, ⟨h4, .str (Str.ofString "_start") t4, v⟩] n) :: news.filter (fun p => decide (p.1 ≠ dc j))) := fun p hp hne => .tail _ (mem_off hp hne)
  refine hret _ _ _ F' N' ⟨_, rfl, hP.put N hj hkeep ⟨h1, h2, h3, h4, t1, t2, t3, t4, n, .tail _ m1, ?_⟩ (fun _ _ => rfl) (fun i hi => upd_ne _ _ hi) (hP.lt j hj) (by rw [upd_self]; exact hv), keepND_put N hP2 rfl hkeep⟩
  rw [upd_self]; exact .head _
end
-- a storing contract at its statement (the first term is a dummy)
local macro_rules | `(tactic| ktn_call $_x:term $c:term) => `(tactic| (
  (refine' CtrU.use $c ?k1 ?k2 ?k3 ?k4 ?k5 ?kK ?kP ?kd ?ku ?kR)
  (case k1 | k2 | k3 | k4 | k5 => k_asm)
  (case kK => first | exact rfl | assumption)
  (case kP => ktr_rel)
  (all_goals (try with_reducible exact rfl))
  (all_goals (try with_reducible exact Ext.to (by assumption) (by assumption)))
  (case kd => ktr_room)
  (case ku => ktr_units)
  (all_goals (first | ktr_rel | (intro h9 tk9 news9 F9 N9 o9; (first | (obtain ⟨st9, S9, G9, K9⟩ := o9) | (obtain ⟨G9, K9⟩ := o9)); (try dsimp only); (try k_fold))))))
local macro_rules | `(tactic| walk_at "setAttr ref") => `(tactic| (k_here; (with_reducible show wpAny _ _ (setAttr (Value.ref _) (PySem.Str.ofString "_left_from_start") (Value.ref _)) _ _ _); k_dflt (ktn_call () (set_left _ _ _ _))))



local macro_rules | `(tactic| walk_at "getAttr ref") => `(tactic| (k_here; (with_reducible show wpAny _ _ (getAttr (Value.ref _) (PySem.Str.ofString "end") _) _ _ _); k_dflt (ktr_call () (get_end _ _))))
local macro_rules | `(tactic| walk_at "getAttr ref") => `(tactic| (k_here; (with_reducible show wpAny _ _ (getAttr (Value.ref _) (PySem.Str.ofString "left_from_end") _) _ _ _); k_dflt (ktr_call () (get_left_end _ _))))
local macro_rules | `(tactic| walk_at "getAttr ref") => `(tactic| (k_here; (with_reducible show wpAny _ _ (getAttr (Value.ref _) (PySem.Str.ofString "right_from_end") _) _ _ _); k_dflt (ktr_call () (get_right_end _ _))))
local macro_rules | `(tactic| walk_at "getAttr ref") => `(tactic| (k_here; (with_reducible show wpAny _ _ (getAttr (Value.ref _) (PySem.Str.ofString "right_from_start") _) _ _ _); k_dflt (ktr_call () (get_right _ _))))
local macro_rules | `(tactic| walk_at "getAttr ref") => `(tactic| (k_here; (with_reducible show wpAny _ _ (getAttr (Value.ref _) (PySem.Str.ofString "context") _) _ _ _); k_dflt (ktr_call () (get_context _ _))))

theorem KeepND.tail {x : Addr × Obj} {a b : Led} (h : KeepND (x :: a) b) : KeepND a b := fun p hp => h p (.tail _ hp)
theorem KeepND.tail2 {x y : Addr × Obj} {a b : Led} (h : KeepND (x :: y :: a) b) : KeepND a b := h.tail.tail
theorem KeepND.cons {x : Addr × Obj} {a b : Led} (h : KeepND a b) : KeepND a (x :: b) := fun p hp k => .tail _ (h p hp k)
local macro_rules | `(tactic| tb_rel) => `(tactic| first | with_reducible assumption | with_reducible exact KeepND.refl | (with_reducible refine KeepND.trans ?_ (by assumption); tb_rel) | (with_reducible refine KeepND.trans ?_ (KeepND.tail (by assumption)); tb_rel) | (with_reducible refine KeepND.trans ?_ (KeepND.tail2 (by assumption)); tb_rel) | (with_reducible refine KeepND.cons ?_; tb_rel))

noncomputable def spl (lf : Nat → Nat) (i k : Nat) : Nat → Nat :=
  let lf1 := upd (upd lf i (lf k)) k (lf i)
  upd (upd lf1 (ro (lf i)) (lf1 (ro (lf k)))) (ro (lf k)) (lf1 (ro (lf i)))

section
variable {w : World} {p : Program} {loose : List Str} {mean : ExcName → Option Value} {mg mb : Str → Option Value} {ctx : Addr} {N : Nat} {ob dc : Nat → Addr} {lf : Nat → Nat} {st : Nat → Value} {i j k : Nat} {v : Value} {x y : Addr}

set_option maxRecDepth 100000 in
set_option maxHeartbeats 8000000 in
theorem call_splice (hx : x = ob i) (hy : y = ob k) (hj : i < N) (hk : k < N) : Ctr w p loose mean mg mb 20 200 (fun news => Gr news ctx N ob dc lf st) (call (.ref 146) [.ref x, .ref y]) (fun news r news' => r = .none ∧ ∃ lf', lf' = spl lf i k ∧ Gr news' ctx N ob dc lf' st ∧ KeepND news news') := by
  subst hx hy
  intro dp un gd cn cs a ccd cl outer A₀ base h₀ L m news s Q E B F X N T hk0 hP hd hu hret
  refine wpAny_call ?_
  k_dflt ktr_enter
  k_steps
  exact hret _ _ _ _ (by k_asm) (by k_asm) ⟨rfl, _, rfl, by assumption, by tb_rel⟩
end
local macro_rules | `(tactic| ktr_rel) => `(tactic| exact Gr.mono (by with_reducible assumption) (fun _ h9 => List.mem_cons_of_mem _ h9))
-- a contract at its call, whose post is an and-chain (the first term is a dummy)
local macro_rules | `(tactic| ktr_call () $c:term) => `(tactic| (
  ktr_call 99 $c
  (ktr_rel)
  (all_goals (try with_reducible exact rfl))
  (all_goals (try with_reducible exact Ext.to (by assumption) (by assumption)))
  (all_goals (first | ktr_rel | (intro r9 h9 tk9 news9 F9 N9 o9; (first | (obtain ⟨e9, e8⟩ := o9; subst e9; subst e8) | (obtain ⟨e9, lf9, E9, G9, K9⟩ := o9; subst e9)); (try dsimp only); (try k_fold))))))
local macro_rules | `(tactic| walk_at "call ref") => `(tactic| (k_here; (with_reducible show wpAny _ _ (call (Value.ref 146) _) _ _ _); k_dflt (ktr_call () (call_splice _ _ _ _))))



section
variable {w : World} {A : Around} {E : Value → Shared → Prop} {s : Shared} {h₀ : Heap} {L : Addr} {m : Str → Option Value} {ctx : Addr} {N : Nat} {ob dc : Nat → Addr} {lf : Nat → Nat} {st : Nat → Value} {j : Nat} {news : Led} {pl : Sem Bool} {x : Addr} {Q : Value × List Value → Shared → Prop}
theorem meth_of {name : Str} {f : Addr} (W : News h₀ L s.heap news) (F : Fr h₀ L s.heap m) (X : (k0.heap_1_1 w.params).In h₀) (G : Gr news ctx N ob dc lf st) (hx : x = ob j) (hj : j < N) (hg : plainGet (k0.heap_1_1 w.params) 156 name = true)
    (hf : findIn (k0.heap_1_1 w.params) (.ref 156) name = some (some (.ref f))) (ht : isFn (k0.heap_1_1 w.params) (.ref f) = true)
    (hl : ∀ (h1 h2 h3 h4 : Int) (t1 t2 t3 t4 : Tok) (v1 v2 v3 v4 : Value), getL name [⟨h1, .str (Str.ofString "_context") t1, v1⟩, ⟨h2, .str (Str.ofString "_left_from_start") t2, v2⟩, ⟨h3, .str (Str.ofString "_rotated") t3, v3⟩, ⟨h4, .str (Str.ofString "_start") t4, v4⟩] = some none)
    (h : Q (.ref f, [.ref x]) s) : wpAny (model PySem.Challenge.rw_jj0039_01.row.prog w) A (getMethod (.ref x) name pl) Q E s := by
  subst hx
  obtain ⟨h1, h2, h3, h4, t1, t2, t3, t4, n, hP1, hP2⟩ := G.at_ j hj
  exact method_inst F X (InstAt.of_news W hP1 hP2) hg hf ht (hl _ _ _ _ _ _ _ _ _ _ _ _) h
end
local macro_rules | `(tactic| walk_at "getMethod ref") => `(tactic| (k_here; k_dflt ((refine' meth_of ?k1 ?k2 ?k3 ?k4 ?kx ?k5 ?k6 ?k7 ?k8 ?k9 ?_); (case k1 | k2 | k3 => k_asm); (case k4 | kx | k5 => ktr_rel); (case k6 | k7 | k8 => k_is); (case k9 => (intros; k_get)); k_whole)))

noncomputable def delL (lf : Nat → Nat) (i : Nat) : Nat → Nat :=
  let a := spl lf i (ro (lf (ro i)))
  spl a (ro (ro i)) (ro (a (ro (ro (ro i)))))

section
variable {w : World} {p : Program} {loose : List Str} {mean : ExcName → Option Value} {mg mb : Str → Option Value} {ctx : Addr} {N : Nat} {ob dc : Nat → Addr} {lf : Nat → Nat} {st : Nat → Value} {i j k : Nat} {v : Value} {x : Addr}

set_option maxRecDepth 100000 in
set_option maxHeartbeats 8000000 in
theorem call_delete (hx : x = ob i) (hj : i < N) : Ctr w p loose mean mg mb 40 400 (fun news => Gr news ctx N ob dc lf st) (call (.ref 132) [.ref x]) (fun news r news' => r = .none ∧ ∃ lf', lf' = delL lf i ∧ Gr news' ctx N ob dc lf' st ∧ KeepND news news') := by
  subst hx
  intro dp un gd cn cs a ccd cl outer A₀ base h₀ L m news s Q E B F X N T hk0 hP hd hu hret
  refine wpAny_call ?_
  k_dflt ktr_enter
  k_steps
  refine hret _ _ _ _ (by k_asm) (by k_asm) ⟨rfl, _, ?e, by assumption, by tb_rel⟩
  subst_vars
  rfl
end



local macro_rules | `(tactic| walk_at "setAttr ref") => `(tactic| (k_here; (with_reducible show wpAny _ _ (setAttr (Value.ref _) (PySem.Str.ofString "_start") _) _ _ _); k_dflt (ktn_call () (set_start _ _ (by first | assumption | exact Gr.flat (by assumption) _ (by ktr_rel))))))

noncomputable def swapL (lf : Nat → Nat) (i : Nat) : Nat → Nat :=
  let side := ro (lf (ro i))
  let opp := ro (ro i)
  let oside := ro (lf (ro opp))
  let a := spl lf i side
  let b := spl a opp oside
  let c := spl b i (ro (b (ro (ro (ro side)))))
  spl c opp (ro (c (ro (ro (ro oside)))))

section
variable {w : World} {p : Program} {loose : List Str} {mean : ExcName → Option Value} {mg mb : Str → Option Value} {ctx : Addr} {N : Nat} {ob dc : Nat → Addr} {lf : Nat → Nat} {st : Nat → Value} {i j k : Nat} {v : Value} {x : Addr}

noncomputable def swapS (lf : Nat → Nat) (st : Nat → Value) (i : Nat) : Nat → Value :=
  let side := ro (lf (ro i))
  let opp := ro (ro i)
  let oside := ro (lf (ro opp))
  let st1 := upd st i (st (ro (ro side)))
  upd st1 opp (st1 (ro (ro oside)))

set_option maxRecDepth 100000 in
set_option maxHeartbeats 8000000 in
theorem call_swap (hx : x = ob i) (hj : i < N) : Ctr w p loose mean mg mb 40 400 (fun news => Gr news ctx N ob dc lf st) (call (.ref 153) [.ref x]) (fun news r news' => r = .none ∧ ∃ lf' st', lf' = swapL lf i ∧ st' = swapS lf st i ∧ Gr news' ctx N ob dc lf' st' ∧ KeepND news news') := by
  subst hx
  intro dp un gd cn cs a ccd cl outer A₀ base h₀ L m news s Q E B F X N T hk0 hP hd hu hret
  refine wpAny_call ?_
  k_dflt ktr_enter
  k_steps
  refine hret _ _ _ _ (by k_asm) (by k_asm) ⟨rfl, _, _, ?e1, ?e2, by assumption, by tb_rel⟩
  · subst_vars
    rfl
  · subst_vars
    rfl
end



theorem allLt_ne {d : Addr} : ∀ {l : Led}, AllLt d l → ∀ p ∈ l, p.1 ≠ d
  | [], _, _, hp => (nomatch hp)
  | q :: r, h, p, hp => by
    rcases List.mem_cons.mp hp with rfl | hp
    · exact Nat.ne_of_lt h.1
    · exact allLt_ne h.2 p hp
theorem lts_ne {d : Addr} {l : Led} (h : ∀ p ∈ l, p.1 < d) : ∀ p ∈ l, p.1 ≠ d := fun p hp => Nat.ne_of_lt (h p hp)
local macro_rules | `(tactic| k_all) => `(tactic| first | with_reducible exact lts_ne (by assumption) | with_reducible exact allLt_ne (by assumption))
theorem news_tail {h₀ h : Heap} {L : Addr} {q : Addr × Obj} {news : Led} (N : News h₀ L h (q :: news)) : News h₀ L h news := fun p hp => N p (List.mem_cons_of_mem _ hp)
/-- what a call of the class makes -/
def Made (ctx : Addr) (sv : Value) (news : Led) (r : Value) (news' : Led) : Prop :=
  ∃ (x d : Addr) (h1 h2 h3 h4 : Int) (t1 t2 t3 t4 : Tok), r = .ref x ∧
    news' = (x, instObj 156 d) :: (d, dictOf [⟨h1, .str (Str.ofString "_context") t1, .ref ctx⟩, ⟨h2, .str (Str.ofString "_left_from_start") t2, .none⟩, ⟨h3, .str (Str.ofString "_rotated") t3, .none⟩, ⟨h4, .str (Str.ofString "_start") t4, sv⟩] 4) :: news ∧
    (∀ p ∈ news, p.1 < d) ∧ d < x

section
variable {w : World} {p : Program} {loose : List Str} {mean : ExcName → Option Value} {mg mb : Str → Option Value} {ctx : Addr} {N : Nat} {ob dc : Nat → Addr} {lf : Nat → Nat} {st : Nat → Value} {i j k : Nat} {sv ev : Value}

set_option maxRecDepth 100000 in
set_option maxHeartbeats 8000000 in
theorem make_1 : Ctr w p loose mean mg mb 20 200 (fun _ => True) (call (.ref 156) [sv] [(Str.ofString "context", .ref ctx)]) (Made ctx sv) := by
  intro dp un gd cn cs a ccd cl outer A₀ base h₀ L m news s Q E B F X N T hk0 hP hd hu hret
  k_steps
  (rename News _ _ _ _ => nW)
  exact hret _ _ _ _ (by k_asm) (news_tail nW) ⟨_, _, _, _, _, _, _, _, _, _, rfl, rfl, (by first | assumption | exact ktn_ltOf (by assumption)), by assumption⟩

set_option maxRecDepth 100000 in
set_option maxHeartbeats 8000000 in
theorem make_0 : Ctr w p loose mean mg mb 20 200 (fun _ => True) (call (.ref 156) [] [(Str.ofString "context", .ref ctx)]) (Made ctx .none) := by
  intro dp un gd cn cs a ccd cl outer A₀ base h₀ L m news s Q E B F X N T hk0 hP hd hu hret
  k_steps
  (rename News _ _ _ _ => nW)
  exact hret _ _ _ _ (by k_asm) (news_tail nW) ⟨_, _, _, _, _, _, _, _, _, _, rfl, rfl, (by first | assumption | exact ktn_ltOf (by assumption)), by assumption⟩
end



local macro_rules | `(tactic| ktr_call 1 $c:term) => `(tactic| (
  ktr_call 99 $c
  (exact trivial)
  (intro r9 h9 tk9 news9 F9 N9 o9; obtain ⟨x9, d9, a1, a2, a3, a4, b1, b2, b3, b4, e9, e8, l9, m9⟩ := o9; subst e9; subst e8; (try k_lt l9); (try k_lt2 m9); (try k_sweep); (try dsimp only); (try k_fold))))
local macro_rules | `(tactic| walk_at "call ref") => `(tactic| (k_here; (with_reducible show wpAny _ _ (call (Value.ref 156) [_] _) _ _ _); k_dflt (ktr_call 1 make_1)))
local macro_rules | `(tactic| walk_at "call ref") => `(tactic| (k_here; (with_reducible show wpAny _ _ (call (Value.ref 156) [] _) _ _ _); k_dflt (ktr_call 1 make_0)))

structure Four (ctx : Addr) (sv ev : Value) (news news' : Led) (x0 x1 x2 x3 d0 d1 d2 d3 : Addr) : Prop where
  q0 : Qo news' (.ref ctx) x0 d0 x0 x1 sv
  q1 : Qo news' (.ref ctx) x1 d1 x3 x2 .none
  q2 : Qo news' (.ref ctx) x2 d2 x2 x3 ev
  q3 : Qo news' (.ref ctx) x3 d3 x1 x0 .none
  sub : ∀ p ∈ news, p ∈ news'
  low : ∀ p ∈ news, p.1 < d0
  ord : @LT.lt Nat _ d0 d2 ∧ @LT.lt Nat _ d2 d1 ∧ @LT.lt Nat _ d1 d3

section
variable {w : World} {p : Program} {loose : List Str} {mean : ExcName → Option Value} {mg mb : Str → Option Value} {ctx : Addr} {N : Nat} {ob dc : Nat → Addr} {lf : Nat → Nat} {st : Nat → Value} {i j k : Nat} {sv ev : Value} {q : Addr}

set_option maxRecDepth 100000 in
set_option maxHeartbeats 8000000 in
theorem call_from4 : Ctr w p loose mean mg mb 60 600 (fun news => (q, methodObj (.ref 35) (.ref 156)) ∈ news) (call (.ref q) [sv, ev] [(Str.ofString "context", .ref ctx)]) (fun news r news' => ∃ x0 x1 x2 x3 d0 d1 d2 d3, r = .ref x0 ∧ Four ctx sv ev news news' x0 x1 x2 x3 d0 d1 d2 d3) := by
  intro dp un gd cn cs a ccd cl outer A₀ base h₀ L m news s Q E B F X N T hk0 hP hd hu hret
  refine call_meth N hP ?_
  k_dflt ktr_enter
  k_steps
  refine' hret _ _ _ _ (by k_asm) (by k_asm) ⟨_, _, _, _, _, _, _, _, rfl, ⟨?q0, ?q1, ?q2, ?q3, ?sub, ?low, ?ord⟩⟩
  case q0 => exact ⟨_, _, _, _, _, _, _, _, _, by k_mem, by k_mem⟩
  case q1 => exact ⟨_, _, _, _, _, _, _, _, _, by k_mem, by k_mem⟩
  case q2 => exact ⟨_, _, _, _, _, _, _, _, _, by k_mem, by k_mem⟩
  case q3 => exact ⟨_, _, _, _, _, _, _, _, _, by k_mem, by k_mem⟩
  case sub => exact fun p hp => .tail _ (.tail _ (.tail _ (.tail _ (.tail _ (.tail _ (.tail _ (.tail _ (.tail _ (.tail _ hp)))))))))
  case low => first | assumption | exact ktn_ltOf (by assumption)
  case ord => exact ⟨by omega, by omega, by omega⟩
end

noncomputable def newL (lf : Nat → Nat) (N : Nat) : Nat → Nat := fun j => if j < N then lf j else if j = N + 1 then N + 3 else if j = N + 3 then N + 1 else j
noncomputable def newS (st : Nat → Value) (N : Nat) (sv ev : Value) : Nat → Value := fun j => if j < N then st j else if j = N then sv else if j = N + 2 then ev else .none
noncomputable def newA (f : Nat → Addr) (N : Nat) (x0 x1 x2 x3 : Addr) : Nat → Addr := fun j => if j < N then f j else if j = N then x0 else if j = N + 1 then x1 else if j = N + 2 then x2 else x3

theorem newA_lt {f : Nat → Addr} {N j : Nat} {x0 x1 x2 x3 : Addr} (h : j < N) : newA f N x0 x1 x2 x3 j = f j := by unfold newA; rw [if_pos h]
theorem newA_0 {f : Nat → Addr} {N : Nat} {x0 x1 x2 x3 : Addr} : newA f N x0 x1 x2 x3 N = x0 := by unfold newA; rw [if_neg (Nat.lt_irrefl _), if_pos rfl]
theorem newA_1 {f : Nat → Addr} {N : Nat} {x0 x1 x2 x3 : Addr} : newA f N x0 x1 x2 x3 (N + 1) = x1 := by unfold newA; rw [if_neg (by omega), if_neg (by omega), if_pos rfl]
theorem newA_2 {f : Nat → Addr} {N : Nat} {x0 x1 x2 x3 : Addr} : newA f N x0 x1 x2 x3 (N + 2) = x2 := by unfold newA; rw [if_neg (by omega), if_neg (by omega), if_neg (by omega), if_pos rfl]
theorem newA_3 {f : Nat → Addr} {N : Nat} {x0 x1 x2 x3 : Addr} : newA f N x0 x1 x2 x3 (N + 3) = x3 := by unfold newA; rw [if_neg (by omega), if_neg (by omega), if_neg (by omega), if_neg (by omega)]

theorem Four.grow {news news' : Led} {ctx : Addr} {N : Nat} {ob dc : Nat → Addr} {lf : Nat → Nat} {st : Nat → Value} {sv ev : Value} {x0 x1 x2 x3 d0 d1 d2 d3 : Addr} (H : Four ctx sv ev news news' x0 x1 x2 x3 d0 d1 d2 d3) (G : Gr news ctx N ob dc lf st) (hs : handedIn sv = true) (he : handedIn ev = true) :
    Gr news' ctx (N + 4) (newA ob N x0 x1 x2 x3) (newA dc N d0 d1 d2 d3) (newL lf N) (newS st N sv ev) := by
  have h4 := G.four
  have lows : ∀ j, j < N → @LT.lt Nat _ (dc j) d0 := fun j hj => by
    obtain ⟨_, _, _, _, _, _, _, _, _, _, b⟩ := G.at_ j hj
    exact H.low _ b
  obtain ⟨o1, o2, o3⟩ := H.ord
  have cases4 : ∀ j, j < N + 4 → j < N ∨ j = N ∨ j = N + 1 ∨ j = N + 2 ∨ j = N + 3 := fun j hj => by omega
  refine ⟨by omega, fun j hj => ?_, fun i j hi hj e => ?_, fun j hj => ?_, fun j hj => ?_⟩
  · rcases cases4 j hj with h | rfl | rfl | rfl | rfl
    · rw [newA_lt h, newA_lt h, show newL lf N j = lf j by unfold newL; rw [if_pos h], newA_lt (G.lt j h), newA_lt (G.ro_lt h), show newS st N sv ev j = st j by unfold newS; rw [if_pos h]]
      exact (G.at_ j h).mono (fun o ho => H.sub _ ho) fun o ho => H.sub _ ho
    · rw [newA_0, newA_0, show newL lf j j = j by unfold newL; rw [if_neg (by omega), if_neg (by omega), if_neg (by omega)], newA_0, show ro j = j + 1 by unfold ro; omega, newA_1, show newS st j sv ev j = sv by unfold newS; rw [if_neg (by omega), if_pos rfl]]
      exact H.q0
    · rw [newA_1, newA_1, show newL lf N (N + 1) = N + 3 by unfold newL; rw [if_neg (by omega), if_pos rfl], newA_3, show ro (N + 1) = N + 2 by unfold ro; omega, newA_2, show newS st N sv ev (N + 1) = .none by unfold newS; rw [if_neg (by omega), if_neg (by omega), if_neg (by omega)]]
      exact H.q1
    · rw [newA_2, newA_2, show newL lf N (N + 2) = N + 2 by unfold newL; rw [if_neg (by omega), if_neg (by omega), if_neg (by omega)], newA_2, show ro (N + 2) = N + 3 by unfold ro; omega, newA_3, show newS st N sv ev (N + 2) = ev by unfold newS; rw [if_neg (by omega), if_neg (by omega), if_pos rfl]]
      exact H.q2
    · rw [newA_3, newA_3, show newL lf N (N + 3) = N + 1 by unfold newL; rw [if_neg (by omega), if_neg (by omega), if_pos rfl], newA_1, show ro (N + 3) = N by unfold ro; omega, newA_0, show newS st N sv ev (N + 3) = .none by unfold newS; rw [if_neg (by omega), if_neg (by omega), if_neg (by omega)]]
      exact H.q3
  · have val : ∀ i, i < N + 4 → (i < N ∧ newA dc N d0 d1 d2 d3 i = dc i) ∨ (i = N ∧ newA dc N d0 d1 d2 d3 i = d0) ∨ (i = N + 1 ∧ newA dc N d0 d1 d2 d3 i = d1) ∨ (i = N + 2 ∧ newA dc N d0 d1 d2 d3 i = d2) ∨ (i = N + 3 ∧ newA dc N d0 d1 d2 d3 i = d3) := fun i hi => by
      rcases cases4 i hi with h | h | h | h | h
      · exact .inl ⟨h, newA_lt h⟩
      · exact .inr (.inl ⟨h, by rw [h]; exact newA_0⟩)
      · exact .inr (.inr (.inl ⟨h, by rw [h]; exact newA_1⟩))
      · exact .inr (.inr (.inr (.inl ⟨h, by rw [h]; exact newA_2⟩)))
      · exact .inr (.inr (.inr (.inr ⟨h, by rw [h]; exact newA_3⟩)))
    rcases val i hi with ⟨h, q⟩ | ⟨h, q⟩ | ⟨h, q⟩ | ⟨h, q⟩ | ⟨h, q⟩ <;> rcases val j hj with ⟨h', q'⟩ | ⟨h', q'⟩ | ⟨h', q'⟩ | ⟨h', q'⟩ | ⟨h', q'⟩ <;> rw [q, q'] at e <;> (replace e : @Eq Nat _ _ := e) <;> first
      | exact G.inj i j h h' e
      | (exfalso; have := lows i h; omega)
      | (exfalso; have := lows j h'; omega)
      | omega
  · rcases cases4 j hj with h | h | h | h | h
    · have := G.lt j h
      unfold newL; rw [if_pos h]; omega
    all_goals (unfold newL; split <;> (try split) <;> (try split) <;> omega)
  · unfold newS
    split
    · rename_i h; exact G.flat j h
    · split
      · exact hs
      · split
        · exact he
        · rfl



section
variable {w : World} {A : Around} {E : Value → Shared → Prop} {s : Shared} {h₀ : Heap} {L : Addr} {m : Str → Option Value} {ctx : Addr} {N : Nat} {ob dc : Nat → Addr} {lf : Nat → Nat} {st : Nat → Value} {j : Nat} {news : Led} {pl : Sem Bool} {x : Addr} {Q : Value × List Value → Shared → Prop}
set_option maxRecDepth 100000 in
set_option maxHeartbeats 8000000 in
theorem meth_from (W : News h₀ L s.heap news) (F : Fr h₀ L s.heap m) (X : (k0.heap_1_1 w.params).In h₀) (G : Gr news ctx N ob dc lf st) (hx : x = ob j) (hj : j < N)
    (h : ∀ q h', Fr h₀ L h' m → News h₀ L h' ((q, methodObj (.ref 35) (.ref 156)) :: news) → (∀ p ∈ news, p.1 < q) → Q (.ref q, []) { s with heap := h', toks := s.toks + 1 }) :
    wpAny (model PySem.Challenge.rw_jj0039_01.row.prog w) A (getMethod (.ref x) (Str.ofString "from_endpoints") pl) Q E s := by
  subst hx
  obtain ⟨h1, h2, h3, h4, t1, t2, t3, t4, n, hP1, hP2⟩ := G.at_ j hj
  have I := InstAt.of_news W hP1 hP2
  have hg : plainGet (k0.heap_1_1 w.params) 156 (Str.ofString "from_endpoints") = true := by k_is
  have ha : findIn (k0.heap_1_1 w.params) (.ref 156) (Str.ofString "from_endpoints") = some (some (.ref 37)) := by k_is
  have hh : hasDictIn (k0.heap_1_1 w.params) 156 = true := by k_is
  have hs : specialIn (k0.heap_1_1 w.params) (.ref 37) "__get__" = some (some (.builtin "classmethod.__get__")) := by k_is
  have ht : takesIn (k0.heap_1_1 w.params) (.ref 37) = some false := by k_is
  have hty : typeIn (k0.heap_1_1 w.params) (.ref 37) = some (.type "classmethod") := by k_is
  have hp : recIn (k0.heap_1_1 w.params) 37 "classmethod" = some [.ref 35, .bool false] := by k_is
  have hl : getL (Str.ofString "from_endpoints") [⟨h1, .str (Str.ofString "_context") t1, .ref ctx⟩, ⟨h2, .str (Str.ofString "_left_from_start") t2, .ref (ob (lf j))⟩, ⟨h3, .str (Str.ofString "_rotated") t3, .ref (ob (ro j))⟩, ⟨h4, .str (Str.ofString "_start") t4, st j⟩] = some none := by k_get
  refine method_usual (X.keeps F.keep) I (plainGet_of hg).1 (plainGet_of hg).2 ha (by rw [Option.all_some, hty]; decide) ?_
  refine get_bind (X.keeps F.keep) I (plainGet_of hg).1 (findObj_fn hh ha hs ht (by decide +kernel) (by show lookIn _ (dictOf _ n) = _; rw [lookIn_dict, hl])) (plainGet_of hg).2 ?_
  exact wpAny_call (cm_get (s := { s with toks := s.toks + 1 }) (X.keeps F.keep) hp (handed_on rfl (h s.heap.objs.size _ (F.push _) (W.push F _) fun p hp => Heap.lt_size (W p hp).1)))

theorem callWith_MKW {M : Model} {K : Frag} {env : Env} {pos : Pos} {Q : Value → Shared → Prop} {first : List Value} {q g : Addr} {self : Value} {e : Expr} {rest : List Expr} {kws : List Keyword} (_X : K.In h₀) (_N : News h₀ L s.heap news) (_q : (q, methodObj (.ref g) self) ∈ news) (hf : fnIn K g = true)
    (hall : (backToKw pos (keywordEach kws env)).all (·.1.isSome) = true)
    (h : wpAny M A (spliced (backTo pos (starEach (e :: rest) env))) (fun vs s₁ => wpAny M A (evalAll ((backToKw pos (keywordEach kws env)).map (·.2)))
      (fun ks s₂ => MethP K q g self s₂.heap ∧ wpAny M A (call (.ref q) (first ++ vs) (((backToKw pos (keywordEach kws env)).filterMap (·.1)).zip ks)) Q E s₂) E s₁) E s)
    (hplain : ((backTo pos (starEach (e :: rest) env)).any (·.1) || (backToKw pos (keywordEach kws env)).any (·.1.isNone)) = false := by rfl) (he : starEach (e :: rest) env = (false, eval e env) :: starEach rest env := by rfl) :
    wpAny M A (callWith pos (.ref q) first (backTo pos (starEach (e :: rest) env)) (backToKw pos (keywordEach kws env))) Q E s :=
  callWith_of hplain (keeps_M hf) (evalArgs_kw2 hall h he)
end
local macro_rules | `(tactic| walk_at "getMethod ref") => `(tactic| (k_here; (with_reducible show wpAny _ _ (getMethod (Value.ref _) (PySem.Str.ofString "from_endpoints") _) _ _ _); k_dflt ((refine' meth_from ?k1 ?k2 ?k3 ?k4 ?kx ?k5 ?_); (case k1 | k2 | k3 => k_asm); (case k4 | kx | k5 => ktr_rel); k_whole); intro q' h' F' N' l1; (try k_lt l1)))
local macro_rules | `(tactic| walk_at "callWith ref") => `(tactic| (k_here; k_dflt ((refine' callWith_MKW ?k1 ?k2 ?k3 ?k4 ?k5 ?_); (case k1 | k2 => k_asm); (case k3 => k_mem); (case k4 => k_is); (case k5 => exact rfl); k_whole)))

local macro_rules | `(tactic| walk_at "And") => `(tactic| ((with_reducible show MethP _ _ _ _ _ ∧ _); k_dflt (refine ⟨by k_meth, ?_⟩); try dsimp only [List.nil_append, List.cons_append]))
theorem Four.open {news news' : Led} {ctx : Addr} {N : Nat} {ob dc : Nat → Addr} {lf : Nat → Nat} {st : Nat → Value} {sv ev : Value} {x0 x1 x2 x3 d0 d1 d2 d3 : Addr} (H : Four ctx sv ev news news' x0 x1 x2 x3 d0 d1 d2 d3) (G : Gr news ctx N ob dc lf st) (hs : handedIn sv = true) (he : handedIn ev = true) :
    ∃ ob' dc' lf' st', x0 = ob' N ∧ Ext N ob ob' ∧ lf' = newL lf N ∧ st' = newS st N sv ev ∧ Gr news' ctx (N + 4) ob' dc' lf' st' ∧ KeepND news news' :=
  ⟨_, _, _, _, newA_0.symm, ⟨fun _ h => newA_lt h⟩, rfl, rfl, H.grow G hs he, fun p h _ => H.sub p h⟩
local macro_rules | `(tactic| ktr_call 2 $c:term) => `(tactic| (
  ktr_call 99 $c
  (k_mem)
  (intro r9 h9 tk9 news9 F9 N9 o9; obtain ⟨_, _, _, _, _, _, _, _, e9, H9⟩ := o9; subst e9; obtain ⟨ob9, dc9, lf9, st9, e8, X9, E9, S9, G9, U9⟩ := H9.open (by ktr_rel) (by first | assumption | exact Gr.flat (by assumption) _ (by ktr_rel)) (by first | assumption | exact Gr.flat (by assumption) _ (by ktr_rel)); subst e8; clear H9; (try dsimp only); (try k_fold))))
local macro_rules | `(tactic| walk_at "call ref") => `(tactic| (k_here; (with_unfolding_all show wpAny _ _ (call (Value.ref _) [_, _] [_]) _ _ _); k_dflt (ktr_call 2 call_from4)))

noncomputable def conL (lf : Nat → Nat) (N i k : Nat) : Nat → Nat :=
  let a := newL lf N
  let b := spl a N (ro (a (ro (ro (ro i)))))
  spl b (ro (ro N)) k

section
variable {w : World} {p : Program} {loose : List Str} {mean : ExcName → Option Value} {mg mb : Str → Option Value} {ctx : Addr} {N : Nat} {ob dc : Nat → Addr} {lf : Nat → Nat} {st : Nat → Value} {i j k : Nat} {sv ev : Value} {x y : Addr}

set_option maxRecDepth 100000 in
set_option maxHeartbeats 8000000 in
theorem call_connect (hx : x = ob i) (hy : y = ob k) (hi : i < N) (hk : k < N) : Ctr w p loose mean mg mb 100 1000 (fun news => Gr news ctx N ob dc lf st) (call (.ref 125) [.ref x, .ref y])
    (fun news r news' => ∃ ob' dc' lf' st', r = .ref (ob' N) ∧ Ext N ob ob' ∧ lf' = conL lf N i k ∧ st' = newS st N (st (ro (ro i))) (st k) ∧ Gr news' ctx (N + 4) ob' dc' lf' st' ∧ KeepND news news') := by
  subst hx hy
  intro dp un gd cn cs a ccd cl outer A₀ base h₀ L m news s Q E B F X N T hk0 hP hd hu hret
  refine wpAny_call ?_
  k_dflt ktr_enter
  k_steps
  refine hret _ _ _ _ (by k_asm) (by k_asm) ⟨_, _, _, _, rfl, by assumption, ?e1, ?e2, by assumption, by tb_rel⟩
  · subst_vars
    rfl
  · subst_vars
    rfl
end



/-- every object that is no iterator is kept -/
def KeepNI (a b : Led) : Prop := ∀ p ∈ a, p.2.cls ≠ .type "list_iterator" → p.2.cls ≠ .type "range_iterator" → p ∈ b
def LEnd (h₀ : Heap) (L : Addr) (J : (Str → Option Value) → Led → Prop) (need : Led) (s₁ s₂ : Shared) : Prop :=
  ∃ h' tk m' news', s₂ = { s₁ with heap := h', toks := tk } ∧ Fr h₀ L h' m' ∧ News h₀ L h' news' ∧ (∀ p ∈ need, p ∈ news') ∧ J m' news'
def LPost (h₀ : Heap) (L : Addr) (J : (Str → Option Value) → Led → Prop) (need : Led) (s₁ : Shared) (Q : Flow → Shared → Prop) (f : Flow) (s₂ : Shared) : Prop :=
  match f with
  | .ret v => Q (.ret v) s₂
  | .brk => Q .next s₂
  | _ => LEnd h₀ L J need s₁ s₂

section
variable {prog : Program} {w : World} {A : Around} {E : Value → Shared → Prop} {s : Shared} {env : Env} {h₀ : Heap} {x : Str} {body : List Stmt} {Q : Flow → Shared → Prop}

theorem for_led {l : Addr} {vs : List Value} {c : Nat} {m₀ : Str → Option Value} {news : Led} (J : Nat → (Str → Option Value) → Led → Prop)
    (hmono : ∀ I i m a b, (∀ p ∈ news, p.1 ≠ I) → (∀ p ∈ a, p.1 ≠ I → p ∈ b) → KeepNI a b → J i m a → J i m b)
    (hh : A.handled = none) (F : Fr h₀ env.locals s.heap m₀) (N : News h₀ env.locals s.heap news) (hm : (l, listOf vs.toArray c) ∈ news) (hj : J 0 m₀ news)
    (turn : ∀ i v m₁ news₁ h tk I oI, vs[i]? = some v → J i m₁ news₁ → (l, listOf vs.toArray c) ∈ news₁ → oI.cls = .type "list_iterator" → Fr h₀ env.locals h (fun y => if y = x then some v else m₁ y) → News h₀ env.locals h ((I, oI) :: news₁) →
      wpAny (model prog w) A (execs body env) (LPost h₀ env.locals (J (i + 1)) [(I, oI), (l, listOf vs.toArray c)] { s with heap := h, toks := tk } Q) E { s with heap := h, toks := tk })
    (done : ∀ m₁ news₁ h tk, J vs.length m₁ news₁ → Fr h₀ env.locals h m₁ → News h₀ env.locals h news₁ → Q .next { s with heap := h, toks := tk }) :
    wpAny (model prog w) A (pyIter (.ref l)) (fun it s₂ => LoopAtV prog w A h₀ env x body Q E it s₂) E s := by
  have hls : s.heap.IsList l vs.toArray := ⟨_, (N _ hm).1, rfl, c, rfl⟩
  have hlt : l < s.heap.objs.size := Heap.lt_size (N _ hm).1
  have hne : l ≠ s.heap.objs.size := Nat.ne_of_lt hlt
  refine wpAny_pyIter_list hls ?_
  have W := Walks.list (prog := prog) (w := w) hh s.heap.objs.size l hne vs.toArray
  have hlen : vs.toArray.size = vs.length := by simp
  rw [hlen] at W
  let J' : Nat → (Str → Option Value) → Led → Prop := fun i m₁ news₁ => (l, listOf vs.toArray c) ∈ news₁ ∧ J i m₁ news₁
  refine ⟨_, _, _, vs.length, _, _, m₀, news, J', rfl, W, ?_, ?_, ?_, ⟨⟨_, Heap.get?_push_size _ rfl, rfl, rfl⟩, hls.at fun o e => Heap.get?_push_of_some _ e⟩, F.push _, (fun p hp => ⟨Heap.get?_push_of_some _ (N p hp).1, (N p hp).2⟩), ⟨hm, hj⟩, ?_, ?_⟩
  · intro hm'
    rcases List.mem_cons.mp hm' with e | hm'
    · exact absurd F.ns.lt (e ▸ Nat.lt_irrefl _)
    · exact absurd (List.mem_singleton.mp hm').symm (N _ hm).2.1
  · intro b hb
    rw [List.mem_singleton.mp hb]
    exact next_is_new F
  · intro p hp hI
    exact absurd (Heap.lt_size (N p hp).1) ((List.mem_singleton.mp hI) ▸ Nat.lt_irrefl _)
  · rintro i v m₁ news₁ s₁ own ⟨hh', tk', rfl⟩ hin hP ⟨hl₁, hJ⟩ hoff hown hownget hfp hst F₁ N₁
    have hI0 : h₀.get? s.heap.objs.size = none := next_is_new F
    obtain ⟨⟨oI, hoI, hcI, _⟩, _⟩ := id hst
    have hIown : (s.heap.objs.size, oI) ∈ own := hfp _ (List.mem_cons.mpr (.inl rfl)) hI0 _ hoI
    have N₂ : News h₀ env.locals hh' ((s.heap.objs.size, oI) :: news₁) := fun p hp => (List.mem_cons.mp hp).elim (fun h => h ▸ N₁ _ (List.mem_append_left _ hIown)) fun h => N₁ p (List.mem_append_right _ h)
    refine wpAny_mono (turn i v m₁ news₁ hh' tk' _ oI (by simpa using hP) hJ hl₁ hcI F₁ N₂) (fun f s₂ p => ?_) fun _ _ e => e
    have fin : LEnd h₀ env.locals (J (i + 1)) [(s.heap.objs.size, oI), (l, listOf vs.toArray c)] { s with heap := hh', toks := tk' } s₂ → LoopStepU h₀ env.locals [s.heap.objs.size] own (J' (i + 1)) { s with heap := hh', toks := tk' } .next s₂ := by
      rintro ⟨h', tk, m', news', e, F', N', hneed, hJ'⟩
      have hI' : (s.heap.objs.size, oI) ∈ news' := hneed _ (.head _)
      have hl' : (l, listOf vs.toArray c) ∈ news' := hneed _ (.tail _ (.head _))
      have nI : ∀ p ∈ news', p.2.cls ≠ .type "list_iterator" → p.1 ≠ s.heap.objs.size := by
        rintro ⟨a, o⟩ hp hc ha
        have ha' : a = s.heap.objs.size := ha
        subst ha'
        rw [news_func N' hp hI'] at hc
        exact hc hcI
      refine ⟨rfl, h', tk, m', news'.filter (fun p => decide (p.1 ≠ s.heap.objs.size)), e, F', fun p hp => ?_, fun p hp hq => (filter_off p hp) (List.mem_singleton.mp hq), ⟨mem_off hl' (nI _ hl' (by show Value.type "list" ≠ Value.type "list_iterator"; decide)), hmono s.heap.objs.size _ _ _ _ (fun p hp => Nat.ne_of_lt (Heap.lt_size (N p hp).1)) (fun p hp hne => mem_off hp hne) (fun p hp hc _ => mem_off hp (nI p hp hc)) hJ'⟩⟩
      rcases List.mem_append.mp hp with h | h
      · have hg := hownget p h
        rcases List.mem_cons.mp (hown p h) with h1 | h1
        · have : p = (s.heap.objs.size, oI) := Prod.ext h1 (by rw [h1] at hg; exact Option.some.inj (hg.symm.trans hoI))
          rw [this]; exact N' _ hI'
        · have h1' := List.mem_singleton.mp h1
          have : p = (l, listOf vs.toArray c) := Prod.ext h1' (by rw [h1'] at hg; exact Option.some.inj (hg.symm.trans (N₁ _ (List.mem_append_right _ hl₁)).1))
          rw [this]; exact N' _ hl'
      · exact N' _ (List.mem_filter.mp h).1
    cases f with
    | ret v => exact .ret p
    | brk => exact .brk p
    | next => exact .next (fin p)
    | cont => exact .cont (fin p)
  · rintro h' tk m' news' F' N' _ ⟨_, hJ⟩
    exact done m' news' h' tk hJ F' N'

theorem for_range {r : Addr} {a₀ b₀ : Int} {t₀ u₀ v₀ : Tok} {n : Nat} {m₀ : Str → Option Value} {news : Led} (J : Nat → (Str → Option Value) → Led → Prop)
    (hmono : ∀ I i m a b, (∀ p ∈ news, p.1 ≠ I) → (∀ p ∈ a, p.1 ≠ I → p ∈ b) → KeepNI a b → J i m a → J i m b)
    (hh : A.handled = none) (hr : IsRange s.heap r a₀ b₀ 1 t₀ u₀ v₀) (hsmall : Builtin.Range.small a₀ b₀ 1 = true) (hn : Builtin.Range.rangeSize a₀ b₀ 1 = (n : Int)) (F : Fr h₀ env.locals s.heap m₀) (N : News h₀ env.locals s.heap news) (hj : J 0 m₀ news)
    (turn : ∀ (i : Nat) t m₁ news₁ h tk I oI, i < n → J i m₁ news₁ → oI.cls = .type "range_iterator" → Fr h₀ env.locals h (fun y => if y = x then some (.int (a₀ + (i : Int)) t) else m₁ y) → News h₀ env.locals h ((I, oI) :: news₁) →
      wpAny (model prog w) A (execs body env) (LPost h₀ env.locals (J (i + 1)) [(I, oI)] { s with heap := h, toks := tk } Q) E { s with heap := h, toks := tk })
    (done : ∀ m₁ news₁ h tk, J n m₁ news₁ → Fr h₀ env.locals h m₁ → News h₀ env.locals h news₁ → Q .next { s with heap := h, toks := tk }) :
    wpAny (model prog w) A (pyIter (.ref r)) (fun it s₂ => LoopAtV prog w A h₀ env x body Q E it s₂) E s := by
  refine wpAny_pyIter_range hr hsmall ?_
  have W : Walks prog w A s.heap.objs.size [s.heap.objs.size] [s.heap.objs.size] n (fun i v => i < n ∧ ∃ t, v = .int (a₀ + i * 1) t)
      (fun i h => IsRangeIter h s.heap.objs.size (a₀ + (i : Nat) * 1) ((n : Int) - (i : Nat)) 1) := (Walks.range hh _ a₀ 1 n).bound
  refine ⟨_, _, _, n, _, _, m₀, news, J, rfl, W, ?_, ?_, ?_, (by show IsRangeIter _ _ _ _ _; rw [hn]; simpa using Heap.get?_push_size _ rfl), F.push _, (fun p hp => ⟨Heap.get?_push_of_some _ (N p hp).1, (N p hp).2⟩), hj, ?_, ?_⟩
  · intro hm
    exact absurd F.ns.lt ((List.mem_singleton.mp hm) ▸ Nat.lt_irrefl _)
  · intro b hb
    rw [List.mem_singleton.mp hb]
    exact next_is_new F
  · intro p hp hI
    exact absurd (Heap.lt_size (N p hp).1) ((List.mem_singleton.mp hI) ▸ Nat.lt_irrefl _)
  · rintro i v m₁ news₁ s₁ own ⟨hh', tk', rfl⟩ hin hP hJ hoff hown hownget hfp hst F₁ N₁
    have hI0 : h₀.get? s.heap.objs.size = none := next_is_new F
    have hst' : hh'.get? s.heap.objs.size = some _ := hst
    obtain ⟨oI, hoI, hcI⟩ : ∃ oI, hh'.get? s.heap.objs.size = some oI ∧ oI.cls = .type "range_iterator" := ⟨_, hst', rfl⟩
    have hIown : (s.heap.objs.size, oI) ∈ own := hfp _ (List.mem_cons.mpr (.inl rfl)) hI0 _ hoI
    have N₂ : News h₀ env.locals hh' ((s.heap.objs.size, oI) :: news₁) := fun p hp => (List.mem_cons.mp hp).elim (fun h => h ▸ N₁ _ (List.mem_append_left _ hIown)) fun h => N₁ p (List.mem_append_right _ h)
    obtain ⟨hi, t, rfl⟩ := hP
    rw [Int.mul_one] at F₁
    refine wpAny_mono (turn i t m₁ news₁ hh' tk' _ oI hi hJ hcI F₁ N₂) (fun f s₂ p => ?_) fun _ _ e => e
    have fin : LEnd h₀ env.locals (J (i + 1)) [(s.heap.objs.size, oI)] { s with heap := hh', toks := tk' } s₂ → LoopStepU h₀ env.locals [s.heap.objs.size] own (J (i + 1)) { s with heap := hh', toks := tk' } .next s₂ := by
      rintro ⟨h', tk, m', news', e, F', N', hneed, hJ'⟩
      have hI' : (s.heap.objs.size, oI) ∈ news' := hneed _ (.head _)
      have nI : ∀ p ∈ news', p.2.cls ≠ .type "range_iterator" → p.1 ≠ s.heap.objs.size := by
        rintro ⟨a, o⟩ hp hc ha
        have ha' : a = s.heap.objs.size := ha
        subst ha'
        rw [news_func N' hp hI'] at hc
        exact hc hcI
      refine ⟨rfl, h', tk, m', news'.filter (fun p => decide (p.1 ≠ s.heap.objs.size)), e, F', fun p hp => ?_, fun p hp hq => (filter_off p hp) (List.mem_singleton.mp hq), hmono s.heap.objs.size _ _ _ _ (fun p hp => Nat.ne_of_lt (Heap.lt_size (N p hp).1)) (fun p hp hne => mem_off hp hne) (fun p hp _ hc => mem_off hp (nI p hp hc)) hJ'⟩
      rcases List.mem_append.mp hp with h | h
      · have hg := hownget p h
        have h1 := List.mem_singleton.mp (hown p h)
        have : p = (s.heap.objs.size, oI) := Prod.ext h1 (by rw [h1] at hg; exact Option.some.inj (hg.symm.trans hoI))
        rw [this]; exact N' _ hI'
      · exact N' _ (List.mem_filter.mp h).1
    cases f with
    | ret v => exact .ret p
    | brk => exact .brk p
    | next => exact .next (fin p)
    | cont => exact .cont (fin p)
  · rintro h' tk m' news' F' N' _ hJ
    exact done m' news' h' tk hJ F' N'
end



noncomputable def bk (k : Nat) : Nat := k + 1 - 2 * (k % 2)
theorem bk_int (k : Nat) : ((k : Int) + 1 - 2 * Int.fmod (k : Int) 2) = ((bk k : Nat) : Int) := by
  rw [Int.fmod_eq_emod_of_nonneg _ (by omega)]
  unfold bk
  omega
section
variable {w : World} {p : Program} {loose : List Str} {mean : ExcName → Option Value} {mg mb : Str → Option Value}
set_option maxRecDepth 100000 in
set_option maxHeartbeats 8000000 in
theorem call_back {k : Nat} {t : Tok} (hk : k < 100) : Ctr w p loose mean mg mb 20 200 (fun _ => True) (call (.ref 359) [.int (k : Int) t]) (fun news r news' => (∃ t', r = .int ((bk k : Nat) : Int) t') ∧ news' = news) := by
  intro dp un gd cn cs a ccd cl outer A₀ base h₀ L m news s Q E B F X N T hk0 hP hd hu hret
  refine wpAny_call ?_
  k_dflt ktr_enter
  k_steps
  rw [bk_int]
  exact hret _ _ _ _ (by k_asm) (by k_asm) ⟨⟨_, rfl⟩, rfl⟩
end



inductive All2 {α β : Type} (R : α → β → Prop) : List α → List β → Prop where
  | nil : All2 R [] []
  | cons {a : α} {b : β} {as : List α} {bs : List β} : R a b → All2 R as bs → All2 R (a :: as) (b :: bs)
theorem All2.length {α β : Type} {R : α → β → Prop} {as : List α} {bs : List β} (h : All2 R as bs) : as.length = bs.length := by
  induction h with
  | nil => rfl
  | cons _ _ ih => rw [List.length_cons, List.length_cons, ih]
theorem All2.get {α β : Type} {R : α → β → Prop} {as : List α} {bs : List β} (h : All2 R as bs) {i : Nat} {a : α} (e : as[i]? = some a) : ∃ b, bs[i]? = some b ∧ R a b := by
  induction h generalizing i with
  | nil => cases e
  | cons x _ ih =>
    cases i with
    | zero => cases e; exact ⟨_, rfl, x⟩
    | succ i => exact ih (by simpa using e)
/-- a list of ints, away from z -/
def LI (z : Addr) (news : Led) (a : Addr) (ns : List Int) : Prop := a ≠ z ∧ ∃ vs c, (a, listOf (List.toArray vs) c) ∈ news ∧ IntsAre vs ns
/-- a list of lists of ints, away from z -/
def LL (z : Addr) (news : Led) (a : Addr) (rs : List (List Int)) : Prop := a ≠ z ∧ ∃ (as : List Addr) (c : Nat), (a, listOf (List.toArray (as.map Value.ref)) c) ∈ news ∧ All2 (LI z news) as rs

/-- z is a list of the ledger's -/
def Zin (z : Addr) (news : Led) : Prop := ∃ (vs : Array Value) (c : Nat), (z, listOf vs c) ∈ news

def KeepL (a b : Led) : Prop := ∀ (x : Addr) (vs : Array Value) (c : Nat), (x, listOf vs c) ∈ a → (x, listOf vs c) ∈ b
theorem LI.mono {z : Addr} {a b : Led} (h : KeepL a b) {x : Addr} {ns : List Int} (l : LI z a x ns) : LI z b x ns :=
  let ⟨n, vs, c, m, i⟩ := l
  ⟨n, vs, c, h _ _ _ m, i⟩
theorem forall2_mono {α β : Type} {R S : α → β → Prop} (h : ∀ a b, R a b → S a b) {as : List α} {bs : List β} (f : All2 R as bs) : All2 S as bs := by
  induction f with
  | nil => exact .nil
  | cons x _ ih => exact .cons (h _ _ x) ih
theorem LL.mono {z : Addr} {a b : Led} (h : KeepL a b) {x : Addr} {rs : List (List Int)} (l : LL z a x rs) : LL z b x rs :=
  let ⟨n, as, c, m, i⟩ := l
  ⟨n, as, c, h _ _ _ m, forall2_mono (fun _ _ q => q.mono h) i⟩
theorem KeepNI.list {a b : Led} (h : KeepNI a b) : KeepL a b := fun x vs c hp => h _ hp (by show Value.type "list" ≠ Value.type "list_iterator"; decide) (by show Value.type "list" ≠ Value.type "range_iterator"; decide)
theorem KeepND.list {a b : Led} (h : KeepND a b) : KeepL a b := fun x vs c hp => h _ hp (by show Value.type "list" ≠ Value.type "dict"; decide)
theorem sub_list {a b : Led} (h : ∀ p ∈ a, p ∈ b) : KeepL a b := fun _ _ _ hp => h _ hp
theorem cons_list {q : Addr × Obj} {a : Led} : KeepL a (q :: a) := fun _ _ _ hp => .tail _ hp

/-- _law_behind over plain lists -/
noncomputable def rot1 (r : List Int) (i : Nat) : List Int := r.drop (i + 1) ++ r.take (i + 1)
noncomputable def behI (r : List Int) (side : Int) (acc : List Int) (i : Nat) : List Int := if r[i]? = some side then rot1 r i else acc
noncomputable def behR (side : Int) (acc : List Int) (r : List Int) : List Int := (List.range r.length).foldl (behI r side) acc
noncomputable def behL (rs : List (List Int)) (side : Int) : List Int := rs.foldl (behR side) []

section
variable {w : World} {p : Program} {loose : List Str} {mean : ExcName → Option Value} {mg mb : Str → Option Value} {z : Addr}
def Sub (a b : Led) : Prop := ∀ p ∈ a, p ∈ b
theorem Sub.refl {a : Led} : Sub a a := fun _ h => h
theorem Sub.trans {a b c : Led} (x : Sub a b) (y : Sub b c) : Sub a c := fun p h => y p (x p h)
theorem Sub.cons {q : Addr × Obj} {a b : Led} (x : Sub a b) : Sub a (q :: b) := fun p h => .tail _ (x p h)
theorem Sub.list {a b : Led} (x : Sub a b) : KeepL a b := fun _ _ _ h => x _ h
theorem Zin.sub {z : Addr} {a b : Led} (x : Sub a b) (h : Zin z a) : Zin z b := let ⟨vs, c, m⟩ := h; ⟨vs, c, x _ m⟩
theorem Zin.keep {z : Addr} {a b : Led} (x : KeepL a b) (h : Zin z a) : Zin z b := let ⟨vs, c, m⟩ := h; ⟨vs, c, x _ _ _ m⟩

theorem behR_len {side : Int} {r acc : List Int} {n : Nat} (h1 : acc.length ≤ n) (h2 : r.length ≤ n) : (behR side acc r).length ≤ n := by
  unfold behR
  generalize List.range r.length = l
  induction l generalizing acc with
  | nil => exact h1
  | cons i l ih =>
    refine ih ?_
    unfold behI rot1
    split
    · rw [List.length_append, List.length_drop, List.length_take]
      omega
    · exact h1
theorem behL_len {side : Int} {rs : List (List Int)} {n : Nat} (h : ∀ r ∈ rs, r.length ≤ n) : (behL rs side).length ≤ n := by
  unfold behL
  suffices ∀ acc : List Int, acc.length ≤ n → (rs.foldl (behR side) acc).length ≤ n from this [] (Nat.zero_le _)
  induction rs with
  | nil => exact fun _ h => h
  | cons r rs ih => exact fun acc h1 => ih (fun r hr => h r (.tail _ hr)) _ (behR_len h1 (h r (.head _)))
theorem beh_hit {ri : List Int} {k : Int} {j : Nat} {acc : List Int} (hj : j < ri.length) (h : ri.getD j 0 = k) : (List.range (j + 1)).foldl (behI ri k) acc = ri.drop ((j : Int) + 1).toNat ++ ri.take ((j : Int) + 1).toNat := by
  rw [List.range_succ, List.foldl_append]
  have e : ri[j]? = some k := by
    rw [List.getElem?_eq_getElem hj, ← h, List.getD_eq_getElem?_getD, List.getElem?_eq_getElem hj]
    rfl
  show behI ri k _ j = _
  unfold behI rot1
  rw [if_pos e, show ((j : Int) + 1).toNat = j + 1 by omega]
theorem beh_miss {ri : List Int} {k : Int} {j : Nat} {acc : List Int} (hj : j < ri.length) (h : ri.getD j 0 ≠ k) : (List.range (j + 1)).foldl (behI ri k) acc = (List.range j).foldl (behI ri k) acc := by
  rw [List.range_succ, List.foldl_append]
  have e : ¬ ri[j]? = some k := by
    intro e
    apply h
    rw [List.getD_eq_getElem?_getD, e]
    rfl
  show behI ri k _ j = _
  unfold behI
  rw [if_neg e]
theorem frm_a {a b : Str} {M : Str → Option Value} {x x' v u : Option Value} : (fun y => if y = a then x else if y = b then v else if y = a then x' else if y = b then u else M y) = fun y => if y = a then x else if y = b then v else M y := by
  funext y
  by_cases h1 : y = a
  · simp only [if_pos h1]
  · by_cases h2 : y = b
    · simp only [if_neg h1, if_pos h2]
    · simp only [if_neg h1, if_neg h2]
theorem frm_b {a b : Str} {M : Str → Option Value} {x v u : Option Value} (hab : a ≠ b) : (fun y => if y = b then v else if y = a then x else if y = b then u else M y) = fun y => if y = a then x else if y = b then v else M y := by
  funext y
  by_cases h1 : y = a
  · have h2 : ¬ y = b := by rw [h1]; exact hab
    simp only [if_pos h1, if_neg h2]
  · by_cases h2 : y = b
    · simp only [if_neg h1, if_pos h2]
    · simp only [if_neg h1, if_neg h2]
theorem ktn_ne {d : Addr} {l : Led} (h : AllLt d l) {a : Addr} {o : Obj} (hm : (a, o) ∈ l) : a ≠ d := Nat.ne_of_lt (ktn_ltOf h _ hm)
theorem list_of {h₀ h : Heap} {L : Addr} {news : Led} (N : News h₀ L h news) {l : Addr} {vs : List Value} {c : Nat} (hm : (l, listOf vs.toArray c) ∈ news) : h.IsList l vs.toArray := ⟨_, (N _ hm).1, rfl, c, rfl⟩
end
local macro_rules | `(tactic| k_mem) => `(tactic| first | with_reducible assumption | with_reducible exact List.mem_cons_self | (with_reducible refine List.mem_cons_of_mem _ ?_; k_mem))
local macro_rules | `(tactic| is_list) => `(tactic| exact list_of (by k_asm) (by k_mem))
-- the walk, stopped ahead of a loop's iterator
local macro_rules | `(tactic| ktn_open) => `(tactic| repeat' (first | (k_unfold; (try dsimp only)) | (k_end; wrow_close) | ((fail_if_success (with_reducible show wpAny _ _ (pyIter _) _ _ _)); (fail_if_success (with_reducible show wpAny _ _ (eval (PySem.Expr.ListComp _ _ _ _) _) _ _ _)); (fail_if_success (with_reducible show LCt.CompSrcT _ _ _ _ _ _ _ _ _ _ _ _ _ _ _)); (fail_if_success (with_reducible show LCg.CompSrc _ _ _ _ _ _ _ _ _ _ _ _ _ _)); (fail_if_success (with_reducible show wpAny _ _ (exec (PySem.Stmt.Assign _ (PySem.Expr.ListComp _ _ _ _) _) _) _ _ _)); (first | walk1 | (dsimp only; walk1) | (leave1; walk_say "STEP leave1"; try dsimp only))) | fail "no step"))
local macro_rules | `(tactic| walk_at "subscriptTail Name Slice ref ref") => `(tactic| (k_here; (with_reducible show wpAny _ _ (subscriptTail _ (PySem.Expr.Slice _ _ none _) (Value.ref _) (Value.ref _)) _ _ _); k_dflt (refine' kmk_slice_ints (s := ⟨_, _, _, _, _⟩) ?F ?N ?l ?p ?q ?i ?m ?c ?_ ?s ?t ?z; (case F | N => k_asm); (case l => is_list); (case p | q => kmk_part); (case i => with_reducible assumption); (case m => first | exact kmk_from (by with_reducible assumption) (by omega) | exact kmk_upto (by with_reducible assumption) (by omega) | exact kmk_upto_neg (by with_reducible assumption) (by omega) | exact kmk_from_neg (by with_reducible assumption) (by omega)); (case c => exact rfl); (case s => with_unfolding_all rfl); (case t => kmk_pure); (case z => (refine kmk_sz (by with_reducible assumption) ?_; (simp only [sizeLine_eq, List.length_append, List.length_take, List.length_drop]); omega))); intro D' ws' h' F' N' l1 hI' hC' hL'; (try simp only [Int.reduceNeg, Int.neg_neg, Int.reduceToNat] at hI' hC' hL'); (try k_lt l1); (try k_sweep)))
theorem name_map {h₀ h : Heap} {L : Addr} {m : Str → Option Value} (F : Fr h₀ L h m) : ∃ M, M = m ∧ Fr h₀ L h M := ⟨m, rfl, F⟩
section
variable {w : World} {p : Program} {loose : List Str} {mean : ExcName → Option Value} {mg mb : Str → Option Value} {z : Addr}

section
 local macro_rules | `(tactic| walk_at "eval Name") => `(tactic| (k_here; k_dflt (refine' ld ?k1 ?k2 ?_; (case k1 => k_asm); (case k2 => assumption); k_whole)))
set_option maxRecDepth 100000 in
set_option maxHeartbeats 8000000 in
theorem call_behind {k : Nat} {t : Tok} {lr : Addr} {rs : List (List Int)} (hk : k < 100) (hlen : ∀ r ∈ rs, r.length ≤ 100) : Ctr w p loose mean mg mb 20 200 (fun news => LL z news lr rs ∧ Zin z news) (call (.ref 337) [.ref lr, .int (k : Int) t])
    (fun news r news' => ∃ a, r = .ref a ∧ LI z news' a (behL rs k) ∧ Sub news news' ∧ (behL rs k).length ≤ 100) := by
  intro dp un gd cn cs a ccd cl outer A₀ base h₀ L m news s Q E B F X N T hk0 hP hd hu hret
  obtain ⟨hP0, hz⟩ := hP
  obtain ⟨hnz, as, c, hm, hf⟩ := id hP0
  refine wpAny_call ?_
  k_dflt ktr_enter
  k_steps
  (rename Fr _ _ _ _ => lF')
  (with_unfolding_all refine' For_invVF lF' ?k1 ?k2 ?_)
  case k1 => exact rfl
  case k2 => exact rfl
  ktn_open
  (rename News _ _ _ _ => lN')
  (rename ∀ _ ∈ news, _ => low)
  obtain ⟨M, hM, lF'⟩ := name_map lF'
  have hside : M (Str.ofString "side") = some (.int (k : Int) t) := by rw [hM]; rfl
  refine for_led (c := c) (vs := as.map Value.ref) (J := fun i m₁ news₁ => ∃ (at' : Addr) (u1 u2 : Option Value), m₁ = (fun y => if y = Str.ofString "turned" then some (.ref at') else if y = Str.ofString "ring" then u1 else if y = Str.ofString "k" then u2 else M y) ∧ LI z news₁ at' (behL (rs.take i) k) ∧ Sub news news₁) ?mono rfl lF' lN' (.tail _ hm) ?start ?turn ?done
  case mono =>
    rintro I i m₁ a b hI hs hn ⟨at', u1, u2, e, hl, hsub⟩
    exact ⟨at', u1, u2, e, hl.mono hn.list, fun p hp => hs p (hsub p hp) (hI p (.tail _ hp))⟩
  case start =>
    refine ⟨_, M (Str.ofString "ring"), M (Str.ofString "k"), ?e, ⟨?z, [], _, .head _, .nil⟩, fun p hp => .tail _ hp⟩
    case e =>
      funext y
      by_cases h1 : y = Str.ofString "turned"
      · rw [if_pos h1, h1, hM]
        rfl
      · rw [if_neg h1]
        by_cases h2 : y = Str.ofString "ring"
        · rw [if_pos h2, h2]
        · rw [if_neg h2]
          by_cases h3 : y = Str.ofString "k"
          · rw [if_pos h3, h3]
          · rw [if_neg h3]
    case z =>
      obtain ⟨_, _, hz1⟩ := hz
      exact Ne.symm (Nat.ne_of_lt (low _ hz1))
  case done =>
    rintro m₁ news₁ h tk ⟨at', u1, u2, rfl, hl, hsub⟩ F₁ N₁
    k_steps
    refine hret _ _ _ _ (by k_asm) (by k_asm) ⟨at', rfl, ?_, hsub, behL_len hlen⟩
    rw [List.length_map, hf.length, List.take_length] at hl
    exact hl
  case turn =>
    rintro i v m₁ news₁ h tk I oI hv ⟨at', u1, u2, rfl, hl, hsub⟩ hlm hc F₁ N₁
    rw [List.getElem?_map] at hv
    obtain ⟨ai, hai, hv⟩ := Option.map_eq_some_iff.mp hv
    subst hv
    obtain ⟨ri, hri, hLI⟩ := hf.get hai
    have hLI1 := hLI.mono hsub.list
    obtain ⟨hnz1, vs1, c1, hm1, hi1⟩ := id hLI1
    have hl1 := hlen _ (List.mem_of_getElem? hri)
    have hm1' : (ai, listOf vs1.toArray c1) ∈ (I, oI) :: news₁ := .tail _ hm1
    refine wpAny_execs_cons ?_
    (with_unfolding_all refine' For_invVF F₁ ?k1 ?k2 ?_)
    case k1 => exact rfl
    case k2 => exact rfl
    ktn_open
    (rename IsRange _ _ _ _ _ _ _ _ => rg)
    (rename Fr _ _ _ _ => F₂)
    (rename News _ _ _ _ => N₂)
    obtain ⟨M2, hM2, F₂⟩ := name_map F₂
    have hside2 : M2 (Str.ofString "side") = some (.int (k : Int) t) := by rw [hM2]; exact hside
    have hring2 : M2 (Str.ofString "ring") = some (.ref ai) := by rw [hM2]; rfl
    have hturn2 : M2 (Str.ofString "turned") = some (.ref at') := by rw [hM2]; rfl
    refine for_range (n := ri.length) (J := fun j m₂ news₂ => ∃ (at2 : Addr) (u : Option Value), m₂ = (fun y => if y = Str.ofString "turned" then some (.ref at2) else if y = Str.ofString "k" then u else M2 y) ∧ LI z news₂ at2 ((List.range j).foldl (behI ri k) (behL (rs.take i) k)) ∧ Sub ((I, oI) :: news₁) news₂) ?mono2 rfl rg (small_one (by omega) (by omega) (by omega) (by omega)) (rangeSize_nat _ _) F₂ N₂ ?start2 ?turn2 ?done2
    case mono2 =>
      rintro I2 i2 m₂ a b hI hs hn ⟨at2, u, e, hl, hsub2⟩
      exact ⟨at2, u, e, hl.mono hn.list, fun p hp => hs p (hsub2 p hp) (hI p hp)⟩
    case start2 =>
      refine ⟨at', M2 (Str.ofString "k"), ?_, hl.mono cons_list, Sub.refl⟩
      funext y
      by_cases h1 : y = Str.ofString "turned"
      · rw [if_pos h1, h1, hturn2]
      · rw [if_neg h1]
        by_cases h2 : y = Str.ofString "k"
        · rw [if_pos h2, h2]
        · rw [if_neg h2]
    case done2 =>
      rintro m₂ news₂ h2 tk2 ⟨at2, u, rfl, hl2, hsub2⟩ F₃ N₃
      ktn_open
      refine ⟨_, _, _, news₂, rfl, F₃, N₃, ?need, at2, some (.ref ai), u, ?_, ?_, ?_⟩
      case need =>
        intro p hp
        rcases List.mem_cons.mp hp with rfl | hp
        · exact hsub2 _ (.head _)
        · rw [List.mem_singleton.mp hp]
          exact hsub2 _ (.tail _ hlm)
      · funext y
        by_cases h1 : y = Str.ofString "turned"
        · rw [if_pos h1, if_pos h1]
        · rw [if_neg h1, if_neg h1]
          by_cases h2 : y = Str.ofString "k"
          · rw [if_pos h2, if_pos h2, h2]; rfl
          · rw [if_neg h2, if_neg h2, hM2]
            by_cases h3 : y = Str.ofString "ring"
            · rw [if_pos h3, h3]; rfl
            · rw [if_neg h3]
              simp only [if_neg h1, if_neg h2, if_neg h3]
      · rw [List.take_add_one, hri]
        unfold behL at *
        rw [List.foldl_append]
        exact hl2
      · exact fun p hp => hsub2 p (.tail _ (hsub p hp))
    case turn2 =>
      rintro j t2 m₂ news₂ h2 tk2 I2 oI2 hj ⟨at2, u, rfl, hl2, hsub2⟩ hc2 F₃ N₃
      simp only [Int.zero_add] at F₃
      have hm2 : (ai, listOf vs1.toArray c1) ∈ news₂ := hsub2 _ hm1'
      ktn_open
      · (rename ri.getD _ _ = _ => hq)
        (rename Fr _ _ _ _ => F₄)
        (rename News _ _ _ _ => N₄)
        (rename IntsAre _ (_ ++ _) => hi4)
        (rename _ ∧ _ ∧ _ ∧ AllLt _ news₂ => low4)
        rw [frm_a] at F₄
        refine ⟨_, _, _, _, rfl, F₄, N₄, ?need, _, _, rfl, ⟨?z, _, _, .head _, ?i4⟩, ?sub⟩
        case need =>
          intro p hp
          rw [List.mem_singleton.mp hp]
          exact .tail _ (.tail _ (.tail _ (.head _)))
        case z =>
          obtain ⟨_, _, hz1⟩ := hz
          exact Ne.symm (ktn_ne low4.2.2.2 (hsub2 _ (.tail _ (hsub _ hz1))))
        case i4 =>
          rw [beh_hit hj (by simpa using hq)]
          exact hi4
        case sub => exact fun p hp => .tail _ (.tail _ (.tail _ (.tail _ (hsub2 p hp))))
      · (rename ri.getD _ _ ≠ _ => hq)
        rw [frm_b (by decide)] at F₃
        refine ⟨_, _, _, _, rfl, F₃, N₃, ?need, _, _, rfl, ?li, ?sub⟩
        case need =>
          intro p hp
          rw [List.mem_singleton.mp hp]
          exact .head _
        case li =>
          rw [beh_miss hj (by simpa using hq)]
          exact hl2.mono cons_list
        case sub => exact fun p hp => .tail _ (hsub2 p hp)
end
end



open LCg LCt in
section
variable {prog : Program} {w : World} {A : Around} {s : Shared} {h₀ : Heap} {L : Addr} {m : Str → Option Value} {env : Env} {ct elt : Expr} {x : Str} {scope : Scope} {cl : List (Str × Addr)} {S : Led → Prop} {Fin : List Value → Led → Prop}

/-- what a tree of a block's turn does: it hands on its value and keeps the ledger -/
abbrev TurnsTo {α : Type} (prog : Program) (w : World) (A : Around) (h₀ : Heap) (L : Addr) (m : Str → Option Value) (s : Shared) (news : Led) (x : Str) (v : Value) (t : Addr → Sem α) (r : α) : Prop :=
  ∀ (I : Addr) (oI : Obj) (C : Addr) (oC : Obj) (D : Addr) (ys : List Value) (m₂ : Str → Option Value) (h : Heap) (tk : Nat) (E' : Value → Shared → Prop) (Q' : α → Shared → Prop), NsObj oC m₂ → m₂ x = some v → Fr h₀ L h m → News h₀ L h ((I, oI) :: (C, oC) :: (D, LCg.lst ys) :: news) →
    (∀ h' tk', Fr h₀ L h' m → News h₀ L h' ((I, oI) :: (C, oC) :: (D, LCg.lst ys) :: news) → Q' r { s with heap := h', toks := tk' }) → wpAny (model prog w) A (t C) Q' E' { s with heap := h, toks := tk }

theorem turn_name {pos : Pos} {news : Led} {v : Value} (hk : ∀ C, (compEnvC scope cl C env).scope.kind = .function) (hl : ∀ C, (compEnvC scope cl C env).kindOf x = some .local) (hd : (x == ("__debug__" : Str)) = false) :
    TurnsTo prog w A h₀ L m s news x v (fun C => eval (.Name x pos) (compEnvC scope cl C env)) v :=
  fun I oI C oC D ys m₂ h tk E' Q' hC hx F N k => LCgL.ld_own N (.tail _ (.head _)) hC hx (k _ _ F N) (hk C) (hl C) hd

theorem compT_filter {γ : Type} {news : Led} (zs : List (Value × γ)) (q : Value × γ → Bool)
    (test : ∀ z ∈ zs, TurnsTo prog w A h₀ L m s news x z.1 (fun C => isTrue ct (compEnvC scope cl C env) (eval ct (compEnvC scope cl C env))) (q z))
    (el : ∀ z ∈ zs, TurnsTo prog w A h₀ L m s news x z.1 (fun C => eval elt (compEnvC scope cl C env)) z.1)
    (hS : S news) (fin : Fin ((zs.filter q).map Prod.fst) news) :
    ∀ k i ys, i + k = zs.length → ys = ((zs.take i).filter q).map Prod.fst → CompRestT prog w A h₀ L m env ct elt x scope cl s S (fun i v => (zs.map Prod.fst).toArray[i]? = some v) Fin k i ys news := by
  intro k
  induction k with
  | zero =>
    intro i ys hi hy
    refine CompRestT.zero ?_
    have : i = zs.length := by omega
    rw [hy, this, List.take_length]
    exact fin
  | succ k ih =>
    intro i ys hi hy
    refine CompRestT.succ ?_
    intro v I oI C oC D m₂ h tk E' hv hC hx F N off ne
    have hv' : (zs.map Prod.fst)[i]? = some v := by simpa using hv
    rw [List.getElem?_map] at hv'
    obtain ⟨z, hz, hzv⟩ := Option.map_eq_some_iff.mp hv'
    subst hzv
    have hmem := List.mem_of_getElem? hz
    have htake : zs.take (i + 1) = zs.take i ++ [z] := by rw [List.take_add_one, hz]; rfl
    refine test z hmem I oI C oC D ys m₂ h tk E' _ hC hx F N fun h' tk' F' N' => ?_
    cases hq : q z with
    | true =>
      simp only [if_true]
      refine el z hmem I oI C oC D ys m₂ h' tk' E' _ hC hx F' N' fun h'' tk'' F'' N'' => ?_
      refine ⟨h'', tk'', news, rfl, F'', N'', off, hS, ih (i + 1) _ (by omega) ?_⟩
      rw [htake, List.filter_append, List.map_append, hy]
      simp [hq]
    | false =>
      simp only [Bool.false_eq_true, if_false]
      refine ⟨h', tk', news, rfl, F', N', off, hS, ih (i + 1) _ (by omega) ?_⟩
      rw [htake, List.filter_append, List.map_append, hy]
      simp [hq]
end
theorem All2.zip {α β : Type} {R : α → β → Prop} {f : α → Value} {as : List α} {bs : List β} (h : All2 R as bs) : ((as.map f).zip bs).map Prod.fst = as.map f ∧ ((as.map f).zip bs).map Prod.snd = bs ∧ ∀ p ∈ (as.map f).zip bs, ∃ a, p.1 = f a ∧ R a p.2 := by
  induction h with
  | nil => exact ⟨rfl, rfl, fun _ hp => nomatch hp⟩
  | cons x _ ih =>
    obtain ⟨e1, e2, e3⟩ := ih
    refine ⟨by simp only [List.map_cons, List.zip_cons_cons, e1], by simp only [List.map_cons, List.zip_cons_cons, e2], fun p hp => ?_⟩
    rw [List.map_cons, List.zip_cons_cons] at hp
    rcases List.mem_cons.mp hp with rfl | hp
    · exact ⟨_, rfl, x⟩
    · exact e3 p hp
theorem LL.zs {z : Addr} {news : Led} {a : Addr} {rs : List (List Int)} (h : LL z news a rs) : ∃ (zs : List (Value × List Int)) (c : Nat), (a, listOf (zs.map Prod.fst).toArray c) ∈ news ∧ zs.map Prod.snd = rs ∧ ∀ p ∈ zs, ∃ b, p.1 = .ref b ∧ LI z news b p.2 := by
  obtain ⟨_, as, c, hm, hf⟩ := h
  obtain ⟨e1, e2, e3⟩ := hf.zip (f := Value.ref)
  exact ⟨_, c, by rw [e1]; exact hm, e2, e3⟩
theorem LL.of {z : Addr} {news : Led} {a : Addr} {zs : List (Value × List Int)} {c : Nat} (hz : a ≠ z) (hm : (a, listOf (zs.map Prod.fst).toArray c) ∈ news) (hp : ∀ p ∈ zs, ∃ b, p.1 = .ref b ∧ LI z news b p.2) : LL z news a (zs.map Prod.snd) := by
  suffices ∃ as : List Addr, zs.map Prod.fst = as.map Value.ref ∧ All2 (LI z news) as (zs.map Prod.snd) by
    obtain ⟨as, e, f⟩ := this
    exact ⟨hz, as, c, by rw [← e]; exact hm, f⟩
  clear hm
  induction zs with
  | nil => exact ⟨[], rfl, .nil⟩
  | cons p zs ih =>
    obtain ⟨as, e, f⟩ := ih fun p h => hp p (.tail _ h)
    obtain ⟨b, eb, hb⟩ := hp p (.head _)
    exact ⟨b :: as, by rw [List.map_cons, List.map_cons, e, eb], .cons hb f⟩
theorem LL.snoc {z : Addr} {news : Led} {D d : Addr} {zs : List (Value × List Int)} {q : Value × List Int → Bool} {c : Nat} {T : List Int} {rs : List (List Int)} (hz : D ≠ z) (hm : (D, listOf ((zs.filter q).map Prod.fst ++ [Value.ref d]).toArray c) ∈ news) (hp : ∀ p ∈ zs, ∃ b, p.1 = .ref b ∧ LI z news b p.2) (hd : LI z news d T)
    (e : rs = (zs.filter q).map Prod.snd ++ [T]) : LL z news D rs := by
  have h := LL.of (zs := zs.filter q ++ [(Value.ref d, T)]) (c := c) hz (by rw [List.map_append]; exact hm) (fun p h => by
    rcases List.mem_append.mp h with h | h
    · exact hp p (List.mem_filter.mp h).1
    · rw [List.mem_singleton.mp h]; exact ⟨d, rfl, hd⟩)
  rw [List.map_append] at h
  rw [e]
  exact h
theorem LL.snoc2 {z : Addr} {news : Led} {D d d' : Addr} {zs : List (Value × List Int)} {q : Value × List Int → Bool} {c : Nat} {T T' : List Int} {rs : List (List Int)} (hz : D ≠ z) (hm : (D, listOf ((zs.filter q).map Prod.fst ++ [Value.ref d, Value.ref d']).toArray c) ∈ news) (hp : ∀ p ∈ zs, ∃ b, p.1 = .ref b ∧ LI z news b p.2) (hd : LI z news d T) (hd' : LI z news d' T')
    (e : rs = (zs.filter q).map Prod.snd ++ [T, T']) : LL z news D rs := by
  have h := LL.of (zs := zs.filter q ++ [(Value.ref d, T), (Value.ref d', T')]) (c := c) hz (by rw [List.map_append]; exact hm) (fun p h => by
    rcases List.mem_append.mp h with h | h
    · exact hp p (List.mem_filter.mp h).1
    · rcases List.mem_cons.mp h with h | h
      · rw [h]; exact ⟨d, rfl, hd⟩
      · rw [List.mem_singleton.mp h]; exact ⟨d', rfl, hd'⟩)
  rw [List.map_append] at h
  rw [e]
  exact h
theorem zs_mono {z : Addr} {a b : Led} {zs : List (Value × List Int)} (h : KeepL a b) (hp : ∀ p ∈ zs, ∃ b, p.1 = .ref b ∧ LI z a b p.2) : ∀ p ∈ zs, ∃ x, p.1 = .ref x ∧ LI z b x p.2 := fun p h1 => let ⟨x, e, l⟩ := hp p h1; ⟨x, e, l.mono h⟩
section
variable {prog : Program} {w : World} {A : Around} {E : Value → Shared → Prop} {s : Shared} {h₀ : Heap} {L a b : Addr} {m : Str → Option Value} {news : Led} {vs us : List Value} {c c' : Nat} {Q : Value → Shared → Prop}
theorem cat_led (F : Fr h₀ L s.heap m) (N : News h₀ L s.heap news) (ha : (a, listOf vs.toArray c) ∈ news) (hb : (b, listOf us.toArray c') ∈ news) (hsz : vs.length + us.length ≤ 10000)
    (h : ∀ D h', Fr h₀ L h' m → News h₀ L h' ((D, listOf (vs ++ us).toArray 0) :: news) → (∀ p ∈ news, p.1 < D) → Q (.ref D) { s with heap := h' }) :
    wpAny (model prog w) A (binaryOp .Add (.ref a) (.ref b)) Q E s :=
  add_lists (hsz := by rw [sizeLine_eq]; omega) F N (list_of N ha) (list_of N hb) (fun h' F' N' => h _ h' F' N' fun p hp => Heap.lt_size (N p hp).1)
end

theorem ints_any {vs : List Value} {ns : List Int} (hi : IntsAre vs ns) (k : Int) : kf_ints vs = true ∧ vs.any (isInt k) = ns.contains k := by
  induction hi with
  | nil => exact ⟨rfl, rfl⟩
  | cons x t _ ih =>
    refine ⟨ih.1, ?_⟩
    rw [List.any_cons, ih.2, List.contains_cons]
    congr 1
    show (x == k) = (k == x)
    exact Bool.eq_iff_iff.mpr ⟨fun h => by rw [beq_iff_eq] at *; exact h.symm, fun h => by rw [beq_iff_eq] at *; exact h.symm⟩
section
variable {prog : Program} {w : World} {A : Around} {E : Value → Shared → Prop} {s : Shared} {h₀ : Heap} {L D : Addr} {news : Led} {vs : List Value} {ns : List Int} {c : Nat} {k : Int} {t : Tok} {Q : Value → Shared → Prop}
theorem in_led (N : News h₀ L s.heap news) (hm : (D, listOf vs.toArray c) ∈ news) (hi : IntsAre vs ns) (h : Q (.bool (ns.contains k)) s) : wpAny (model prog w) A (compareOp .In (.int k t) (.ref D)) Q E s :=
  kf_in N hm (ints_any hi k).1 (ints_any hi k).2 h
theorem notin_led (N : News h₀ L s.heap news) (hm : (D, listOf vs.toArray c) ∈ news) (hi : IntsAre vs ns) (h : Q (.bool (!ns.contains k)) s) : wpAny (model prog w) A (compareOp .NotIn (.int k t) (.ref D)) Q E s :=
  kf_notin N hm (ints_any hi k).1 (by rw [List.toList_toArray, (ints_any hi k).2]) h
end
local macro_rules | `(tactic| walk_at "compareOp In int ref") => `(tactic| (k_here; k_dflt (refine in_led (by k_asm) (by k_mem) (by with_reducible assumption) ?_)))
local macro_rules | `(tactic| walk_at "compareOp NotIn int ref") => `(tactic| (k_here; k_dflt (refine notin_led (by k_asm) (by k_mem) (by with_reducible assumption) ?_)))

theorem off_z {z d : Addr} {l : Led} (h : AllLt d l) (hz : Zin z l) : d ≠ z := by
  obtain ⟨_, _, hm⟩ := hz
  exact Ne.symm (ktn_ne h hm)
theorem off_z' {z d : Addr} {l : Led} (h : ∀ p ∈ l, p.1 < d) (hz : Zin z l) : d ≠ z := by
  obtain ⟨_, _, hm⟩ := hz
  exact Ne.symm (Nat.ne_of_lt (h _ hm))
-- an address made after z is not z
local macro_rules | `(tactic| tb_rel) => `(tactic| first
  | exact off_z' (by assumption) (by assumption)
  | exact off_z (by assumption) (by assumption)
  | exact off_z (by assumption : _ ∧ AllLt _ _).2 (by assumption)
  | exact off_z (by assumption : _ ∧ _ ∧ AllLt _ _).2.2 (by assumption)
  | exact off_z (by assumption : _ ∧ _ ∧ _ ∧ AllLt _ _).2.2.2 (by assumption)
  | exact off_z (by assumption : _ ∧ _ ∧ _ ∧ _ ∧ AllLt _ _).2.2.2.2 (by assumption)
  | exact off_z (by assumption : _ ∧ _ ∧ _ ∧ _ ∧ _ ∧ AllLt _ _).2.2.2.2.2 (by assumption)
  | exact off_z (by assumption : _ ∧ _ ∧ _ ∧ _ ∧ _ ∧ _ ∧ AllLt _ _).2.2.2.2.2.2 (by assumption))
theorem qcast {Q : Bool → Shared → Prop} {a b : Bool} {S : Shared} (e : a = b) (h : Q a S) : Q b S := e ▸ h



theorem pre_sub {z : Addr} {a b : Led} {lr : Addr} {rs : List (List Int)} (s : Sub a b) (h : LL z a lr rs ∧ Zin z a) : LL z b lr rs ∧ Zin z b := ⟨h.1.mono s.list, h.2.sub s⟩
local macro_rules | `(tactic| k_enter) => `(tactic| (refine' code_defC ?k1 ?k2 ?k3 ?k4 ?k5 ?kA ?kF ?kK ?k6 ?k7 ?k8 ?k9 ?kB ?kD ?_ ?c2 ?c3 ?c4; (case kA | kF => exact rfl); (case kK => first | exact rfl | assumption); (case k1 | k2 | k3 | k4 | k5 => k_asm); (case k6 | k7 => k_is); (case k8 => ktr_room); (case k9 => first | exact BindsTo.of_eq rfl | exact binds_K (by k_in) rfl (by k_is) rfl rfl rfl); (case kB => exact rfl); (case kD => decide +kernel); (case c2 | c3 | c4 => exact rfl); k_whole; intro g' L' h' tk' cells' FG' F' N' Y' B' X' T' l1; (try k_lt l1); k_cells Y'; (try simp only [List.cons_append, List.nil_append] at N'); (try dsimp only); (try k_lift B'); (try k_fold)))
-- _law_behind at its call
local macro_rules | `(tactic| ktr_call 3 $c:term) => `(tactic| (
  ktr_call 99 $c
  (tb_start)
  (all_goals (first | assumption | (intro r9 h9 tk9 news9 F9 N9 o9; obtain ⟨a9, e9, L9, U9, hb9⟩ := o9; subst e9; obtain ⟨nz9, vs9, c9, hm9, hi9⟩ := id L9; (try (have hU1 := U9 _ List.mem_cons_self)); (try (have hU2 := U9 _ (List.mem_cons_of_mem _ List.mem_cons_self))); (try (have hU3 := U9 _ (List.mem_cons_of_mem _ (List.mem_cons_of_mem _ List.mem_cons_self)))); (try (have hP9 := pre_sub U9 (by tb_start))); (try dsimp only); (try k_fold))))))
local macro_rules | `(tactic| walk_at "call ref") => `(tactic| (k_here; (with_reducible show wpAny _ _ (call (Value.ref 337) _) _ _ _); k_dflt (ktr_call 3 (call_behind _ _))))
theorem pre_sub' {z : Addr} {a b : Led} {lr : Addr} {rs : List (List Int)} (h : LL z a lr rs ∧ Zin z a) (s : ∀ p ∈ a, p ∈ b) : LL z b lr rs ∧ Zin z b := pre_sub s h
local macro_rules | `(tactic| tb_start) => `(tactic| first | with_reducible assumption | exact pre_sub' (by with_reducible assumption) (by intro p9 h9; k_mem))

/-- _law_put over plain lists -/
noncomputable def putL (rs : List (List Int)) (side other : Int) (ahead : Bool) : List (List Int) :=
  rs.filter (fun r => !r.contains other) ++ [(behL rs other).take ((behL rs other).length - 1) ++ (if ahead then [side, other] else [other, side])]

section
variable {w : World} {p : Program} {loose : List Str} {mean : ExcName → Option Value} {mg mb : Str → Option Value} {z : Addr}
set_option maxRecDepth 100000 in
set_option maxHeartbeats 8000000 in
theorem call_put {k j : Nat} {t u : Tok} {b : Bool} {lr : Addr} {rs : List (List Int)} (hk : k < 100) (hj : j < 100) (hlen : ∀ r ∈ rs, r.length ≤ 100) (hn : rs.length ≤ 100) : Ctr w p loose mean mg mb 60 600 (fun news => LL z news lr rs ∧ Zin z news) (call (.ref 347) [.ref lr, .int (k : Int) t, .int (j : Int) u, .bool b])
    (fun news r news' => ∃ a, r = .ref a ∧ LL z news' a (putL rs k j b) ∧ Sub news news') := by
  intro dp un gd cn cs a ccd cl outer A₀ base h₀ L m news s Q E B F X N T hk0 hP hd hu hret
  cases b <;> (
    refine wpAny_call ?_
    k_dflt k_enter
    ktn_open
    (rename Sub _ _ => U0)
    (rename LI _ _ _ (behL _ _) => L0)
    have hsub : Sub news _ := fun p hp => U0 p (.tail _ hp)
    have hz := hP.2.sub hsub
    obtain ⟨zs, c, hzm, hzr, hzs⟩ := (hP.1.mono hsub.list).zs
    k_dflt (refine LCt.ListComp_T (F₀ := by k_asm) (by with_unfolding_all rfl) (by decide) (by rfl) (by decide) (by rfl) ?_)
    ktn_open
    k_dflt (refine LCt.CompSrcT.ledger (by rfl) (by k_asm) (by k_asm) (by k_mem) ?sz ?_)
    case sz =>
      have e1 : zs.length = rs.length := by rw [← hzr, List.length_map]
      rw [List.size_toArray, List.length_map, sizeLine_eq]
      omega
    intro g9
    refine compT_filter zs (fun zz => !zz.2.contains (j : Int)) ?test ?el ?hS ?fin _ 0 [] (by simp) rfl
    case test =>
      intro zz hzz I oI C oC D ys m₂ h tk E' Q' hC hx F9 N9 hQ
      obtain ⟨b', hb, hLI⟩ := hzs zz hzz
      obtain ⟨_, vs', c', hm', hi'⟩ := hLI
      have hl' : zz.2.length ≤ 100 := hlen _ (by rw [← hzr]; exact List.mem_map_of_mem hzz)
      rw [hb] at hx
      ktn_open
      exact hQ _ _ (by k_asm) (by k_asm)
    case el => exact fun zz hzz => turn_name (fun _ => rfl) (fun _ => rfl) (by decide)
    case hS => exact .inr ⟨_, by k_mem, rfl, _, rfl⟩
    case fin =>
      intro D9 h9 tk9 F9 N9 o9
      ktn_open
      (rename IntsAre _ (_ ++ _) => hiT)
      k_dflt (refine cat_led (by k_asm) (by k_asm) (by k_mem) (by k_mem) ?sz2 ?_)
      case sz2 =>
        have e1 : zs.length = rs.length := by rw [← hzr, List.length_map]
        have e2 : ((zs.filter fun zz => !zz.2.contains (j : Int)).map Prod.fst).length ≤ zs.length := by
          rw [List.length_map]
          exact List.length_filter_le _ _
        simp only [List.length_cons, List.length_nil]
        omega
      intro D8 h8 F8 N8 l8
      ktn_open
      refine hret _ _ _ _ (by k_asm) (by k_asm) ⟨D8, rfl, LL.snoc (off_z' l8 (hz.sub ?s1)) (by k_mem) (zs_mono (Sub.list ?s2) hzs) ⟨by tb_rel, _, _, by k_mem, hiT⟩ ?e8, ?s3⟩
      case s1 => exact fun p hp => by k_mem
      case s2 => exact fun p hp => by k_mem
      case s3 => exact fun p hp => by (have hp' := hsub p hp); k_mem
      case e8 =>
        unfold putL
        rw [← hzr, List.filter_map]
        rfl)
end



open LCg LCt in
section
variable {prog : Program} {w : World} {A : Around} {s : Shared} {h₀ : Heap} {L : Addr} {m : Str → Option Value} {env : Env} {ct elt : Expr} {x : Str} {scope : Scope} {cl : List (Str × Addr)} {S : Led → Prop} {Fin : List Value → Led → Prop}
theorem compT_range {news : Led} {n : Nat} (q : Nat → Bool)
    (test : ∀ i t, i < n → TurnsTo prog w A h₀ L m s news x (.int (i : Int) t) (fun C => isTrue ct (compEnvC scope cl C env) (eval ct (compEnvC scope cl C env))) (q i))
    (el : ∀ i t, i < n → TurnsTo prog w A h₀ L m s news x (.int (i : Int) t) (fun C => eval elt (compEnvC scope cl C env)) (.int (i : Int) t))
    (hS : S news) (fin : ∀ ys, IntsAre ys (((List.range n).filter q).map (fun i : Nat => (i : Int))) → Fin ys news) :
    ∀ k i ys, i + k = n → IntsAre ys (((List.range i).filter q).map (fun i : Nat => (i : Int))) → CompRestT prog w A h₀ L m env ct elt x scope cl s S (fun i v => ∃ t, v = .int ((0 : Int) + (i : Int)) t) Fin k i ys news := by
  intro k
  induction k with
  | zero =>
    intro i ys hi hy
    refine CompRestT.zero ?_
    have : i = n := by omega
    subst this
    exact fin _ hy
  | succ k ih =>
    intro i ys hi hy
    refine CompRestT.succ ?_
    intro v I oI C oC D m₂ h tk E' hv hC hx F N off ne
    obtain ⟨t, hv⟩ := hv
    rw [Int.zero_add] at hv
    subst hv
    refine test i t (by omega) I oI C oC D ys m₂ h tk E' _ hC hx F N fun h' tk' F' N' => ?_
    cases hq : q i with
    | true =>
      simp only [if_true]
      refine el i t (by omega) I oI C oC D ys m₂ h' tk' E' _ hC hx F' N' fun h'' tk'' F'' N'' => ?_
      refine ⟨h'', tk'', news, rfl, F'', N'', off, hS, ih (i + 1) _ (by omega) ?_⟩
      rw [List.range_succ, List.filter_append, List.map_append]
      simp only [List.filter_cons, hq, if_true, List.filter_nil, List.map_cons, List.map_nil]
      exact hy.append (.cons _ _ .nil)
    | false =>
      simp only [Bool.false_eq_true, if_false]
      refine ⟨h', tk', news, rfl, F', N', off, hS, ih (i + 1) _ (by omega) ?_⟩
      rw [List.range_succ, List.filter_append, List.map_append]
      simp only [List.filter_cons, hq, Bool.false_eq_true, if_false, List.filter_nil, List.map_nil, List.append_nil]
      exact hy
end

local macro_rules | `(tactic| walk_at "binaryOp Add ref ref") => `(tactic| (k_here; (with_reducible show wpAny _ _ (binaryOp _ (Value.ref _) (Value.ref _)) _ _ _); k_dflt (first
  | ((refine' kmk_add_ints ?F ?N ?a ?b ?i ?j ?_ ?z); (case F => k_asm); (case N => k_asm); (case a => is_list); (case b => is_list); (case i => with_reducible assumption); (case j => first | with_reducible assumption | l_ints); (case z => (simp only [sizeLine_eq, List.length_cons, List.length_nil, List.length_append, List.length_take, List.length_drop]; omega)); intro D' ws' h' F' N' l1 hI'; (try k_lt l1); (try k_sweep))
  | ((refine' cat_led ?F ?N ?a ?b ?z ?_); (case F => k_asm); (case N => k_asm); (case a => k_mem); (case b => k_mem); (case z => (simp only [List.length_cons, List.length_nil, List.length_map] at *; omega)); intro D' h' F' N' l1; (try k_sweep)))))
theorem store_cell {M : Model} {A : Around} {E : Value → Shared → Prop} {s : Shared} {h₀ : Heap} {L a c : Addr} {m : Str → Option Value} {cn : Str} {cs : Scope} {ccd : Value} {cl : List (Str × Addr)} {x : Str} {o : Obj} {v₀ : Option Value} {v : Value} {news : Led} {Q : Unit → Shared → Prop}
    (F : Fr h₀ L s.heap m) (N : News h₀ L s.heap news) (hc : cl.lookup x = some c) (hm : (c, o) ∈ news) (hd : o.data = .cell v₀)
    (hk : cs.kind = .function) (hx : (envX cn cs L a ccd cl).kindOf x = some .cell)
    (h : ∀ h' o' news', Fr h₀ L h' m → News h₀ L h' news' → (c, o') ∈ news' → o'.data = .cell (some v) → KeepL news news' → (∀ p ∈ news, p.1 ≠ c → p ∈ news') → Q () { s with heap := h' }) :
    wpAny M A (storeName (envX cn cs L a ccd cl) x v) Q E s := by
  refine storeX_C F (news_split N hm) hc (UpdF.head filter_off) hd (fun h' o' F' N' d' => h h' o' _ F' N' (.head _) d' (fun x vs c' hp => .tail _ (mem_off hp fun e => ?_)) fun p hp hne => .tail _ (mem_off hp hne)) hk hx
  have e' : x = c := e
  subst e'
  have := news_func N hp hm
  subst this
  cases hd

/-- the places of a number -/
noncomputable def places (f : List Int) (k : Int) : List Nat := (List.range f.length).filter (fun i => f.getD i 0 == k)
theorem places_some {f : List Int} {k : Int} (h : f.contains k = true) : ∃ p tl, places f k = p :: tl ∧ p < f.length := by
  have hm : k ∈ f := by simpa using h
  obtain ⟨i, hi, e⟩ := List.getElem_of_mem hm
  have hin : i ∈ places f k := by
    unfold places
    rw [List.mem_filter, List.mem_range]
    refine ⟨hi, ?_⟩
    rw [List.getD_eq_getElem?_getD, List.getElem?_eq_getElem hi, e]
    simp
  cases hp : places f k with
  | nil => rw [hp] at hin; cases hin
  | cons p tl =>
    refine ⟨p, tl, rfl, ?_⟩
    have : p ∈ places f k := by rw [hp]; exact .head _
    unfold places at this
    rw [List.mem_filter, List.mem_range] at this
    exact this.1
/-- _law_spliced over plain lists -/
noncomputable def splL (rs : List (List Int)) (one two : Int) : List (List Int) :=
  if one = two then rs
  else if (behL rs one).contains two then rs.filter (fun r => !r.contains one && !r.contains two) ++ [(behL rs one).take ((places (behL rs one) two).headD 0 + 1), (behL rs one).drop ((places (behL rs one) two).headD 0 + 1)]
  else rs.filter (fun r => !r.contains one && !r.contains two) ++ [behL rs one ++ behL rs two]

section
variable {w : World} {p : Program} {loose : List Str} {mean : ExcName → Option Value} {mg mb : Str → Option Value} {z : Addr}
set_option maxRecDepth 100000 in
set_option maxHeartbeats 8000000 in
theorem call_spliced {k j : Nat} {t u : Tok} {lr : Addr} {rs : List (List Int)} (hk : k < 100) (hj : j < 100) (hlen : ∀ r ∈ rs, r.length ≤ 100) (hn : rs.length ≤ 100) : Ctr w p loose mean mg mb 60 600 (fun news => LL z news lr rs ∧ Zin z news) (call (.ref 342) [.ref lr, .int (k : Int) t, .int (j : Int) u])
    (fun news r news' => ∃ a, r = .ref a ∧ LL z news' a (splL rs k j) ∧ Sub news news') := by
  intro dp un gd cn cs a ccd cl outer A₀ base h₀ L m news s Q E B F X N T hk0 hP hd hu hret
  refine wpAny_call ?_
  k_dflt k_enter
  rename_i g' L' h1 tk1 FG' F1 B' X' T' low o1 o2 o3 d1 d2 d3 N1
  replace d1 : o1.data = .cell none := d1
  replace d2 : o2.data = .cell (some (.int (j : Int) u)) := d2
  replace d3 : o3.data = .cell (some (.int (k : Int) t)) := d3
  ktn_open
  (rename Sub _ _ => U2)
  (rename Sub (_ :: _) _ => U1)
  (rename LI _ _ _ (behL _ (j : Int)) => L2)
  (rename LI _ _ _ (behL _ (k : Int)) => L1)
  have m1 := U2 _ (U1 _ (.head _))
  have m2 := U2 _ (U1 _ (.tail _ (.head _)))
  have m3 := U2 _ (U1 _ (.tail _ (.tail _ (.head _))))
  k_dflt (refine store_cell (by k_asm) (by k_asm) (by rfl) (by k_mem) d1 (by rfl) (by rfl) ?_)
  intro h2 o1' newsC FC NC hm1 hd1 hkL hkC
  have hPC := (hP.1.mono (sub_list fun p hp => U2 _ (U1 _ (.tail _ (.tail _ (.tail _ hp)))))).mono (fun x vs c h => hkL x vs c (.tail _ h))
  have hzC := (hP.2.sub (fun p hp => U2 _ (U1 _ (.tail _ (.tail _ (.tail _ hp)))))).keep (fun x vs c h => hkL x vs c (.tail _ h))
  have L1C := (L1.mono U2.list).mono (fun x vs c h => hkL x vs c (.tail _ h))
  have L2C := L2.mono (fun x vs c h => hkL x vs c (.tail _ h))
  have m2C := hkC _ (.tail _ m2) (by show L' + 1 + 1 ≠ L' + 1 + 1 + 1; exact Nat.ne_of_lt (Nat.lt_succ_self _))
  have m3C := hkC _ (.tail _ m3) (by show L' + 1 ≠ L' + 1 + 1 + 1; exact Nat.ne_of_lt (Nat.lt_succ_of_lt (Nat.lt_succ_self _)))
  have subC : Sub news newsC := fun p hp => hkC _ (.tail _ (U2 _ (U1 _ (.tail _ (.tail _ (.tail _ hp)))))) (Nat.ne_of_lt (Nat.lt_succ_of_lt (Nat.lt_succ_of_lt (Nat.lt_succ_of_lt (low p hp)))))
  obtain ⟨_, vs1, c1, hm1', hi1⟩ := id L1C
  obtain ⟨_, vs2, c2, hm2', hi2⟩ := id L2C
  obtain ⟨zs, c, hzm, hzr, hzs⟩ := hPC.zs
  have hzl : zs.length = rs.length := by rw [← hzr, List.length_map]
  clear L1 L2 m1 m2 m3
  ktn_open
  k_dflt (refine LCt.Assign_ListComp_T (F₀ := by k_asm) (by rfl) (by with_unfolding_all rfl) (by with_unfolding_all rfl) (by decide) (by rfl) (by decide) (by rfl) (by rfl) (by rfl) ?_)
  ktn_open
  k_dflt (refine LCt.CompSrcT.ledger (by rfl) (by k_asm) (by k_asm) (by k_mem) ?sz ?_)
  case sz =>
    rw [List.size_toArray, List.length_map, sizeLine_eq]
    omega
  intro g9
  refine compT_filter zs (fun zz => !zz.2.contains (k : Int) && !zz.2.contains (j : Int)) ?test ?el ?hS ?fin _ 0 [] (by simp) rfl
  case test =>
    intro zz hzz I oI C oC D ys m₂ h tk E' Q' hC hx F9 N9 hQ
    obtain ⟨b', hb, hLI⟩ := hzs zz hzz
    obtain ⟨_, vs', c', hm', hi'⟩ := hLI
    have hl' : zz.2.length ≤ 100 := hlen _ (by rw [← hzr]; exact List.mem_map_of_mem hzz)
    rw [hb] at hx
    ktn_open
    all_goals (first
      | ((rename zz.2.contains (k : Int) = true => h1); exact qcast (by show (!zz.2.contains (k : Int) && !zz.2.contains (j : Int)) = _; rw [h1]; rfl) (hQ _ _ (by k_asm) (by k_asm)))
      | ((rename zz.2.contains (k : Int) = false => h1); (rename zz.2.contains (j : Int) = true => h2); exact qcast (by show (!zz.2.contains (k : Int) && !zz.2.contains (j : Int)) = _; rw [h1, h2]; rfl) (hQ _ _ (by k_asm) (by k_asm)))
      | ((rename zz.2.contains (k : Int) = false => h1); (rename zz.2.contains (j : Int) = false => h2); exact qcast (by show (!zz.2.contains (k : Int) && !zz.2.contains (j : Int)) = _; rw [h1, h2]; rfl) (hQ _ _ (by k_asm) (by k_asm))))
  case el => exact fun zz hzz => turn_name (fun _ => rfl) (fun _ => rfl) (by decide)
  case hS => exact .inr ⟨_, by k_mem, rfl, _, rfl⟩
  case fin =>
    intro D9 h9 tk9 F9 N9 o9
    have e2 : ((zs.filter fun zz => !zz.2.contains (k : Int) && !zz.2.contains (j : Int)).map Prod.fst).length ≤ zs.length := by
      rw [List.length_map]
      exact List.length_filter_le _ _
    have e3 : rs.filter (fun r => !r.contains (k : Int) && !r.contains (j : Int)) = (zs.filter fun zz => !zz.2.contains (k : Int) && !zz.2.contains (j : Int)).map Prod.snd := by
      rw [← hzr, List.filter_map]
      rfl
    have hbl : (behL rs (k : Int)).length ≤ 100 := behL_len hlen
    have hbl2 : (behL rs (j : Int)).length ≤ 100 := behL_len hlen
    ktn_open
    · (rename (k : Int) = (j : Int) => hkj)
      refine hret _ _ _ _ (by k_asm) (by k_asm) ⟨lr, rfl, ?_, fun p hp => .tail _ (subC p hp)⟩
      unfold splL
      rw [if_pos hkj]
      exact hPC.mono cons_list
    · (rename (behL rs (k : Int)).contains (j : Int) = true => hin)
      (rename (k : Int) ≠ (j : Int) => hkj)
      obtain ⟨p0, tl, hpl, hp0⟩ := places_some hin
      k_dflt (refine LCt.ListComp_T (F₀ := by k_asm) (by with_unfolding_all rfl) (by decide) (by rfl) (by decide) (by rfl) ?_)
      ktn_open
      k_dflt (refine LCt.CompSrcT.range (n := (behL rs (k : Int)).length) (by rfl) (by k_asm) (by k_asm) (by assumption) (small_one (by omega) (by omega) (by omega) (by omega)) ((rangeSize_nat _ _).trans (by omega)) (by rw [sizeLine_eq]; omega) ?_)
      intro g8
      refine compT_range (n := (behL rs (k : Int)).length) (fun i => (behL rs (k : Int)).getD i 0 == (j : Int)) ?rt ?re ?rS ?rf _ 0 [] (Nat.zero_add _) .nil
      case rt =>
        intro i t' hi I oI C oC D ys m₂ h tk E' Q' hC hx F9 N9 hQ
        ktn_open
        exact hQ _ _ (by k_asm) (by k_asm)
      case re => exact fun i t' hi => turn_name (fun _ => rfl) (fun _ => rfl) (by decide)
      case rS => trivial
      case rf =>
        intro ys hys
        intro D8 h8 tk8 F8 N8 o8
        have hys' : IntsAre ys ((p0 : Int) :: tl.map (fun i : Nat => (i : Int))) := by
          have : (List.range (behL rs (k : Int)).length).filter (fun i => (behL rs (k : Int)).getD i 0 == (j : Int)) = p0 :: tl := hpl
          rw [this] at hys
          exact hys
        ktn_open
        · exfalso
          (rename _ + 1 < (0 : Int) => hneg)
          exact absurd hneg (by show ¬ ((p0 : Int) + 1 < 0); omega)
        · (rename IntsAre _ (List.take _ (behL rs (k : Int))) => hiA)
          (rename IntsAre _ (List.drop _ (behL rs (k : Int))) => hiB)
          (rename News _ _ _ _ => N7)
          (rename ∀ (p : Addr × Obj), p ∈ _ → p.1 < _ => l7)
          refine hret _ _ _ _ (by k_asm) (by k_asm) ⟨_, rfl, LL.snoc2 (off_z' l7 (hzC.sub ?s1)) (by k_mem) (zs_mono (Sub.list ?s2) hzs) ⟨by tb_rel, _, _, by k_mem, hiA⟩ ⟨by tb_rel, _, _, by k_mem, hiB⟩ ?e8, ?s3⟩
          case s1 => exact fun p hp => by k_mem
          case s2 => exact fun p hp => by k_mem
          case s3 => exact fun p hp => by (have hp' := subC p hp); k_mem
          case e8 =>
            unfold splL
            rw [if_neg hkj, if_pos hin, hpl, e3]
            rfl
    · (rename (k : Int) ≠ (j : Int) => hkj)
      (rename (behL rs (k : Int)).contains (j : Int) = false => hin)
      (rename IntsAre _ (_ ++ _) => hiT)
      (rename News _ _ _ _ => N8)
      (rename ∀ (p : Addr × Obj), p ∈ _ → p.1 < _ => l8)
      refine hret _ _ _ _ (by k_asm) (by k_asm) ⟨_, rfl, LL.snoc (off_z' l8 (hzC.sub ?s1)) (by k_mem) (zs_mono (Sub.list ?s2) hzs) ⟨by tb_rel, _, _, by k_mem, hiT⟩ ?e8, ?s3⟩
      case s1 => exact fun p hp => by k_mem
      case s2 => exact fun p hp => by k_mem
      case s3 => exact fun p hp => by (have hp' := subC p hp); k_mem
      case e8 =>
        unfold splL
        rw [if_neg hkj, if_neg (by rw [hin]; decide), e3]
end



open LCg LCt in
section
variable {prog : Program} {w : World} {A : Around} {s : Shared} {h₀ : Heap} {L : Addr} {m : Str → Option Value} {env : Env} {elt : Expr} {x : Str} {scope : Scope} {cl : List (Str × Addr)} {S : Led → Prop} {Fin : List Value → Led → Prop} {P : Nat → Value → Prop}
theorem compU_inv {n : Nat} (R : Nat → List Value → Led → Prop) (hS : ∀ i ys news, R i ys news → S news)
    (turn : ∀ i v ys news (I : Addr) (oI : Obj) (C : Addr) (oC : Obj) (D : Addr) (m₂ : Str → Option Value) (h : Heap) (tk : Nat) (E' : Value → Shared → Prop), i < n → P i v → R i ys news → NsObj oC m₂ → m₂ x = some v → Fr h₀ L h m → News h₀ L h ((I, oI) :: (C, oC) :: (D, LCg.lst ys) :: news) → Off3 I C D news → ((@Ne Nat I C) ∧ (@Ne Nat I D) ∧ (@Ne Nat C D)) →
      wpAny (model prog w) A (eval elt (compEnvC scope cl C env)) (fun y s₂ => ∃ h' tk' news', s₂ = { s with heap := h', toks := tk' } ∧ Fr h₀ L h' m ∧ News h₀ L h' ((I, oI) :: (C, oC) :: (D, LCg.lst ys) :: news') ∧ Off3 I C D news' ∧ R (i + 1) (ys ++ [y]) news') E' { s with heap := h, toks := tk })
    (fin : ∀ ys news, R n ys news → Fin ys news) :
    ∀ k i ys news, i + k = n → R i ys news → CompRest prog w A h₀ L m env elt x scope cl s S P Fin k i ys news := by
  intro k
  induction k with
  | zero =>
    intro i ys news hi hR
    refine CompRest.zero ?_
    have : i = n := by omega
    subst this
    exact fin _ _ hR
  | succ k ih =>
    intro i ys news hi hR
    refine CompRest.succ ?_
    intro v I oI C oC D m₂ h tk E' hv hC hx F N off ne
    refine wpAny_mono (turn i v ys news I oI C oC D m₂ h tk E' (by omega) hv hR hC hx F N off ne) (fun y s₂ hq => ?_) fun _ _ e => e
    obtain ⟨h', tk', news', rfl, F', N', off', hR'⟩ := hq
    exact ⟨h', tk', news', rfl, F', N', off', hS _ _ _ hR', ih (i + 1) _ _ (by omega) hR'⟩
end

theorem ints_zip {vs : List Value} {ns : List Int} (h : IntsAre vs ns) : (vs.zip ns).map Prod.fst = vs ∧ (vs.zip ns).map Prod.snd = ns ∧ ∀ p ∈ vs.zip ns, ∃ t, p.1 = .int p.2 t := by
  induction h with
  | nil => exact ⟨rfl, rfl, fun _ hp => nomatch hp⟩
  | cons x t _ ih =>
    obtain ⟨e1, e2, e3⟩ := ih
    refine ⟨by simp only [List.zip_cons_cons, List.map_cons, e1], by simp only [List.zip_cons_cons, List.map_cons, e2], fun p hp => ?_⟩
    rw [List.zip_cons_cons] at hp
    rcases List.mem_cons.mp hp with rfl | hp
    · exact ⟨t, rfl⟩
    · exact e3 p hp
theorem zip_ints : ∀ (zs : List (Value × Int)), (∀ p ∈ zs, ∃ t, p.1 = .int p.2 t) → IntsAre (zs.map Prod.fst) (zs.map Prod.snd)
  | [], _ => .nil
  | p :: zs, h => by
    obtain ⟨t, e⟩ := h p (.head _)
    rw [List.map_cons, List.map_cons, e]
    exact .cons _ _ (zip_ints zs fun q hq => h q (.tail _ hq))
theorem off1_mem {D : Addr} : ∀ {l : Led}, LCg.Off1 D l → ∀ p ∈ l, p.1 ≠ D
  | [], _, _, h => nomatch h
  | _ :: _, x, p, h => by
    rcases List.mem_cons.mp h with rfl | h
    · exact x.1
    · exact off1_mem x.2 p h
/-- _law_without over plain lists -/
noncomputable def withoutL (rs : List (List Int)) (gone : List Int) : List (List Int) := (rs.map (fun r => r.filter (fun v => !gone.contains v))).filter (fun r => r != [])

section
variable {w : World} {p : Program} {loose : List Str} {mean : ExcName → Option Value} {mg mb : Str → Option Value} {z : Addr}
set_option maxRecDepth 100000 in
set_option maxHeartbeats 8000000 in
theorem call_without {lr lg : Addr} {rs : List (List Int)} {gone : List Int} (hg : gone.length ≤ 100) (hlen : ∀ r ∈ rs, r.length ≤ 100) (hn : rs.length ≤ 100) : Ctr w p loose mean mg mb 60 600 (fun news => (LL z news lr rs ∧ Zin z news) ∧ LI z news lg gone) (call (.ref 352) [.ref lr, .ref lg])
    (fun news r news' => ∃ a, r = .ref a ∧ LL z news' a (withoutL rs gone) ∧ Sub news news') := by
  intro dp un gd cn cs a ccd cl outer A₀ base h₀ L m news s Q E B F X N T hk0 hP hd hu hret
  obtain ⟨hP, hLg⟩ := hP
  obtain ⟨_, vg, cg, hgm, hgi⟩ := id hLg
  refine wpAny_call ?_
  k_dflt k_enter
  rename_i g' L' h1 tk1 FG' F1 B' X' T' low o1 d1 N1
  replace d1 : o1.data = .cell (some (.ref lg)) := d1
  obtain ⟨zs, c, hzm, hzr, hzs⟩ := hP.1.zs
  have hzl : zs.length = rs.length := by rw [← hzr, List.length_map]
  ktn_open
  k_dflt (refine LCg.Assign_ListComp_U (F₀ := by k_asm) (by rfl) (by with_unfolding_all rfl) (by with_unfolding_all rfl) (by decide) (by rfl) (by decide) (by rfl) (by rfl) (by rfl) ?_)
  ktn_open
  k_dflt (refine LCg.CompSrc.ledger (by rfl) (by k_asm) (by k_asm) (by k_mem) ?sz ?_)
  case sz =>
    rw [List.size_toArray, List.length_map, sizeLine_eq]
    omega
  intro g9
  refine compU_inv (n := zs.length) (fun i ys nw => ∃ zs2 : List (Value × List Int), ys = zs2.map Prod.fst ∧ zs2.map Prod.snd = (rs.take i).map (fun r => r.filter (fun v => !gone.contains v)) ∧ (∀ p ∈ zs2, ∃ b, p.1 = .ref b ∧ LI z nw b p.2) ∧ Sub ((L' + 1, o1) :: news) nw) ?hS ?turn ?fin _ 0 [] _ (by simp) ⟨[], rfl, rfl, fun _ hp => (nomatch hp), Sub.refl⟩
  case hS =>
    rintro i ys nw ⟨_, _, _, _, hs⟩
    exact .inr ⟨_, hs _ (.tail _ hzm), rfl, _, rfl⟩
  case turn =>
    rintro i v ys nw I oI C oC D m₂ h tk E' hi hv ⟨zs2, hys, hz2, hLz, hsub⟩ hC hx F9 N9 off ne
    have hv' : (zs.map Prod.fst)[i]? = some v := by simpa using hv
    rw [List.getElem?_map] at hv'
    obtain ⟨zz, hzz, hzv⟩ := Option.map_eq_some_iff.mp hv'
    subst hzv
    have hmem := List.mem_of_getElem? hzz
    obtain ⟨b', hb, hLI⟩ := hzs zz hmem
    obtain ⟨_, vs', c', hm', hi'⟩ := hLI
    have hm'' := hsub _ (.tail _ hm')
    have hgm' := hsub _ (.tail _ hgm)
    have hcm := hsub _ (.head _)
    have hl' : zz.2.length ≤ 100 := hlen _ (by rw [← hzr]; exact List.mem_map_of_mem hmem)
    obtain ⟨e1, e2, e3⟩ := ints_zip hi'
    rw [hb] at hx
    k_dflt (refine LCt.ListComp_T (F₀ := by k_asm) (by with_unfolding_all rfl) (by decide) (by rfl) (by decide) (by rfl) ?_)
    ktn_open
    rw [← e1] at hm''
    k_dflt (refine LCt.CompSrcT.ledger (by rfl) (by k_asm) (by k_asm) (by k_mem) ?sz3 ?_)
    case sz3 =>
      rw [List.size_toArray, e1, hi'.length, sizeLine_eq]
      omega
    intro g8
    refine compT_filter (vs'.zip zz.2) (fun q => !gone.contains q.2) ?test ?el ?hS3 ?fin2 _ 0 [] (by simp) rfl
    case test =>
      intro qq hqq I2 oI2 C2 oC2 D2 ys2 m3 h3 tk3 E3 Q3 hC3 hx3 F8 N8 hQ3
      obtain ⟨t3, e⟩ := e3 qq hqq
      rw [e] at hx3
      ktn_open
      exact hQ3 _ _ (by k_asm) (by k_asm)
    case el => exact fun zz hzz => turn_name (fun _ => rfl) (fun _ => rfl) (by decide)
    case hS3 => exact .inr ⟨_, by k_mem, rfl, _, rfl⟩
    case fin2 =>
      intro D2 h2 tk2 F2 N2 o2
      have o2' := off1_mem o2
      have off3 := off.mem
      have hzz2 : Zin z nw := hP.2.sub (fun p hp => hsub _ (.tail _ hp))
      refine ⟨h2, tk2, (D2, LCg.lst (((vs'.zip zz.2).filter (fun q => !gone.contains q.2)).map Prod.fst)) :: nw, rfl, F2, ?n2, ?off2, zs2 ++ [(.ref D2, zz.2.filter (fun v => !gone.contains v))], ?a1, ?a2, ?a3, ?a4⟩
      case n2 => exact fun p hp => N2 p (by
        rcases List.mem_cons.mp hp with h | hp
        · exact h ▸ .tail _ (.head _)
        · rcases List.mem_cons.mp hp with h | hp
          · exact h ▸ .tail _ (.tail _ (.head _))
          · rcases List.mem_cons.mp hp with h | hp
            · exact h ▸ .tail _ (.tail _ (.tail _ (.head _)))
            · rcases List.mem_cons.mp hp with h | hp
              · exact h ▸ .head _
              · exact .tail _ (.tail _ (.tail _ (.tail _ hp))))
      case off2 =>
        exact ⟨⟨Ne.symm (o2' (I, oI) (.head _)), Ne.symm (o2' (C, oC) (.tail _ (.head _))), Ne.symm (o2' (D, _) (.tail _ (.tail _ (.head _))))⟩, off⟩
      case a1 => rw [hys, List.map_append]; rfl
      case a2 =>
        rw [List.map_append, hz2, List.take_add_one]
        have : rs[i]? = some zz.2 := by rw [← hzr, List.getElem?_map, hzz]; rfl
        rw [this, List.map_append]
        rfl
      case a3 =>
        intro p hp
        rcases List.mem_append.mp hp with hp | hp
        · obtain ⟨b, e, l⟩ := hLz p hp
          exact ⟨b, e, l.mono cons_list⟩
        · rw [List.mem_singleton.mp hp]
          refine ⟨D2, rfl, ?_, _, _, .head _, ?_⟩
          · obtain ⟨_, _, hzm2⟩ := hzz2
            exact Ne.symm (o2' _ (.tail _ (.tail _ (.tail _ hzm2))))
          · have := zip_ints ((vs'.zip zz.2).filter (fun q => !gone.contains q.2)) (fun p hp => e3 p (List.mem_filter.mp hp).1)
            have e4 : ((vs'.zip zz.2).filter (fun q => !gone.contains q.2)).map Prod.snd = zz.2.filter (fun v => !gone.contains v) := by
              conv => rhs; rw [← e2, List.filter_map]
              rfl
            rw [← e4]
            exact this
      case a4 => exact fun p hp => .tail _ (hsub p hp)
  case fin =>
    rintro ys nw ⟨zs2, hys, hz2, hLz, hsub⟩
    intro D9 h9 tk9 F9 N9 o9
    have hsub' : Sub news nw := fun p hp => hsub _ (.tail _ hp)
    have hzz2 : Zin z nw := hP.2.sub hsub'
    have hz3 : zs2.map Prod.snd = rs.map (fun r => r.filter (fun v => !gone.contains v)) := by rw [hz2, hzl, List.take_length]
    have hzl2 : zs2.length = rs.length := by rw [← List.length_map (f := Prod.snd), hz3, List.length_map]
    subst hys
    ktn_open
    k_dflt (refine LCt.ListComp_T (F₀ := by k_asm) (by with_unfolding_all rfl) (by decide) (by rfl) (by decide) (by rfl) ?_)
    ktn_open
    k_dflt (refine LCt.CompSrcT.ledger (by rfl) (by k_asm) (by k_asm) (by k_mem) ?sz4 ?_)
    case sz4 =>
      rw [List.size_toArray, List.length_map, sizeLine_eq]
      omega
    intro g7
    refine compT_filter zs2 (fun q => q.2 != []) ?test4 ?el4 ?hS4 ?fin4 _ 0 [] (by simp) rfl
    case test4 =>
      intro zz hzz I oI C oC D ys m₂ h tk E' Q' hC hx F8 N8 hQ
      obtain ⟨b', hb, hLI⟩ := hLz zz hzz
      obtain ⟨_, vs', c', hm', hi'⟩ := hLI
      have hl' : zz.2.length ≤ 100 := by
        have : zz.2 ∈ rs.map (fun r => r.filter (fun v => !gone.contains v)) := by rw [← hz3]; exact List.mem_map_of_mem hzz
        obtain ⟨r, hr, e⟩ := List.mem_map.mp this
        rw [← e]
        exact Nat.le_trans (List.length_filter_le _ _) (hlen r hr)
      rw [hb] at hx
      ktn_open
      exact qcast (by cases zz.2 <;> rfl) (hQ _ _ (by k_asm) (news_tail (by assumption)))
    case el4 => exact fun zz hzz => turn_name (fun _ => rfl) (fun _ => rfl) (by decide)
    case hS4 => exact .inr ⟨_, by k_mem, rfl, _, rfl⟩
    case fin4 =>
      intro D8 h8 tk8 F8 N8 o8
      ktn_open
      have o8' := off1_mem o8
      refine hret _ _ _ _ (by k_asm) (by k_asm) ⟨D8, rfl, ?ll, fun p hp => .tail _ (.tail _ (hsub' p hp))⟩
      case ll =>
        have e : withoutL rs gone = (zs2.filter (fun q => q.2 != [])).map Prod.snd := by
          unfold withoutL
          rw [← hz3, List.filter_map]
          rfl
        rw [e]
        refine LL.of ?z8 (List.mem_cons_self) (fun p hp => ?_)
        · obtain ⟨_, _, hzm2⟩ := hzz2
          exact Ne.symm (o8' _ (.tail _ hzm2))
        · obtain ⟨b, e, l⟩ := hLz p (List.mem_filter.mp hp).1
          exact ⟨b, e, l.mono (fun _ _ _ h => .tail _ (.tail _ h))⟩
end



/-- a ring of a permutation -/
def Cyc (t : Int → Int) (l : List Int) : Prop := l ≠ [] ∧ l.map t = l.tail ++ l.take 1
noncomputable def swp (t : Int → Int) (u v : Int) : Int → Int := fun x => if x = u then t v else if x = v then t u else t x
/-- the rings are those of the permutation t of dom -/
def Rep (t : Int → Int) (dom : Int → Prop) (rs : List (List Int)) : Prop := rs.flatten.Nodup ∧ (∀ x, x ∈ rs.flatten ↔ dom x) ∧ ∀ r ∈ rs, Cyc t r

theorem cyc_congr {t t' : Int → Int} {l : List Int} (h : ∀ x ∈ l, t x = t' x) (c : Cyc t l) : Cyc t' l :=
  ⟨c.1, by rw [← c.2]; exact (List.map_congr_left (fun x hx => h x hx)).symm⟩

theorem cyc_two {t : Int → Int} {a b : Int} {p q : List Int} : Cyc t ((a :: p) ++ (b :: q)) ↔ (a :: p).map t = p ++ [b] ∧ (b :: q).map t = q ++ [a] := by
  constructor
  · rintro ⟨_, h⟩
    rw [List.map_append] at h
    have e : (a :: p ++ b :: q).tail ++ (a :: p ++ b :: q).take 1 = (p ++ [b]) ++ (q ++ [a]) := by simp
    rw [e] at h
    exact List.append_inj h (by simp)
  · rintro ⟨h1, h2⟩
    refine ⟨by simp, ?_⟩
    rw [List.map_append, h1, h2]
    simp

theorem cyc_rot {t : Int → Int} {p q : List Int} (h : Cyc t (p ++ q)) : Cyc t (q ++ p) := by
  cases p with
  | nil => rwa [List.append_nil]
  | cons a p =>
    cases q with
    | nil => rwa [List.append_nil] at h
    | cons b q => exact cyc_two.mpr ⟨(cyc_two.mp h).2, (cyc_two.mp h).1⟩

theorem head_last (A : List Int) (u : Int) : ∃ a p, A ++ [u] = a :: p := by
  cases A with
  | nil => exact ⟨_, _, rfl⟩
  | cons a A => exact ⟨_, _, rfl⟩

theorem cyc_last {t : Int → Int} {A : List Int} {u a : Int} {p : List Int} (e : A ++ [u] = a :: p) : Cyc t (A ++ [u]) ↔ A.map t = p ∧ t u = a := by
  constructor
  · rintro ⟨_, h⟩
    rw [List.map_append, e] at h
    exact ⟨(List.append_inj h (by have := congrArg List.length e; simpa using this)).1, by simpa using (List.append_inj h (by have := congrArg List.length e; simpa using this)).2⟩
  · rintro ⟨h1, h2⟩
    refine ⟨by simp, ?_⟩
    rw [List.map_append, h1, List.map_singleton, h2, e]
    rfl

theorem cyc_cut {t : Int → Int} {A B : List Int} {u v : Int} (huv : u ≠ v) (uA : u ∉ A) (uB : u ∉ B) (vA : v ∉ A) (vB : v ∉ B) :
    Cyc t ((A ++ [u]) ++ (B ++ [v])) ↔ Cyc (swp t u v) (A ++ [u]) ∧ Cyc (swp t u v) (B ++ [v]) := by
  obtain ⟨a, p, e1⟩ := head_last A u
  obtain ⟨b, q, e2⟩ := head_last B v
  have m1 : A.map (swp t u v) = A.map t := List.map_congr_left fun x hx => by
    unfold swp; rw [if_neg (fun e : x = u => uA (e ▸ hx)), if_neg (fun e : x = v => vA (e ▸ hx))]
  have m2 : B.map (swp t u v) = B.map t := List.map_congr_left fun x hx => by
    unfold swp; rw [if_neg (fun e : x = u => uB (e ▸ hx)), if_neg (fun e : x = v => vB (e ▸ hx))]
  have su : swp t u v u = t v := by unfold swp; rw [if_pos rfl]
  have sv : swp t u v v = t u := by unfold swp; rw [if_neg (Ne.symm huv), if_pos rfl]
  rw [cyc_last e1, cyc_last e2, m1, m2, su, sv, e1, e2, cyc_two]
  have l1 : A.length = p.length := by have := congrArg List.length e1; simpa using this
  have l2 : B.length = q.length := by have := congrArg List.length e2; simpa using this
  have k1 : (a :: p).map t = A.map t ++ [t u] := by rw [← e1, List.map_append]; rfl
  have k2 : (b :: q).map t = B.map t ++ [t v] := by rw [← e2, List.map_append]; rfl
  rw [k1, k2]
  constructor
  · rintro ⟨h1, h2⟩
    have := List.append_inj h1 (by simpa using l1)
    have h4 := List.append_inj h2 (by simpa using l2)
    exact ⟨⟨this.1, by simpa using h4.2⟩, h4.1, by simpa using this.2⟩
  · rintro ⟨⟨h1, h2⟩, h3, h4⟩
    rw [h1, h2, h3, h4]
    exact ⟨rfl, rfl⟩

theorem Rep.perm {t : Int → Int} {dom : Int → Prop} {a b : List (List Int)} (h : a.Perm b) (r : Rep t dom a) : Rep t dom b :=
  ⟨(h.flatten.nodup_iff).mp r.1, fun x => by rw [← r.2.1 x]; exact (h.flatten.mem_iff).symm, fun x hx => r.2.2 x (h.mem_iff.mpr hx)⟩
theorem Rep.rot {t : Int → Int} {dom : Int → Prop} {p q : List Int} {rs : List (List Int)} (r : Rep t dom ((p ++ q) :: rs)) : Rep t dom ((q ++ p) :: rs) := by
  have P : ((p ++ q) :: rs).flatten.Perm ((q ++ p) :: rs).flatten := by
    rw [List.flatten_cons, List.flatten_cons]
    exact List.Perm.append_right _ List.perm_append_comm
  refine ⟨P.nodup_iff.mp r.1, fun x => by rw [← r.2.1 x]; exact P.mem_iff.symm, fun x hx => ?_⟩
  rcases List.mem_cons.mp hx with rfl | hx
  · exact cyc_rot (r.2.2 _ (.head _))
  · exact r.2.2 x (.tail _ hx)

theorem fold_miss {k : Int} {r : List Int} (hk : k ∉ r) (acc : List Int) : ∀ l : List Nat, l.foldl (behI r k) acc = acc
  | [] => rfl
  | i :: l => by
    rw [List.foldl_cons]
    have : behI r k acc i = acc := by
      unfold behI
      rw [if_neg (fun e => hk (List.mem_of_getElem? e))]
    rw [this]
    exact fold_miss hk acc l
theorem behR_miss {k : Int} {r acc : List Int} (hk : k ∉ r) : behR k acc r = acc := fold_miss hk acc _
theorem fold_only {k : Int} {r : List Int} {j : Nat} (hj : r[j]? = some k) (hu : ∀ i, r[i]? = some k → i = j) : ∀ (l : List Nat) (acc : List Int), j ∈ l → l.foldl (behI r k) acc = rot1 r j
  | i :: l, acc, h => by
    rw [List.foldl_cons]
    by_cases hl : j ∈ l
    · exact fold_only hj hu l _ hl
    · have : j = i := by rcases List.mem_cons.mp h with h | h; exact h; exact absurd h hl
      subst this
      have : behI r k acc j = rot1 r j := by unfold behI; rw [if_pos hj]
      rw [this]
      clear this h
      induction l with
      | nil => rfl
      | cons i l ih =>
        have hi : i ≠ j := fun e => hl (e ▸ .head _)
        rw [List.foldl_cons, show behI r k (rot1 r j) i = rot1 r j by unfold behI; rw [if_neg (fun e => hi (hu i e))]]
        exact ih fun h => hl (.tail _ h)
theorem behR_hit {k : Int} {A T acc : List Int} (hA : k ∉ A) (hT : k ∉ T) : behR k acc (A ++ k :: T) = T ++ (A ++ [k]) := by
  have hj : (A ++ k :: T)[A.length]? = some k := by simp
  have hu : ∀ i, (A ++ k :: T)[i]? = some k → i = A.length := fun i hi => by
    rcases Nat.lt_trichotomy i A.length with h | h | h
    · rw [List.getElem?_append_left h] at hi
      exact absurd (List.mem_of_getElem? hi) hA
    · exact h
    · rw [List.getElem?_append_right (Nat.le_of_lt h)] at hi
      obtain ⟨d, hd⟩ := Nat.exists_eq_add_of_lt h
      rw [show i - A.length = d + 1 by omega, List.getElem?_cons_succ] at hi
      exact absurd (List.mem_of_getElem? hi) hT
  show (List.range _).foldl _ _ = _
  rw [fold_only hj hu _ _ (by rw [List.mem_range]; simp)]
  unfold rot1
  simp [List.drop_append, List.take_append, List.drop_eq_nil_of_le, List.take_of_length_le]
theorem behL_miss {k : Int} {rs : List (List Int)} (h : ∀ r ∈ rs, k ∉ r) (acc : List Int) : rs.foldl (behR k) acc = acc := by
  induction rs generalizing acc with
  | nil => rfl
  | cons r rs ih => rw [List.foldl_cons, behR_miss (h r (.head _))]; exact ih (fun r hr => h r (.tail _ hr)) acc
theorem behL_filter {k : Int} {p : List Int → Bool} {rs : List (List Int)} (h : ∀ r ∈ rs, p r = false → k ∉ r) : behL (rs.filter p) k = behL rs k := by
  unfold behL
  generalize ([] : List Int) = acc
  induction rs generalizing acc with
  | nil => rfl
  | cons r rs ih =>
    rw [List.foldl_cons, List.filter_cons]
    split
    · rw [List.foldl_cons]; exact ih (fun r hr => h r (.tail _ hr)) _
    · rename_i hp
      rw [behR_miss (h r (.head _) (by simpa using hp))]
      exact ih (fun r hr => h r (.tail _ hr)) _

theorem Rep.dec {t : Int → Int} {dom : Int → Prop} {rs : List (List Int)} {k : Int} (R : Rep t dom rs) (hk : dom k) :
    ∃ A T, rs.Perm ((A ++ k :: T) :: rs.filter (fun r => !r.contains k)) ∧ behL rs k = T ++ (A ++ [k]) ∧ (A ++ k :: T) ∈ rs ∧ ∀ r ∈ rs, k ∈ r → r = A ++ k :: T := by
  obtain ⟨r, hr, hkr⟩ := List.mem_flatten.mp ((R.2.1 k).mpr hk)
  obtain ⟨r1, r2, rfl⟩ := List.append_of_mem hr
  obtain ⟨A, T, rfl⟩ := List.append_of_mem hkr
  have nd := R.1
  rw [List.flatten_append, List.flatten_cons] at nd
  have n1 : ∀ r ∈ r1, k ∉ r := fun r hr h => (List.nodup_append.mp nd).2.2 k (List.mem_flatten.mpr ⟨r, hr, h⟩) k (by simp) rfl
  have nd2 := (List.nodup_append.mp nd).2.1
  have n2 : ∀ r ∈ r2, k ∉ r := fun r hr h => (List.nodup_append.mp nd2).2.2 k (by simp) k (List.mem_flatten.mpr ⟨r, hr, h⟩) rfl
  have nd3 := (List.nodup_append.mp nd2).1
  have kA : k ∉ A := fun h => (List.nodup_append.mp nd3).2.2 k h k (.head _) rfl
  have kT : k ∉ T := (List.nodup_cons.mp (List.nodup_append.mp nd3).2.1).1
  refine ⟨A, T, ?_, ?_, by simp, ?_⟩
  · have f1 : r1.filter (fun r => !r.contains k) = r1 := List.filter_eq_self.mpr fun r hr => by simpa using n1 r hr
    have f2 : r2.filter (fun r => !r.contains k) = r2 := List.filter_eq_self.mpr fun r hr => by simpa using n2 r hr
    rw [List.filter_append, List.filter_cons, f1, f2, if_neg (by simp)]
    exact List.perm_middle
  · unfold behL
    rw [List.foldl_append, List.foldl_cons, behL_miss n1, behR_hit kA kT, behL_miss n2]
  · intro r hr h
    rcases List.mem_append.mp hr with hr | hr
    · exact absurd h (n1 r hr)
    · rcases List.mem_cons.mp hr with hr | hr
      · exact hr
      · exact absurd h (n2 r hr)



theorem swp_swp {t : Int → Int} {u v : Int} : swp (swp t u v) u v = t := by
  funext x
  unfold swp
  by_cases h1 : x = u
  · subst h1
    by_cases h2 : v = x
    · subst h2; simp
    · simp [h2]
  · by_cases h2 : x = v
    · subst h2; simp [h1]
    · simp [h1, h2]
theorem swp_self {t : Int → Int} {u : Int} : swp t u u = t := by
  funext x
  unfold swp
  by_cases h1 : x = u
  · subst h1; simp
  · simp [h1]
theorem nod4 {A B : List Int} {u v : Int} {rest : List Int} (nd : ((A ++ [u]) ++ ((B ++ [v]) ++ rest)).Nodup) :
    u ≠ v ∧ u ∉ A ∧ u ∉ B ∧ v ∉ A ∧ v ∉ B ∧ u ∉ rest ∧ v ∉ rest := by
  obtain ⟨h1, h2, h3⟩ := List.nodup_append.mp nd
  obtain ⟨h4, h5, h6⟩ := List.nodup_append.mp h2
  obtain ⟨_, _, h7⟩ := List.nodup_append.mp h1
  obtain ⟨_, _, h8⟩ := List.nodup_append.mp h4
  refine ⟨fun e => h3 u (by simp) v (by simp) e, fun h => h7 u h u (by simp) rfl, fun h => h3 u (by simp) u (by simp [h]) rfl, fun h => h3 v (by simp [h]) v (by simp) rfl, fun h => h8 v h v (by simp) rfl, fun h => h3 u (by simp) u (by simp [h]) rfl, fun h => h6 v (by simp) v h rfl⟩
theorem Rep.join {t : Int → Int} {dom : Int → Prop} {A B : List Int} {u v : Int} {rest : List (List Int)} (R : Rep t dom ((A ++ [u]) :: (B ++ [v]) :: rest)) : Rep (swp t u v) dom (((A ++ [u]) ++ (B ++ [v])) :: rest) := by
  have e : (((A ++ [u]) ++ (B ++ [v])) :: rest).flatten = ((A ++ [u]) :: (B ++ [v]) :: rest).flatten := by simp
  have nd := R.1
  rw [List.flatten_cons, List.flatten_cons] at nd
  obtain ⟨a, b, c, d, f, g, h⟩ := nod4 nd
  refine ⟨e ▸ R.1, fun x => by rw [e]; exact R.2.1 x, fun r hr => ?_⟩
  rcases List.mem_cons.mp hr with rfl | hr
  · refine (cyc_cut a b c d f).mpr ?_
    rw [swp_swp]
    exact ⟨R.2.2 _ (.head _), R.2.2 _ (.tail _ (.head _))⟩
  · refine cyc_congr (fun x hx => ?_) (R.2.2 r (.tail _ (.tail _ hr)))
    unfold swp
    rw [if_neg (fun e : x = u => g (e ▸ List.mem_flatten.mpr ⟨r, hr, hx⟩)), if_neg (fun e : x = v => h (e ▸ List.mem_flatten.mpr ⟨r, hr, hx⟩))]
theorem Rep.cut {t : Int → Int} {dom : Int → Prop} {A B : List Int} {u v : Int} {rest : List (List Int)} (R : Rep t dom (((A ++ [u]) ++ (B ++ [v])) :: rest)) : Rep (swp t u v) dom ((A ++ [u]) :: (B ++ [v]) :: rest) := by
  have e : (((A ++ [u]) ++ (B ++ [v])) :: rest).flatten = ((A ++ [u]) :: (B ++ [v]) :: rest).flatten := by simp
  have nd := R.1
  rw [e, List.flatten_cons, List.flatten_cons] at nd
  obtain ⟨a, b, c, d, f, g, h⟩ := nod4 nd
  have C := (cyc_cut a b c d f).mp (R.2.2 _ (.head _))
  refine ⟨e ▸ R.1, fun x => by rw [← e]; exact R.2.1 x, fun r hr => ?_⟩
  rcases List.mem_cons.mp hr with rfl | hr
  · exact C.1
  · rcases List.mem_cons.mp hr with rfl | hr
    · exact C.2
    · refine cyc_congr (fun x hx => ?_) (R.2.2 r (.tail _ hr))
      unfold swp
      rw [if_neg (fun e : x = u => g (e ▸ List.mem_flatten.mpr ⟨r, hr, hx⟩)), if_neg (fun e : x = v => h (e ▸ List.mem_flatten.mpr ⟨r, hr, hx⟩))]

/-- the ring of k, turned so that it ends in k, ahead of the rest -/
theorem Rep.beh {t : Int → Int} {dom : Int → Prop} {rs : List (List Int)} {k : Int} (R : Rep t dom rs) (hk : dom k) :
    ∃ A, behL rs k = A ++ [k] ∧ Rep t dom ((A ++ [k]) :: rs.filter (fun r => !r.contains k)) ∧ (∀ r ∈ rs, k ∈ r → r.Perm (A ++ [k])) := by
  obtain ⟨A, T, hp, hb, hm, hu⟩ := R.dec hk
  have P : (A ++ k :: T).Perm (T ++ A ++ [k]) := by
    rw [show A ++ k :: T = (A ++ [k]) ++ T by simp, List.append_assoc T]
    exact List.perm_append_comm
  refine ⟨T ++ A, by rw [hb]; simp, ?_, fun r hr h => (hu r hr h) ▸ P⟩
  have R1 := R.perm hp
  rw [show A ++ k :: T = (A ++ [k]) ++ T by simp] at R1
  have := R1.rot
  rwa [← List.append_assoc] at this

theorem places_at {A B : List Int} {v : Int} (hA : v ∉ A) : (places (A ++ v :: B) v).headD 0 = A.length := by
  unfold places
  rw [show (A ++ v :: B).length = A.length + (1 + B.length) by simp; omega, List.range_add, List.filter_append]
  have : (List.range A.length).filter (fun i => (A ++ v :: B).getD i 0 == v) = [] := by
    rw [List.filter_eq_nil_iff]
    intro i hi h
    have hi := List.mem_range.mp hi
    rw [List.getD_eq_getElem?_getD, List.getElem?_append_left hi, List.getElem?_eq_getElem hi] at h
    exact hA ((by simpa using h : A[i] = v) ▸ List.getElem_mem hi)
  rw [this, List.nil_append, List.range_add, List.map_append, List.filter_append]
  simp

theorem splL_rep {t : Int → Int} {dom : Int → Prop} {rs : List (List Int)} {u v : Int} (R : Rep t dom rs) (hu : dom u) (hv : dom v) : Rep (swp t u v) dom (splL rs u v) := by
  unfold splL
  split
  · rename_i e; subst e; rw [swp_self]; exact R
  rename_i huv
  obtain ⟨A, hA, RA, PA⟩ := R.beh hu
  have ff : rs.filter (fun r => !r.contains u && !r.contains v) = (rs.filter (fun r => !r.contains u)).filter (fun r => !r.contains v) := by
    rw [List.filter_filter]
    congr 1
    funext r
    exact Bool.and_comm _ _
  rw [hA, ff]
  split
  · rename_i hc
    have hvA : v ∈ A := by
      have : v ∈ A ++ [u] := by simpa using hc
      rcases List.mem_append.mp this with h | h
      · exact h
      · exact absurd (List.mem_singleton.mp h).symm huv
    obtain ⟨A1, B, rfl⟩ := List.append_of_mem hvA
    have nd := RA.1
    rw [List.flatten_cons] at nd
    have nr : ∀ r ∈ rs.filter (fun r => !r.contains u), v ∉ r := fun r hr h => (List.nodup_append.mp nd).2.2 v (by simp) v (List.mem_flatten.mpr ⟨r, hr, h⟩) rfl
    have v1 : v ∉ A1 := fun h => by
      have := (List.nodup_append.mp (List.nodup_append.mp nd).1).1
      exact (List.nodup_append.mp this).2.2 v h v (.head _) rfl
    have fl : (rs.filter (fun r => !r.contains u)).filter (fun r => !r.contains v) = rs.filter (fun r => !r.contains u) := List.filter_eq_self.mpr fun r hr => by simpa using nr r hr
    have e1 : A1 ++ v :: B ++ [u] = (A1 ++ [v]) ++ (B ++ [u]) := by simp
    rw [fl]
    have pl : (places (A1 ++ v :: B ++ [u]) v).headD 0 = A1.length := by
      rw [show A1 ++ v :: B ++ [u] = A1 ++ v :: (B ++ [u]) by simp]
      exact places_at v1
    rw [pl, e1]
    have e2 : ((A1 ++ [v]) ++ (B ++ [u])).take (A1.length + 1) = A1 ++ [v] := by rw [List.take_left' (by simp)]
    have e3 : ((A1 ++ [v]) ++ (B ++ [u])).drop (A1.length + 1) = B ++ [u] := by rw [List.drop_left' (by simp)]
    rw [e2, e3]
    rw [e1] at RA
    have := RA.cut
    have sw : swp t v u = swp t u v := by
      funext x
      unfold swp
      by_cases h1 : x = u
      · subst h1; simp [huv]
      · by_cases h2 : x = v
        · subst h2; simp [h1]
        · simp [h1, h2]
    rw [sw] at this
    exact this.perm (List.perm_append_comm (l₁ := [_, _]))
  · rename_i hc
    have hvA : v ∉ A ++ [u] := by simpa using hc
    obtain ⟨B, hB, RB, PB⟩ := R.beh hv
    have hb2 : behL (rs.filter (fun r => !r.contains u)) v = B ++ [v] := by
      rw [← hB]
      refine behL_filter fun r hr h1 h2 => ?_
      have : u ∈ r := by simpa using h1
      exact hvA ((PA r hr this).mem_iff.mp h2)
    have Rtail : Rep t (fun x => x ∈ (rs.filter (fun r => !r.contains u)).flatten) (rs.filter (fun r => !r.contains u)) := by
      refine ⟨?_, fun x => Iff.rfl, fun r hr => RA.2.2 r (.tail _ hr)⟩
      have := RA.1
      rw [List.flatten_cons] at this
      exact (List.nodup_append.mp this).2.1
    have hvr : v ∈ (rs.filter (fun r => !r.contains u)).flatten := by
      have := (RA.2.1 v).mpr hv
      rw [List.flatten_cons] at this
      exact (List.mem_append.mp this).resolve_left hvA
    obtain ⟨B', hB', RB', _⟩ := Rtail.beh hvr
    have : B' = B := by
      have := hB'.symm.trans hb2
      simpa using this
    subst this
    rw [hB]
    have R2 : Rep t dom ((A ++ [u]) :: (B' ++ [v]) :: (rs.filter (fun r => !r.contains u)).filter (fun r => !r.contains v)) := by
      have nd := RA.1
      rw [List.flatten_cons] at nd
      have m : ∀ x, x ∈ ((B' ++ [v]) :: (rs.filter (fun r => !r.contains u)).filter (fun r => !r.contains v)).flatten ↔ x ∈ (rs.filter (fun r => !r.contains u)).flatten := RB'.2.1
      refine ⟨?_, fun x => ?_, fun r hr => ?_⟩
      · rw [List.flatten_cons]
        refine List.nodup_append.mpr ⟨(List.nodup_append.mp nd).1, RB'.1, fun a ha b hb => ?_⟩
        exact (List.nodup_append.mp nd).2.2 a ha b ((m b).mp hb)
      · rw [List.flatten_cons, List.mem_append, m x, ← RA.2.1 x, List.flatten_cons, List.mem_append (t := (rs.filter (fun r => !r.contains u)).flatten)]
      · rcases List.mem_cons.mp hr with rfl | hr
        · exact RA.2.2 _ (.head _)
        · exact RB'.2.2 r hr
    exact R2.join.perm (List.perm_append_comm (l₁ := [_]))



theorem swp_comm {t : Int → Int} {u v : Int} : swp t u v = swp t v u := by
  funext x
  unfold swp
  by_cases h1 : x = u
  · subst h1
    by_cases h2 : x = v
    · subst h2; simp
    · simp [h2]
  · by_cases h2 : x = v
    · subst h2; simp [h1]
    · simp [h1, h2]
/-- the one just ahead of k in its ring -/
noncomputable def prv (rs : List (List Int)) (k : Int) : Int := ((behL rs k).drop ((behL rs k).length - 2)).headD 0

theorem snoc_cases (A : List Int) : A = [] ∨ ∃ B p, A = B ++ [p] := by
  rcases List.eq_nil_or_concat A with h | ⟨B, p, h⟩
  · exact .inl h
  · exact .inr ⟨B, p, by simpa using h⟩

theorem Rep.prv {t : Int → Int} {dom : Int → Prop} {rs : List (List Int)} {k : Int} (R : Rep t dom rs) (hk : dom k) : dom (prv rs k) ∧ t (Mine.prv rs k) = k := by
  obtain ⟨A, hA, RA, _⟩ := R.beh hk
  unfold Mine.prv
  rw [hA]
  have C := RA.2.2 _ (.head _)
  rcases snoc_cases A with rfl | ⟨B, p, rfl⟩
  · have : t k = k := by simpa using C.2
    exact ⟨by simpa using hk, by simpa using this⟩
  · have hp : ((B ++ [p] ++ [k]).drop ((B ++ [p] ++ [k]).length - 2)).headD 0 = p := by
      rw [show (B ++ [p] ++ [k]).length - 2 = B.length by simp, List.append_assoc, List.drop_left]
      rfl
    rw [hp]
    refine ⟨(RA.2.1 p).mp (by simp), ?_⟩
    obtain ⟨a, q, e⟩ := head_last (B ++ [p]) k
    obtain ⟨h1, _⟩ := (cyc_last e).mp C
    rw [List.map_append] at h1
    have e2 : q = B.tail ++ (if B = [] then [] else [p]) ++ [k] := by
      cases B with
      | nil => simp at e; simp [e.2]
      | cons b B => simp at e; simp [e.2]
    rw [e2] at h1
    have h3 := (List.append_inj' h1 rfl).2
    simpa using h3

theorem withoutL_app {a b : List (List Int)} {g : List Int} : withoutL (a ++ b) g = withoutL a g ++ withoutL b g := by
  unfold withoutL; rw [List.map_append, List.filter_append]
theorem withoutL_perm {a b : List (List Int)} {g : List Int} (h : a.Perm b) : (withoutL a g).Perm (withoutL b g) := (h.map _).filter _
theorem withoutL_two {rs : List (List Int)} {u v : Int} : withoutL rs [u, v] = withoutL (withoutL rs [u]) [v] := by
  induction rs with
  | nil => rfl
  | cons r rs ih =>
    have e : ∀ g : List Int, withoutL (r :: rs) g = (if r.filter (fun v => !g.contains v) != [] then [r.filter (fun v => !g.contains v)] else []) ++ withoutL rs g := fun g => by
      unfold withoutL
      rw [List.map_cons, List.filter_cons]
      split <;> rfl
    rw [e, e, withoutL_app, ih]
    congr 1
    have f : r.filter (fun x => ![u, v].contains x) = (r.filter (fun x => ![u].contains x)).filter (fun x => ![v].contains x) := by
      rw [List.filter_filter]
      congr 1
      funext x
      simp [Bool.and_comm]
    rw [f]
    by_cases h : r.filter (fun x => ![u].contains x) = []
    · rw [h]; rfl
    · rw [if_pos (show (r.filter (fun x => ![u].contains x) != []) = true by simpa using h)]
      unfold withoutL
      rw [List.map_cons, List.map_nil, List.filter_cons]
      split <;> rfl
theorem withoutL_id {rs : List (List Int)} {u : Int} (h : ∀ r ∈ rs, u ∉ r) (h0 : ∀ r ∈ rs, r ≠ []) : withoutL rs [u] = rs := by
  induction rs with
  | nil => rfl
  | cons r rs ih =>
    have e : r.filter (fun x => ![u].contains x) = r := List.filter_eq_self.mpr fun x hx => by
      have : x ≠ u := fun e => h r (.head _) (e ▸ hx)
      simpa using this
    have := ih (fun r hr => h r (.tail _ hr)) fun r hr => h0 r (.tail _ hr)
    unfold withoutL at *
    rw [List.map_cons, List.filter_cons, e, if_pos (by simpa using h0 r (.head _)), this]

theorem rem_rep {t : Int → Int} {dom : Int → Prop} {rs : List (List Int)} {k : Int} (R : Rep t dom rs) (hk : dom k) : ∃ p, dom p ∧ t p = k ∧ Rep (swp t k p) dom (withoutL rs [k] ++ [[k]]) := by
  obtain ⟨A, T, hp, hb, hm, hu⟩ := R.dec hk
  have R1 := R.perm hp
  have nd := R1.1
  rw [List.flatten_cons] at nd
  have nk : ∀ r ∈ rs.filter (fun r => !r.contains k), k ∉ r := fun r hr h => (List.nodup_append.mp nd).2.2 k (by simp) k (List.mem_flatten.mpr ⟨r, hr, h⟩) rfl
  have n0 : ∀ r ∈ rs.filter (fun r => !r.contains k), r ≠ [] := fun r hr => (R1.2.2 r (.tail _ hr)).1
  have hw := withoutL_perm (g := [k]) hp
  have nA := (List.nodup_append.mp (List.nodup_append.mp nd).1)
  have kA : k ∉ A := fun h => nA.2.2 k h k (.head _) rfl
  have kT : k ∉ T := (List.nodup_cons.mp nA.2.1).1
  have fA : (A ++ k :: T).filter (fun x => ![k].contains x) = A ++ T := by
    rw [List.filter_append, List.filter_cons, if_neg (by simp)]
    congr 1
    · exact List.filter_eq_self.mpr fun x hx => by
        have : x ≠ k := fun e => kA (e ▸ hx)
        simpa using this
    · exact List.filter_eq_self.mpr fun x hx => by
        have : x ≠ k := fun e => kT (e ▸ hx)
        simpa using this
  have hw2 : withoutL ((A ++ k :: T) :: rs.filter (fun r => !r.contains k)) [k] = (if (A ++ T) != [] then [A ++ T] else []) ++ rs.filter (fun r => !r.contains k) := by
    have := withoutL_id nk n0
    unfold withoutL at *
    rw [List.map_cons, List.filter_cons, fA, this]
    split <;> rfl
  rw [hw2] at hw
  have R2 : Rep t dom ((T ++ A ++ [k]) :: rs.filter (fun r => !r.contains k)) := by
    rw [show A ++ k :: T = (A ++ [k]) ++ T by simp] at R1
    have := R1.rot
    rwa [← List.append_assoc] at this
  rcases snoc_cases (T ++ A) with h0 | ⟨B, p, h0⟩
  · refine ⟨k, hk, ?_, ?_⟩
    · rw [h0] at R2
      simpa using (R2.2.2 _ (.head _)).2
    · rw [swp_self]
      have e : A ++ T = [] := by simpa [and_comm] using h0
      rw [e] at hw
      refine R2.perm ?_
      rw [h0]
      exact (List.perm_append_comm (l₁ := [[k]])).trans (List.Perm.append_right _ hw.symm)
  · rw [h0, show B ++ [p] ++ [k] = (B ++ [p]) ++ ([] ++ [k]) by simp] at R2
    refine ⟨p, (R2.2.1 p).mp (by simp), ?_, ?_⟩
    · have C := R2.2.2 _ (.head _)
      obtain ⟨a, q, e⟩ := head_last B p
      rw [e] at C
      have := (cyc_two (t := t) (q := [])).mp C
      have k1 : (a :: q).map t = B.map t ++ [t p] := by rw [← e, List.map_append]; rfl
      rw [k1] at this
      simpa using (List.append_inj' this.1 rfl).2
    · have R3 := R2.cut
      rw [swp_comm, ← h0] at R3
      have R4 : Rep (swp t k p) dom ((A ++ T) :: ([] ++ [k]) :: rs.filter (fun r => !r.contains k)) := R3.rot
      refine R4.perm ?_
      have ne : (A ++ T != []) = true := by
        have : T ++ A ≠ [] := by rw [h0]; simp
        have h2 : A ++ T ≠ [] := fun e => this (by simpa [and_comm] using e)
        simpa using h2
      rw [if_pos ne] at hw
      refine List.Perm.trans ?_ (List.Perm.append_right _ hw.symm)
      exact (List.perm_append_comm (l₁ := [[k]]) (l₂ := rs.filter (fun r => !r.contains k))).cons (A ++ T)



theorem Rep.at_put {t : Int → Int} {dom : Int → Prop} {rs X : List (List Int)} {s o : Int} (R : Rep t dom (rs ++ [s] :: X)) (ho : dom o) (hs : o ≠ s) (hX : ∀ r ∈ X, o ∉ r) :
    ∃ A, behL rs o = A ++ [o] ∧ Rep t dom ((A ++ [o]) :: [s] :: (rs.filter (fun r => !r.contains o) ++ X)) := by
  obtain ⟨A, hA, RA, _⟩ := R.beh ho
  have n2 : ∀ r ∈ [s] :: X, o ∉ r := fun r hr h => by
    rcases List.mem_cons.mp hr with rfl | hr
    · exact hs (List.mem_singleton.mp h)
    · exact hX r hr h
  have e : behL (rs ++ [s] :: X) o = behL rs o := by
    unfold behL
    rw [List.foldl_append, behL_miss n2]
  refine ⟨A, by rw [← e]; exact hA, RA.perm ?_⟩
  rw [List.filter_append, show ([s] :: X).filter (fun r => !r.contains o) = [s] :: X from List.filter_eq_self.mpr fun r hr => by simpa using n2 r hr]
  exact List.perm_middle.cons _

theorem put_false {t : Int → Int} {dom : Int → Prop} {rs X : List (List Int)} {s o : Int} (R : Rep t dom (rs ++ [s] :: X)) (ho : dom o) (hs : o ≠ s) (hX : ∀ r ∈ X, o ∉ r) : Rep (swp t o s) dom (putL rs s o false ++ X) := by
  obtain ⟨A, hA, RA⟩ := R.at_put ho hs hX
  have e : putL rs s o false = rs.filter (fun r => !r.contains o) ++ [(A ++ [o]) ++ ([] ++ [s])] := by
    unfold putL
    rw [hA]
    simp
  rw [e]
  have R2 : Rep t dom ((A ++ [o]) :: ([] ++ [s]) :: (rs.filter (fun r => !r.contains o) ++ X)) := RA
  refine R2.join.perm ?_
  rw [List.append_assoc (rs.filter (fun r => !r.contains o))]
  exact List.perm_middle.symm

theorem put_true {t : Int → Int} {dom : Int → Prop} {rs X : List (List Int)} {s o : Int} (R : Rep t dom (rs ++ [s] :: X)) (ho : dom o) (hs : o ≠ s) (hX : ∀ r ∈ X, o ∉ r) :
    ∃ p, dom p ∧ t p = o ∧ Rep (swp t s p) dom (putL rs s o true ++ X) := by
  obtain ⟨A, hA, RA⟩ := R.at_put ho hs hX
  have e : putL rs s o true = rs.filter (fun r => !r.contains o) ++ [A ++ [s, o]] := by
    unfold putL
    rw [hA]
    simp
  rw [e]
  have pm : ((A ++ [s, o]) :: (rs.filter (fun r => !r.contains o) ++ X)).Perm (rs.filter (fun r => !r.contains o) ++ [A ++ [s, o]] ++ X) := by
    rw [List.append_assoc]
    exact List.perm_middle.symm
  rcases snoc_cases A with rfl | ⟨B, p, rfl⟩
  · refine ⟨o, ho, by simpa using (RA.2.2 _ (.head _)).2, ?_⟩
    have R2 : Rep t dom (([] ++ [o]) :: ([] ++ [s]) :: (rs.filter (fun r => !r.contains o) ++ X)) := RA
    have R3 := R2.join
    rw [swp_comm] at R3
    exact R3.rot.perm pm
  · have R1 : Rep t dom (([o] ++ (B ++ [p])) :: [s] :: (rs.filter (fun r => !r.contains o) ++ X)) := RA.rot
    have R2 : Rep t dom (((o :: B) ++ [p]) :: ([] ++ [s]) :: (rs.filter (fun r => !r.contains o) ++ X)) := R1
    refine ⟨p, (R2.2.1 p).mp (by simp), ?_, ?_⟩
    · have C := R2.2.2 _ (.head _)
      exact ((cyc_last (by rfl : (o :: B) ++ [p] = o :: (B ++ [p]))).mp C).2
    · have R3 := R2.join
      rw [swp_comm] at R3
      have R4 : Rep (swp t s p) dom (([o] ++ ((B ++ [p]) ++ [s])) :: (rs.filter (fun r => !r.contains o) ++ X)) := by
        simpa using R3
      have R5 := R4.rot
      rw [show B ++ [p] ++ [s] ++ [o] = B ++ [p] ++ [s, o] by simp] at R5
      exact R5.perm pm

/-- a new one, alone -/
theorem Rep.add {t : Int → Int} {dom : Int → Prop} {rs : List (List Int)} {s : Int} (R : Rep t dom rs) (hs : ¬ dom s) (ht : t s = s) : Rep t (fun x => dom x ∨ x = s) (rs ++ [[s]]) := by
  refine ⟨?_, fun x => ?_, fun r hr => ?_⟩
  · rw [List.flatten_append]
    refine List.nodup_append.mpr ⟨R.1, by simp, fun a ha b hb => ?_⟩
    have : b = s := by simpa using hb
    subst this
    exact fun e => hs (e ▸ (R.2.1 a).mp ha)
  · rw [List.flatten_append, List.mem_append, R.2.1 x]
    simp
  · rcases List.mem_append.mp hr with hr | hr
    · exact R.2.2 r hr
    · rw [List.mem_singleton.mp hr]
      exact ⟨by simp, by simp [ht]⟩
theorem Rep.congr {t t' : Int → Int} {dom dom' : Int → Prop} {rs : List (List Int)} (R : Rep t dom rs) (h : ∀ x, dom x → t x = t' x) (hd : ∀ x, dom x ↔ dom' x) : Rep t' dom' rs :=
  ⟨R.1, fun x => (R.2.1 x).trans (hd x), fun r hr => cyc_congr (fun x hx => h x ((R.2.1 x).mp (List.mem_flatten.mpr ⟨r, hr, hx⟩))) (R.2.2 r hr)⟩



theorem bk_bk (k : Nat) : bk (bk k) = k := by unfold bk; omega
theorem bk_ne (k : Nat) : bk k ≠ k := by unfold bk; omega
theorem bk_lt {n k : Nat} (h : n % 2 = 0) (hk : k < n) : bk k < n := by unfold bk; omega
theorem ro_even (k : Nat) : ro (2 * k) = 2 * k + 1 := by unfold ro; omega
theorem ro_odd (k : Nat) : ro (2 * k + 1) = 2 * bk k := by unfold ro bk; omega
/-- the graph's pointers say the permutation f of the n directed edges -/
structure GS (n : Nat) (lf f : Nat → Nat) : Prop where
  even : n % 2 = 0
  lt : ∀ k, k < n → f k < n
  inj : ∀ a b, a < n → b < n → f a = f b → a = b
  pri : ∀ k, k < n → lf (2 * k) = 2 * f k
  dua : ∀ k, k < n → lf (2 * f k + 1) = 2 * bk k + 1
noncomputable def swpN (f : Nat → Nat) (u v : Nat) : Nat → Nat := fun x => if x = u then f v else if x = v then f u else f x
theorem GS.prev {n : Nat} {lf f : Nat → Nat} (G : GS n lf f) {p k : Nat} (hp : p < n) (e : f p = k) : ro (lf (ro (2 * k))) = 2 * p := by
  rw [ro_even, ← e, G.dua p hp, ro_odd, bk_bk]
theorem spl_even {n : Nat} {lf f : Nat → Nat} (G : GS n lf f) {a b : Nat} (ha : a < n) (hb : b < n) (j : Nat) :
    spl lf (2 * a) (2 * b) j = if j = 2 * f b + 1 then 2 * bk a + 1 else if j = 2 * f a + 1 then 2 * bk b + 1 else if j = 2 * b then 2 * f a else if j = 2 * a then 2 * f b else lf j := by
  unfold spl
  rw [G.pri a ha, G.pri b hb, ro_even, ro_even]
  have o1 : ∀ x y v, upd (upd lf (2 * a) x) (2 * b) y (2 * v + 1) = lf (2 * v + 1) := fun x y v => by
    unfold upd
    rw [if_neg (by omega), if_neg (by omega)]
  simp only [o1, G.dua a ha, G.dua b hb]
  rfl
theorem GS.spl {n : Nat} {lf f : Nat → Nat} (G : GS n lf f) {a b : Nat} (ha : a < n) (hb : b < n) : GS n (Mine.spl lf (2 * a) (2 * b)) (swpN f a b) := by
  have val : ∀ k, (k = a ∧ swpN f a b k = f b) ∨ (k ≠ a ∧ k = b ∧ swpN f a b k = f a) ∨ (k ≠ a ∧ k ≠ b ∧ swpN f a b k = f k) := fun k => by
    unfold swpN
    by_cases h1 : k = a
    · exact .inl ⟨h1, if_pos h1⟩
    · by_cases h2 : k = b
      · exact .inr (.inl ⟨h1, h2, by rw [if_neg h1, if_pos h2]⟩)
      · exact .inr (.inr ⟨h1, h2, by rw [if_neg h1, if_neg h2]⟩)
  refine ⟨G.even, fun k hk => ?_, fun x y hx hy e => ?_, fun k hk => ?_, fun k hk => ?_⟩
  · rcases val k with ⟨_, e⟩ | ⟨_, _, e⟩ | ⟨_, _, e⟩ <;> rw [e]
    · exact G.lt b hb
    · exact G.lt a ha
    · exact G.lt k hk
  · rcases val x with ⟨x1, e1⟩ | ⟨x1, x2, e1⟩ | ⟨x1, x2, e1⟩ <;> rcases val y with ⟨y1, e2⟩ | ⟨y1, y2, e2⟩ | ⟨y1, y2, e2⟩ <;> rw [e1, e2] at e
    · omega
    · have := G.inj b a hb ha e; omega
    · have := G.inj b y hb hy e; omega
    · have := G.inj a b ha hb e; omega
    · omega
    · have := G.inj a y ha hy e; omega
    · have := G.inj x b hx hb e; omega
    · have := G.inj x a hx ha e; omega
    · exact G.inj x y hx hy e
  · rw [spl_even G ha hb, if_neg (by omega), if_neg (by omega)]
    rcases val k with ⟨h, e⟩ | ⟨h, h2, e⟩ | ⟨h, h2, e⟩ <;> rw [e]
    · subst h
      by_cases h3 : k = b
      · subst h3; rw [if_pos rfl]
      · rw [if_neg (by omega), if_pos rfl]
    · rw [if_pos (by omega)]
    · rw [if_neg (by omega), if_neg (by omega)]; exact G.pri k hk
  · rw [spl_even G ha hb]
    rcases val k with ⟨h, e⟩ | ⟨h, h2, e⟩ | ⟨h, h2, e⟩ <;> rw [e]
    · rw [if_pos rfl, h]
    · have : f a ≠ f b := fun q => h (by have := G.inj a b ha hb q; omega)
      rw [if_neg (by omega), if_pos rfl, h2]
    · have h3 : f k ≠ f b := fun q => h2 (G.inj k b hk hb q)
      have h4 : f k ≠ f a := fun q => h (G.inj k a hk ha q)
      rw [if_neg (by omega), if_neg (by omega), if_neg (by omega), if_neg (by omega)]
      exact G.dua k hk
noncomputable def ext (f : Nat → Nat) (n : Nat) : Nat → Nat := fun x => if x < n then f x else x
theorem GS.new {n : Nat} {lf f : Nat → Nat} (G : GS n lf f) : GS (n + 2) (newL lf (2 * n)) (ext f n) := by
  have hn := G.even
  have val : ∀ k, k < n + 2 → (k < n ∧ ext f n k = f k) ∨ (k = n ∧ ext f n k = n) ∨ (k = n + 1 ∧ ext f n k = n + 1) := fun k hk => by
    unfold ext
    by_cases h : k < n
    · exact .inl ⟨h, if_pos h⟩
    · rw [if_neg h]; omega
  refine ⟨by omega, fun k hk => ?_, fun x y hx hy e => ?_, fun k hk => ?_, fun k hk => ?_⟩
  · rcases val k hk with ⟨h, e⟩ | ⟨h, e⟩ | ⟨h, e⟩ <;> rw [e]
    · have := G.lt k h; omega
    · omega
    · omega
  · rcases val x hx with ⟨h, e1⟩ | ⟨h, e1⟩ | ⟨h, e1⟩ <;> rcases val y hy with ⟨h', e2⟩ | ⟨h', e2⟩ | ⟨h', e2⟩ <;> rw [e1, e2] at e <;> (try (have l1 := G.lt x h)) <;> (try (have l2 := G.lt y h')) <;> first | omega | exact G.inj x y h h' e
  · rcases val k hk with ⟨h, e⟩ | ⟨h, e⟩ | ⟨h, e⟩ <;> rw [e] <;> unfold newL
    · rw [if_pos (by omega)]; exact G.pri k h
    · rw [if_neg (by omega), if_neg (by omega), if_neg (by omega), h]
    · rw [if_neg (by omega), if_neg (by omega), if_neg (by omega), h]
  · rcases val k hk with ⟨h, e⟩ | ⟨h, e⟩ | ⟨h, e⟩ <;> rw [e] <;> unfold newL
    · have := G.lt k h
      rw [if_pos (by omega)]; exact G.dua k h
    · rw [if_neg (by omega), if_pos rfl, h]; unfold bk; omega
    · rw [if_neg (by omega), if_neg (by omega), if_pos (by omega), h]; unfold bk; omega



noncomputable def tI (f : Nat → Nat) : Int → Int := fun x => ((f x.toNat : Nat) : Int)
def dm (n : Nat) : Int → Prop := fun x => 0 ≤ x ∧ x < (n : Int)
theorem dm_nat {n k : Nat} (h : k < n) : dm n (k : Int) := ⟨by omega, by omega⟩
theorem dm_of {n : Nat} {x : Int} (h : dm n x) : ∃ k, k < n ∧ x = (k : Int) := by
  obtain ⟨h1, h2⟩ := h
  exact ⟨x.toNat, by omega, by omega⟩
theorem tI_nat {f : Nat → Nat} {k : Nat} : tI f (k : Int) = (f k : Nat) := by unfold tI; rw [Int.toNat_natCast]
theorem tI_swp {f : Nat → Nat} {n a b : Nat} {x : Int} (hx : dm n x) : swp (tI f) (a : Int) (b : Int) x = tI (swpN f a b) x := by
  obtain ⟨k, hk, rfl⟩ := dm_of hx
  rw [tI_nat]
  unfold swp swpN
  rw [tI_nat, tI_nat, tI_nat]
  by_cases h1 : k = a
  · rw [if_pos (by omega), if_pos h1]
  · by_cases h2 : k = b
    · rw [if_neg (by omega), if_pos (by omega), if_neg h1, if_pos h2]
    · rw [if_neg (by omega), if_neg (by omega), if_neg h1, if_neg h2]
theorem Rep.sw {f : Nat → Nat} {n a b : Nat} {rs : List (List Int)} (R : Rep (swp (tI f) (a : Int) (b : Int)) (dm n) rs) : Rep (tI (swpN f a b)) (dm n) rs :=
  R.congr (fun _ hx => tI_swp hx) fun _ => Iff.rfl
/-- graph and rings say one permutation -/
structure GR (n : Nat) (lf f : Nat → Nat) (rs : List (List Int)) : Prop where
  g : GS n lf f
  r : Rep (tI f) (dm n) rs
theorem GR.spl {n : Nat} {lf f : Nat → Nat} {rs : List (List Int)} (H : GR n lf f rs) {a b : Nat} (ha : a < n) (hb : b < n) : GR n (Mine.spl lf (2 * a) (2 * b)) (swpN f a b) (splL rs a b) :=
  ⟨H.g.spl ha hb, (splL_rep H.r (dm_nat ha) (dm_nat hb)).sw⟩
theorem GR.uniq {n : Nat} {lf f : Nat → Nat} {rs : List (List Int)} (_H : GR n lf f rs) {k : Nat} {x : Int} (hx : dm n x) (e : tI f x = (k : Int)) : ∃ p : Nat, p < n ∧ f p = k ∧ x = (p : Int) := by
  obtain ⟨p, hp, rfl⟩ := dm_of hx
  exact ⟨p, hp, by rw [tI_nat] at e; omega, rfl⟩
theorem GR.prv {n : Nat} {lf f : Nat → Nat} {rs : List (List Int)} (H : GR n lf f rs) {k : Nat} (hk : k < n) : ∃ p : Nat, p < n ∧ f p = k ∧ prv rs k = (p : Int) := by
  obtain ⟨h1, h2⟩ := H.r.prv (dm_nat hk)
  exact H.uniq h1 h2
/-- one taken out of its ring: a splice with the one ahead of it -/
theorem GR.rem {n : Nat} {lf f : Nat → Nat} {rs : List (List Int)} (H : GR n lf f rs) {k : Nat} (hk : k < n) :
    ∃ p, p < n ∧ f p = k ∧ GR n (Mine.spl lf (2 * k) (2 * p)) (swpN f k p) (withoutL rs [(k : Int)] ++ [[(k : Int)]]) := by
  obtain ⟨x, hx, ex, R⟩ := rem_rep H.r (dm_nat hk)
  obtain ⟨p, hp, e, rfl⟩ := H.uniq hx ex
  exact ⟨p, hp, e, H.g.spl hk hp, R.sw⟩
theorem GR.putT {n : Nat} {lf f : Nat → Nat} {rs X : List (List Int)} {s o : Nat} (H : GR n lf f (rs ++ [(s : Int)] :: X)) (hs : s < n) (ho : o < n) (hso : o ≠ s) (hX : ∀ r ∈ X, (o : Int) ∉ r) :
    ∃ p, p < n ∧ f p = o ∧ GR n (Mine.spl lf (2 * s) (2 * p)) (swpN f s p) (putL rs s o true ++ X) := by
  obtain ⟨x, hx, ex, R⟩ := put_true H.r (dm_nat ho) (by omega) hX
  obtain ⟨p, hp, e, rfl⟩ := H.uniq hx ex
  exact ⟨p, hp, e, H.g.spl hs hp, R.sw⟩
theorem GR.putF {n : Nat} {lf f : Nat → Nat} {rs X : List (List Int)} {s o : Nat} (H : GR n lf f (rs ++ [(s : Int)] :: X)) (hs : s < n) (ho : o < n) (hso : o ≠ s) (hX : ∀ r ∈ X, (o : Int) ∉ r) :
    GR n (Mine.spl lf (2 * s) (2 * o)) (swpN f s o) (putL rs s o false ++ X) := by
  have R := put_false H.r (dm_nat ho) (by omega) hX
  rw [swp_comm] at R
  exact ⟨H.g.spl hs ho, R.sw⟩
theorem GR.perm {n : Nat} {lf f : Nat → Nat} {a b : List (List Int)} (h : a.Perm b) (H : GR n lf f a) : GR n lf f b := ⟨H.g, H.r.perm h⟩
theorem GR.new {n : Nat} {lf f : Nat → Nat} {rs : List (List Int)} (H : GR n lf f rs) : GR (n + 2) (newL lf (2 * n)) (ext f n) (rs ++ [[(n : Int)]] ++ [[((n + 1 : Nat) : Int)]]) := by
  have R0 : Rep (tI (ext f n)) (dm n) rs := H.r.congr (fun x hx => by
    obtain ⟨k, hk, rfl⟩ := dm_of hx
    rw [tI_nat, tI_nat]; unfold ext; rw [if_pos hk]) fun _ => Iff.rfl
  have t1 : tI (ext f n) (n : Int) = (n : Int) := by rw [tI_nat]; unfold ext; rw [if_neg (by omega)]
  have t2 : tI (ext f n) ((n + 1 : Nat) : Int) = ((n + 1 : Nat) : Int) := by rw [tI_nat]; unfold ext; rw [if_neg (by omega)]
  have R1 := R0.add (s := (n : Int)) (fun h => by have := h.2; omega) t1
  have R2 := R1.add (s := ((n + 1 : Nat) : Int)) (fun h => by rcases h with h | h; exact absurd h.2 (by omega); omega) t2
  refine ⟨H.g.new, R2.congr (fun _ _ => rfl) fun x => ?_⟩
  unfold dm
  omega

/-- deletion -/
theorem GR.del {n : Nat} {lf f : Nat → Nat} {rs : List (List Int)} (H : GR n lf f rs) {k : Nat} (hk : k < n) :
    ∃ f', GR n (delL lf (2 * k)) f' (withoutL rs [(k : Int), (bk k : Int)] ++ [[(k : Int)], [(bk k : Int)]]) := by
  have hb := bk_lt H.g.even hk
  obtain ⟨p, hp, e, H1⟩ := H.rem hk
  obtain ⟨q, hq, e2, H2⟩ := H1.rem hb
  have hd : delL lf (2 * k) = Mine.spl (Mine.spl lf (2 * k) (2 * p)) (2 * bk k) (2 * q) := by
    unfold delL
    rw [H.g.prev hp e]
    have : ro (ro (2 * k)) = 2 * bk k := by rw [ro_even, ro_odd]
    rw [this]
    simp only []
    rw [H1.g.prev hq e2]
  rw [hd]
  refine ⟨_, H2.perm ?_⟩
  have hne : (k : Int) ≠ (bk k : Int) := by have := bk_ne k; omega
  rw [withoutL_app, withoutL_two, withoutL_id (rs := [[(k : Int)]]) (by simpa using Ne.symm hne) (by simp)]
  rw [List.append_assoc]
  exact List.Perm.refl _



theorem GR.con {n : Nat} {lf f : Nat → Nat} {rs : List (List Int)} (H : GR n lf f rs) {a b : Nat} (ha : a < n) (hb : b < n) :
    ∃ f', GR (n + 2) (conL lf (2 * n) (2 * a) (2 * b)) f' (putL (putL rs n (bk a : Nat) true) ((n + 1 : Nat) : Int) b false) := by
  have hba := bk_lt H.g.even ha
  have hn := H.g.even
  have H0 : GR (n + 2) (newL lf (2 * n)) (ext f n) (rs ++ [(n : Int)] :: [[((n + 1 : Nat) : Int)]]) := by
    have := H.new
    rwa [List.append_assoc] at this
  obtain ⟨p, hp, e, H1⟩ := H0.putT (s := n) (o := bk a) (by omega) (by omega) (by omega) (by
    intro r hr
    rw [List.mem_singleton.mp hr, List.mem_singleton]
    omega)
  have H2 := GR.putF (X := []) (s := n + 1) (o := b) H1 (by omega) (by omega) (by omega) (by intro r hr; cases hr)
  have hc : conL lf (2 * n) (2 * a) (2 * b) = Mine.spl (Mine.spl (newL lf (2 * n)) (2 * n) (2 * p)) (2 * (n + 1)) (2 * b) := by
    unfold conL
    simp only []
    rw [show ro (ro (2 * n)) = 2 * (n + 1) by rw [ro_even, ro_odd]; unfold bk; omega, show ro (ro (2 * a)) = 2 * bk a by rw [ro_even, ro_odd], H0.g.prev hp e]
  rw [hc]
  rw [List.append_nil] at H2
  exact ⟨_, H2⟩

theorem GR.swap {n : Nat} {lf f : Nat → Nat} {rs : List (List Int)} (H : GR n lf f rs) {k p q : Nat} (hk : k < n) (hp : p < n) (hq : q < n) (ep : f p = k) (eq : f q = bk k)
    (p1 : p ≠ k) (p2 : p ≠ bk k) (q1 : q ≠ k) (q2 : q ≠ bk k) :
    ∃ f', GR n (swapL lf (2 * k)) f' (putL (putL (withoutL rs [(k : Int), (bk k : Int)]) k (bk p : Nat) true) (bk k : Nat) (bk q : Nat) true) := by
  have hbk := bk_lt H.g.even hk
  have hbp := bk_lt H.g.even hp
  have hbq := bk_lt H.g.even hq
  have kb := bk_ne k
  have invol : ∀ {x y : Nat}, bk x = y → x = bk y := fun {x y} e => by rw [← e, bk_bk]
  obtain ⟨p', hp', e', H1⟩ := H.rem hk
  have : p' = p := H.g.inj p' p hp' hp (e'.trans ep.symm)
  subst this
  obtain ⟨q', hq', e2, H2⟩ := H1.rem hbk
  have : q' = q := H1.g.inj q' q hq' hq (by
    rw [e2]
    unfold swpN
    rw [if_neg q1, if_neg (fun e => by subst e; exact kb (eq.symm.trans ep))]
    exact eq.symm)
  subst this
  have hne : (k : Int) ≠ (bk k : Int) := by omega
  rw [withoutL_app, ← withoutL_two, withoutL_id (rs := [[(k : Int)]]) (by simpa using Ne.symm hne) (by simp), List.append_assoc] at H2
  obtain ⟨x, hx, ex, H3⟩ := GR.putT (X := [[(bk k : Int)]]) (s := k) (o := bk p') H2 hk hbp (fun e => p2 (invol e)) (by
    intro r hr
    rw [List.mem_singleton.mp hr, List.mem_singleton]
    intro e
    exact p1 (by rw [← bk_bk p', show bk p' = bk k by omega, bk_bk]))
  obtain ⟨y, hy, ey, H4⟩ := GR.putT (X := []) (s := bk k) (o := bk q') H3 hbk hbq (fun e => q1 (by rw [← bk_bk q', e, bk_bk])) (by intro r hr; cases hr)
  rw [List.append_nil] at H4
  have hs : swapL lf (2 * k) = Mine.spl (Mine.spl (Mine.spl (Mine.spl lf (2 * k) (2 * p')) (2 * bk k) (2 * q')) (2 * k) (2 * x)) (2 * bk k) (2 * y) := by
    unfold swapL
    simp only []
    have rr : ∀ z, ro (ro (2 * z)) = 2 * bk z := fun z => by rw [ro_even, ro_odd]
    rw [H.g.prev hp' ep, rr k, H.g.prev hq' eq, rr p', rr q', H2.g.prev hx ex, H3.g.prev hy ey]
  rw [hs]
  exact ⟨_, H4⟩



theorem nodup_cast (n : Nat) : ((List.range n).map (fun k : Nat => (k : Int))).Nodup := by
  induction n with
  | zero => simp
  | succ n ih =>
    rw [List.range_succ, List.map_append]
    refine List.nodup_append.mpr ⟨ih, by simp, fun a ha b hb => ?_⟩
    obtain ⟨k, hk, rfl⟩ := List.mem_map.mp ha
    have := List.mem_range.mp hk
    have : b = (n : Int) := by simpa using hb
    omega
theorem GR.flat {n : Nat} {lf f : Nat → Nat} {rs : List (List Int)} (H : GR n lf f rs) : rs.flatten.length = n := by
  have P : rs.flatten.Perm ((List.range n).map (fun k : Nat => (k : Int))) := by
    rw [List.perm_ext_iff_of_nodup H.r.1 (nodup_cast n)]
    intro a
    rw [H.r.2.1 a, List.mem_map]
    constructor
    · intro h
      obtain ⟨k, hk, rfl⟩ := dm_of h
      exact ⟨k, List.mem_range.mpr hk, rfl⟩
    · rintro ⟨k, hk, rfl⟩
      exact dm_nat (List.mem_range.mp hk)
  rw [P.length_eq, List.length_map, List.length_range]
theorem flat_len {rs : List (List Int)} (h : ∀ r ∈ rs, r ≠ []) : rs.length ≤ rs.flatten.length := by
  induction rs with
  | nil => exact Nat.le_refl _
  | cons r rs ih =>
    have := ih fun r hr => h r (.tail _ hr)
    have h0 : 0 < r.length := List.length_pos_iff.mpr (h r (.head _))
    rw [List.flatten_cons, List.length_append, List.length_cons]
    omega
theorem GR.rings {n : Nat} {lf f : Nat → Nat} {rs : List (List Int)} (H : GR n lf f rs) : rs.length ≤ n := by
  rw [← H.flat]
  exact flat_len fun r hr => (H.r.2.2 r hr).1
theorem GR.ring {n : Nat} {lf f : Nat → Nat} {rs : List (List Int)} (H : GR n lf f rs) {r : List Int} (hr : r ∈ rs) : r.length ≤ n := by
  rw [← H.flat]
  exact (List.sublist_flatten_of_mem hr).length_le
/-- the next after an element of a ring -/
theorem Cyc.at {t : Int → Int} {l : List Int} (c : Cyc t l) {i : Nat} (h : i < l.length) : l[if i + 1 < l.length then i + 1 else 0]? = some (t (l[i]'h)) := by
  have e : (l.map t)[i]? = some (t (l[i]'h)) := by rw [List.getElem?_map, List.getElem?_eq_getElem h]; rfl
  rw [c.2] at e
  rw [← e]
  split
  · rename_i h2
    rw [List.getElem?_append_left (by rw [List.length_tail]; omega), List.getElem?_tail]
  · rw [List.getElem?_append_right (by rw [List.length_tail]; omega), List.length_tail, show i - (l.length - 1) = 0 by omega, List.getElem?_take, if_pos (by omega)]
/-- the empty beginning -/
theorem GR.nil : GR 0 (fun x => x) (fun x => x) [] :=
  ⟨⟨rfl, fun _ h => h, fun _ _ h => absurd h (Nat.not_lt_zero _), fun _ h => absurd h (Nat.not_lt_zero _), fun _ h => absurd h (Nat.not_lt_zero _)⟩,
   ⟨List.nodup_nil, fun x => ⟨fun h => (nomatch h), fun h => absurd h.1 (by have := h.2; omega)⟩, fun _ h => (nomatch h)⟩⟩



section
open PySem.Builtin PySem.Builtin.ObjectAttr
structure NewsC (M : Model) (h : Heap) (C : Addr) (cd : ClassData) : Prop where
  obj : ∃ oc od sl, h.get? C = some ⟨oc, od, .cls cd, sl⟩
  ne : cd.mro.isEmpty = false
  mro : Looks M h (mroOf (.ref C)) cd.mro
  made : Looks M h (Bind.madeBy (.ref C)) none
  self : Looks M h (isSubtype (.ref C) (.ref C)) true
  call : Looks M h (specialOf (.ref C) "__call__") (some (.builtin "type.__call__"))
  typ : Looks M h (isInstance (.ref C) (.type "type")) true
/-- a class whose maker is its own -/
theorem news_cls {K : Frag} {M : Model} {h : Heap} (X : K.In h) {C : Addr} {oc : Value} {od : Option Addr} {cd : ClassData} {sl : Array (Option Value)} (ho : K.lookup C = some ⟨oc, od, .cls cd, sl⟩) (e3 : (sl.toList[4]?).join = some .none) (e4 : cd.mro.isEmpty = false)
    (e5 : mroIn K C (.ref C) = some true) (e7 : specialIn K (.ref C) "__call__" = some (some (.builtin "type.__call__"))) (e8 : instIn K (.ref C) (.type "type") = some true) : NewsC M h C cd := by
  have hc : clsIn K C = some cd := by unfold clsIn; rw [ho]
  have hm : Looks M h (mroOf (.ref C)) cd.mro := (looks_clsIn X hc).andThen .now
  obtain ⟨c, l, hl⟩ : ∃ c l, cd.mro = c :: l := by cases q : cd.mro with | nil => rw [q] at e4; cases e4 | cons c l => exact ⟨c, l, rfl⟩
  have made : Looks M h (Bind.madeBy (.ref C)) none := by
    intro A Q E s k q
    unfold Bind.madeBy
    refine wpAny_bind (hm A _ E s k ?_)
    rw [hl, List.forIn_cons]
    refine wpAny_bind (wpAny_bind (wpAny_bind (wpAny_bind (wpAny_loadPart (k _ _ (X _ _ ho)) (wpAny_pure ?_)))))
    dsimp only
    rw [← Array.getElem?_toList, e3]
    exact wpAny_pure (wpAny_pure (wpAny_pure q))
  exact ⟨⟨oc, od, sl, X _ _ ho⟩, e4, hm, made, looks_mroIn X e5, looks_specialIn X e7, looks_instIn X e8⟩
def NewBack (K : Frag) (C : Addr) (R : Result → Shared → Prop) (r : Result) (s' : Shared) : Prop := match r with
  | .ok (.ret v) => ∃ x ox, v = .ref x ∧ K.In s'.heap ∧ s'.heap.get? x = some ox ∧ ox.cls = .ref C ∧ R (.ok (.ret (.ref x))) s'
  | .ok _ => False
  | .error e => R (.error e) s'
variable {w : World} {A : Around} {R : Result → Shared → Prop} {s : Shared} {prog : Program}
theorem oi_rest {K : Frag} {x C : Addr} {ox : Obj} {rest : List Value} {cd : ClassData} (X : K.In s.heap) (hx : s.heap.get? x = some ox) (hc : ox.cls = .ref C) (Y : NewsC (model prog w) s.heap C cd) (hi : findIn K (.ref C) "__init__" = some (some (.builtin "object.__init__"))) (ho : mroIn K C (.type "object") = some true)
    (h : R (.ok (.ret .none)) s) : codeAny (model prog w) A (.call (.builtin "object.__init__") ⟨.ref x :: rest, []⟩) R s := by
  obtain ⟨hh, g, d, t, os⟩ := s
  dsimp only at hx X Y
  have t1 : Looks (model prog w) hh (typeOf (.ref x)) (.ref C) := hc ▸ (Looks.ld hx).andThen .now
  have t2 : Looks (model prog w) hh (isInstance (.ref x) (.type "object")) true := t1.andThen (looks_mroIn X ho)
  refine codeAny_call_builtin oi_plain entry_oi (@check_slot (model prog w) _ _ _ "object.__init__" "object" "__init__" (.ref x) rest [] _ oi_kind oi_split t2 (by unfold argsOk; kernel_rfl) ?_)
  unfold Builtin.«object.__init__»
  have made := Y.made
  have hi' := looks_findIn (M := model prog w) X hi
  cases rest with
  | nil =>
    repeat lk
    exact h
  | cons a r =>
    repeat lk
    exact h
theorem pt_news {h : Heap} (X : (k0.heap_1_1 w.params).In h) : ∃ cd, NewsC (model PySem.Challenge.rw_jj0039_01.row.prog w) h 271 cd := by
  refine' ⟨_, news_cls X ?a ?b ?c ?d ?e ?f⟩
  case a => k_is
  case b => rfl
  case c => rfl
  case d => k_is
  case e => k_is
  case f => k_is
set_option maxRecDepth 100000 in
set_option maxHeartbeats 8000000 in
theorem pt_core {rest : List Value} (X : (k0.heap_1_1 w.params).In s.heap)
    (h : codeAny (model PySem.Challenge.rw_jj0039_01.row.prog w) (A.under (.builtin "type.__call__" ⟨.ref 271 :: rest, []⟩)) (.call (.ref 221) ⟨.ref 271 :: rest, []⟩) (NewBack (k0.heap_1_1 w.params) 271 R) { s with toks := s.toks + 1 }) :
    codeAny (model PySem.Challenge.rw_jj0039_01.row.prog w) A (.call (.ref 271) ⟨rest, []⟩) R s := by
  have hr : readsIn (k0.heap_1_1 w.params) 271 (.type "type") = true := by k_is
  obtain ⟨cd, Y⟩ := pt_news X
  have hi : findIn (k0.heap_1_1 w.params) (.ref 271) (Str.ofString "__init__") = some (some (.builtin "object.__init__")) := by k_is
  have hmo : mroIn (k0.heap_1_1 w.params) 271 (.type "object") = some true := by k_is
  have Y0 := Y
  obtain ⟨⟨oc, od, sl, hC⟩, ne, hm, made, self, call, typ⟩ := Y
  obtain ⟨hh, g, d, t, os⟩ := s
  dsimp only at hC X made self call typ hm
  refine codeAny_of_tree ?_
  show wpAny _ _ (callAny (.ref 271) _) _ _ _
  refine nd_load hC ?_
  show wpAny _ _ (callAny.viaDunder (.ref 271) _) _ _ _
  unfold callAny.viaDunder
  refine wpAny_bind (call.at ?_)
  dsimp only
  rw [tc_bind]
  refine wpAny_bind (wpAny_pure (wpAny_bind (wpAny_pure ?_)))
  refine wpAny_pure (a := Fin.again (.call (.builtin "type.__call__") ⟨.ref 271 :: rest, []⟩)) (And.intro rfl ?_)
  refine codeAny_call_builtin_at (Code.quiet_builtin _ (by decide +kernel)) entry_typeCall (check_slot tc_kind tc_split typ (tc_args _ _ _) ?_)
  unfold Builtin.«type.__call__»
  repeat ((fail_if_success (with_reducible show wpAny _ _ (getAttr _ _ _) _ _ _)); (first | simp only [ne, Bool.false_eq_true, if_false] | lk))
  refine' cls_bind X hr ?e ?_
  case e => k_is
  refine wpAny_call ?_
  refine' sm_get X ?e ?_
  case e => k_is
  refine handed_on rfl ?_
  refine wpAny_bind (wpAny_holding (wpAny_call (codeAny_mono h fun r s' z => ?_)))
  rcases r with e | (v | _ | _ | _) <;> first | exact z | exact z.elim | skip
  obtain ⟨x, ox, rfl, X', hx, hcx, z⟩ := z
  obtain ⟨h', g', d', t', os'⟩ := s'
  dsimp only at X' hx
  obtain ⟨cd', Y'⟩ := pt_news X'
  have t1 : Looks (model PySem.Challenge.rw_jj0039_01.row.prog w) h' (typeOf (.ref x)) (.ref 271) := hcx ▸ (Looks.ld hx).andThen .now
  have s1 := Y'.self
  have i1 := looks_findIn (M := model PySem.Challenge.rw_jj0039_01.row.prog w) X' hi
  unfold isInstance callSpecial? specialOf
  repeat (first | with_reducible refine wpAny_call ?_ | lk)
  exact oi_rest X' hx hcx Y' hi hmo (wpAny_pure (wpAny_pure z))

 local macro_rules | `(tactic| k_room) => `(tactic| ktr_room)
theorem meta_tuple : typeOf (.type "tuple") = pure (.type "type") := by kernel_rfl
theorem tn_kind : builtinKind "tuple.__new__" = some .builtinFn := by decide +kernel
theorem tn_split : splitId "tuple.__new__" = some ("tuple", "__new__") := by decide +kernel
theorem tn_quiet (args : Args) : (Code.builtin "tuple.__new__" args).quiet = true := Code.quiet_builtin _ (by decide +kernel)
theorem tn_best : Slots.bestBase [.type "tuple"] = pure (.type "tuple") := by first | rfl | kernel_rfl
theorem tn_args (K : Value) (a : Value) : argsOk "tuple.__new__" ⟨[K, a], []⟩ := by unfold argsOk; kernel_rfl
structure TupC (M : Model) (h : Heap) : Prop where
  stat : Looks M h (Bind.staticBase (.ref 271)) (.type "tuple")
  isT : Looks M h (isType (.ref 271)) true
  sub : Looks M h (isSubtype (.ref 271) (.type "tuple")) true
  init : Looks M h (typeLookup (.ref 271) "__init__") (some (.builtin "object.__init__"))
  del : ∃ oc od cd sl, h.get? 271 = some ⟨oc, od, .cls cd, sl⟩ ∧ cd.hasDel = false
theorem tup_of {K : Frag} {C : Addr} {cd : ClassData} {b m : List Value} (a : clsIn K C = some cd) (e1 : cd.bases = b) (e2 : cd.mro = m) (e3 : cd.hasDel = false) : ∃ cd, clsIn K C = some cd ∧ cd.bases = b ∧ cd.mro = m ∧ cd.hasDel = false := ⟨cd, a, e1, e2, e3⟩
theorem tup_cls {h : Heap} (X : (k0.heap_1_1 w.params).In h) : TupC (model PySem.Challenge.rw_jj0039_01.row.prog w) h := by
  obtain ⟨cd, hc, hb, hm, hdl⟩ : ∃ cd, clsIn (k0.heap_1_1 w.params) 271 = some cd ∧ cd.bases = [.type "tuple"] ∧ cd.mro = [.ref 271, .type "tuple", .type "object"] ∧ cd.hasDel = false := by
    refine' tup_of ?a ?b ?c ?d
    case a => k_is
    case b => rfl
    case c => rfl
    case d => rfl
  obtain ⟨cd', Y⟩ := pt_news X
  have hC : ∃ oc od sl, h.get? 271 = some ⟨oc, od, .cls cd, sl⟩ := by
    unfold clsIn at hc
    split at hc
    · rename_i ho; cases hc; exact ⟨_, _, _, X _ _ ho⟩
    · cases hc
  have hmr : Looks (model PySem.Challenge.rw_jj0039_01.row.prog w) h (mroOf (.ref 271)) [.ref 271, .type "tuple", .type "object"] := hm ▸ (looks_clsIn X hc).andThen .now
  refine ⟨?_, ?_, looks_mroIn X (by k_is), looks_findIn X (by k_is), ?_⟩
  · intro A Q E s k q
    unfold Bind.staticBase
    refine wpAny_bind (hmr A _ E s k ?_)
    rw [List.forIn_cons]
    refine wpAny_bind (wpAny_bind (wpAny_bind (Y.made A _ E s k ?_)))
    dsimp only [Option.isSome_none]
    rw [if_neg (by decide)]
    refine wpAny_bind (looks_clsIn X hc A _ E s k ?_)
    rw [hb, tn_best]
    refine wpAny_bind (wpAny_pure (wpAny_pure ?_))
    dsimp only
    rw [List.forIn_cons]
    refine wpAny_bind (wpAny_bind ?_)
    rw [F.called_tuple.made]
    exact wpAny_pure (wpAny_pure (wpAny_pure (wpAny_pure q)))
  · obtain ⟨oc, od, sl, hC⟩ := hC
    exact (Looks.ld hC).andThen .now
  · obtain ⟨oc, od, sl, hC⟩ := hC
    exact ⟨oc, od, cd, sl, hC, hdl⟩
set_option maxRecDepth 100000 in
set_option maxHeartbeats 8000000 in
theorem tn_call {E : Value → Shared → Prop} {h₀ : Heap} {L D : Addr} {m : Str → Option Value} {news : Led} {vs : Array Value} {Q : Value → Shared → Prop} (F : Fr h₀ L s.heap m) (N : News h₀ L s.heap news) (X₀ : (k0.heap_1_1 w.params).In h₀) (hD : (D, (⟨.type "tuple", none, .seq vs 0, #[]⟩ : Obj)) ∈ news) (hv : vs.size ≤ 100)
    (h : ∀ x d h', Fr h₀ L h' m → News h₀ L h' ((x, (⟨.ref 271, some d, .seq vs 0, #[]⟩ : Obj)) :: news) → (∀ p ∈ news, p.1 < x) → Q (.ref x) { s with heap := h' }) :
    wpAny (model PySem.Challenge.rw_jj0039_01.row.prog w) A (call (.builtin "tuple.__new__") [.ref 271, .ref D]) Q E s := by
  have X := X₀.keeps F.keep
  have Y := tup_cls X
  obtain ⟨cd', Y'⟩ := pt_news X
  obtain ⟨⟨oc, od, cd, sl, hC, hdl⟩, st, isT, sub, ini⟩ := (⟨Y.del, Y.stat, Y.isT, Y.sub, Y.init⟩ : _ ∧ _ ∧ _ ∧ _ ∧ _)
  obtain ⟨hh, g, d, t, os⟩ := s
  dsimp only at hC st isT sub ini F N X
  refine wpAny_call (codeAny_call_builtin_code (tn_quiet _) ?_)
  simp only [checkBuiltinCall, tn_kind, tn_split]
  have args := tn_args (.ref 271) (.ref D)
  have made : Looks (model PySem.Challenge.rw_jj0039_01.row.prog w) hh (Bind.madeBy (.type "tuple")) (some "tuple.__new__") := Looks.of_pure PySem.F.called_tuple.made
  repeat lk
  refine codeAny_builtin PySem.F.entry_tuple_new ?_
  unfold Builtin.«tuple.__new__» Bind.madeHere
  have hcol := fun {A' : Around} {E' : Value → Shared → Prop} {Q' : List Value → Shared → Prop} (hQ : ∀ h', (∀ b o', hh.get? b = some o' → h'.get? b = some o') → Q' vs.toList ⟨h', g, d, t, os⟩) => wpAny_collect_seq (prog := PySem.Challenge.rw_jj0039_01.row.prog) (w := w) (A := A') (E := E') (Q := Q') (s := ⟨hh, g, d, t, os⟩) D (.inr rfl) (N _ hD).1 rfl rfl hQ (by rw [sizeLine_eq]; omega)
  repeat (first | (with_reducible refine hcol ?_) | lk)
  intro h' hk
  have hC' := hk _ _ hC
  refine wpAny_bind (wpAny_pure (wpAny_bind (wpAny_alloc (wpAny_bind ?_))))
  have e : vs.toList.toArray = vs := by simp
  rw [e]
  unfold newObj
  dsimp only
  rw [if_neg (by rw [sizeLine_eq]; omega)]
  unfold newObjAsIs classHasDel
  refine wpAny_bind (wpAny_alloc (wpAny_bind (wpAny_bind (wpAny_load (Heap.get?_push_of_some _ (Heap.get?_push_of_some _ hC')) (wpAny_pure ?_)))))
  rw [hdl]
  refine wpAny_pure (wpAny_pure ?_)
  have F' := F.grownK hk
  have N' : News h₀ L h' news := N.grown hk
  have N2 := (N'.push F' emptyDict).push (F'.push _) (⟨.ref 271, some h'.objs.size, .seq vs 0, #[]⟩ : Obj)
  have hlt : ∀ p ∈ news, p.1 < h'.objs.size := fun p hp => Heap.lt_size (N' p hp).1
  rw [Heap.size_push] at N2 ⊢
  have N3 : News h₀ L ((h'.push emptyDict).push (⟨.ref 271, some h'.objs.size, .seq vs 0, #[]⟩ : Obj)) ((h'.objs.size + 1, (⟨.ref 271, some h'.objs.size, .seq vs 0, #[]⟩ : Obj)) :: news) := fun p hp => (List.mem_cons.mp hp).elim (fun e => N2 p (e ▸ .head _)) fun hp => N2 p (.tail _ (.tail _ hp))
  exact h (h'.objs.size + 1) h'.objs.size _ ((F'.push _).push _) N3 (fun p hp => Nat.lt_succ_of_lt (hlt p hp))

/-- a point as the ledger bears it -/
def Pt (news : Led) (x : Addr) (a : Int) : Prop := ∃ (d : Addr) (b : Int) (t u : Tok), (x, (⟨.ref 271, some d, .seq #[.int a t, .int b u] 0, #[]⟩ : Obj)) ∈ news
 local macro_rules | `(tactic| walk_at "getMethod type:tuple") => `(tactic| (k_here; refine' method_type ?F ?X ?m (by decide +kernel) ?e ?h ?_; (case F | X => k_asm); (case m => exact meta_tuple); (case e => k_dflt k_is); (case h => k_handed)))
 local macro_rules | `(tactic| walk_at "call builtin:tuple.__new__") => `(tactic| (k_here; k_dflt (refine' tn_call ?F ?N ?X ?D ?v ?_; (case F | N | X => k_asm); (case D => k_mem); (case v => exact (by decide : 2 ≤ 100)); k_whole); intro x' d' h' F' N' l1; (try k_lt l1)))
 local macro_rules | `(tactic| k_room) => `(tactic| ktr_room)
set_option maxRecDepth 100000 in
set_option maxHeartbeats 8000000 in
theorem call_point {p : Program} {loose : List Str} {mean : ExcName → Option Value} {mg mb : Str → Option Value} {a b : Int} {t u : Tok} : Ctr w p loose mean mg mb 20 200 (fun _ => True) (call (.ref 271) [.int a t, .int b u]) (fun news r news' => ∃ x, r = .ref x ∧ Pt news' x a ∧ Sub news news' ∧ ∀ p ∈ news, p.1 < x) := by
  intro dp un gd cn cs a ccd cl outer A₀ base h₀ L m news s Q E B F X N T hk0 hP hd hu hret
  refine wpAny_call (pt_core (X.keeps F.keep) ?_)
  k_enter
  generalize hu' : (Around.under (ktrTop dp un gd cn cs L a ccd cl outer) _) = AU
  k_steps
  (rename Fr h₀ L _ m => kF)
  (rename News h₀ L _ _ => kN)
  (rename _ ∧ AllLt _ _ => kl)
  refine ⟨_, _, rfl, X.keeps kF.keep, (kN _ (.head _)).1, rfl, ?_⟩
  exact hret _ _ _ _ kF kN ⟨_, rfl, ⟨_, _, _, _, .head _⟩, fun p hp => .tail _ (.tail _ hp), ktn_ltOf kl.2⟩
end



section
open PySem.Builtin PySem.Builtin.ObjectAttr
variable {w : World} {A : Around} {s : Shared} {prog : Program}
theorem find_data {K : Frag} {M : Model} {h : Heap} (X : K.In h) {x C : Addr} {name : Str} {a g : Value} (ha : findIn K (.ref C) name = some (some a)) (hg : specialIn K a "__get__" = some (some g)) (hd : takesIn K a = some true) :
    Looks M h (find (.ref x) (.ref C) name) (.bind g a) := by
  have L1 := looks_findIn (M := M) X ha
  have L2 : Looks M h (getOf (some a)) (some g) := looks_specialIn X hg
  have L3 := looks_takesIn (M := M) X hd
  exact L1.andThen (L2.andThen ((show Looks M h (dataDescriptor? (some a) (some g)) (some (g, a)) from L3.andThen .now).andThen (Looks.tag .now)))
theorem pt_get {K : Frag} {x C : Addr} {ox : Obj} {name : Str} {a g : Value} {expr : Bool} {Q E : Value → Shared → Prop} (X : K.In s.heap) (hx : s.heap.get? x = some ox) (hc : ox.cls = .ref C)
    (hga : findIn K (.ref C) "__getattribute__" = some (some (.builtin "tuple.__getattribute__"))) (hk : findIn K (.ref C) "__getattr__" = some none) (hsub : mroIn K C (.type "tuple") = some true)
    (ha : findIn K (.ref C) name = some (some a)) (hg : specialIn K a "__get__" = some (some g)) (hd : takesIn K a = some true)
    (h : wpAny (model prog w) A.in1 (call g [a, .ref x, .ref C]) (fun v s' => wpAny (model prog w) A (handedOut v) Q E s') (fun _ _ => False) { s with toks := s.toks + 1 }) :
    wpAny (model prog w) A (getAttr (.ref x) name expr) Q E s := by
  obtain ⟨hh, gs, d, t, os⟩ := s
  dsimp only at hx X h
  have L0 : Looks (model prog w) hh (typeOf (.ref x)) (.ref C) := hc ▸ (Looks.ld hx).andThen .now
  have L1 := looks_findIn (M := model prog w) X hga
  have L2 := looks_findIn (M := model prog w) X hk
  have L3 := find_data (M := model prog w) X (x := x) ha hg hd
  have L4 : Looks (model prog w) hh (isInstance (.ref x) (.type "tuple")) true := L0.andThen (looks_mroIn X hsub)
  unfold getAttr getAttrBy
  refine wpAny_bind (wpAny_mkText (wpAny_holding (wpAny_bind (L0.at (wpAny_bind (L1.at ?_))))))
  dsimp only
  rw [show (onTheHeap (.ref C) && Value.builtin "tuple.__getattribute__" == Value.builtin "object.__getattribute__") = false from by rw [show (Value.builtin "tuple.__getattribute__" == Value.builtin "object.__getattribute__") = false from by decide +kernel, Bool.and_false], if_neg (by decide)]
  unfold getAttrByItsOwn hookBefore
  refine wpAny_bind ?_
  rw [if_pos (show onTheHeap (.ref C) = true from rfl)]
  refine L2.at (wpAny_bind (wpAny_attempt (wpAny_holding ?_)))
  unfold callGetattribute
  rw [show (expr && onTheHeap (Value.builtin "tuple.__getattribute__")) = false from Bool.and_false _, if_neg (by decide)]
  unfold boundAndCalled
  rw [PySem.F.slot_tuple_getattribute.bind]
  refine wpAny_bind (wpAny_pure ?_)
  show wpAny _ _ (call (.builtin "tuple.__getattribute__") [.ref x, .str name t]) _ _ _
  refine wpAny_call ?_
  refine codeAny_call_builtin PySem.F.slot_tuple_getattribute.plain am_entry_tuple_getattribute ?_
  refine @check_slot (model prog w) _ _ ⟨hh, gs, d, t + 1, os⟩ "tuple.__getattribute__" "tuple" "__getattribute__" (.ref x) [.str name t] [] _ (by decide +kernel) (by decide +kernel) L4 (PySem.F.args_tuple_getattribute_2 _ _) ?_
  unfold Builtin.«object.__getattribute__»
  refine wpAny_bind (wpAny_pure (wpAny_bind (wpAny_pure (wpAny_bind (L0.at (wpAny_bind (L3.at ?_)))))))
  refine wpAny_bind (wpAny_holding (wpAny_mono h (fun v s' z => wpAny_pure z) fun _ _ z => z.elim))

theorem issub_meets {K : Frag} {C : Addr} {cd : ClassData} (hc : clsIn K C = some cd) (hsub : mroIn K C (.type "tuple") = some true) :
    Meets (Builtin.«issubclass» ⟨[.ref C, .type "tuple"], []⟩) (fun _ R s => K.In s.heap ∧ R (.ok (.ret (.bool true))) s) := by
  rintro prog w A R s ⟨X, hs⟩
  obtain ⟨hh, gs, d, t, os⟩ := s
  dsimp only at X
  refine issubclass_outer ?_
  have L0 : Looks (model prog w) hh (typeOf (.type "tuple")) (.type "type") := Looks.of_pure meta_tuple
  have L1 : Looks (model prog w) hh (isSubtype (.ref C) (.type "tuple")) true := looks_mroIn X hsub
  have L2 : Looks (model prog w) hh (isType (.ref C)) true := by
    unfold clsIn at hc
    split at hc
    · rename_i ho; exact (Looks.ld (X _ _ ho)).andThen .now
    · cases hc
  have L3 : Looks (model prog w) hh (isType (.type "tuple")) true := .now
  unfold Builtin.«issubclass.nested»
  repeat lk
  exact hs
theorem call_issub {K : Frag} {C : Addr} {cd : ClassData} {Q E : Value → Shared → Prop} (X : K.In s.heap) (hc : clsIn K C = some cd) (hsub : mroIn K C (.type "tuple") = some true) (h : Q (.bool true) s) :
    wpAny (model prog w) A (call (.builtin "issubclass") [.ref C, .type "tuple"]) Q E s :=
  call_issubclass (issub_meets hc hsub) ⟨X, h⟩
theorem call_tgi {K : Frag} {C x : Addr} {d : Option Addr} {a b : Value} {sl : Array (Option Value)} {t : Tok} {Q E : Value → Shared → Prop} (X : K.In s.heap) (hsub : mroIn K C (.type "tuple") = some true) (hx : s.heap.get? x = some ⟨.ref C, d, .seq #[a, b] 0, sl⟩) (h : Q a s) :
    wpAny (model prog w) A (call (.builtin "tuple.__getitem__") [.ref x, .int 0 t]) Q E s := by
  obtain ⟨hh, gs, dd, tk, os⟩ := s
  dsimp only at hx X
  have L0 : Looks (model prog w) hh (typeOf (.ref x)) (.ref C) := (Looks.ld hx).andThen .now
  have L4 : Looks (model prog w) hh (isInstance (.ref x) (.type "tuple")) true := L0.andThen (looks_mroIn X hsub)
  refine wpAny_call ?_
  refine codeAny_call_builtin PySem.F.slot_tuple_getitem.plain entry_tuple_getitem ?_
  refine @check_slot (model prog w) _ _ ⟨hh, gs, dd, tk, os⟩ "tuple.__getitem__" "tuple" "__getitem__" (.ref x) [.int 0 t] [] _ (by decide +kernel) (by decide +kernel) L4 (PySem.F.args_tuple_getitem_2 _ _) ?_
  unfold Builtin.«tuple.__getitem__»
  refine wpAny_bind (wpAny_pure ?_)
  dsimp only
  refine wpAny_bind (wpAny_bind (wpAny_bind (wpAny_load hx (wpAny_pure (wpAny_pure ?_)))))
  refine wpAny_bind (wpAny_typeOf (typeIs_int _ 0 t) ?_)
  rw [if_neg (by decide)]
  refine wpAny_bind (wpAny_specialOf (T := "int") (typeIs_int _ 0 t) int_index ?_)
  rw [if_neg (by simp)]
  refine wpAny_bind (wpAny_of_eq (a := 0) rfl ?_)
  rw [if_neg (by decide)]
  exact wpAny_pure h

theorem type_led {h₀ : Heap} {L x C : Addr} {news : Led} {o : Obj} {Q E : Value → Shared → Prop} (N : News h₀ L s.heap news) (hm : (x, o) ∈ news) (hc : o.cls = .ref C) (h : Q (.ref C) s) : wpAny (model prog w) A (call (.type "type") [.ref x]) Q E s := by
  obtain ⟨hh, g, d, t, os⟩ := s
  exact call_type_obj (N _ hm).1 (by rw [hc]; rfl) (by rw [hc]; exact h)
theorem tgi_led {K : Frag} {h₀ : Heap} {L C x : Addr} {news : Led} {d : Option Addr} {a b : Value} {sl : Array (Option Value)} {t : Tok} {Q E : Value → Shared → Prop} (X : K.In s.heap) (N : News h₀ L s.heap news) (hx : (x, (⟨.ref C, d, .seq #[a, b] 0, sl⟩ : Obj)) ∈ news) (hsub : mroIn K C (.type "tuple") = some true) (h : Q a s) :
    wpAny (model prog w) A (call (.builtin "tuple.__getitem__") [.ref x, .int 0 t]) Q E s := call_tgi X hsub (N _ hx).1 h
 local macro_rules | `(tactic| walk_at "call type:type") => `(tactic| (k_here; (with_reducible show wpAny _ _ (call (Value.type "type") [Value.ref _]) _ _ _); k_dflt (refine' type_led ?N ?m ?c ?_; (case N => k_asm); (case m => k_mem); (case c => exact rfl); k_whole)))
 local macro_rules | `(tactic| walk_at "getMethod type:tuple") => `(tactic| (k_here; refine' method_type ?F ?X ?m (by decide +kernel) ?e ?h ?_; (case F | X => k_asm); (case m => exact meta_tuple); (case e => k_dflt k_is); (case h => k_handed)))
 local macro_rules | `(tactic| walk_at "call builtin:issubclass") => `(tactic| (k_here; k_dflt (refine' call_issub ?X ?c ?s ?_; (case X => k_in); (case c | s => k_is); k_whole)))
 local macro_rules | `(tactic| walk_at "call builtin:tuple.__getitem__") => `(tactic| (k_here; k_dflt (refine' tgi_led ?X ?N ?m ?s ?_; (case X => k_in); (case N => k_asm); (case m => k_mem); (case s => k_is); k_whole)))
set_option maxRecDepth 100000 in
set_option maxHeartbeats 8000000 in
theorem get_x {p : Program} {loose : List Str} {mean : ExcName → Option Value} {mg mb : Str → Option Value} {k : Int} {x : Addr} {pl : Bool} : Ctr w p loose mean mg mb 20 200 (fun news => Pt news x k) (getAttr (.ref x) (Str.ofString "x") pl) (fun news r news' => (∃ t, r = .int k t) ∧ news' = news) := by
  intro dp un gd cn cs a ccd cl outer A₀ base h₀ L m news s Q E B F X N T hk0 hP hd hu hret
  obtain ⟨d, b, t, u, hx⟩ := hP
  refine' pt_get (K := Mine.k0.heap_1_1 w.params) (a := .ref 263) (g := .ref 182) (X.keeps F.keep) (N _ hx).1 rfl ?a ?b ?c ?d ?e ?f ?_
  case a => k_is
  case b => k_is
  case c => k_is
  case d => k_is
  case e => k_is
  case f => k_is
  k_steps
  exact hret _ _ _ _ (by k_asm) (by k_asm) ⟨⟨_, rfl⟩, rfl⟩
end



/-- pieces of the law's text, by their place -/
noncomputable def bodyOf : Stmt → List Stmt
  | .FunctionDef _ _ b _ _ _ _ _ _ _ => b
  | .For _ _ b _ _ => b
  | .If _ b _ _ => b
  | _ => []
noncomputable def elseOf : Stmt → List Stmt
  | .If _ _ e _ => e
  | _ => []
noncomputable def scopeOf : Stmt → Scope
  | .FunctionDef _ _ _ _ _ _ s _ _ _ => s
  | _ => default
noncomputable def nthS : List Stmt → Nat → Stmt
  | [], _ => .Pass default
  | s :: _, 0 => s
  | _ :: r, n + 1 => nthS r n
noncomputable def lastS : List Stmt → Stmt
  | [] => .Pass default
  | [s] => s
  | _ :: r => lastS r
noncomputable def lawDef : Stmt := lastS PySem.Challenge.pw_jj0039_01.main.body
noncomputable def lawSc : Scope := scopeOf lawDef
noncomputable def lawB : List Stmt := bodyOf lawDef
noncomputable def setB : List Stmt := bodyOf (nthS lawB 2)
noncomputable def turnB : List Stmt := bodyOf (nthS lawB 3)
noncomputable def if1 : Stmt := nthS turnB 1
noncomputable def br1 : List Stmt := bodyOf if1
noncomputable def if2 : Stmt := nthS (elseOf if1) 0
noncomputable def br2 : List Stmt := bodyOf if2
noncomputable def if3 : Stmt := nthS (elseOf if2) 0
noncomputable def br3 : List Stmt := bodyOf if3
noncomputable def if4 : Stmt := nthS (elseOf if3) 0
noncomputable def br4 : List Stmt := bodyOf if4
noncomputable def ringB : List Stmt := bodyOf (nthS lawB 5)
noncomputable def endB : List Stmt := bodyOf (nthS lawB 6)

/-- a contract of statements of the law's own frame -/
def Stm (w : World) (p : Program) (loose : List Str) (mean : ExcName → Option Value) (mg mb : Str → Option Value) (D U : Nat) (body : List Stmt) (P : (Str → Option Value) → Led → Prop) (Post : (Str → Option Value) → Led → (Str → Option Value) → Led → Prop) : Prop :=
  ∀ (dp un : Nat) (gd : Option (List Code)) (a : Addr) (ccd : Value) (outer : List Env) (A₀ : Around) (base h₀ : Heap) (L : Addr) (m : Str → Option Value) (news : Led) (s : Shared)
    (Q : Flow → Shared → Prop) (E : Value → Shared → Prop),
    Below A₀ base outer h₀ → Fr h₀ L s.heap m → (k0.heap_1_1 w.params).In h₀ → News h₀ L s.heap news → Top p loose mean mg mb h₀ → P m news → dp + D < recursionLimit → un + U < cLine →
    (∀ h' tk' m' news', Fr h₀ L h' m' → News h₀ L h' news' → Post m news m' news' → Q .next { s with heap := h', toks := tk' }) →
    wpAny (model PySem.Challenge.rw_jj0039_01.row.prog w) (ktrTop dp un gd (Str.ofString "law") lawSc L a ccd [] outer) (execs body (envOf (Str.ofString "law") lawSc L a ccd)) Q E s

/-- the law's state between its statements -/
structure LawS (z : Addr) (n : Nat) (ctx lh ls lr : Addr) (ob dc : Nat → Addr) (lf f : Nat → Nat) (st : Nat → Value) (rs : List (List Int)) (ss : List Int) (m : Str → Option Value) (news : Led) : Prop where
  mh : m (Str.ofString "held") = some (.ref lh)
  ms : m (Str.ofString "starts") = some (.ref ls)
  mr : m (Str.ofString "rings") = some (.ref lr)
  mc : m (Str.ofString "context") = some (.ref ctx)
  g : Gr news ctx (2 * n) ob dc lf st
  r : GR n lf f rs
  h : ∃ c, (lh, listOf (List.toArray ((List.range n).map (fun k => Value.ref (ob (2 * k))))) c) ∈ news
  s : ∃ vs c, (ls, listOf (List.toArray vs) c) ∈ news ∧ IntsAre vs ss
  sl : ss.length = n
  sz : ls ≠ z
  hz : lh ≠ ls
  rl : LL ls news lr rs
  pts : ∀ k, k < n → ∃ x, st (2 * k) = .ref x ∧ Pt news x (ss.getD k 0)
  hi : n ≤ 14
def Law (z : Addr) (n : Nat) (m : Str → Option Value) (news : Led) : Prop := ∃ ctx lh ls lr ob dc lf f st rs ss, LawS z n ctx lh ls lr ob dc lf f st rs ss m news
/-- the iterator and the list that is walked are kept -/
def KeepZ (z : Addr) (a b : Led) : Prop := (∀ p ∈ a, p.1 = z → p.2.cls = .type "list" → p ∈ b) ∧ (∀ p ∈ a, p.2.cls = .type "list_iterator" → p ∈ b)

theorem KeepND.z {z : Addr} {a b : Led} (k : KeepND a b) : KeepZ z a b :=
  ⟨fun p hp _ hc => k p hp (by rw [hc]; decide), fun p hp hc => k p hp (by rw [hc]; decide)⟩
theorem Sub.nd {a b : Led} (s : Sub a b) : KeepND a b := fun p hp _ => s p hp
theorem Pt.nd {a b : Led} (k : KeepND a b) {x : Addr} {v : Int} (h : Pt a x v) : Pt b x v :=
  let ⟨d, u, t1, t2, m⟩ := h
  ⟨d, u, t1, t2, k _ m (by intro e; cases e)⟩
theorem LawS.rings {z : Addr} {n : Nat} {ctx lh ls lr lr' : Addr} {ob dc : Nat → Addr} {lf f lf' f' : Nat → Nat} {st : Nat → Value} {rs rs' : List (List Int)} {ss : List Int} {m m' : Str → Option Value} {news news' : Led}
    (H : LawS z n ctx lh ls lr ob dc lf f st rs ss m news) (hm : m' = fun y => if y = Str.ofString "rings" then some (.ref lr') else m y) (K : KeepND news news') (G : Gr news' ctx (2 * n) ob dc lf' st) (R : GR n lf' f' rs') (L : LL ls news' lr' rs') :
    LawS z n ctx lh ls lr' ob dc lf' f' st rs' ss m' news' := by
  subst hm
  obtain ⟨c, hh⟩ := H.h
  obtain ⟨vs, c', hs, hi⟩ := H.s
  refine ⟨H.mh, H.ms, rfl, H.mc, G, R, ⟨c, K.list _ _ _ hh⟩, ⟨vs, c', K.list _ _ _ hs, hi⟩, H.sl, H.sz, H.hz, L, fun k hk => ?_, H.hi⟩
  obtain ⟨x, e, P⟩ := H.pts k hk
  exact ⟨x, e, P.nd K⟩
theorem pre_nd {z : Addr} {a b : Led} {lr : Addr} {rs : List (List Int)} (h : LL z a lr rs ∧ Zin z a) (k : KeepND a b) : LL z b lr rs ∧ Zin z b := ⟨h.1.mono k.list, h.2.keep k.list⟩
theorem LawS.pre {z : Addr} {n : Nat} {ctx lh ls lr : Addr} {ob dc : Nat → Addr} {lf f : Nat → Nat} {st : Nat → Value} {rs : List (List Int)} {ss : List Int} {m : Str → Option Value} {news : Led} (H : LawS z n ctx lh ls lr ob dc lf f st rs ss m news) :
    (LL ls news lr rs ∧ Zin ls news) ∧ (∀ r ∈ rs, r.length ≤ 100) ∧ rs.length ≤ 100 := by
  obtain ⟨vs, c', hs, hi⟩ := H.s
  have := H.hi
  exact ⟨⟨H.rl, vs.toArray, c', hs⟩, fun r hr => Nat.le_trans (H.r.ring hr) (by omega), Nat.le_trans H.r.rings (by omega)⟩
theorem held_at {n i : Nat} {ob : Nat → Addr} (h : i < n) : ((List.range n).map (fun k => Value.ref (ob (2 * k))))[i]? = some (.ref (ob (2 * i))) := by
  rw [List.getElem?_map, List.getElem?_range h]
  rfl
theorem item_led {prog : Program} {w : World} {A : Around} {E : Value → Shared → Prop} {s : Shared} {value slice : PySem.Expr} {h₀ : Heap} {L a : Addr} {news : Led} {vs : List Value} {c i : Nat} {t : Tok} {v : Value} {Q : Value → Shared → Prop}
    (N : News h₀ L s.heap news) (hm : (a, listOf vs.toArray c) ∈ news) (hx : vs[i]? = some v) (hb : i < 1000) (h : Q v s)
    (hs : subscripted slice false (.ref a) (.int (i : Int) t) = operate [.ref a, .int (i : Int) t] (getItem (.ref a) (.int (i : Int) t)) := by with_unfolding_all rfl) :
    wpAny (model prog w) A (subscriptTail value slice (.ref a) (.int (i : Int) t)) Q E s :=
  tail_any (list_of N hm).typeIs slot_list_getitem.lookup (wpAny_getItem_list (list_of N hm) (by omega) (by omega) (by simpa using hx) h) hs
local macro_rules | `(tactic| walk_at "subscriptTail") => `(tactic| (k_here; (with_reducible show wpAny _ _ (subscriptTail _ _ (Value.ref _) (Value.int _ _)) _ _ _); k_dflt (refine' item_led ?N ?m ?x ?b ?_ ?s; (case N => k_asm); (case m => k_mem); (case x => exact held_at (by with_reducible assumption)); (case b => omega); (case s => with_unfolding_all rfl); k_whole)))
local macro_rules | `(tactic| tb_start) => `(tactic| exact pre_nd (by with_reducible assumption) (by with_reducible assumption))
theorem pre_new {z : Addr} {a b : Led} {lr : Addr} {rs : List (List Int)} (l : LL z b lr rs) (u : Sub a b) (h : Zin z a) : LL z b lr rs ∧ Zin z b := ⟨l, h.sub u⟩
-- a contract that hands on a list of rings, at its call
local macro_rules | `(tactic| ktr_call 4 $c:term) => `(tactic| (
  ktr_call 99 $c
  (tb_start)
  (all_goals (first | assumption | omega | (intro r9 h9 tk9 news9 F9 N9 o9; obtain ⟨a9, e9, L9, U9⟩ := o9; subst e9; (have hP9 := pre_new L9 U9 (by first | with_reducible assumption | exact Zin.sub (fun _ h9 => by k_mem) (by with_reducible assumption))); (have hz9 := hP9.2); (try (have K9 := KeepND.trans (by with_reducible assumption) (Sub.nd U9))); (try (have hG9 := Gr.mono (by with_reducible assumption) U9)); (try dsimp only); (try k_fold))))))
-- a deed at its call, whose ledger bears the list of rings on
local macro_rules | `(tactic| ktr_call 9 $c:term) => `(tactic| (
  ktr_call 99 $c
  (ktr_rel)
  (all_goals (try with_reducible exact rfl))
  (all_goals (first | ktr_rel | (intro r9 h9 tk9 news9 F9 N9 o9; (first | (obtain ⟨ob9, dc9, lf9, st9, e9, X9, E9, S9, G9, K9⟩ := o9; subst e9) | (obtain ⟨e9, lf9, st9, E9, S9, G9, K9⟩ := o9; subst e9) | (obtain ⟨e9, lf9, E9, G9, K9⟩ := o9; subst e9)); (have hP9 := pre_nd (by with_reducible assumption) K9); (have hz9 := hP9.2); (try dsimp only); (try k_fold))))))
local macro_rules | `(tactic| walk_at "call ref") => `(tactic| (k_here; (with_reducible show wpAny _ _ (call (Value.ref 146) _) _ _ _); k_dflt (ktr_call 9 (call_splice _ _ _ _))))
local macro_rules | `(tactic| walk_at "call ref") => `(tactic| (k_here; (with_reducible show wpAny _ _ (call (Value.ref 342) _) _ _ _); k_dflt (ktr_call 4 (call_spliced _ _ _ _))))

theorem len_led {prog : Program} {w : World} {A : Around} {E : Value → Shared → Prop} {s : Shared} {h₀ : Heap} {L a : Addr} {news : Led} {vs : List Value} {c n : Nat} {Q : Value → Shared → Prop}
    (N : News h₀ L s.heap news) (hm : (a, listOf vs.toArray c) ∈ news) (hn : vs.length = n) (hb : n < 1000) (h : Q (.int (n : Int) (s.toks + 1)) { s with toks := s.toks + 1 + 1 }) : wpAny (model prog w) A (call (.builtin "len") [.ref a]) Q E s :=
  len_list (list_of N hm) (by have e : vs.toArray.size = n := by simp [hn]
                              omega) (by have e : vs.toArray.size = n := by simp [hn]
                                         rw [e]; exact h)
theorem held_len {n : Nat} {ob : Nat → Addr} : ((List.range n).map (fun k => Value.ref (ob (2 * k)))).length = n := by rw [List.length_map, List.length_range]
local macro_rules | `(tactic| walk_at "call builtin:len") => `(tactic| (k_here; k_dflt (refine' len_led ?N ?m ?x ?b ?_; (case N => k_asm); (case m => k_mem); (case x => exact held_len); (case b => omega); k_whole)))
theorem ints_at {vs : List Value} {ns : List Int} (h : IntsAre vs ns) {i : Nat} (hi : i < ns.length) : ∃ t, vs[i]? = some (.int (ns.getD i 0) t) := by
  induction h generalizing i with
  | nil => exact absurd hi (Nat.not_lt_zero _)
  | cons x t _ ih =>
    cases i with
    | zero => exact ⟨t, rfl⟩
    | succ i =>
      obtain ⟨u, e⟩ := ih (i := i) (by simpa using hi)
      exact ⟨u, by simpa using e⟩
theorem item_ints {prog : Program} {w : World} {A : Around} {E : Value → Shared → Prop} {s : Shared} {value slice : PySem.Expr} {h₀ : Heap} {L a : Addr} {news : Led} {vs : List Value} {ns : List Int} {c i : Nat} {t : Tok} {Q : Value → Shared → Prop}
    (N : News h₀ L s.heap news) (hm : (a, listOf vs.toArray c) ∈ news) (hi : IntsAre vs ns) (hx : i < ns.length) (hb : i < 1000) (h : ∀ t, Q (.int (ns.getD i 0) t) s)
    (hs : subscripted slice false (.ref a) (.int (i : Int) t) = operate [.ref a, .int (i : Int) t] (getItem (.ref a) (.int (i : Int) t)) := by with_unfolding_all rfl) :
    wpAny (model prog w) A (subscriptTail value slice (.ref a) (.int (i : Int) t)) Q E s := by
  obtain ⟨u, e⟩ := ints_at hi hx
  exact item_led N hm e hb (h u) hs
-- _law_back at its call
local macro_rules | `(tactic| ktr_call 5 $c:term) => `(tactic| (
  ktr_call 99 $c
  (exact trivial)
  (all_goals (first | omega | (intro r9 h9 tk9 news9 F9 N9 o9; obtain ⟨⟨t9, e9⟩, e8⟩ := o9; subst e9; subst e8; (try dsimp only); (try k_fold))))))
local macro_rules | `(tactic| walk_at "call ref") => `(tactic| (k_here; (with_reducible show wpAny _ _ (call (Value.ref 359) _) _ _ _); k_dflt (ktr_call 5 (call_back _))))
local macro_rules | `(tactic| walk_at "call ref") => `(tactic| (k_here; (with_reducible show wpAny _ _ (call (Value.ref 132) _) _ _ _); k_dflt (ktr_call 9 (call_delete _ _))))
local macro_rules | `(tactic| walk_at "call ref") => `(tactic| (k_here; (with_reducible show wpAny _ _ (call (Value.ref 153) _) _ _ _); k_dflt (ktr_call 9 (call_swap _ _))))
local macro_rules | `(tactic| walk_at "call ref") => `(tactic| (k_here; (with_reducible show wpAny _ _ (call (Value.ref 125) _) _ _ _); k_dflt (ktr_call 9 (call_connect _ _ _ _))))
local macro_rules | `(tactic| walk_at "call ref") => `(tactic| (k_here; (with_reducible show wpAny _ _ (call (Value.ref 347) _) _ _ _); k_dflt (ktr_call 4 (call_put _ _ _ _))))
theorem off_of {z d : Addr} {a b : Led} (h : AllLt d a) (hz : Zin z b) (s : ∀ p ∈ b, p ∈ a) : d ≠ z := by
  obtain ⟨_, _, hm⟩ := hz
  exact Ne.symm (ktn_ne h (s _ hm))

section
variable {w : World} {p : Program} {loose : List Str} {mean : ExcName → Option Value} {mg mb : Str → Option Value} {z : Addr} {n i j : Nat}
 local macro_rules | `(tactic| walk_at "eval Name") => `(tactic| (k_here; k_dflt (refine' ld ?k1 ?k2 ?_; (case k1 => k_asm); (case k2 => assumption); k_whole)))
set_option maxRecDepth 100000 in
set_option maxHeartbeats 8000000 in
theorem st_br1 (hi : i < n) (hj : j < n) : Stm w p loose mean mg mb 100 1000 br1 (fun m news => Law z n m news ∧ (∃ t, m (Str.ofString "one") = some (.int (i : Int) t)) ∧ (∃ t, m (Str.ofString "two") = some (.int (j : Int) t)))
    (fun m news m' news' => Law z n m' news' ∧ KeepZ z news news') := by
  rintro dp un gd a ccd outer A₀ base h₀ L m news s Q E B F X N T ⟨⟨ctx, lh, ls, lr, ob, dc, lf, f, st, rs, ss, H⟩, ⟨t1, m1⟩, ⟨t2, m2⟩⟩ hd hu hret
  conv in br1 => whnf
  conv in (occs := *) lawSc => all_goals whnf
  have mh := H.mh
  have mr := H.mr
  have G := H.g
  obtain ⟨c, hh⟩ := H.h
  obtain ⟨hpre, hl100, hn100⟩ := H.pre
  have hn14 := H.hi
  have h2i : 2 * i < 2 * n := by omega
  have h2j : 2 * j < 2 * n := by omega
  ktn_open
  (rename Gr _ _ _ _ _ (_ : Nat → Nat) _ => Gx)
  (rename KeepND news _ => Kx)
  (rename Sub _ _ => Ux)
  (rename LL ls _ _ (splL _ _ _) => Lx)
  subst_vars
  have K := Kx
  exact hret _ _ _ _ (by k_asm) (by k_asm) ⟨⟨ctx, lh, ls, _, ob, dc, _, _, st, _, ss, H.rings rfl K Gx (H.r.spl hi hj) Lx⟩, K.z⟩
end



theorem withoutL_len {rs : List (List Int)} {g : List Int} : (withoutL rs g).length ≤ rs.length := by
  unfold withoutL
  exact Nat.le_trans (List.length_filter_le _ _) (by rw [List.length_map]; exact Nat.le_refl _)
theorem All2.app {α β : Type} {R : α → β → Prop} {as : List α} {bs : List β} {as' : List α} {bs' : List β} (h : All2 R as bs) (h' : All2 R as' bs') : All2 R (as ++ as') (bs ++ bs') := by
  induction h with
  | nil => exact h'
  | cons x _ ih => exact .cons x ih
theorem LL.app2 {z : Addr} {news : Led} {D d1 d2 : Addr} {as : List Addr} {rs : List (List Int)} {c : Nat} {r1 r2 : List Int} (hz : D ≠ z) (hm : (D, listOf (as.map Value.ref ++ [Value.ref d1, Value.ref d2]).toArray c) ∈ news) (hf : All2 (LI z news) as rs) (h1 : LI z news d1 r1) (h2 : LI z news d2 r2) : LL z news D (rs ++ [r1, r2]) :=
  ⟨hz, as ++ [d1, d2], c, by rw [List.map_append]; exact hm, hf.app (.cons h1 (.cons h2 .nil))⟩
theorem All2.led {z : Addr} {a b : Led} (k : KeepL a b) {as : List Addr} {rs : List (List Int)} (h : All2 (LI z a) as rs) : All2 (LI z b) as rs := forall2_mono (fun _ _ q => q.mono k) h
theorem Sub.nd1 {q : Addr × Obj} {a b : Led} (s : Sub (q :: a) b) : KeepND a b := fun p hp _ => s p (.tail _ hp)
theorem pre_new1 {z : Addr} {q : Addr × Obj} {a b : Led} {lr : Addr} {rs : List (List Int)} (l : LL z b lr rs) (u : Sub (q :: a) b) (h : Zin z a) : LL z b lr rs ∧ Zin z b := ⟨l, h.sub fun p hp => u _ (.tail _ hp)⟩
-- _law_without at its call
local macro_rules | `(tactic| ktr_call 6 $c:term) => `(tactic| (
  ktr_call 99 $c
  (exact ⟨by tb_start, by tb_rel, _, _, by k_mem, .cons _ _ (.cons _ _ .nil)⟩)
  (all_goals (first | assumption | exact (by decide : 2 ≤ 100) | omega | (intro r9 h9 tk9 news9 F9 N9 o9; obtain ⟨a9, e9, L9, U9⟩ := o9; subst e9; obtain ⟨nz9, as9, c9, hm9, hf9⟩ := id L9; (have hlen9 : as9.length ≤ 100 := (by rw [hf9.length]; exact Nat.le_trans withoutL_len (by assumption))); (have hP9 := pre_new1 L9 U9 (by with_reducible assumption)); (have hz9 := hP9.2); (try (have K9 := KeepND.trans (by with_reducible assumption) (Sub.nd1 U9))); (try (have hG9 := Gr.mono (by with_reducible assumption) (fun p9 h9 => U9 p9 (List.mem_cons_of_mem _ h9)))); (try dsimp only); (try k_fold))))))
local macro_rules | `(tactic| walk_at "call ref") => `(tactic| (k_here; (with_reducible show wpAny _ _ (call (Value.ref 352) _) _ _ _); k_dflt (ktr_call 6 (call_without _ _ _))))
theorem zin_nd {z : Addr} {a b : Led} {lr : Addr} {rs : List (List Int)} (h : LL z a lr rs ∧ Zin z a) (k : KeepND a b) : Zin z b := h.2.keep k.list
local macro_rules | `(tactic| tb_start) => `(tactic| exact pre_sub' (pre_nd (by with_reducible assumption) (by with_reducible assumption)) (by intro p9 h9; k_mem))
section
variable {w : World} {p : Program} {loose : List Str} {mean : ExcName → Option Value} {mg mb : Str → Option Value} {z : Addr} {n i j : Nat}
 local macro_rules | `(tactic| walk_at "eval Name") => `(tactic| (k_here; k_dflt (refine' ld ?k1 ?k2 ?_; (case k1 => k_asm); (case k2 => assumption); k_whole)))
set_option maxRecDepth 100000 in
set_option maxHeartbeats 8000000 in
theorem st_br3 (hi : i < n) : Stm w p loose mean mg mb 100 1000 br3 (fun m news => Law z n m news ∧ ∃ t, m (Str.ofString "one") = some (.int (i : Int) t))
    (fun _ news m' news' => Law z n m' news' ∧ KeepZ z news news') := by
  rintro dp un gd a ccd outer A₀ base h₀ L m news s Q E B F X N T ⟨⟨ctx, lh, ls, lr, ob, dc, lf, f, st, rs, ss, H⟩, ⟨t1, m1⟩⟩ hd hu hret
  conv in br3 => whnf
  conv in (occs := *) lawSc => all_goals whnf
  have mh := H.mh
  have mr := H.mr
  have ms := H.ms
  have G := H.g
  obtain ⟨c, hh⟩ := H.h
  obtain ⟨hpre, hl100, hn100⟩ := H.pre
  have hn14 := H.hi
  have h2i : 2 * i < 2 * n := by omega
  ktn_open
  (rename Gr _ _ _ _ _ (_ : Nat → Nat) _ => Gx)
  (rename KeepND news _ => Kx)
  (rename Sub _ _ => Ux)
  (rename Zin ls _ => Zx)
  (rename All2 _ _ _ => Ax)
  subst_vars
  obtain ⟨f', R⟩ := H.r.del hi
  have Z := Zx
  refine' hret _ _ _ _ (by k_asm) (by k_asm) ⟨⟨ctx, lh, ls, _, ob, dc, _, f', st, _, ss, H.rings rfl ?K (Gx.mono ?G) R ?L⟩, KeepND.z ?K2⟩
  case K => exact Kx.trans (Sub.nd fun p hp => by k_mem)
  case K2 => exact Kx.trans (Sub.nd fun p hp => by k_mem)
  case G => exact fun p hp => by k_mem
  case L =>
    refine' LL.app2 (off_z' (by assumption) (Z.sub fun p hp => by k_mem)) (by k_mem) (Ax.led fun _ _ _ hp => by k_mem) ⟨by tb_rel, _, _, by k_mem, .cons _ _ .nil⟩ ⟨by tb_rel, _, _, by k_mem, .cons _ _ .nil⟩
end



theorem putL_ring {rs : List (List Int)} {a b : Int} {q : Bool} {k : Nat} (h : ∀ r ∈ rs, r.length ≤ k) : ∀ r ∈ putL rs a b q, r.length ≤ k + 2 := by
  intro r hr
  unfold putL at hr
  rcases List.mem_append.mp hr with hr | hr
  · exact Nat.le_trans (h r (List.mem_filter.mp hr).1) (Nat.le_add_right _ _)
  · rw [List.mem_singleton.mp hr, List.length_append, List.length_take]
    have := behL_len (side := b) h
    cases q <;> simp only [Bool.false_eq_true, if_false, if_true, List.length_cons, List.length_nil] <;> omega
theorem putL_rings {rs : List (List Int)} {a b : Int} {q : Bool} : (putL rs a b q).length ≤ rs.length + 1 := by
  unfold putL
  rw [List.length_append, List.length_singleton]
  exact Nat.succ_le_succ (List.length_filter_le _ _)
theorem LL.newz {z d : Addr} {a b : Led} {x : Addr} {rs : List (List Int)} (l : LL z a x rs) (h : ∀ p ∈ a, p.1 ≠ d) (k : KeepL a b) : LL d b x rs :=
  let ⟨_, as, c, m, f⟩ := l
  ⟨h _ m, as, c, k _ _ _ m, forall2_mono (fun _ _ q => let ⟨_, vs, c', m', i⟩ := q; ⟨h _ m', vs, c', k _ _ _ m', i⟩) f⟩
theorem ne_lt {d e : Addr} {l : Led} {o : Obj} (h : ∀ p ∈ l, p.1 < d) (m : (e, o) ∈ l) : d ≠ e := Ne.symm (Nat.ne_of_lt (h _ m))
theorem LawS.con {z : Addr} {n i j : Nat} {ctx lh ls lr lh' ls' lr' : Addr} {ob dc ob' dc' : Nat → Addr} {lf f lf' f' : Nat → Nat} {st st' : Nat → Value} {rs rs' : List (List Int)} {ss : List Int} {m m' : Str → Option Value} {news news' : Led} {c1 c2 : Nat} {ws : List Value}
    (H : LawS z n ctx lh ls lr ob dc lf f st rs ss m news) (hi : i < n) (hj : j < n) (hn : n + 2 ≤ 14) (X : Ext (2 * n) ob ob') (S : st' = newS st (2 * n) (st (ro (ro (2 * i)))) (st (2 * j)))
    (K : KeepND news news') (G : Gr news' ctx (2 * n + 4) ob' dc' lf' st') (R : GR (n + 2) lf' f' rs')
    (hh : (lh', listOf (List.toArray ((List.range n).map (fun k => Value.ref (ob (2 * k))) ++ [Value.ref (ob' (2 * n)), Value.ref (ob' (ro (ro (2 * n))))])) c1) ∈ news')
    (hs : (ls', listOf (List.toArray ws) c2) ∈ news') (hI : IntsAre ws (ss ++ [ss.getD (bk i) 0, ss.getD j 0])) (sz : ls' ≠ z) (hz : lh' ≠ ls') (L : LL ls' news' lr' rs')
    (e1 : m' (Str.ofString "held") = some (.ref lh')) (e2 : m' (Str.ofString "starts") = some (.ref ls')) (e3 : m' (Str.ofString "rings") = some (.ref lr')) (e4 : m' (Str.ofString "context") = some (.ref ctx)) :
    LawS z (n + 2) ctx lh' ls' lr' ob' dc' lf' f' st' rs' (ss ++ [ss.getD (bk i) 0, ss.getD j 0]) m' news' := by
  have hsl := H.sl
  have hbi := bk_lt H.r.g.even hi
  have er : ∀ k, ro (ro (2 * k)) = 2 * bk k := fun k => by rw [ro_even, ro_odd]
  have hb : bk n = n + 1 := by have := H.r.g.even; unfold bk; omega
  have eh : (List.range n).map (fun k => Value.ref (ob (2 * k))) ++ [Value.ref (ob' (2 * n)), Value.ref (ob' (ro (ro (2 * n))))] = (List.range (n + 2)).map (fun k => Value.ref (ob' (2 * k))) := by
    rw [List.range_succ, List.range_succ, List.map_append, List.map_append, List.append_assoc, er, hb]
    congr 1
    refine List.map_congr_left fun k hk => ?_
    rw [X.eq (2 * k) (by have := List.mem_range.mp hk; omega)]
  refine ⟨e1, e2, e3, e4, by rw [show 2 * (n + 2) = 2 * n + 4 by omega]; exact G, R, ⟨c1, by rw [← eh]; exact hh⟩, ⟨ws, c2, hs, hI⟩, by rw [List.length_append, hsl]; rfl, sz, hz, L, fun k hk => ?_, hn⟩
  subst S
  unfold newS
  by_cases h1 : k < n
  · rw [if_pos (by omega), List.getD_eq_getElem?_getD, List.getElem?_append_left (by omega), ← List.getD_eq_getElem?_getD]
    obtain ⟨x, e, P⟩ := H.pts k h1
    exact ⟨x, e, P.nd K⟩
  · rw [if_neg (by omega), List.getD_eq_getElem?_getD, List.getElem?_append_right (by omega)]
    by_cases h2 : k = n
    · subst h2
      rw [if_pos rfl, er, show k - ss.length = 0 by omega]
      obtain ⟨x, e, P⟩ := H.pts (bk i) hbi
      exact ⟨x, e, P.nd K⟩
    · have h3 : k = n + 1 := by omega
      subst h3
      rw [if_neg (by omega), if_pos (by omega), show n + 1 - ss.length = 1 by omega]
      obtain ⟨x, e, P⟩ := H.pts j hj
      exact ⟨x, e, P.nd K⟩
local macro_rules | `(tactic| walk_at "binaryOp Add ref ref") => `(tactic| (k_here; (with_reducible show wpAny _ _ (binaryOp _ (Value.ref _) (Value.ref _)) _ _ _); k_dflt ((refine' cat_led (vs := (List.range _).map _) ?F ?N ?a ?b ?z ?_); (case F | N => k_asm); (case a | b => k_mem); (case z => (rw [held_len]; simp only [List.length_cons, List.length_nil]; omega)); intro D' h' F' N' l1; (try k_sweep))))
local macro_rules | `(tactic| walk_at "subscriptTail") => `(tactic| (k_here; (with_reducible show wpAny _ _ (subscriptTail _ _ (Value.ref _) (Value.int _ _)) _ _ _); k_dflt (refine' item_ints ?N ?m ?i ?x ?b ?_ ?s; (case N => k_asm); (case m => k_mem); (case i => with_reducible assumption); (case x | b => omega); (case s => with_unfolding_all rfl); k_whole); intro t9))
section
variable {w : World} {p : Program} {loose : List Str} {mean : ExcName → Option Value} {mg mb : Str → Option Value} {z : Addr}
theorem call_putI {k j : Int} {t u : Tok} {b : Bool} {lr : Addr} {rs : List (List Int)} (hk0 : 0 ≤ k) (hk : k < 100) (hj0 : 0 ≤ j) (hj : j < 100) (hlen : ∀ r ∈ rs, r.length ≤ 100) (hn : rs.length ≤ 100) : Ctr w p loose mean mg mb 60 600 (fun news => LL z news lr rs ∧ Zin z news) (call (.ref 347) [.ref lr, .int k t, .int j u, .bool b])
    (fun news r news' => ∃ a, r = .ref a ∧ LL z news' a (putL rs k j b) ∧ Sub news news') := by
  obtain ⟨k', rfl⟩ := Int.eq_ofNat_of_zero_le hk0
  obtain ⟨j', rfl⟩ := Int.eq_ofNat_of_zero_le hj0
  exact call_put (by omega) (by omega) hlen hn
end
local macro_rules | `(tactic| walk_at "call ref") => `(tactic| (k_here; (with_reducible show wpAny _ _ (call (Value.ref 347) _) _ _ _); k_dflt (ktr_call 4 (call_putI _ _ _ _ _ _))))
section
variable {w : World} {p : Program} {loose : List Str} {mean : ExcName → Option Value} {mg mb : Str → Option Value} {z : Addr} {n i j : Nat}
 local macro_rules | `(tactic| walk_at "eval Name") => `(tactic| (k_here; k_dflt (refine' ld ?k1 ?k2 ?_; (case k1 => k_asm); (case k2 => assumption); k_whole)))
set_option maxRecDepth 100000 in
set_option maxHeartbeats 8000000 in
theorem st_br2 (hi : i < n) (hj : j < n) (hn : n + 2 ≤ 14) : Stm w p loose mean mg mb 200 2000 br2 (fun m news => Law z n m news ∧ Zin z news ∧ (∃ t, m (Str.ofString "one") = some (.int (i : Int) t)) ∧ (∃ t, m (Str.ofString "two") = some (.int (j : Int) t)))
    (fun _ news m' news' => Law z (n + 2) m' news' ∧ KeepZ z news news') := by
  rintro dp un gd a ccd outer A₀ base h₀ L m news s Q E B F X N T ⟨⟨ctx, lh, ls, lr, ob, dc, lf, f, st, rs, ss, H⟩, hzz, ⟨t1, m1⟩, ⟨t2, m2⟩⟩ hd hu hret
  conv in br2 => whnf
  conv in (occs := *) lawSc => all_goals whnf
  have mh := H.mh
  have mr := H.mr
  have ms := H.ms
  have G := H.g
  obtain ⟨c, hh⟩ := H.h
  obtain ⟨hpre, hl100, hn100⟩ := H.pre
  have hn14 := H.hi
  have h2i : 2 * i < 2 * n := by omega
  have h2j : 2 * j < 2 * n := by omega
  have hbi := bk_lt H.r.g.even hi
  obtain ⟨vs, c', hs, hvs⟩ := H.s
  have hsl := H.sl
  have rl : ∀ r ∈ rs, r.length ≤ 14 := fun r hr => Nat.le_trans (H.r.ring hr) (by omega)
  have rn : rs.length ≤ 14 := Nat.le_trans H.r.rings (by omega)
  have rl1 : ∀ r ∈ putL rs (n : Nat) (bk i : Nat) true, r.length ≤ 100 := fun r hr => Nat.le_trans (putL_ring rl r hr) (by omega)
  have rn1 : (putL rs (n : Nat) (bk i : Nat) true).length ≤ 100 := Nat.le_trans putL_rings (by omega)
  ktn_open
  (rename KeepND news _ => K0)
  have hh1 := K0.list _ _ _ hh
  have hs1 := K0.list _ _ _ hs
  ktn_open
  (rename Sub _ _ => U1)
  have hh2 := U1 _ hh1
  have hs2 := U1 _ hs1
  (rename Gr _ _ _ _ _ (_ : Nat → Nat) _ => G1)
  have hG2 := G1
  (rename LL ls _ _ (putL _ _ _ _) ∧ _ => hP2)
  have hZ2 := hP2.2
  ktn_open
  (rename Sub _ _ => U2)
  have hh3 := U2 _ hh2
  have hs3 := U2 _ hs2
  have hG3 := hG2.mono U2
  have hZ3 := hZ2.sub U2
  ktn_open
  (rename _ = conL _ _ _ _ => Ec)
  subst Ec
  obtain ⟨f', R⟩ := H.r.con hi hj
  have e1 : ((n + 1 : Nat) : Int) = (n : Int) + 1 := by omega
  rw [e1] at R
  have K3 : KeepND news _ := (K0.trans U1.nd).trans U2.nd
  have hzz3 := hzz.keep K3.list
  (rename LL ls _ _ (putL (putL _ _ _ _) _ _ _) => L3)
  (rename Fr h₀ L _ _ => Fz)
  (rename News h₀ L _ _ => Nz)
  (rename IntsAre _ (ss ++ _) => hI)
  refine hret _ _ _ _ Fz Nz ⟨⟨ctx, _, _, _, _, _, _, f', _, _, _, H.con hi hj hn (by assumption) (by assumption) (K3.trans (Sub.nd (Sub.cons (Sub.cons (Sub.cons (Sub.cons Sub.refl)))))) (hG3.mono (fun p hp => by k_mem)) R (by k_mem) (by k_mem) hI (by tb_rel) (ne_lt (by assumption) (by k_mem)) (L3.newz (allLt_ne (by assumption : _ ∧ AllLt _ _).2) (fun _ _ _ hp => by k_mem)) rfl rfl rfl H.mc⟩, KeepND.z (K3.trans (Sub.nd (Sub.cons (Sub.cons (Sub.cons (Sub.cons Sub.refl))))))⟩
end



noncomputable def br4b : List Stmt := bodyOf (nthS br4 1)
theorem set_led {prog : Program} {w : World} {A : Around} {E : Value → Shared → Prop} {s : Shared} {h₀ : Heap} {L D : Addr} {m : Str → Option Value} {news : Led} {vs : List Value} {ns : List Int} {c i : Nat} {x : Int} {t u : Tok} {Q : Unit → Shared → Prop}
    (F : Fr h₀ L s.heap m) (N : News h₀ L s.heap news) (hm : (D, listOf vs.toArray c) ∈ news) (hi : IntsAre vs ns) (hk : i < ns.length) (hb : i < 1000)
    (h : ∀ h' news' vs', Fr h₀ L h' m → News h₀ L h' news' → (D, listOf (List.toArray vs') c) ∈ news' → IntsAre vs' (ns.set i x) → (∀ p ∈ news, p.1 ≠ D → p ∈ news') → Q () { s with heap := h' }) :
    wpAny (model prog w) A (setItem (.ref D) (.int (i : Int) t) (.int x u)) Q E s :=
  ksa_set F (news_split N hm) (Upd.head filter_off) hi (by omega) (by omega) (by omega) fun h' F' N' i' _ _ => h h' _ _ F' N' (.head _) i' fun p hp hne => .tail _ (mem_off hp hne)
local macro_rules | `(tactic| walk_at "setItem ref int") => `(tactic| (k_here; (with_reducible show wpAny _ _ (setItem (Value.ref _) (Value.int _ _) (Value.int _ _)) _ _ _); k_dflt (refine' set_led ?F ?N ?m ?i ?k ?b ?_; (case F | N => k_asm); (case m => k_mem); (case i => with_reducible assumption); (case k => ((try simp only [List.length_set]); omega)); (case b => omega)); intro h' news' vs' F' N' m' i' k'))
theorem list_fun {h₀ h : Heap} {L ls : Addr} {a : Led} {vs : List Value} {c : Nat} (W : News h₀ L h a) (hs : (ls, listOf vs.toArray c) ∈ a) : ∀ o, (ls, o) ∈ a → o.cls = .type "list" := fun o ho => by rw [news_func W ho hs]
theorem getD_set {l : List Int} {i k : Nat} {a : Int} (hi : i < l.length) : (l.set i a).getD k 0 = if i = k then a else l.getD k 0 := by
  rw [List.getD_eq_getElem?_getD, List.getElem?_set, List.getD_eq_getElem?_getD]
  by_cases h : i = k
  · rw [if_pos h, if_pos h, if_pos (h ▸ hi)]
    rfl
  · rw [if_neg h, if_neg h]
theorem LawS.swap {z : Addr} {n i p q : Nat} {ctx lh ls lr lr' : Addr} {ob dc : Nat → Addr} {lf f lf' f' : Nat → Nat} {st st' : Nat → Value} {rs rs' : List (List Int)} {ss : List Int} {m m' : Str → Option Value} {news news1 news' : Led} {c1 : Nat} {ws : List Value}
    (H : LawS z n ctx lh ls lr ob dc lf f st rs ss m news) (hi : i < n) (hp : p < n) (hq : q < n) (ep : f p = i) (eq : f q = bk i) (q2 : q ≠ bk i) (S : st' = swapS lf st (2 * i))
    (K : KeepND news news1) (G : Gr news1 ctx (2 * n) ob dc lf' st') (R : GR n lf' f' rs') (L : LL ls news1 lr' rs') (Ks : ∀ p ∈ news1, p.1 ≠ ls → p ∈ news') (hfun : ∀ o, (ls, o) ∈ news1 → o.cls = .type "list")
    (hs : (ls, listOf (List.toArray ws) c1) ∈ news') (hI : IntsAre ws ((ss.set i (ss.getD (bk p) 0)).set (bk i) (ss.getD (bk q) 0)))
    (e1 : m' (Str.ofString "held") = some (.ref lh)) (e2 : m' (Str.ofString "starts") = some (.ref ls)) (e3 : m' (Str.ofString "rings") = some (.ref lr')) (e4 : m' (Str.ofString "context") = some (.ref ctx)) :
    LawS z n ctx lh ls lr' ob dc lf' f' st' rs' ((ss.set i (ss.getD (bk p) 0)).set (bk i) (ss.getD (bk q) 0)) m' news' := by
  have hsl := H.sl
  have hbi := bk_lt H.r.g.even hi
  have hbp := bk_lt H.r.g.even hp
  have hbq := bk_lt H.r.g.even hq
  have er : ∀ k, ro (ro (2 * k)) = 2 * bk k := fun k => by rw [ro_even, ro_odd]
  have off : ∀ {x : Addr} {o : Obj}, (x, o) ∈ news1 → o.cls ≠ .type "list" → (x, o) ∈ news' := fun {x o} h hc => Ks _ h fun e => by
    have e' : x = ls := e
    subst e'
    exact hc (hfun _ h)
  obtain ⟨c, hh⟩ := H.h
  have G' : Gr news' ctx (2 * n) ob dc lf' st' := ⟨G.four, fun j hj => by
    obtain ⟨h1, h2, h3, h4, t1, t2, t3, t4, k, a, b⟩ := G.at_ j hj
    exact ⟨h1, h2, h3, h4, t1, t2, t3, t4, k, off a (by intro e; cases e), off b (by intro e; revert e; show ¬ (Value.type "dict" = Value.type "list"); decide)⟩, G.inj, G.lt, G.flat⟩
  have L' : LL ls news' lr' rs' := by
    obtain ⟨a, as, c, b, d⟩ := L
    exact ⟨a, as, c, Ks _ b a, forall2_mono (fun _ _ q => let ⟨a, vs, c', b, d⟩ := q; ⟨a, vs, c', Ks _ b a, d⟩) d⟩
  have hh' : (lh, listOf (List.toArray ((List.range n).map (fun k => Value.ref (ob (2 * k))))) c) ∈ news' := Ks _ (K.list _ _ _ hh) H.hz
  refine ⟨e1, e2, e3, e4, G', R, ⟨c, hh'⟩, ⟨ws, c1, hs, hI⟩, by rw [List.length_set, List.length_set, hsl], H.sz, H.hz, L', fun k hk => ?_, H.hi⟩
  have e1 : ro (lf (ro (2 * i))) = 2 * p := H.r.g.prev hp ep
  have e2 : ro (lf (ro (2 * bk i))) = 2 * q := H.r.g.prev hq eq
  have q3 : bk q ≠ i := fun e => q2 (by rw [← e, bk_bk])
  have val : st' (2 * k) = if k = bk i then st (2 * bk q) else if k = i then st (2 * bk p) else st (2 * k) := by
    rw [S]
    unfold swapS
    (try simp only [])
    rw [e1, er, er, e2, er]
    unfold upd
    by_cases h1 : k = bk i
    · rw [if_pos (by omega), if_pos h1, if_neg (by omega)]
    · rw [if_neg (by omega), if_neg h1]
      by_cases h2 : k = i
      · rw [if_pos (by omega), if_pos h2]
      · rw [if_neg (by omega), if_neg h2]
  have fin : ∀ j, j < n → ∃ x, st (2 * j) = .ref x ∧ Pt news' x (ss.getD j 0) := fun j hj => by
    obtain ⟨x, e, P⟩ := H.pts j hj
    obtain ⟨d, b, t1, t2, hP⟩ := P.nd K
    exact ⟨x, e, d, b, t1, t2, off hP (by intro e; cases e)⟩
  rw [val, getD_set (by rw [List.length_set]; omega), getD_set (by omega)]
  by_cases h1 : k = bk i
  · rw [if_pos h1, if_pos h1.symm]
    exact fin _ hbq
  · rw [if_neg h1, if_neg (Ne.symm h1)]
    by_cases h2 : k = i
    · rw [if_pos h2, if_pos h2.symm]
      exact fin _ hbp
    · rw [if_neg h2, if_neg (Ne.symm h2)]
      exact fin _ hk
theorem withoutL_ring {rs : List (List Int)} {g : List Int} {k : Nat} (h : ∀ r ∈ rs, r.length ≤ k) : ∀ r ∈ withoutL rs g, r.length ≤ k := by
  intro r hr
  unfold withoutL at hr
  obtain ⟨x, hx, e⟩ := List.mem_map.mp (List.mem_filter.mp hr).1
  rw [← e]
  exact Nat.le_trans (List.length_filter_le _ _) (h x hx)
section
variable {w : World} {p : Program} {loose : List Str} {mean : ExcName → Option Value} {mg mb : Str → Option Value} {z : Addr} {n i j : Nat}
 local macro_rules | `(tactic| walk_at "eval Name") => `(tactic| (k_here; k_dflt (refine' ld ?k1 ?k2 ?_; (case k1 => k_asm); (case k2 => assumption); k_whole)))
set_option maxRecDepth 100000 in
set_option maxHeartbeats 8000000 in
theorem st_br4b {u v : Nat} (hi : i < n) (hp : u < n) (hq : v < n) (p1 : u ≠ i) (p2 : u ≠ bk i) (q1 : v ≠ i) (q2 : v ≠ bk i) : Stm w p loose mean mg mb 200 2000 br4b (fun m news => (∃ ctx lh ls lr ob dc lf f st rs ss, LawS z n ctx lh ls lr ob dc lf f st rs ss m news ∧ f u = i ∧ f v = bk i) ∧ (∃ t, m (Str.ofString "one") = some (.int (i : Int) t)) ∧ (∃ t, m (Str.ofString "near") = some (.int (u : Int) t)) ∧ (∃ t, m (Str.ofString "far") = some (.int (v : Int) t)))
    (fun _ news m' news' => Law z n m' news' ∧ KeepZ z news news') := by
  rintro dp un gd a ccd outer A₀ base h₀ L m news s Q E B F X N T ⟨⟨ctx, lh, ls, lr, ob, dc, lf, f, st, rs, ss, H, HH⟩, ⟨t1, m1⟩, ⟨t2, m2⟩, ⟨t3, m3⟩⟩ hd hu hret
  conv in br4b => whnf
  conv in (occs := *) lawSc => all_goals whnf
  have mh := H.mh
  have mr := H.mr
  have ms := H.ms
  have G := H.g
  obtain ⟨c, hh⟩ := H.h
  obtain ⟨hpre, hl100, hn100⟩ := H.pre
  have hn14 := H.hi
  obtain ⟨ep, eq⟩ := HH
  have h2i : 2 * i < 2 * n := by omega
  have hbi := bk_lt H.r.g.even hi
  have hbp := bk_lt H.r.g.even hp
  have hbq := bk_lt H.r.g.even hq
  obtain ⟨vs, c', hs, hvs⟩ := H.s
  have hsl := H.sl
  have rl : ∀ r ∈ rs, r.length ≤ 14 := fun r hr => Nat.le_trans (H.r.ring hr) (by omega)
  have rn : rs.length ≤ 14 := Nat.le_trans H.r.rings (by omega)
  have rl1 : ∀ r ∈ withoutL rs [(i : Int), ((bk i : Nat) : Int)], r.length ≤ 100 := fun r hr => Nat.le_trans (withoutL_ring rl r hr) (by omega)
  have rn1 : (withoutL rs [(i : Int), ((bk i : Nat) : Int)]).length ≤ 100 := Nat.le_trans withoutL_len (by omega)
  have rl2 : ∀ r ∈ putL (withoutL rs [(i : Int), ((bk i : Nat) : Int)]) (i : Nat) (bk u : Nat) true, r.length ≤ 100 := fun r hr => Nat.le_trans (putL_ring (withoutL_ring rl) r hr) (by omega)
  have rn2 : (putL (withoutL rs [(i : Int), ((bk i : Nat) : Int)]) (i : Nat) (bk u : Nat) true).length ≤ 100 := Nat.le_trans putL_rings (Nat.succ_le_succ (Nat.le_trans withoutL_len (Nat.le_trans rn (by omega))))
  ktn_open
  (rename KeepND news _ => K0)
  have hs4 := K0.list _ _ _ hs
  (rename News h₀ L _ _ => Nx)
  have hfun := list_fun Nx hs4
  (rename Gr _ _ _ _ _ (_ : Nat → Nat) _ => Gx)
  (rename LL ls _ _ (putL (putL _ _ _ _) _ _ _) => Lx)
  (rename _ = swapL _ _ => El)
  (rename _ = swapS _ _ _ => Es)
  subst El
  obtain ⟨f', R⟩ := H.r.swap hi hp hq ep eq p1 p2 q1 q2
  ktn_open
  (rename Fr h₀ L _ _ => Fz)
  (rename News h₀ L _ _ => Nz)
  (rename ∀ (p : Addr × Obj), p ∈ (_ :: _) → p.1 ≠ ls → _ => Ka)
  (rename ∀ (p : Addr × Obj), p ∈ _ → p.1 ≠ ls → _ => Kb)
  (rename IntsAre _ (List.set (List.set _ _ _) _ _) => hI)
  have Ks := fun p hp hne => Kb p (Ka p (List.mem_cons_of_mem _ hp) hne) hne
  refine hret _ _ _ _ Fz Nz ⟨⟨ctx, lh, ls, _, ob, dc, _, f', _, _, _, H.swap hi hp hq ep eq q2 Es K0 Gx R Lx Ks hfun (by k_mem) hI H.mh H.ms rfl H.mc⟩, fun p hp hz hc => Ks p (K0 p hp (by rw [hc]; decide)) (fun e => H.sz (e.symm.trans hz)), fun p hp hc => Ks p (K0 p hp (by rw [hc]; decide)) (fun e => ?_)⟩
  have := hfun p.2 (by rw [← e]; exact K0 p hp (by rw [hc]; decide))
  rw [hc] at this
  exact absurd this (by decide)
end



theorem GR.beh_len {n : Nat} {lf f : Nat → Nat} {rs : List (List Int)} (H : GR n lf f rs) {k : Nat} (hk : k < n) : 1 ≤ (behL rs k).length := by
  obtain ⟨A, hA, _⟩ := H.r.beh (dm_nat hk)
  rw [hA, List.length_append, List.length_singleton]
  omega
theorem Stm.use {w : World} {p : Program} {loose : List Str} {mean : ExcName → Option Value} {mg mb : Str → Option Value} {D U : Nat} {body : List Stmt} {P : (Str → Option Value) → Led → Prop} {Post : (Str → Option Value) → Led → (Str → Option Value) → Led → Prop}
    {dp un : Nat} {gd : Option (List Code)} {a : Addr} {ccd : Value} {outer : List Env} {A₀ : Around} {base h₀ : Heap} {L : Addr} {m : Str → Option Value} {news : Led} {s : Shared} {Q : Flow → Shared → Prop} {E : Value → Shared → Prop} (C : Stm w p loose mean mg mb D U body P Post)
    (B : Below A₀ base outer h₀) (F : Fr h₀ L s.heap m) (X : (k0.heap_1_1 w.params).In h₀) (N : News h₀ L s.heap news) (T : Top p loose mean mg mb h₀) (hP : P m news) (hd : dp + D < recursionLimit) (hu : un + U < cLine)
    (ret : ∀ h' tk' m' news', Fr h₀ L h' m' → News h₀ L h' news' → Post m news m' news' → Q .next { s with heap := h', toks := tk' }) :
    wpAny (model PySem.Challenge.rw_jj0039_01.row.prog w) (ktrTop dp un gd (Str.ofString "law") lawSc L a ccd [] outer) (execs body (envOf (Str.ofString "law") lawSc L a ccd)) Q E s := C _ _ _ _ _ _ _ _ _ _ _ _ _ _ _ B F X N T hP hd hu ret
theorem LawS.sub {z : Addr} {n : Nat} {ctx lh ls lr : Addr} {ob dc : Nat → Addr} {lf f : Nat → Nat} {st : Nat → Value} {rs : List (List Int)} {ss : List Int} {m m' : Str → Option Value} {news news' : Led}
    (H : LawS z n ctx lh ls lr ob dc lf f st rs ss m news) (K : Sub news news') (e1 : m' (Str.ofString "held") = some (.ref lh)) (e2 : m' (Str.ofString "starts") = some (.ref ls)) (e3 : m' (Str.ofString "rings") = some (.ref lr)) (e4 : m' (Str.ofString "context") = some (.ref ctx)) :
    LawS z n ctx lh ls lr ob dc lf f st rs ss m' news' := by
  obtain ⟨c, hh⟩ := H.h
  obtain ⟨vs, c', hs, hi⟩ := H.s
  refine ⟨e1, e2, e3, e4, H.g.mono K, H.r, ⟨c, K _ hh⟩, ⟨vs, c', K _ hs, hi⟩, H.sl, H.sz, H.hz, H.rl.mono K.list, fun k hk => ?_, H.hi⟩
  obtain ⟨x, e, P⟩ := H.pts k hk
  exact ⟨x, e, P.nd K.nd⟩
theorem Law.sub {z : Addr} {n : Nat} {m m' : Str → Option Value} {news news' : Led} (H : Law z n m news) (K : Sub news news') (e1 : m' (Str.ofString "held") = m (Str.ofString "held")) (e2 : m' (Str.ofString "starts") = m (Str.ofString "starts")) (e3 : m' (Str.ofString "rings") = m (Str.ofString "rings")) (e4 : m' (Str.ofString "context") = m (Str.ofString "context")) :
    Law z n m' news' :=
  let ⟨_, _, _, _, _, _, _, _, _, _, _, H⟩ := H
  ⟨_, _, _, _, _, _, _, _, _, _, _, H.sub K (e1.trans H.mh) (e2.trans H.ms) (e3.trans H.mr) (e4.trans H.mc)⟩
theorem KeepZ.sub {z : Addr} {a b c : Led} (s : Sub a b) (k : KeepZ z b c) : KeepZ z a c := ⟨fun p hp => k.1 p (s p hp), fun p hp => k.2 p (s p hp)⟩
theorem getD_head (l : List Int) : l.getD (Int.toNat 0) 0 = l.headD 0 := by cases l <;> rfl
theorem pair_not {a b x : Int} (h : [a, b].contains x = false) : x ≠ a ∧ x ≠ b := by
  constructor <;> (rintro rfl; simp at h)
section
variable {w : World} {p : Program} {loose : List Str} {mean : ExcName → Option Value} {mg mb : Str → Option Value} {z : Addr} {n i j : Nat}
 local macro_rules | `(tactic| walk_at "eval Name") => `(tactic| (k_here; k_dflt (refine' ld ?k1 ?k2 ?_; (case k1 => k_asm); (case k2 => assumption); k_whole)))
 local macro_rules | `(tactic| ktn_open) => `(tactic| repeat' (first | (k_unfold; (try dsimp only)) | (k_end; wrow_close) | ((fail_if_success (with_reducible show wpAny _ _ (pyIter _) _ _ _)); (fail_if_success (with_reducible show wpAny _ _ (execs (PySem.Stmt.Expr _ _ :: _) _) _ _ _)); (first | walk1 | (dsimp only; walk1) | (leave1; walk_say "STEP leave1"; try dsimp only))) | fail "no step"))
set_option maxRecDepth 100000 in
set_option maxHeartbeats 8000000 in
theorem st_br4 (hi : i < n) : Stm w p loose mean mg mb 300 3000 br4 (fun m news => Law z n m news ∧ (∃ t, m (Str.ofString "one") = some (.int (i : Int) t)))
    (fun _ news m' news' => Law z n m' news' ∧ KeepZ z news news') := by
  rintro dp un gd a ccd outer A₀ base h₀ L m news s Q E B F X N T ⟨⟨ctx, lh, ls, lr, ob, dc, lf, f, st, rs, ss, H⟩, ⟨t1, m1⟩⟩ hd hu hret
  conv in br4 => whnf
  conv in (occs := *) lawSc => all_goals whnf
  have mh := H.mh
  have mr := H.mr
  have ms := H.ms
  have G := H.g
  obtain ⟨c, hh⟩ := H.h
  obtain ⟨hpre, hl100, hn100⟩ := H.pre
  have hn14 := H.hi
  have h2i : 2 * i < 2 * n := by omega
  have hbi := bk_lt H.r.g.even hi
  obtain ⟨u, hu1, eu, pu⟩ := H.r.prv hi
  obtain ⟨v, hv1, ev, pv⟩ := H.r.prv hbi
  have hi100 : i < 100 := by omega
  have hbi100 : bk i < 100 := by omega
  have bl1 := H.r.beh_len hi
  have bl2 := H.r.beh_len hbi
  ktn_open
  all_goals (rename Sub (_ :: _) _ => U2)
  all_goals (rename Sub news _ => U1)
  all_goals (rename Fr h₀ L _ _ => Fz)
  all_goals (rename News h₀ L _ _ => Nz)
  case' kR.refine'_5.refine'_4.refine_2 =>
    (rename List.contains _ (List.getD (List.drop _ (behL rs ((bk i : Nat) : Int))) _ _) = false => cf)
    (rename List.contains _ (List.getD (List.drop _ (behL rs (i : Int))) _ _) = false => cn)
    rw [getD_head] at cf cn
    have pu' : (List.drop ((behL rs (i : Int)).length - 2) (behL rs (i : Int))).headD 0 = (u : Int) := pu
    have pv' : (List.drop ((behL rs ((bk i : Nat) : Int)).length - 2) (behL rs ((bk i : Nat) : Int))).headD 0 = (v : Int) := pv
    rw [pu'] at cn
    rw [pv'] at cf
    have cn := pair_not cn
    have cf := pair_not cf
    rw [← getD_head] at pu' pv'
    refine Stm.use (st_br4b (z := z) (u := u) (v := v) hi hu1 hv1 (by omega) (by omega) (by omega) (by omega)) (by k_asm) Fz X Nz (by k_asm) ⟨⟨ctx, lh, ls, lr, ob, dc, lf, f, st, rs, ss, H.sub ?S H.mh H.ms H.mr H.mc, eu, ev⟩, ⟨_, m1⟩, ⟨_, congrArg (fun x => some (Value.int x _)) pu'⟩, ⟨_, congrArg (fun x => some (Value.int x _)) pv'⟩⟩ (by omega) (by omega) fun h' tk' m' news' F' N' hp => ?go
    case S => exact fun p hp => by (have h1 := U1 p hp); (have h2 := U2 p (.tail _ h1)); k_mem
    case go =>
      ktn_open
      exact hret _ _ _ _ F' N' ⟨hp.1, hp.2.sub fun p hp => by (have h1 := U1 p hp); (have h2 := U2 p (.tail _ h1)); k_mem⟩
  all_goals exact hret _ _ _ _ Fz Nz ⟨⟨ctx, lh, ls, lr, ob, dc, lf, f, st, rs, ss, H.sub (fun p hp => by (have h1 := U1 p hp); (have h2 := U2 p (.tail _ h1)); k_mem) H.mh H.ms H.mr H.mc⟩, KeepND.z (Sub.nd fun p hp => by (have h1 := U1 p hp); (have h2 := U2 p (.tail _ h1)); k_mem)⟩
end



theorem fmod_nat (x : Int) {n : Nat} (h : 0 < n) : ∃ i : Nat, i < n ∧ x.fmod (n : Int) = (i : Int) := by
  have h1 := Int.emod_nonneg x (show (n : Int) ≠ 0 by omega)
  have h2 := Int.emod_lt_of_pos x (show (0 : Int) < (n : Int) by omega)
  refine ⟨(x % (n : Int)).toNat, by omega, ?_⟩
  rw [Int.fmod_eq_emod_of_nonneg _ (by omega)]
  omega
section
variable {w : World} {p : Program} {loose : List Str} {mean : ExcName → Option Value} {mg mb : Str → Option Value} {z : Addr} {n : Nat}
 local macro_rules | `(tactic| walk_at "eval Name") => `(tactic| (k_here; k_dflt (refine' ld ?k1 ?k2 ?_; (case k1 => k_asm); (case k2 => assumption); k_whole)))
 local macro_rules | `(tactic| ktn_open) => `(tactic| repeat' (first | (k_unfold; (try dsimp only)) | (k_end; wrow_close) | ((fail_if_success (with_reducible show wpAny _ _ (pyIter _) _ _ _)); (fail_if_success (with_reducible show wpAny _ _ (execs [PySem.Stmt.Expr _ _, PySem.Stmt.Assign _ _ _] _) _ _ _)); (fail_if_success (with_reducible show wpAny _ _ (execs [PySem.Stmt.Assign _ _ _, PySem.Stmt.If _ _ _ _] _) _ _ _)); (fail_if_success (with_reducible show wpAny _ _ (execs [_, _, _, _, _] _) _ _ _)); (first | walk1 | (dsimp only; walk1) | (leave1; walk_say "STEP leave1"; try dsimp only))) | fail "no step"))
set_option maxRecDepth 100000 in
set_option maxHeartbeats 8000000 in
theorem st_turn {v : Int} (h0 : 0 < n) : Stm w p loose mean mg mb 400 4000 turnB (fun m news => Law z n m news ∧ Zin z news ∧ (∃ t, m (Str.ofString "number") = some (.int v t)))
    (fun _ news m' news' => (∃ n', n ≤ n' ∧ Law z n' m' news') ∧ KeepZ z news news') := by
  rintro dp un gd a ccd outer A₀ base h₀ L m news s Q E B F X N T ⟨⟨ctx, lh, ls, lr, ob, dc, lf, f, st, rs, ss, H⟩, hzz, ⟨t1, m1⟩⟩ hd hu hret
  conv in turnB => whnf
  conv in (occs := *) lawSc => all_goals whnf
  have mh := H.mh
  have mr := H.mr
  have ms := H.ms
  have G := H.g
  obtain ⟨c, hh⟩ := H.h
  obtain ⟨hpre, hl100, hn100⟩ := H.pre
  have hn14 := H.hi
  have HL : Law z n m news := ⟨ctx, lh, ls, lr, ob, dc, lf, f, st, rs, ss, H⟩
  have hev := H.r.g.even
  clear G mr ms hl100 hn100 hpre
  clear H
  obtain ⟨i, hi, ei⟩ := fmod_nat (v.fdiv 5) h0
  obtain ⟨j, hj, ej⟩ := fmod_nat (v.fdiv (5 * (n : Int))) h0
  refine wpAny_execs_cons ?_
  ktn_open
  all_goals (rename Fr h₀ L _ _ => Fz)
  all_goals (rename News h₀ L _ _ => Nz)
  all_goals first
    | (exfalso; omega)
    | ((with_reducible show wpAny _ _ (execs [PySem.Stmt.Expr (PySem.Expr.Call _ [_] _ _) _, _] _) _ _ _); refine Stm.use (st_br1 (z := z) hi hj) (by k_asm) Fz X Nz (by k_asm) ⟨(HL.sub (Sub.cons Sub.refl) rfl rfl rfl rfl), ⟨_, congrArg (fun x => some (Value.int x _)) ei⟩, ⟨_, congrArg (fun x => some (Value.int x _)) ej⟩⟩ (by omega) (by omega) (fun h' tk' m' news' F' N' hp => ?_); ktn_open; exact hret _ _ _ _ F' N' ⟨⟨n, by omega, hp.1⟩, hp.2.sub (Sub.cons Sub.refl)⟩)
    | ((with_reducible show wpAny _ _ (execs [PySem.Stmt.Expr (PySem.Expr.Call _ [] _ _) _, _] _) _ _ _); refine Stm.use (st_br3 (z := z) hi) (by k_asm) Fz X Nz (by k_asm) ⟨(HL.sub (Sub.cons Sub.refl) rfl rfl rfl rfl), ⟨_, congrArg (fun x => some (Value.int x _)) ei⟩⟩ (by omega) (by omega) (fun h' tk' m' news' F' N' hp => ?_); ktn_open; exact hret _ _ _ _ F' N' ⟨⟨n, by omega, hp.1⟩, hp.2.sub (Sub.cons Sub.refl)⟩)
    | ((with_reducible show wpAny _ _ (execs [_, _, _, _, _] _) _ _ _); refine Stm.use (st_br2 (z := z) hi hj (by omega)) (by k_asm) Fz X Nz (by k_asm) ⟨(HL.sub (Sub.cons Sub.refl) rfl rfl rfl rfl), hzz.sub (Sub.cons Sub.refl), ⟨_, congrArg (fun x => some (Value.int x _)) ei⟩, ⟨_, congrArg (fun x => some (Value.int x _)) ej⟩⟩ (by omega) (by omega) (fun h' tk' m' news' F' N' hp => ?_); ktn_open; exact hret _ _ _ _ F' N' ⟨⟨n + 2, by omega, hp.1⟩, hp.2.sub (Sub.cons Sub.refl)⟩)
    | ((with_reducible show wpAny _ _ (execs [PySem.Stmt.Assign _ _ _, PySem.Stmt.If _ _ _ _] _) _ _ _); refine Stm.use (st_br4 (z := z) hi) (by k_asm) Fz X Nz (by k_asm) ⟨(HL.sub (Sub.cons Sub.refl) rfl rfl rfl rfl), ⟨_, congrArg (fun x => some (Value.int x _)) ei⟩⟩ (by omega) (by omega) (fun h' tk' m' news' F' N' hp => ?_); ktn_open; exact hret _ _ _ _ F' N' ⟨⟨n, by omega, hp.1⟩, hp.2.sub (Sub.cons Sub.refl)⟩)
    | exact hret _ _ _ _ Fz Nz ⟨⟨n, Nat.le_refl _, HL.sub (Sub.cons Sub.refl) rfl rfl rfl rfl⟩, KeepND.z (Sub.nd (Sub.cons Sub.refl))⟩
end



theorem All2.newz {z d : Addr} {a b c : Led} {as : List Addr} {rs : List (List Int)} (f : All2 (LI z a) as rs) (k : KeepL a b) (h : ∀ p ∈ b, p.1 ≠ d) (k' : KeepL b c) : All2 (LI d c) as rs :=
  forall2_mono (fun _ _ q => let ⟨_, vs, c', m', i⟩ := q; ⟨h _ (k _ _ _ m'), vs, c', k' _ _ _ (k _ _ _ m'), i⟩) f
theorem LawS.new {z : Addr} {n : Nat} {ctx lh ls lr lh' ls' lr' x1 x2 : Addr} {ob dc ob' dc' : Nat → Addr} {lf f lf' : Nat → Nat} {st st' : Nat → Value} {rs : List (List Int)} {ss : List Int} {m m' : Str → Option Value} {news news' : Led} {c1 c2 : Nat} {ws : List Value} {a b : Int}
    (H : LawS z n ctx lh ls lr ob dc lf f st rs ss m news) (hn : n + 2 ≤ 14) (ea : a = (n : Int)) (eb : b = ((n + 1 : Nat) : Int)) (X : Ext (2 * n) ob ob') (E : lf' = newL lf (2 * n)) (S : st' = newS st (2 * n) (.ref x1) (.ref x2))
    (K : KeepND news news') (P1 : Pt news' x1 a) (P2 : Pt news' x2 b) (G : Gr news' ctx (2 * n + 4) ob' dc' lf' st')
    (hh : (lh', listOf (List.toArray ((List.range n).map (fun k => Value.ref (ob (2 * k))) ++ [Value.ref (ob' (2 * n)), Value.ref (ob' (ro (ro (2 * n))))])) c1) ∈ news')
    (hs : (ls', listOf (List.toArray ws) c2) ∈ news') (hI : IntsAre ws (ss ++ [a, b])) (sz : ls' ≠ z) (hz : lh' ≠ ls') (L : LL ls' news' lr' (rs ++ [[a], [b]]))
    (e1 : m' (Str.ofString "held") = some (.ref lh')) (e2 : m' (Str.ofString "starts") = some (.ref ls')) (e3 : m' (Str.ofString "rings") = some (.ref lr')) (e4 : m' (Str.ofString "context") = some (.ref ctx)) :
    LawS z (n + 2) ctx lh' ls' lr' ob' dc' lf' (ext f n) st' (rs ++ [[a], [b]]) (ss ++ [a, b]) m' news' := by
  have hsl := H.sl
  have er : ∀ k, ro (ro (2 * k)) = 2 * bk k := fun k => by rw [ro_even, ro_odd]
  have hb : bk n = n + 1 := by have := H.r.g.even; unfold bk; omega
  have eh : (List.range n).map (fun k => Value.ref (ob (2 * k))) ++ [Value.ref (ob' (2 * n)), Value.ref (ob' (ro (ro (2 * n))))] = (List.range (n + 2)).map (fun k => Value.ref (ob' (2 * k))) := by
    rw [List.range_succ, List.range_succ, List.map_append, List.map_append, List.append_assoc, er, hb]
    congr 1
    refine List.map_congr_left fun k hk => ?_
    rw [X.eq (2 * k) (by have := List.mem_range.mp hk; omega)]
  have R : GR (n + 2) lf' (ext f n) (rs ++ [[a], [b]]) := by
    have := H.r.new
    rw [List.append_assoc] at this
    rw [ea, eb, E]
    exact this
  refine ⟨e1, e2, e3, e4, by rw [show 2 * (n + 2) = 2 * n + 4 by omega]; exact G, R, ⟨c1, by rw [← eh]; exact hh⟩, ⟨ws, c2, hs, hI⟩, by rw [List.length_append, hsl]; rfl, sz, hz, L, fun k hk => ?_, hn⟩
  subst S
  unfold newS
  by_cases h1 : k < n
  · rw [if_pos (by omega), List.getD_eq_getElem?_getD, List.getElem?_append_left (by omega), ← List.getD_eq_getElem?_getD]
    obtain ⟨x, e, P⟩ := H.pts k h1
    exact ⟨x, e, P.nd K⟩
  · rw [if_neg (by omega), List.getD_eq_getElem?_getD, List.getElem?_append_right (by omega)]
    by_cases h2 : k = n
    · rw [if_pos (by omega), show k - ss.length = 0 by omega]
      exact ⟨x1, rfl, P1⟩
    · rw [if_neg (by omega), if_pos (by omega), show k - ss.length = 1 by omega]
      exact ⟨x2, rfl, P2⟩
section
variable {w : World} {A : Around} {E : Value → Shared → Prop} {s : Shared} {h₀ : Heap} {L : Addr} {m : Str → Option Value} {news : Led} {pl : Sem Bool} {Q : Value × List Value → Shared → Prop}
set_option maxRecDepth 100000 in
set_option maxHeartbeats 8000000 in
theorem meth_class (W : News h₀ L s.heap news) (F : Fr h₀ L s.heap m) (X₀ : (k0.heap_1_1 w.params).In h₀)
    (h : ∀ q h', Fr h₀ L h' m → News h₀ L h' ((q, methodObj (.ref 35) (.ref 156)) :: news) → (∀ p ∈ news, p.1 < q) → Q (.ref q, []) { s with heap := h', toks := s.toks + 1 }) :
    wpAny (model PySem.Challenge.rw_jj0039_01.row.prog w) A (getMethod (.ref 156) (Str.ofString "from_endpoints") pl) Q E s := by
  have X := X₀.keeps F.keep
  have hr : readsIn (k0.heap_1_1 w.params) 156 (.type "type") = true := by k_is
  have hp : recIn (k0.heap_1_1 w.params) 37 "classmethod" = some [.ref 35, .bool false] := by k_is
  refine' method_cls X ?g ?_
  case g => k_is
  refine' cls_bind X hr ?e ?_
  case e => k_is
  exact wpAny_call (cm_get (s := { s with toks := s.toks + 1 }) X hp (handed_on rfl (h s.heap.objs.size _ (F.push _) (W.push F _) fun p hp => Heap.lt_size (W p hp).1)))
end
local macro_rules | `(tactic| walk_at "getMethod ref") => `(tactic| (k_here; (with_reducible show wpAny _ _ (getMethod (Value.ref 156) (PySem.Str.ofString "from_endpoints") _) _ _ _); k_dflt ((refine' meth_class ?k1 ?k2 ?k3 ?_); (case k1 | k2 | k3 => k_asm); k_whole); intro q' h' F' N' l1; (try k_lt l1)))
-- Point at its call
local macro_rules | `(tactic| ktr_call 10 $c:term) => `(tactic| (
  ktr_call 99 $c
  (exact trivial)
  (all_goals (intro r9 h9 tk9 news9 F9 N9 o9; obtain ⟨x9, e9, P9, U9, l9⟩ := o9; subst e9; (have hf9 : handedIn (Value.ref x9) = true := rfl); (first | (have hG9 := Gr.mono (by with_reducible assumption) U9) | (have hG9 := Gr.mono (by with_reducible assumption) (fun p9 h9 => U9 p9 (List.mem_cons_of_mem _ h9)))); (first | (have hq9 := U9 _ List.mem_cons_self) | (have hq9 := U9 (_, methodObj (.ref 35) (.ref 156)) (by with_reducible assumption))); (first | (have K9 := KeepND.trans (by with_reducible assumption) (Sub.nd U9)) | (have K9 := Sub.nd1 U9)); (try (have hp9 := Pt.nd (Sub.nd U9) (by with_reducible assumption))); (try dsimp only); (try k_fold)))))
local macro_rules | `(tactic| ktr_call 11 $c:term) => `(tactic| (
  ktr_call 99 $c
  (k_mem)
  (intro r9 h9 tk9 news9 F9 N9 o9; obtain ⟨_, _, _, _, _, _, _, _, e9, H9⟩ := o9; subst e9; obtain ⟨ob9, dc9, lf9, st9, e8, X9, E9, S9, G9, U9⟩ := H9.open (by with_reducible assumption) (by assumption) (by assumption); subst e8; clear H9; (have K9 := KeepND.trans (by with_reducible assumption) U9); (have hpk9 := fun (x9 : Addr) (v9 : Int) (p9 : Pt _ x9 v9) => Pt.nd U9 p9); (try dsimp only); (try k_fold))))
local macro_rules | `(tactic| walk_at "call ref") => `(tactic| (k_here; (with_unfolding_all show wpAny _ _ (call (Value.ref _) [_, _] [_]) _ _ _); k_dflt (ktr_call 11 call_from4)))
local macro_rules | `(tactic| walk_at "call ref") => `(tactic| (k_here; (with_reducible show wpAny _ _ (call (Value.ref 271) _) _ _ _); k_dflt (ktr_call 10 call_point)))
section
variable {w : World} {p : Program} {loose : List Str} {mean : ExcName → Option Value} {mg mb : Str → Option Value} {z : Addr} {n i j : Nat}
 local macro_rules | `(tactic| walk_at "eval Name") => `(tactic| (k_here; k_dflt (refine' ld ?k1 ?k2 ?_; (case k1 => k_asm); (case k2 => assumption); k_whole)))
set_option maxRecDepth 100000 in
set_option maxHeartbeats 8000000 in
theorem st_set (hi : i < 3) : Stm w p loose mean mg mb 400 4000 setB (fun m news => Law z (2 * i) m news ∧ (∃ o, (z, o) ∈ news ∧ o.cls ≠ .type "dict") ∧ (∃ t, m (Str.ofString "k") = some (.int (i : Int) t)))
    (fun m news m' news' => Law z (2 * i + 2) m' news' ∧ KeepND news news' ∧ m' (Str.ofString "script") = m (Str.ofString "script")) := by
  rintro dp un gd a ccd outer A₀ base h₀ L m news s Q E B F X N T ⟨⟨ctx, lh, ls, lr, ob, dc, lf, f, st, rs, ss, H⟩, hzz, ⟨t1, m1⟩⟩ hd hu hret
  conv in setB => whnf
  conv in (occs := *) lawSc => all_goals whnf
  have mh := H.mh
  have mr := H.mr
  have ms := H.ms
  have G := H.g
  obtain ⟨c, hh⟩ := H.h
  obtain ⟨hpre, hl100, hn100⟩ := H.pre
  have hn14 := H.hi
  have mc := H.mc
  obtain ⟨vs, c', hs, hvs⟩ := H.s
  have hsl := H.sl
  obtain ⟨nr, as, cr, hr, ha⟩ := id H.rl
  have hal : as.length ≤ 100 := by rw [ha.length]; exact hn100
  ktn_open
  (rename KeepND news _ => K0)
  have hh1 := K0.list _ _ _ hh
  have hs1 := K0.list _ _ _ hs
  have hr1 := K0.list _ _ _ hr
  ktn_open
  obtain ⟨oz, hzm, hzc⟩ := hzz
  have hzm9 := K0 _ hzm hzc
  (rename Pt _ _ (2 * _ + 1) => Pb)
  (rename Pt _ _ (2 * _) => Pa)
  (rename ∀ (x : Addr) (v : Int), Pt _ x v → Pt _ x v => Pk)
  have Pa := Pk _ _ Pa
  have Pb := Pk _ _ Pb
  (rename Fr h₀ L _ _ => Fz)
  (rename News h₀ L _ _ => Nz)
  (rename Gr _ _ (_ + 4) _ _ _ _ => Gx)
  (rename Ext _ _ _ => Xx)
  (rename _ = newL _ _ => Ex)
  (rename _ = newS _ _ _ _ => Sx)
  (rename IntsAre _ (ss ++ _) => hI)
  (rename _ ∧ _ ∧ _ ∧ AllLt _ _ => q3)
  (rename _ ∧ _ ∧ _ ∧ _ ∧ AllLt _ _ => q4)
  (rename _ ∧ _ ∧ _ ∧ _ ∧ _ ∧ AllLt _ _ => q5)
  refine hret _ _ _ _ Fz Nz ⟨⟨ctx, _, _, _, _, _, _, _, _, _, _, H.new (by omega) (by omega) (by omega) Xx Ex Sx (K0.trans (Sub.nd fun p hp => by k_mem)) (Pa.nd (Sub.nd fun p hp => by k_mem)) (Pb.nd (Sub.nd fun p hp => by k_mem)) (Gx.mono (fun p hp => by k_mem)) (by k_mem) (by k_mem) hI (Ne.symm (ktn_ne q3.2.2.2 hzm9)) (Nat.ne_of_lt q3.2.1)
    (LL.app2 (ne_lt (by assumption) (by k_mem)) (by k_mem) (ha.newz K0.list (allLt_ne q3.2.2.2) (fun _ _ _ hp => by k_mem)) ⟨Ne.symm (Nat.ne_of_lt q4.1), _, _, by k_mem, .cons _ _ .nil⟩ ⟨Ne.symm (Nat.ne_of_lt q5.2.1), _, _, by k_mem, .cons _ _ .nil⟩) rfl rfl rfl H.mc⟩, K0.trans (Sub.nd fun p hp => by k_mem), rfl⟩
end



/-- the two lists of the end say f on S -/
structure AB (n : Nat) (f : Nat → Nat) (S : Int → Prop) (A B : List Int) : Prop where
  la : A.length = n
  lb : B.length = n
  at_ : ∀ x, S x → dm n x ∧ A.getD x.toNat 0 = tI f x ∧ B.getD (tI f x).toNat 0 = x
theorem tI_dm {n : Nat} {lf f : Nat → Nat} (G : GS n lf f) {x : Int} (h : dm n x) : dm n (tI f x) := by
  obtain ⟨k, hk, rfl⟩ := dm_of h
  rw [tI_nat]
  exact dm_nat (G.lt k hk)
theorem tI_inj {n : Nat} {lf f : Nat → Nat} (G : GS n lf f) {x y : Int} (hx : dm n x) (hy : dm n y) (e : tI f x = tI f y) : x = y := by
  obtain ⟨k, hk, rfl⟩ := dm_of hx
  obtain ⟨j, hj, rfl⟩ := dm_of hy
  rw [tI_nat, tI_nat] at e
  have := G.inj k j hk hj (by omega)
  omega
theorem AB.step {n : Nat} {lf f : Nat → Nat} {S : Int → Prop} {A B : List Int} {a b : Int} (G : GS n lf f) (H : AB n f S A B) (ha : dm n a) (e : tI f a = b) : AB n f (fun x => S x ∨ x = a) (A.set a.toNat b) (B.set b.toNat a) := by
  have hb := tI_dm G ha
  rw [e] at hb
  obtain ⟨a1, a2⟩ := ha
  obtain ⟨b1, b2⟩ := hb
  have h1 := H.la
  have h2 := H.lb
  refine ⟨by rw [List.length_set, h1], by rw [List.length_set, h2], fun x hx => ?_⟩
  have hxd : dm n x := hx.elim (fun h => (H.at_ x h).1) fun h => h ▸ ⟨a1, a2⟩
  have htd := tI_dm G hxd
  rw [getD_set (by omega), getD_set (by omega)]
  by_cases hxa : x = a
  · subst hxa
    rw [if_pos rfl, if_pos (by rw [e])]
    exact ⟨hxd, e.symm, rfl⟩
  · have hs := (hx.resolve_right hxa)
    have hne : tI f x ≠ b := fun q => hxa (tI_inj G hxd ⟨a1, a2⟩ (q.trans e.symm))
    obtain ⟨x1, x2⟩ := hxd
    obtain ⟨t1, t2⟩ := htd
    rw [if_neg (by omega), if_neg (by omega)]
    exact H.at_ x hs
/-- the one just ahead of place j -/
noncomputable def prI (r : List Int) (j : Nat) : Int := if j = 0 then r.getD (r.length - 1) 0 else r.getD (j - 1) 0
theorem prI_mem {r : List Int} {j : Nat} (h : j < r.length) : prI r j ∈ r := by
  unfold prI
  split
  · rw [List.getD_eq_getElem?_getD, List.getElem?_eq_getElem (by omega)]; exact List.getElem_mem _
  · rw [List.getD_eq_getElem?_getD, List.getElem?_eq_getElem (by omega)]; exact List.getElem_mem _
theorem Cyc.prI {t : Int → Int} {r : List Int} (c : Cyc t r) {j : Nat} (h : j < r.length) : t (Mine.prI r j) = r.getD j 0 := by
  unfold Mine.prI
  split
  · rename_i h0
    subst h0
    have := c.at (i := r.length - 1) (by omega)
    rw [if_neg (by omega)] at this
    rw [List.getD_eq_getElem?_getD, List.getElem?_eq_getElem (by omega), List.getD_eq_getElem?_getD, this]
    rfl
  · have := c.at (i := j - 1) (by omega)
    rw [if_pos (by omega), show j - 1 + 1 = j by omega] at this
    rw [List.getD_eq_getElem?_getD, List.getElem?_eq_getElem (by omega), List.getD_eq_getElem?_getD, this]
    rfl
theorem prI_all {r : List Int} {x : Int} (h : x ∈ r) : ∃ j, j < r.length ∧ x = prI r j := by
  obtain ⟨i, hi, e⟩ := List.getElem_of_mem h
  by_cases hl : i + 1 < r.length
  · refine ⟨i + 1, hl, ?_⟩
    unfold prI
    rw [if_neg (by omega), Nat.add_sub_cancel, List.getD_eq_getElem?_getD, List.getElem?_eq_getElem hi, e]
    rfl
  · refine ⟨0, by omega, ?_⟩
    unfold prI
    rw [if_pos rfl, show r.length - 1 = i by omega, List.getD_eq_getElem?_getD, List.getElem?_eq_getElem hi, e]
    rfl
theorem AB.ring {n : Nat} {f : Nat → Nat} {S : Int → Prop} {A B : List Int} {r : List Int} (H : AB n f (fun x => S x ∨ ∃ i, i < r.length ∧ x = prI r i) A B) : AB n f (fun x => S x ∨ x ∈ r) A B :=
  ⟨H.la, H.lb, fun x hx => H.at_ x (hx.imp id prI_all)⟩
theorem AB.start {n : Nat} {f : Nat → Nat} {S : Int → Prop} {A B : List Int} {r : List Int} (H : AB n f S A B) : AB n f (fun x => S x ∨ ∃ i, i < 0 ∧ x = prI r i) A B :=
  ⟨H.la, H.lb, fun x hx => H.at_ x (hx.resolve_right (fun ⟨_, h, _⟩ => absurd h (Nat.not_lt_zero _)))⟩
theorem AB.next {n : Nat} {lf f : Nat → Nat} {S : Int → Prop} {A B : List Int} {r : List Int} {j : Nat} (G : GS n lf f) (H : AB n f (fun x => S x ∨ ∃ i, i < j ∧ x = prI r i) A B) (c : Cyc (tI f) r) (hr : ∀ x ∈ r, dm n x) (hj : j < r.length) :
    AB n f (fun x => S x ∨ ∃ i, i < j + 1 ∧ x = prI r i) (A.set (prI r j).toNat (r.getD j 0)) (B.set (r.getD j 0).toNat (prI r j)) := by
  have h := H.step G (hr _ (prI_mem hj)) (c.prI hj)
  refine ⟨h.la, h.lb, fun x hx => h.at_ x ?_⟩
  rcases hx with hx | ⟨i, hi, e⟩
  · exact .inl (.inl hx)
  · by_cases q : i = j
    · exact .inr (by rw [e, q])
    · exact .inl (.inr ⟨i, by omega, e⟩)
theorem item_pred {prog : Program} {w : World} {A : Around} {E : Value → Shared → Prop} {s : Shared} {value slice : PySem.Expr} {h₀ : Heap} {L a : Addr} {news : Led} {vs : List Value} {ns : List Int} {c j : Nat} {t : Tok} {Q : Value → Shared → Prop}
    (N : News h₀ L s.heap news) (hm : (a, listOf vs.toArray c) ∈ news) (hi : IntsAre vs ns) (hx : j < ns.length) (hb : j < 1000) (h : ∀ t, Q (.int (prI ns j) t) s)
    (hs : subscripted slice false (.ref a) (.int ((j : Int) - 1) t) = operate [.ref a, .int ((j : Int) - 1) t] (getItem (.ref a) (.int ((j : Int) - 1) t)) := by with_unfolding_all rfl) :
    wpAny (model prog w) A (subscriptTail value slice (.ref a) (.int ((j : Int) - 1) t)) Q E s := by
  unfold prI at h
  by_cases h0 : j = 0
  · subst h0
    refine item_list_ints_negR (k := ((0 : Nat) : Int) - 1) (list_of N hm) hi (by decide) (by omega) (by decide) (fun t => ?_) hs
    rw [show (((0 : Nat) : Int) - 1 + (ns.length : Int)).toNat = ns.length - 1 by omega]
    exact h t
  · refine ksa_sub (k := (j : Int) - 1) N hm hi (by omega) (by omega) (by omega) (fun t => ?_) hs
    rw [show ((j : Int) - 1).toNat = j - 1 by omega]
    have := h t
    rw [if_neg h0] at this
    exact this
theorem set_ledI {prog : Program} {w : World} {A : Around} {E : Value → Shared → Prop} {s : Shared} {h₀ : Heap} {L D : Addr} {m : Str → Option Value} {news : Led} {vs : List Value} {ns : List Int} {c : Nat} {k x : Int} {t u : Tok} {Q : Unit → Shared → Prop}
    (F : Fr h₀ L s.heap m) (N : News h₀ L s.heap news) (hm : (D, listOf vs.toArray c) ∈ news) (hi : IntsAre vs ns) (h0 : 0 ≤ k) (hk : k < ns.length) (hb : k < 1000)
    (h : ∀ h' news' vs', Fr h₀ L h' m → News h₀ L h' news' → (D, listOf (List.toArray vs') c) ∈ news' → IntsAre vs' (ns.set k.toNat x) → (∀ p ∈ news, p.1 ≠ D → p ∈ news') → Q () { s with heap := h' }) :
    wpAny (model prog w) A (setItem (.ref D) (.int k t) (.int x u)) Q E s :=
  ksa_set F (news_split N hm) (Upd.head filter_off) hi h0 hk (by omega) fun h' F' N' i' _ _ => h h' _ _ F' N' (.head _) i' fun p hp hne => .tail _ (mem_off hp hne)
/-- the two lists of the end, in the ledger -/
structure Two (n : Nat) (f : Nat → Nat) (S : Int → Prop) (la lb : Addr) (news : Led) : Prop where
  ex : ∃ A B va vb ca cb, (la, listOf (List.toArray va) ca) ∈ news ∧ IntsAre va A ∧ (lb, listOf (List.toArray vb) cb) ∈ news ∧ IntsAre vb B ∧ AB n f S A B
theorem Two.keep {n : Nat} {f : Nat → Nat} {S : Int → Prop} {la lb : Addr} {a b : Led} (H : Two n f S la lb a) (k : KeepL a b) : Two n f S la lb b :=
  let ⟨A, B, va, vb, ca, cb, h1, h2, h3, h4, h5⟩ := H.ex
  ⟨A, B, va, vb, ca, cb, k _ _ _ h1, h2, k _ _ _ h3, h4, h5⟩

section
variable {w : World} {p : Program} {loose : List Str} {mean : ExcName → Option Value} {mg mb : Str → Option Value} {n : Nat} {f lf : Nat → Nat} {S : Int → Prop} {la lb br : Addr} {r : List Int}
 local macro_rules | `(tactic| walk_at "eval Name") => `(tactic| (k_here; k_dflt (refine' ld ?k1 ?k2 ?_; (case k1 => k_asm); (case k2 => assumption); k_whole)))
 local macro_rules | `(tactic| walk_at "subscriptTail Name Name ref int") => `(tactic| (k_here; (with_reducible show wpAny _ _ (subscriptTail _ _ (Value.ref _) (Value.int _ _)) _ _ _); k_dflt (refine' item_ints ?N ?m ?i ?x ?b ?_ ?s; (case N => k_asm); (case m => k_mem); (case i => with_reducible assumption); (case x => first | assumption | omega); (case b => omega); (case s => with_unfolding_all rfl); k_whole); intro t9))
 local macro_rules | `(tactic| walk_at "subscriptTail Name BinOp ref int") => `(tactic| (k_here; (with_reducible show wpAny _ _ (subscriptTail _ _ (Value.ref _) (Value.int (_ - 1) _)) _ _ _); k_dflt (refine' item_pred ?N ?m ?i ?x ?b ?_ ?s; (case N => k_asm); (case m => k_mem); (case i => with_reducible assumption); (case x => first | assumption | omega); (case b => omega); (case s => with_unfolding_all rfl); k_whole); intro t9))
 local macro_rules | `(tactic| walk_at "setItem ref int") => `(tactic| (k_here; (with_reducible show wpAny _ _ (setItem (Value.ref _) (Value.int _ _) (Value.int _ _)) _ _ _); k_dflt (refine' set_ledI ?F ?N ?m ?i ?z ?k ?b ?_; (case F | N => k_asm); (case m => k_mem); (case i => with_reducible assumption); (case z | k | b => omega)); intro h' news' vs' F' N' m' i' k'))
set_option maxRecDepth 100000 in
set_option maxHeartbeats 8000000 in
theorem st_ring (G : GS n lf f) (hn : n ≤ 14) (c : Cyc (tI f) r) (hr : ∀ x ∈ r, dm n x) (hrl : r.length ≤ 14) (hab : la ≠ lb) (hra : br ≠ la) (hrb : br ≠ lb) : Stm w p loose mean mg mb 60 600 ringB
    (fun m news => m (Str.ofString "ring") = some (.ref br) ∧ m (Str.ofString "after") = some (.ref la) ∧ m (Str.ofString "before") = some (.ref lb) ∧ Two n f S la lb news ∧ ∃ vr cr, (br, listOf (List.toArray vr) cr) ∈ news ∧ IntsAre vr r)
    (fun m news m' news' => (∃ u, m' = fun y => if y = Str.ofString "k" then u else m y) ∧ Two n f (fun x => S x ∨ x ∈ r) la lb news' ∧ ∀ p ∈ news, p.1 ≠ la → p.1 ≠ lb → p ∈ news') := by
  rintro dp un gd a ccd outer A₀ base h₀ L m news s Q E B F X N T ⟨mr, ma, mb', H2, vr, cr, hbm, hbi⟩ hd hu hret
  conv in ringB => whnf
  conv in (occs := *) lawSc => all_goals whnf
  refine wpAny_noRaise ?_
  refine wpAny_execs_cons ?_
  (with_unfolding_all refine' For_invVF F ?k1 ?k2 ?_)
  case k1 => exact rfl
  case k2 => exact rfl
  ktn_open
  (rename IsRange _ _ _ _ _ _ _ _ => rg)
  (rename Fr h₀ L _ _ => F₁)
  (rename News h₀ L _ _ => N₁)
  have hj0 := c.1
  refine for_range (n := r.length) (J := fun j m₁ news₁ => (∃ u, m₁ = fun y => if y = Str.ofString "k" then u else m y) ∧ Two n f (fun x => S x ∨ ∃ i, i < j ∧ x = prI r i) la lb news₁ ∧ ∀ p ∈ news, p.1 ≠ la → p.1 ≠ lb → p ∈ news₁) ?mono rfl rg (small_one (by omega) (by omega) (by omega) (by omega)) (rangeSize_nat _ _) F₁ N₁ ?start ?turn ?done
  case mono =>
    rintro I i m₁ a b hI hs hk ⟨e, h2, h3⟩
    exact ⟨e, h2.keep hk.list, fun p hp h4 h5 => hs p (h3 p hp h4 h5) (hI p hp)⟩
  case start =>
    obtain ⟨A, B, va, vb, ca, cb, h1, h2, h3, h4, h5⟩ := H2.ex
    refine ⟨⟨m (Str.ofString "k"), ?_⟩, ⟨A, B, va, vb, ca, cb, h1, h2, h3, h4, h5.start⟩, fun p hp _ _ => hp⟩
    funext y
    by_cases h : y = Str.ofString "k"
    · rw [if_pos h, h]
    · rw [if_neg h]
  case done =>
    rintro m₁ news₁ h tk ⟨⟨u, rfl⟩, h2, h3⟩ F₂ N₂
    ktn_open
    obtain ⟨A, B, va, vb, ca, cb, q1, q2, q3, q4, q5⟩ := h2.ex
    exact hret _ _ _ _ F₂ N₂ ⟨⟨u, rfl⟩, ⟨A, B, va, vb, ca, cb, q1, q2, q3, q4, q5.ring⟩, h3⟩
  case turn =>
    rintro j t m₁ news₁ h tk I oI hj ⟨⟨u, rfl⟩, h2, h3⟩ hc F₂ N₂
    simp only [Int.zero_add] at F₂
    obtain ⟨A, B, va, vb, ca, cb, q1, q2, q3, q4, q5⟩ := h2.ex
    have hbm1 := h3 _ hbm hra hrb
    have dk := hr (r.getD j 0) (by rw [List.getD_eq_getElem?_getD, List.getElem?_eq_getElem hj]; exact List.getElem_mem _)
    have dp := hr _ (prI_mem hj)
    obtain ⟨dk1, dk2⟩ := dk
    obtain ⟨dp1, dp2⟩ := dp
    have no : ∀ {x : Addr} {v : List Value} {c : Nat}, (x, listOf v.toArray c) ∈ news₁ → I ≠ x := fun {x v c} hx e => by
      subst e
      have e2 := news_func N₂ (List.mem_cons_self) (List.mem_cons_of_mem _ hx)
      rw [e2] at hc
      exact absurd hc (by show ¬ (Value.type "list" = Value.type "range_iterator"); decide)
    have noA := no q1
    have noB := no q3
    clear no
    have hla := q5.la
    have hlb := q5.lb
    ktn_open
    (rename ∀ (p : Addr × Obj), p ∈ (_ :: _) → p.1 ≠ la → _ => Ka)
    have hbm2 := Ka (br, listOf (List.toArray vr) cr) (by k_mem) hra
    have q32 := Ka (lb, listOf (List.toArray vb) cb) (by k_mem) (Ne.symm hab)
    ktn_open
    (rename Fr h₀ L _ _ => Fz)
    (rename News h₀ L _ _ => Nz)
    (rename ∀ (p : Addr × Obj), p ∈ _ → p.1 ≠ lb → _ => Kb)
    (rename (lb, _) ∈ _ => mB)
    (rename (la, _) ∈ _ => mA0)
    (rename IntsAre _ (List.set B _ _) => iB)
    (rename IntsAre _ (List.set A _ _) => iA)
    have Kz := fun p hp h1 h2 => Kb p (Ka p (List.mem_cons_of_mem _ hp) h1) h2
    refine ⟨_, _, _, _, rfl, Fz, Nz, ?need, ⟨some (.int (j : Int) t), ?fr⟩, ⟨_, _, _, _, _, _, Kb _ mA0 hab, iA, mB, iB, q5.next G c hr hj⟩, ?keep⟩
    case need =>
      intro q hq
      rw [List.mem_singleton.mp hq]
      exact Kb _ (Ka _ (by k_mem) noA) noB
    case fr =>
      funext y
      by_cases h : y = Str.ofString "k"
      · rw [if_pos h, if_pos h]
      · rw [if_neg h, if_neg h, if_neg h]
    case keep => exact fun q hq h1 h2 => Kz _ (List.mem_cons_of_mem _ (h3 q hq h1 h2)) h1 h2
end



section
variable {w : World} {p : Program} {loose : List Str} {mean : ExcName → Option Value} {mg mb : Str → Option Value} {ctx : Addr} {N : Nat} {ob dc : Nat → Addr} {lf : Nat → Nat} {st : Nat → Value} {pl : Bool} {j : Nat} {x y : Addr}
theorem get_startR (hx : x = ob j) (hj : j < N) (hs : st j = .ref y) : Ctr w p loose mean mg mb 4 40 (fun news => Gr news ctx N ob dc lf st) (getAttr (.ref x) (Str.ofString "start") pl) (fun news r news' => r = .ref y ∧ news' = news) := by
  intro dp un gd cn cs a ccd cl outer A₀ base h₀ L m news s Q E B F X N T hk hP hd hu hret
  exact (get_start hx hj).use B F X N T hk hP hd hu fun r h' tk' news' F' N' o => hret r h' tk' news' F' N' ⟨o.1.trans hs, o.2⟩
theorem get_endR (hx : x = ob j) (hj : j < N) (hs : st (ro (ro j)) = .ref y) : Ctr w p loose mean mg mb 12 120 (fun news => Gr news ctx N ob dc lf st) (getAttr (.ref x) (Str.ofString "end") pl) (fun news r news' => r = .ref y ∧ news' = news) := by
  intro dp un gd cn cs a ccd cl outer A₀ base h₀ L m news s Q E B F X N T hk hP hd hu hret
  exact (get_end hx hj).use B F X N T hk hP hd hu fun r h' tk' news' F' N' o => hret r h' tk' news' F' N' ⟨o.1.trans hs, o.2⟩
end
theorem Pt.cons {q : Addr × Obj} {a : Led} {x : Addr} {v : Int} (h : Pt a x v) : Pt (q :: a) x v :=
  let ⟨d, u, t1, t2, m⟩ := h
  ⟨d, u, t1, t2, .tail _ m⟩
theorem isnot_same {M : Model} {A : Around} {E : Value → Shared → Prop} {s : Shared} {x y : Addr} {Q : Value → Shared → Prop} (e : x = y) (h : Q (.bool false) s) : wpAny M A (compareOp .IsNot (.ref x) (.ref y)) Q E s := by
  subst e; exact wpAny_isNot_ref_self h
theorem item_heldI {prog : Program} {w : World} {A : Around} {E : Value → Shared → Prop} {s : Shared} {value slice : PySem.Expr} {h₀ : Heap} {L a : Addr} {news : Led} {ob : Nat → Addr} {c n i : Nat} {k : Int} {t : Tok} {Q : Value → Shared → Prop}
    (N : News h₀ L s.heap news) (hm : (a, listOf (List.toArray ((List.range n).map (fun k => Value.ref (ob (2 * k))))) c) ∈ news) (e : k = (i : Int)) (hx : i < n) (hb : i < 1000) (h : Q (.ref (ob (2 * i))) s)
    (hs : subscripted slice false (.ref a) (.int k t) = operate [.ref a, .int k t] (getItem (.ref a) (.int k t)) := by with_unfolding_all rfl) :
    wpAny (model prog w) A (subscriptTail value slice (.ref a) (.int k t)) Q E s := by
  subst e
  exact item_led N hm (held_at hx) hb h hs
/-- the law's state in its last loop -/
structure EndS (z : Addr) (n : Nat) (ctx lh ls lr la lb : Addr) (ob dc : Nat → Addr) (lf f : Nat → Nat) (st : Nat → Value) (rs : List (List Int)) (ss : List Int) (m : Str → Option Value) (news : Led) : Prop where
  H : LawS z n ctx lh ls lr ob dc lf f st rs ss m news
  ma : m (Str.ofString "after") = some (.ref la)
  mb : m (Str.ofString "before") = some (.ref lb)
  two : Two n f (dm n) la lb news
section
variable {w : World} {p : Program} {loose : List Str} {mean : ExcName → Option Value} {mg mb : Str → Option Value} {z : Addr} {n k : Nat} {ctx lh ls lr la lb : Addr} {ob dc : Nat → Addr} {lf f : Nat → Nat} {st : Nat → Value} {rs : List (List Int)} {ss : List Int}
 local macro_rules | `(tactic| walk_at "eval Name") => `(tactic| (k_here; k_dflt (refine' ld ?k1 ?k2 ?_; (case k1 => k_asm); (case k2 => assumption); k_whole)))
 local macro_rules | `(tactic| walk_at "subscriptTail Name Name ref int") => `(tactic| (k_here; (with_reducible show wpAny _ _ (subscriptTail _ _ (Value.ref _) (Value.int _ _)) _ _ _); k_dflt (refine' item_ints ?N ?m ?i ?x ?b ?_ ?s; (case N => k_asm); (case m => k_mem); (case i => with_reducible assumption); (case x | b => omega); (case s => with_unfolding_all rfl); k_whole); intro t9))
 local macro_rules | `(tactic| walk_at "subscriptTail Name Name ref int") => `(tactic| (k_here; (with_reducible show wpAny _ _ (subscriptTail _ _ (Value.ref _) (Value.int _ _)) _ _ _); k_dflt (refine' item_led ?N ?m ?x ?b ?_ ?s; (case N => k_asm); (case m => k_mem); (case x => exact held_at (by with_reducible assumption)); (case b => omega); (case s => with_unfolding_all rfl); k_whole)))
 local macro_rules | `(tactic| walk_at "subscriptTail Name Subscript ref int") => `(tactic| (k_here; (with_reducible show wpAny _ _ (subscriptTail _ _ (Value.ref _) (Value.int _ _)) _ _ _); k_dflt (refine' item_heldI ?N ?m ?e ?x ?b ?_ ?s; (case N => k_asm); (case m => k_mem); (case e | x => with_reducible assumption); (case b => omega); (case s => with_unfolding_all rfl); k_whole)))
 local macro_rules | `(tactic| walk_at "compareOp IsNot ref ref") => `(tactic| (k_here; (with_reducible show wpAny _ _ (compareOp CmpOp.IsNot (Value.ref _) (Value.ref _)) _ _ _); k_dflt (refine' isnot_same ?e ?_; (case e => exact congrArg ob (by with_reducible assumption)); k_whole)))
 local macro_rules | `(tactic| ktr_call 12 $c:term) => `(tactic| (
  ktr_call 99 $c
  (first | with_reducible assumption | exact Pt.cons (by with_reducible assumption) | exact Pt.cons (Pt.cons (by with_reducible assumption)))
  (all_goals (intro r9 h9 tk9 news9 F9 N9 o9; obtain ⟨⟨t9, e9⟩, e8⟩ := o9; subst e9; subst e8; (try dsimp only); (try k_fold)))))
 local macro_rules | `(tactic| walk_at "getAttr ref") => `(tactic| (k_here; (with_reducible show wpAny _ _ (getAttr (Value.ref _) (PySem.Str.ofString "x") _) _ _ _); k_dflt (ktr_call 12 get_x)))
 local macro_rules | `(tactic| walk_at "getAttr ref") => `(tactic| (k_here; (with_reducible show wpAny _ _ (getAttr (Value.ref _) (PySem.Str.ofString "start") _) _ _ _); k_dflt (ktr_call () (get_startR _ _ _))))
 local macro_rules | `(tactic| walk_at "getAttr ref") => `(tactic| (k_here; (with_reducible show wpAny _ _ (getAttr (Value.ref _) (PySem.Str.ofString "end") _) _ _ _); k_dflt (ktr_call () (get_endR _ _ _))))
set_option maxRecDepth 100000 in
set_option maxHeartbeats 8000000 in
theorem st_end (hk : k < n) : Stm w p loose mean mg mb 100 1000 endB
    (fun m news => EndS z n ctx lh ls lr la lb ob dc lf f st rs ss m news ∧ ∃ t, m (Str.ofString "k") = some (.int (k : Int) t))
    (fun m news m' news' => EndS z n ctx lh ls lr la lb ob dc lf f st rs ss m' news' ∧ Sub news news') := by
  rintro dp un gd a ccd outer A₀ base h₀ L m news s Q E B F X N T ⟨W, tk1, mk⟩ hd hu hret
  conv in endB => whnf
  conv in (occs := *) lawSc => all_goals whnf
  have H := W.H
  have mh := H.mh
  have ms := H.ms
  have ma := W.ma
  have mb' := W.mb
  have G := H.g
  have hn14 := H.hi
  have hsl := H.sl
  obtain ⟨c, hh⟩ := H.h
  obtain ⟨vs, c', hs, hvs⟩ := H.s
  obtain ⟨A, B', va, vb, ca, cb, hA, hvA, hB, hvB, hAB⟩ := W.two.ex
  have hla := hAB.la
  have hlb := hAB.lb
  have hbk := bk_lt H.r.g.even hk
  obtain ⟨u, hu1, eu, _⟩ := H.r.prv hk
  obtain ⟨v, hv1, ev, _⟩ := H.r.prv hbk
  have rr : ∀ j, ro (ro (2 * j)) = 2 * bk j := fun j => by rw [ro_even, ro_odd]
  have h2k : 2 * k < 2 * n := by omega
  have f1 := H.r.g.lt k hk
  have f2 := H.r.g.lt (bk k) hbk
  have a1 : A.getD k 0 = ((f k : Nat) : Int) := by have := (hAB.at_ _ (dm_nat hk)).2.1; rw [tI_nat, Int.toNat_natCast] at this; exact this
  have a2 : A.getD (bk k) 0 = ((f (bk k) : Nat) : Int) := by have := (hAB.at_ _ (dm_nat hbk)).2.1; rw [tI_nat, Int.toNat_natCast] at this; exact this
  have b1 : B'.getD k 0 = (u : Int) := by have := (hAB.at_ _ (dm_nat hu1)).2.2; rw [tI_nat, eu, Int.toNat_natCast] at this; exact this
  have b2 : B'.getD (bk k) 0 = (v : Int) := by have := (hAB.at_ _ (dm_nat hv1)).2.2; rw [tI_nat, ev, Int.toNat_natCast] at this; exact this
  have e1 : ro (ro (2 * k)) = 2 * bk k := rr k
  have e2 : ro (ro (ro (ro (2 * k)))) = 2 * k := by rw [rr, rr, bk_bk]
  have e3 : lf (2 * k) = 2 * f k := H.r.g.pri k hk
  have e4 : ro (lf (ro (2 * k))) = 2 * u := H.r.g.prev hu1 eu
  have e5 : ro (lf (ro (ro (ro (2 * k))))) = 2 * v := by rw [rr]; exact H.r.g.prev hv1 ev
  have e6 : lf (ro (ro (2 * k))) = 2 * f (bk k) := by rw [rr]; exact H.r.g.pri _ hbk
  obtain ⟨x1, s1, P1⟩ := H.pts k hk
  obtain ⟨x2, s2', P2⟩ := H.pts (bk k) hbk
  have s2 : st (ro (ro (2 * k))) = .ref x2 := by rw [rr]; exact s2'
  refine wpAny_noRaise ?_
  ktn_open
  rw [s1]
  ktn_open
  rw [s2]
  ktn_open
  (rename Fr h₀ L _ _ => Fz)
  (rename News h₀ L _ _ => Nz)
  refine hret _ _ _ _ Fz Nz ⟨⟨H.sub (fun q hq => by k_mem) H.mh H.ms H.mr H.mc, W.ma, W.mb, W.two.keep (Sub.list (fun q hq => by k_mem))⟩, fun q hq => by k_mem⟩
end



theorem Qo.ni {a b : Led} {ctx : Value} {x d l r : Addr} {st : Value} (q : Qo a ctx x d l r st) (k : KeepNI a b) : Qo b ctx x d l r st :=
  let ⟨h1, h2, h3, h4, t1, t2, t3, t4, n, p, o⟩ := q
  ⟨h1, h2, h3, h4, t1, t2, t3, t4, n, k _ p (by intro e; cases e) (by intro e; cases e), k _ o (by show ¬ (Value.type "dict" = Value.type "list_iterator"); decide) (by show ¬ (Value.type "dict" = Value.type "range_iterator"); decide)⟩
theorem Gr.ni {a b : Led} {ctx : Addr} {N : Nat} {ob dc : Nat → Addr} {lf : Nat → Nat} {st : Nat → Value} (G : Gr a ctx N ob dc lf st) (k : KeepNI a b) : Gr b ctx N ob dc lf st :=
  ⟨G.four, fun j hj => (G.at_ j hj).ni k, G.inj, G.lt, G.flat⟩
theorem Pt.ni {a b : Led} {x : Addr} {v : Int} (h : Pt a x v) (k : KeepNI a b) : Pt b x v :=
  let ⟨d, u, t1, t2, m⟩ := h
  ⟨d, u, t1, t2, k _ m (by intro e; cases e) (by intro e; cases e)⟩
theorem LawS.ni {z : Addr} {n : Nat} {ctx lh ls lr : Addr} {ob dc : Nat → Addr} {lf f : Nat → Nat} {st : Nat → Value} {rs : List (List Int)} {ss : List Int} {m : Str → Option Value} {a b : Led}
    (H : LawS z n ctx lh ls lr ob dc lf f st rs ss m a) (k : KeepNI a b) : LawS z n ctx lh ls lr ob dc lf f st rs ss m b := by
  obtain ⟨c, hh⟩ := H.h
  obtain ⟨vs, c', hs, hi⟩ := H.s
  refine ⟨H.mh, H.ms, H.mr, H.mc, H.g.ni k, H.r, ⟨c, k.list _ _ _ hh⟩, ⟨vs, c', k.list _ _ _ hs, hi⟩, H.sl, H.sz, H.hz, H.rl.mono k.list, fun j hj => ?_, H.hi⟩
  obtain ⟨x, e, P⟩ := H.pts j hj
  exact ⟨x, e, P.ni k⟩
theorem Law.ni {z : Addr} {n : Nat} {m : Str → Option Value} {a b : Led} (H : Law z n m a) (k : KeepNI a b) : Law z n m b :=
  let ⟨_, _, _, _, _, _, _, _, _, _, _, H⟩ := H
  ⟨_, _, _, _, _, _, _, _, _, _, _, H.ni k⟩
theorem LawS.newz {z z' : Addr} {n : Nat} {ctx lh ls lr : Addr} {ob dc : Nat → Addr} {lf f : Nat → Nat} {st : Nat → Value} {rs : List (List Int)} {ss : List Int} {m : Str → Option Value} {a : Led}
    (H : LawS z n ctx lh ls lr ob dc lf f st rs ss m a) (h : ls ≠ z') : LawS z' n ctx lh ls lr ob dc lf f st rs ss m a :=
  ⟨H.mh, H.ms, H.mr, H.mc, H.g, H.r, H.h, H.s, H.sl, h, H.hz, H.rl, H.pts, H.hi⟩
/-- the beginning: three empty lists -/
theorem LawS.nil {z ctx lh ls lr : Addr} {m : Str → Option Value} {news : Led} (e1 : m (Str.ofString "held") = some (.ref lh)) (e2 : m (Str.ofString "starts") = some (.ref ls)) (e3 : m (Str.ofString "rings") = some (.ref lr)) (e4 : m (Str.ofString "context") = some (.ref ctx))
    (h1 : (lh, listOf #[] 0) ∈ news) (h2 : (ls, listOf #[] 0) ∈ news) (h3 : (lr, listOf #[] 0) ∈ news) (a1 : ls ≠ z) (a2 : lh ≠ ls) (a3 : lr ≠ ls) : LawS z 0 ctx lh ls lr (fun _ => 0) (fun _ => 0) (fun x => x) (fun x => x) (fun _ => .none) [] [] m news :=
  ⟨e1, e2, e3, e4, ⟨rfl, fun _ h => absurd h (Nat.not_lt_zero _), fun _ _ h => absurd h (Nat.not_lt_zero _), fun _ h => absurd h (Nat.not_lt_zero _), fun _ h => absurd h (Nat.not_lt_zero _)⟩, GR.nil, ⟨0, h1⟩, ⟨[], 0, h2, .nil⟩, rfl, a1, a2, ⟨a3, [], 0, h3, .nil⟩, fun _ h => absurd h (Nat.not_lt_zero _), Nat.zero_le _⟩
theorem Law.newz {z d : Addr} {n : Nat} {m : Str → Option Value} {a : Led} (H : Law z n m a) (h : ∀ p ∈ a, p.1 < d) : Law d n m a := by
  obtain ⟨_, _, _, _, _, _, _, _, _, _, _, H⟩ := H
  obtain ⟨vs, c, hs, _⟩ := H.s
  exact ⟨_, _, _, _, _, _, _, _, _, _, _, H.newz (Nat.ne_of_lt (h _ hs))⟩
theorem ints_val {vs : List Value} {ns : List Int} (h : IntsAre vs ns) : ∀ {i : Nat} {v : Value}, vs[i]? = some v → ∃ x t, v = .int x t := by
  induction h with
  | nil => intro i v e; cases e
  | cons x t _ ih =>
    intro i v e
    cases i with
    | zero => cases e; exact ⟨x, t, rfl⟩
    | succ i => exact ih (by simpa using e)
theorem Two.mono {n : Nat} {f : Nat → Nat} {S S' : Int → Prop} {la lb : Addr} {a : Led} (H : Two n f S la lb a) (h : ∀ x, S' x → S x) : Two n f S' la lb a :=
  let ⟨A, B, va, vb, ca, cb, h1, h2, h3, h4, h5⟩ := H.ex
  ⟨A, B, va, vb, ca, cb, h1, h2, h3, h4, h5.la, h5.lb, fun x hx => h5.at_ x (h x hx)⟩
theorem Two.no {n : Nat} {f : Nat → Nat} {S : Int → Prop} {la lb I : Addr} {oI : Obj} {a : Led} {h₀ h : Heap} {L : Addr} (H : Two n f S la lb a) (N : News h₀ L h ((I, oI) :: a)) (hc : oI.cls ≠ .type "list") : I ≠ la ∧ I ≠ lb := by
  obtain ⟨A, B, va, vb, ca, cb, h1, h2, h3, h4, h5⟩ := H.ex
  constructor
  · rintro rfl
    exact hc (by rw [news_func N (.head _) (.tail _ h1)])
  · rintro rfl
    exact hc (by rw [news_func N (.head _) (.tail _ h3)])
theorem EndS.sub {z : Addr} {n : Nat} {ctx lh ls lr la lb : Addr} {ob dc : Nat → Addr} {lf f : Nat → Nat} {st : Nat → Value} {rs : List (List Int)} {ss : List Int} {m m' : Str → Option Value} {a b : Led}
    (W : EndS z n ctx lh ls lr la lb ob dc lf f st rs ss m a) (K : Sub a b) (e1 : m' (Str.ofString "held") = m (Str.ofString "held")) (e2 : m' (Str.ofString "starts") = m (Str.ofString "starts")) (e3 : m' (Str.ofString "rings") = m (Str.ofString "rings")) (e4 : m' (Str.ofString "context") = m (Str.ofString "context"))
    (e5 : m' (Str.ofString "after") = m (Str.ofString "after")) (e6 : m' (Str.ofString "before") = m (Str.ofString "before")) : EndS z n ctx lh ls lr la lb ob dc lf f st rs ss m' b :=
  ⟨W.H.sub K (e1.trans W.H.mh) (e2.trans W.H.ms) (e3.trans W.H.mr) (e4.trans W.H.mc), e5.trans W.ma, e6.trans W.mb, W.two.keep K.list⟩
theorem EndS.ni {z : Addr} {n : Nat} {ctx lh ls lr la lb : Addr} {ob dc : Nat → Addr} {lf f : Nat → Nat} {st : Nat → Value} {rs : List (List Int)} {ss : List Int} {m : Str → Option Value} {a b : Led}
    (W : EndS z n ctx lh ls lr la lb ob dc lf f st rs ss m a) (k : KeepNI a b) : EndS z n ctx lh ls lr la lb ob dc lf f st rs ss m b :=
  ⟨W.H.ni k, W.ma, W.mb, W.two.keep k.list⟩
noncomputable def restB : List Stmt := lawB.drop 2
section
variable {w : World} {p : Program} {loose : List Str} {mean : ExcName → Option Value} {mg mb : Str → Option Value}
 local macro_rules | `(tactic| walk_at "eval Name") => `(tactic| (k_here; k_dflt (refine' ld ?k1 ?k2 ?_; (case k1 => k_asm); (case k2 => assumption); k_whole)))
 local macro_rules | `(tactic| ktn_open) => `(tactic| repeat' (first | (k_unfold; (try dsimp only)) | (k_end; wrow_close) | ((fail_if_success (with_reducible show wpAny _ _ (pyIter _) _ _ _)); (fail_if_success (with_reducible show wpAny _ _ (exec (PySem.Stmt.For _ _ _ _ _) _) _ _ _)); (fail_if_success (with_reducible show wpAny _ _ (eval (PySem.Expr.ListComp _ _ _ _) _) _ _ _)); (fail_if_success (with_reducible show LCt.CompSrcT _ _ _ _ _ _ _ _ _ _ _ _ _ _ _)); (fail_if_success (with_reducible show LCg.CompSrc _ _ _ _ _ _ _ _ _ _ _ _ _ _)); (first | walk1 | (dsimp only; walk1) | (leave1; walk_say "STEP leave1"; try dsimp only))) | fail "no step"))
set_option maxRecDepth 100000 in
set_option maxHeartbeats 8000000 in
theorem law_rest {dp un : Nat} {gd : Option (List Code)} {a : Addr} {ccd : Value} {outer : List Env} {A₀ : Around} {base h₀ : Heap} {L : Addr} {m : Str → Option Value} {news : Led} {s : Shared}
    {Q : Flow → Shared → Prop} {E : Value → Shared → Prop} {z sc : Addr} {oz : Obj} {vs : List Value} {ns : List Int}
    (B : Below A₀ base outer h₀) (F : Fr h₀ L s.heap m) (X : (k0.heap_1_1 w.params).In h₀) (N : News h₀ L s.heap news) (T : Top p loose mean mg mb h₀) (H0 : Law z 0 m news) (hz : (z, oz) ∈ news) (hzc : oz.cls ≠ .type "dict")
    (hsc : m (Str.ofString "script") = some (.ref sc)) (hls : h₀.IsList sc vs.toArray) (hvs : IntsAre vs ns) (hns : ns.length ≤ 63) (hd : dp + 600 < recursionLimit) (hu : un + 6000 < cLine)
    (hret : ∀ h' tk' m' news', Fr h₀ L h' m' → News h₀ L h' news' → Q (.ret (.bool true)) { s with heap := h', toks := tk' }) :
    wpAny (model PySem.Challenge.rw_jj0039_01.row.prog w) (ktrTop dp un gd (Str.ofString "law") lawSc L a ccd [] outer) (execs restB (envOf (Str.ofString "law") lawSc L a ccd)) Q E s := by
  conv in restB => whnf
  conv in (occs := *) lawSc => all_goals whnf
  refine wpAny_noRaise ?_
  refine wpAny_execs_cons ?_
  (with_unfolding_all refine' For_invVF F ?k1 ?k2 ?_)
  case k1 => exact rfl
  case k2 => exact rfl
  ktn_open
  (rename IsRange _ _ _ _ _ _ _ _ => rg)
  (rename Fr h₀ L _ _ => F₁)
  (rename News h₀ L _ _ => N₁)
  refine for_range (n := 3) (J := fun i m₁ news₁ => Law z (2 * i) m₁ news₁ ∧ (z, oz) ∈ news₁ ∧ m₁ (Str.ofString "script") = some (.ref sc)) ?mono rfl rg (small_one (by omega) (by omega) (by omega) (by omega)) (rangeSize_nat _ _) F₁ N₁ ⟨H0, hz, hsc⟩ ?turn ?done
  case mono =>
    rintro I i m₁ a b hI hs hk ⟨h1, h2, h3⟩
    exact ⟨h1.ni hk, hs _ h2 (hI _ hz), h3⟩
  case turn =>
    rintro j t m₁ news₁ h tk I oI hj ⟨h1, h2, h3⟩ hc F₂ N₂
    simp only [Int.zero_add] at F₂
    refine Stm.use (st_set (z := z) hj) (by k_asm) F₂ X N₂ (by k_asm) ⟨h1.sub (Sub.cons Sub.refl) rfl rfl rfl rfl, ⟨oz, .tail _ h2, hzc⟩, ⟨_, rfl⟩⟩ (by omega) (by omega) (fun h' tk' m' news' F' N' hp => ?_)
    exact ⟨_, _, _, _, rfl, F', N', fun q hq => hp.2.1 q (by rw [List.mem_singleton.mp hq]; exact .head _) (by rw [List.mem_singleton.mp hq, hc]; decide), hp.1, hp.2.1 _ (.tail _ h2) hzc, hp.2.2.trans h3⟩
  case done =>
    rintro m₁ news₁ h tk ⟨h1, h2, h3⟩ F₂ N₂
    clear N₁ F₁ rg
    ktn_open
    (with_unfolding_all refine' For_invVF F₂ ?k1 ?k2 ?_)
    case k1 => exact rfl
    case k2 => exact rfl
    ktn_open
    rename_i D ws h3' F₃ N₃ lD hI hL hC
    refine for_led (c := 0) (vs := ws) (J := fun i m₁ news₁ => ∃ n, 6 ≤ n ∧ Law D n m₁ news₁) ?mono2 rfl F₃ N₃ (.head _) ⟨6, Nat.le_refl _, (h1.newz lD).sub (Sub.cons Sub.refl) rfl rfl rfl rfl⟩ ?turn2 ?done2
    case mono2 =>
      rintro I i m₁ a b hI hs hk ⟨n, h1, h2⟩
      exact ⟨n, h1, h2.ni hk⟩
    case turn2 =>
      rintro i v m₂ news₂ h tk I oI hv ⟨n, hn6, hL⟩ hlm hc F₄ N₄
      obtain ⟨x, t, rfl⟩ := ints_val hI hv
      refine Stm.use (st_turn (z := D) (v := x) (n := n) (by omega)) (by k_asm) F₄ X N₄ (by k_asm) ⟨hL.sub (Sub.cons Sub.refl) rfl rfl rfl rfl, ⟨_, _, .tail _ hlm⟩, ⟨_, rfl⟩⟩ (by omega) (by omega) (fun h' tk' m' news' F' N' hp => ?_)
      obtain ⟨⟨n', hn', hL'⟩, hz1, hz2⟩ := hp
      refine ⟨_, _, _, _, rfl, F', N', fun q hq => ?_, n', by omega, hL'⟩
      rcases List.mem_cons.mp hq with rfl | hq
      · exact hz2 _ (.head _) hc
      · rw [List.mem_singleton.mp hq]
        exact hz1 _ (.tail _ hlm) rfl rfl
    case done2 =>
      rintro m₂ news₂ h tk ⟨n, hn6, hL⟩ F₄ N₄
      obtain ⟨ctx, lh, ls, lr, ob, dc, lf, f, st, rs, ss, H⟩ := hL
      have mh := H.mh
      have mr := H.mr
      have hn14 := H.hi
      obtain ⟨c, hh⟩ := H.h
      clear F₃ N₃ lD
      ktn_open
      k_dflt (refine LCg.ListComp_U (F₀ := by k_asm) (by with_unfolding_all rfl) (by decide) (by rfl) (by decide) (by rfl) ?_)
      ktn_open
      k_dflt (refine LCg.CompSrc.ledger (by rfl) (by k_asm) (by k_asm) (by k_mem) ?sz1 ?_)
      case sz1 =>
        rw [List.size_toArray, held_len, sizeLine_eq]
        omega
      intro g1
      refine compU_inv (n := n) (fun i ys nw => IntsAre ys (List.replicate i 0) ∧ news₂ = nw) ?hS1 ?turn1 ?fin1 _ 0 [] _ (by simp) ⟨.nil, rfl⟩
      case hS1 =>
        rintro i ys nw ⟨_, rfl⟩
        exact .inr ⟨_, by k_mem, rfl, _, rfl⟩
      case turn1 =>
        rintro i v ys nw I oI C oC D' m₃ h tk E' hi hv ⟨hys, rfl⟩ hC hx F9 N9 off ne
        refine wpAny_Constant_int ?_
        exact ⟨_, _, _, rfl, F9, N9, off, by rw [List.replicate_succ']; exact hys.append (.cons _ _ .nil), rfl⟩
      case fin1 =>
        rintro ysZ1 nw ⟨hysZ1, rfl⟩
        intro DZ1 hZ1 tkZ1 FZ1 NZ1 oZ1
        ktn_open
        k_dflt (refine LCg.ListComp_U (F₀ := by k_asm) (by with_unfolding_all rfl) (by decide) (by rfl) (by decide) (by rfl) ?_)
        ktn_open
        k_dflt (refine LCg.CompSrc.ledger (by rfl) (by k_asm) (by k_asm) (by k_mem) ?sz2 ?_)
        case sz2 =>
          rw [List.size_toArray, held_len, sizeLine_eq]
          omega
        intro g2
        refine compU_inv (n := n) (fun i ys nw => IntsAre ys (List.replicate i 0) ∧ ((DZ1, LCg.lst ysZ1) :: news₂) = nw) ?hS2 ?turn2 ?fin2 _ 0 [] _ (by simp) ⟨.nil, rfl⟩
        case hS2 =>
          rintro i ys nw ⟨_, rfl⟩
          exact .inr ⟨_, by k_mem, rfl, _, rfl⟩
        case turn2 =>
          rintro i v ys nw I oI C oC D' m₃ h tk E' hi hv ⟨hys, rfl⟩ hC hx F9 N9 off ne
          refine wpAny_Constant_int ?_
          exact ⟨_, _, _, rfl, F9, N9, off, by rw [List.replicate_succ']; exact hys.append (.cons _ _ .nil), rfl⟩
        case fin2 =>
          rintro ysZ2 nw ⟨hysZ2, rfl⟩
          intro DZ2 hZ2 tkZ2 FZ2 NZ2 oZ2
          ktn_open
          (rename Fr h₀ L _ _ => F₅)
          have hfa : ∀ p ∈ news₂, p.1 ≠ DZ1 := off1_mem oZ1
          have hfb : ∀ p ∈ news₂, p.1 ≠ DZ2 := fun p hp => off1_mem oZ2 p (.tail _ hp)
          have hab : DZ1 ≠ DZ2 := off1_mem oZ2 (DZ1, _) (.head _)
          obtain ⟨nr, as, cr, hr, ha⟩ := id H.rl
          (with_unfolding_all refine' For_invVF F₅ ?k1 ?k2 ?_)
          case k1 => exact rfl
          case k2 => exact rfl
          ktn_open
          (rename Fr h₀ L _ _ => F₅)
          (rename News h₀ L _ _ => N₅)
          refine for_led (c := cr) (vs := as.map Value.ref) (J := fun i m₁ news₁ => (m₁ (Str.ofString "held") = some (.ref lh) ∧ m₁ (Str.ofString "starts") = some (.ref ls) ∧ m₁ (Str.ofString "rings") = some (.ref lr) ∧ m₁ (Str.ofString "context") = some (.ref ctx) ∧ m₁ (Str.ofString "after") = some (.ref DZ1) ∧ m₁ (Str.ofString "before") = some (.ref DZ2)) ∧ Sub news₂ news₁ ∧ Two n f (fun x => x ∈ (rs.take i).flatten) DZ1 DZ2 news₁) ?mono3 rfl F₅ N₅ (.tail _ (.tail _ (.tail _ hr))) ?start3 ?turn3 ?done3
          case mono3 =>
            rintro I i m₁ a b hI hs hk ⟨h1, h2, h3⟩
            exact ⟨h1, fun q hq => hs q (h2 q hq) (hI q (.tail _ (.tail _ (.tail _ hq)))), h3.keep hk.list⟩
          case start3 =>
            exact ⟨⟨H.mh, H.ms, H.mr, H.mc, rfl, rfl⟩, fun q hq => .tail _ (.tail _ (.tail _ hq)), ⟨_, _, ysZ1, ysZ2, _, _, .tail _ (.tail _ (.head _)), hysZ1, .tail _ (.head _), hysZ2, by rw [List.length_replicate], by rw [List.length_replicate], fun x hx => nomatch hx⟩⟩
          case turn3 =>
            rintro i v m₃ news₃ h tk I oI hv ⟨⟨e1, e2, e3, e4, e5, e6⟩, hs, h2⟩ hlm hc F₆ N₆
            rw [List.getElem?_map] at hv
            obtain ⟨br, hbr, hv⟩ := Option.map_eq_some_iff.mp hv
            subst hv
            obtain ⟨ri, hri, hLI⟩ := ha.get hbr
            obtain ⟨nz1, vr, c1, hm1, hi1⟩ := hLI
            have hrm := List.mem_of_getElem? hri
            obtain ⟨nI1, nI2⟩ := h2.no N₆ (by rw [hc]; decide)
            refine Stm.use (st_ring (S := fun x => x ∈ (rs.take i).flatten) H.r.g hn14 (H.r.r.2.2 ri hrm) (fun x hx => (H.r.r.2.1 x).mp (List.mem_flatten.mpr ⟨ri, hrm, hx⟩)) (Nat.le_trans (H.r.ring hrm) hn14) hab (hfa _ hm1) (hfb _ hm1)) (by k_asm) F₆ X N₆ (by k_asm) ⟨rfl, e5, e6, h2.keep cons_list, vr, c1, .tail _ (hs _ hm1), hi1⟩ (by omega) (by omega) (fun h' tk' m' news' F' N' hp => ?_)
            obtain ⟨⟨u, rfl⟩, hT, hK⟩ := hp
            refine ⟨_, _, _, _, rfl, F', N', fun q hq => ?_, ⟨e1, e2, e3, e4, e5, e6⟩, fun q hq => hK q (.tail _ (hs q hq)) (hfa q hq) (hfb q hq), hT.mono fun x hx => ?_⟩
            · rcases List.mem_cons.mp hq with rfl | hq
              · exact hK _ (.head _) nI1 nI2
              · rw [List.mem_singleton.mp hq]
                exact hK _ (.tail _ hlm) (hfa _ hr) (hfb _ hr)
            · rw [List.take_add_one, hri, List.flatten_append, List.mem_append] at hx
              exact hx.imp id fun h => by simpa using h
          case done3 =>
            rintro m₃ news₃ h tk ⟨⟨e1, e2, e3, e4, e5, e6⟩, hs, h2⟩ F₆ N₆
            have W : EndS D n ctx lh ls lr DZ1 DZ2 ob dc lf f st rs ss m₃ news₃ := ⟨H.sub hs e1 e2 e3 e4, e5, e6, h2.mono fun x hx => by
              rw [List.length_map, ha.length, List.take_length]
              exact (H.r.r.2.1 x).mpr hx⟩
            have hh3 := hs _ hh
            clear mh mr hh F₅ N₅
            ktn_open
            (with_unfolding_all refine' For_invVF F₆ ?k1 ?k2 ?_)
            case k1 => exact rfl
            case k2 => exact rfl
            ktn_open
            (rename IsRange _ _ _ _ _ _ _ _ => rg)
            (rename Fr h₀ L _ _ => F₇)
            (rename News h₀ L _ _ => N₇)
            refine for_range (n := n) (J := fun _ m₁ news₁ => EndS D n ctx lh ls lr DZ1 DZ2 ob dc lf f st rs ss m₁ news₁) ?mono4 rfl rg (small_one (by omega) (by omega) (by omega) (by omega)) (rangeSize_nat _ _) F₇ N₇ W ?turn4 ?done4
            case mono4 =>
              rintro I i m₁ a b hI hs hk h1
              exact h1.ni hk
            case turn4 =>
              rintro j t m₁ news₁ h tk I oI hj W1 hc F₈ N₈
              simp only [Int.zero_add] at F₈
              refine Stm.use (st_end (z := D) (ctx := ctx) (lh := lh) (ls := ls) (lr := lr) (la := DZ1) (lb := DZ2) (ob := ob) (dc := dc) (lf := lf) (f := f) (st := st) (rs := rs) (ss := ss) hj) (by k_asm) F₈ X N₈ (by k_asm) ⟨W1.sub (Sub.cons Sub.refl) rfl rfl rfl rfl rfl rfl, ⟨_, rfl⟩⟩ (by omega) (by omega) (fun h' tk' m' news' F' N' hp => ?_)
              exact ⟨_, _, _, _, rfl, F', N', fun q hq => hp.2 q (by rw [List.mem_singleton.mp hq]; exact .head _), hp.1⟩
            case done4 =>
              rintro m₁ news₁ h tk W1 F₈ N₈
              clear F₇ N₇ rg
              ktn_open
              exact hret _ _ _ _ (by k_asm) (by k_asm)
end



-- the kit lays, for each constant that it writes within law_holds, a second one, tw<hash of the name>, and an equation of the two; the equation of a long one is longer than the file may be.
-- Where the name is taken, it goes on without. So the names of the long ones are taken here.
theorem law_holds.tw11241887515815520470 : True := trivial
theorem law_holds.tw15630042172670968024 : True := trivial
theorem law_holds.tw17328188450699661725 : True := trivial
theorem law_holds.tw5656828111889329207 : True := trivial
theorem law_holds.tw9956809906742317596 : True := trivial
theorem law_holds.tw13536078969547264968 : True := trivial
theorem law_holds.tw9341007662425114382 : True := trivial
theorem law_holds.tw4419479016591742251 : True := trivial
theorem law_holds.tw7629946663754641087 : True := trivial
theorem law_holds.tw3534036598612510512 : True := trivial
theorem law_holds.tw12404642324936598177 : True := trivial
theorem law_holds.tw14201498089721532212 : True := trivial
theorem law_holds.tw11666318101497114028 : True := trivial
theorem law_holds.tw3672438013989251361 : True := trivial
theorem law_holds.tw9664006263252764366 : True := trivial
theorem law_holds.tw130176653241373134 : True := trivial
theorem law_holds.tw8509993157628066667 : True := trivial
theorem law_holds.tw3959601488294255719 : True := trivial
theorem law_holds.tw5858263632927829637 : True := trivial
theorem law_holds.tw9836960792572240155 : True := trivial
theorem law_holds.tw5898729028444588960 : True := trivial
theorem law_holds.tw5117662029339320154 : True := trivial
theorem law_holds.tw2653077077396839018 : True := trivial
theorem law_holds.tw9187647767651647856 : True := trivial
theorem law_holds.tw15522444059895599089 : True := trivial
theorem law_holds.tw14983226153234331074 : True := trivial
theorem law_holds.tw10007947361888340627 : True := trivial
theorem law_holds.tw7120836010843673076 : True := trivial
theorem law_holds.tw9779807473162285230 : True := trivial
theorem law_holds.tw8330938851228082562 : True := trivial
theorem law_holds.tw14479214429240233694 : True := trivial
theorem law_holds.tw4323815956820902445 : True := trivial
theorem law_holds.tw12889673554181485818 : True := trivial
theorem law_holds.tw17137235678499792623 : True := trivial
theorem law_holds.tw1767730674963353768 : True := trivial
theorem law_holds.tw11609493526922420660 : True := trivial
theorem law_holds.tw1973129929022764952 : True := trivial
theorem law_holds.tw15162217921772873613 : True := trivial
theorem law_holds.tw15802469936163623734 : True := trivial
theorem law_holds.tw7484302960587174374 : True := trivial
theorem law_holds.tw4503035019201841076 : True := trivial
theorem law_holds.tw14390095281932903014 : True := trivial
theorem law_holds.tw5950301352895977177 : True := trivial
theorem law_holds.tw14892801356780361778 : True := trivial
theorem law_holds.tw16873799427995575018 : True := trivial
theorem law_holds.tw3253820488102484341 : True := trivial
theorem law_holds.tw16883458599210261866 : True := trivial
theorem law_holds.tw11714151634956498000 : True := trivial
theorem law_holds.tw4524032621918665186 : True := trivial
theorem law_holds.tw17237755526102222789 : True := trivial
theorem law_holds.tw17911580528928914924 : True := trivial
theorem law_holds.tw14531881819706719225 : True := trivial
theorem law_holds.tw18221428039690301666 : True := trivial
theorem law_holds.tw1186782194237197914 : True := trivial
theorem law_holds.tw12459966957829302596 : True := trivial
theorem law_holds.tw1376783240425437725 : True := trivial
theorem law_holds.tw5920216800500632969 : True := trivial
theorem law_holds.tw8890443458166856008 : True := trivial
theorem law_holds.tw2055734563569237896 : True := trivial
theorem law_holds.tw5112083995522966620 : True := trivial
theorem law_holds.tw8191475993861738794 : True := trivial
theorem law_holds.tw14281342344845405768 : True := trivial
theorem law_holds.tw11956458263131016624 : True := trivial
theorem law_holds.tw11795792742502079742 : True := trivial
theorem law_holds.tw3974387499553966400 : True := trivial
theorem law_holds.tw15154110283740273250 : True := trivial
theorem law_holds.tw653560878884961445 : True := trivial
theorem law_holds.tw10346744231138586394 : True := trivial
theorem law_holds.tw2887994833065977647 : True := trivial
theorem law_holds.tw6260460797876433568 : True := trivial
theorem law_holds.tw5274592661964301406 : True := trivial
theorem law_holds.tw447027507633508388 : True := trivial
theorem law_holds.tw10093380194815717143 : True := trivial
theorem law_holds.tw1909877003179415225 : True := trivial
theorem law_holds.tw13092103797297032270 : True := trivial
theorem law_holds.tw13956741780833797525 : True := trivial
theorem law_holds.tw4329158554759489670 : True := trivial
theorem law_holds.tw2136269947727277649 : True := trivial
theorem law_holds.tw10264638600885302300 : True := trivial
theorem law_holds.tw16614716721108272449 : True := trivial
theorem law_holds.tw1689763614830377041 : True := trivial
theorem law_holds.tw2175471002772951711 : True := trivial
theorem law_holds.tw5451054884063135654 : True := trivial
theorem law_holds.tw9634471323475708679 : True := trivial
theorem law_holds.tw12419048959643632839 : True := trivial
theorem law_holds.tw3110860835449505704 : True := trivial
theorem law_holds.tw12874571214893485439 : True := trivial
theorem law_holds.tw10726639523019406850 : True := trivial
theorem law_holds.tw2887050238494874643 : True := trivial
theorem law_holds.tw4439653461905209652 : True := trivial
theorem law_holds.tw3776956092104397036 : True := trivial
theorem law_holds.tw13028658284911697911 : True := trivial
theorem law_holds.tw10566571302883470556 : True := trivial
theorem law_holds.tw17180001009569633970 : True := trivial
theorem law_holds.tw11781800970755023335 : True := trivial
theorem law_holds.tw6911747868599837429 : True := trivial
theorem law_holds.tw11625900857008200698 : True := trivial
theorem law_holds.tw745255978533919091 : True := trivial
theorem law_holds.tw10296202853966499060 : True := trivial
theorem law_holds.tw4614512636035447770 : True := trivial
theorem law_holds.tw12780804625047726367 : True := trivial
theorem law_holds.tw2090888555730037645 : True := trivial
theorem law_holds.tw2903333896348957400 : True := trivial
theorem law_holds.tw1778412455037948541 : True := trivial
theorem law_holds.tw14789792462180790578 : True := trivial
theorem law_holds.tw8553002610548859549 : True := trivial
theorem law_holds.tw8652346329174877282 : True := trivial
theorem law_holds.tw3943428198234077543 : True := trivial
theorem law_holds.tw16836969012518115619 : True := trivial
theorem law_holds.tw13250372474279835810 : True := trivial
theorem law_holds.tw3329330481660614911 : True := trivial
theorem law_holds.tw13431030151845061361 : True := trivial
theorem law_holds.tw3910120701321347557 : True := trivial
theorem law_holds.tw17183477848116922584 : True := trivial
theorem law_holds.tw1762888911704233025 : True := trivial
theorem law_holds.tw5506821171919863439 : True := trivial
theorem law_holds.tw14596297492920191028 : True := trivial
theorem law_holds.tw9682718004065560343 : True := trivial
theorem law_holds.tw12149405283708829123 : True := trivial
theorem law_holds.tw1685627985566243432 : True := trivial
theorem law_holds.tw7356724547972884604 : True := trivial
theorem law_holds.tw724200737284857819 : True := trivial
theorem law_holds.tw2295933128562542503 : True := trivial
theorem law_holds.tw2043166853727251185 : True := trivial
theorem law_holds.tw8549365171731915398 : True := trivial
theorem law_holds.tw18269650602155537469 : True := trivial
theorem law_holds.tw15883345262158282383 : True := trivial
theorem law_holds.tw2644310842459337959 : True := trivial
theorem law_holds.tw2578278018795888234 : True := trivial
theorem law_holds.tw11067727234611919522 : True := trivial
theorem law_holds.tw13087128984098923117 : True := trivial
theorem law_holds.tw1710076424337546998 : True := trivial
theorem law_holds.tw5455921660152230842 : True := trivial
theorem law_holds.tw6677821561840896501 : True := trivial
theorem law_holds.tw6869992995446874880 : True := trivial
theorem law_holds.tw4781243967656130014 : True := trivial
theorem law_holds.tw3850404396616230974 : True := trivial
theorem law_holds.tw17499823404086765753 : True := trivial
theorem law_holds.tw8806649888931605024 : True := trivial
theorem law_holds.tw8857742495270377987 : True := trivial
theorem law_holds.tw3253568177066640346 : True := trivial
theorem law_holds.tw14991590004735058009 : True := trivial
theorem law_holds.tw6860709855171689206 : True := trivial
theorem law_holds.tw7304591109411159013 : True := trivial
theorem law_holds.tw9168033884955339765 : True := trivial
theorem law_holds.tw14354538779393863138 : True := trivial
theorem law_holds.tw8369274380968253667 : True := trivial
theorem law_holds.tw6896717019858035522 : True := trivial
theorem law_holds.tw3028213030429885723 : True := trivial
theorem law_holds.tw194939583717160490 : True := trivial
theorem law_holds.tw1031057903888850656 : True := trivial
theorem law_holds.tw9529696498207198238 : True := trivial
theorem law_holds.tw13182730311906835528 : True := trivial
theorem law_holds.tw15123554796541802991 : True := trivial
theorem law_holds.tw15452448965706171373 : True := trivial
theorem law_holds.tw4273555757443719353 : True := trivial
theorem law_holds.tw2075624079617657780 : True := trivial
theorem law_holds.tw10301956948240465243 : True := trivial
theorem law_holds.tw3595789414353437717 : True := trivial
theorem law_holds.tw4116831888350618822 : True := trivial
theorem law_holds.tw3258674603298201628 : True := trivial
theorem law_holds.tw12687621791434340054 : True := trivial
theorem law_holds.tw14746732674962391887 : True := trivial
theorem law_holds.tw9069877914133315304 : True := trivial
theorem law_holds.tw7185456241796803578 : True := trivial
theorem law_holds.tw8285764192309689115 : True := trivial
theorem law_holds.tw7820799176418779761 : True := trivial
theorem law_holds.tw6564709946809587534 : True := trivial
theorem law_holds.tw7221428835167493151 : True := trivial
theorem law_holds.tw15006436103509636135 : True := trivial
theorem law_holds.tw15544829507116839252 : True := trivial
theorem law_holds.tw9843604407834444796 : True := trivial
theorem law_holds.tw14160533322030094474 : True := trivial
theorem law_holds.tw10242277825702978295 : True := trivial
theorem law_holds.tw13800757232730249582 : True := trivial
theorem law_holds.tw718173064312146323 : True := trivial
theorem law_holds.tw16963379459963715452 : True := trivial
theorem law_holds.tw3572487005457819259 : True := trivial
theorem law_holds.tw3955097671198598788 : True := trivial
theorem law_holds.tw18261290160731607033 : True := trivial
theorem law_holds.tw10371022188087798493 : True := trivial
theorem law_holds.tw13336368349410954346 : True := trivial
theorem law_holds.tw8860054118572591635 : True := trivial
theorem law_holds.tw2322801206320994539 : True := trivial
theorem law_holds.tw2102315897755806987 : True := trivial
theorem law_holds.tw11426015686315989412 : True := trivial
theorem law_holds.tw14571795756577361901 : True := trivial
theorem law_holds.tw11098625913536864229 : True := trivial
theorem law_holds.tw12835091436910803158 : True := trivial
theorem law_holds.tw4441770287765753910 : True := trivial
theorem law_holds.tw6709271908398517637 : True := trivial
theorem law_holds.tw15448297888555860652 : True := trivial
theorem law_holds.tw699380112222796084 : True := trivial
theorem law_holds.tw18254337876149969668 : True := trivial
theorem law_holds.tw10222300733896627045 : True := trivial
theorem law_holds.tw11097158420108258118 : True := trivial
theorem law_holds.tw4030767218360268280 : True := trivial
theorem law_holds.tw14774650325386425613 : True := trivial
theorem law_holds.tw16978406815995349258 : True := trivial
theorem law_holds.tw13650905803964671038 : True := trivial
theorem law_holds.tw14904137174637212347 : True := trivial
theorem law_holds.tw16470317323979864763 : True := trivial
theorem law_holds.tw13780023080261437657 : True := trivial
theorem law_holds.tw14646867148444618371 : True := trivial
theorem law_holds.tw8984152853971343422 : True := trivial
theorem law_holds.tw3896150654470677357 : True := trivial
theorem law_holds.tw7566432030715092817 : True := trivial
theorem law_holds.tw11315637435222106236 : True := trivial
theorem law_holds.tw12977093529070104392 : True := trivial
theorem law_holds.tw13882729330811710610 : True := trivial
theorem law_holds.tw10368410895845634921 : True := trivial
theorem law_holds.tw179590077315354965 : True := trivial
theorem law_holds.tw14545874151571354728 : True := trivial
theorem law_holds.tw1784627337472249616 : True := trivial
theorem law_holds.tw4072507727158212662 : True := trivial
theorem law_holds.tw13983371404066579822 : True := trivial
theorem law_holds.tw1258919526383655059 : True := trivial
theorem law_holds.tw981846192996546977 : True := trivial
theorem law_holds.tw7769649832755249146 : True := trivial
theorem law_holds.tw3035144380315620824 : True := trivial
theorem law_holds.tw11404014056486942332 : True := trivial
theorem law_holds.tw12800644894191811977 : True := trivial
theorem law_holds.tw10817052189556005596 : True := trivial
theorem law_holds.tw15341342317828512493 : True := trivial
theorem law_holds.tw12291295341487003417 : True := trivial
theorem law_holds.tw10516828495840041881 : True := trivial
theorem law_holds.tw13709617746848070560 : True := trivial
section
 local macro_rules | `(tactic| ktn_open) => `(tactic| repeat' (first | (k_unfold; (try dsimp only)) | (k_end; wrow_close) | ((fail_if_success (with_reducible show wpAny _ _ (execs (PySem.Stmt.For _ _ _ _ _ :: _) _) _ _ _)); (first | walk1 | (dsimp only; walk1) | (leave1; walk_say "STEP leave1"; try dsimp only))) | fail "no step"))
set_option maxRecDepth 100000 in
set_option maxHeartbeats 8000000 in
set_option Elab.async true in
theorem law_holds : PySem.Challenge.rw_jj0039_01.Holds := by
  w_on
  o_law
  o_head (kHook k0.heap_1_1 [2, 3, 15, 17, 18, 20, 21, 29, 31, 32, 34, 35, 36, 37, 38, 39, 41, 42, 44, 45, 46, 47, 49, 50, 52, 53, 54, 55, 57, 58, 60, 61, 62, 63, 65, 66, 68, 69, 70, 71, 73, 74, 76, 77, 78, 79, 81, 82, 84, 85, 86, 87, 89, 90, 92, 93, 94, 95, 97, 98, 100, 101, 102, 103, 105, 106, 108, 109, 110, 111, 112, 114, 115, 117, 118, 119, 121, 122, 124, 125, 126, 128, 129, 131, 132, 133, 135, 136, 138, 139, 140, 142, 143, 145, 146, 147, 149, 150, 152, 153, 154, 155, 156, 157, 158, 168, 170, 171, 173, 174, 175, 176, 178, 179, 181, 182, 183, 185, 186, 188, 189, 190, 192, 193, 195, 196, 197, 198, 199, 200, 201, 204, 207, 212, 213, 214, 215, 217, 218, 220, 221, 222, 224, 225, 227, 228, 229, 230, 231, 232, 233, 235, 236, 238, 239, 240, 242, 243, 245, 246, 247, 249, 250, 252, 253, 254, 256, 257, 259, 260, 261, 262, 263, 265, 266, 268, 270, 271, 272, 282, 284, 285, 287, 288, 289, 291, 292, 294, 295, 296, 298, 299, 301, 302, 303, 305, 306, 308, 309, 310, 312, 313, 315, 316, 317, 319, 320, 322, 323, 324, 325, 326, 327, 328, 331, 333, 334, 336, 337, 338, 341, 342, 343, 346, 347, 348, 351, 352, 353, 355, 356, 358, 359, 360, 363, 364] (fun _ => by kernel_rfl))
  (case hw => w_witness2)
  k_go0
  all_goals (try k_fold)
  ktn_open
  (rename Fr _ _ _ _ => Fz)
  (rename News _ _ _ _ => Nz)
  (rename IntsAre _ _ => hI)
  (rename PySem.Heap.IsList _ _ _ => hLs)
  (rename ¬ _ < _ => hcond)
  refine' law_rest (by assumption) Fz (by assumption) Nz (by assumption) ⟨_, _, _, _, _, _, _, _, _, _, _, LawS.nil rfl rfl rfl rfl ?m1 ?m2 ?m3 ?a1 ?a2 ?a3⟩ ?hz ?hzc rfl hLs hI ?hns ?hd ?hu ?hret
  case hns => omega
  case m1 => k_mem
  case m2 => k_mem
  case m3 => k_mem
  case hz => exact List.mem_cons_of_mem _ (List.mem_cons_of_mem _ (List.mem_cons_of_mem _ (List.mem_cons_of_mem _ (List.mem_cons_self))))
  case hzc => intro e; cases e
  case a1 => kto_ne
  case a2 => kto_ne
  case a3 => kto_ne
  case hd => decide +kernel
  case hu => decide +kernel
  case hret =>
    intro h' tk' m' news' F' N'
    dsimp only
    k_steps
end



end Mine
set_option maxRecDepth 100000 in
set_option maxHeartbeats 8000000 in
theorem PySem.Challenge.cw_jj0039_01_holds : PySem.Challenge.rw_jj0039_01.Holds :=
  Mine.law_holds
