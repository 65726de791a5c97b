import PyProof.Rows.All
import Wide.All
import OpenK.AllK
import Wide.FinOn
import PySem.Challenge.RW_qw0036_01
set_option Elab.async false
set_option linter.all false
set_option compiler.extract_closed false
section
open PySem PySem.W PyProof.Rows
namespace Mine
set_option maxRecDepth 100000
set_option maxHeartbeats 8000000
noncomputable def vw : Program := PySem.W.view PySem.Challenge.pw_qw0036_01 [0,  2,  4,  6,  7,  9,  11,  13,  14,  15,  16,  18,  19,  20,  21,  23,  24,  25,  30,  31,  32,  33,  34,  35,  36,  37,  38,  39,  40]
noncomputable def lo : List Str := [Str.ofString "b2a_base64", Str.ofString "b64encode"]
noncomputable def xt (s : Shared) : Bool := xlAt vw [] s && recOk PySem.Challenge.rw_qw0036_01.row.records s
theorem said : PySem.Challenge.rw_qw0036_01.wellSaid = true := by
  rw [PySem.W.Fast.te9446332074065402090]; kernel_rfl
theorem seen_ok : ∀ w, (openEnds treeTable PySem.Challenge.pw_qw0036_01 w 3486).map (fun s => openSeen vw lo (importedModules PySem.Challenge.pw_qw0036_01.main.body) xt true s) = some (openGood vw lo) := by
  intro w; unfold openEnds fencedOpening topFrom; rw [PySem.W.Fast.te14082659384304107361, PySem.W.Fast.te10274390034422433532, PySem.W.Fast.te14289696077712309145, PySem.W.Fast.te1435165496053646825, PySem.W.Fast.te14364793385576792824, PySem.W.Fast.te4187177175401517315, PySem.W.Fast.te5923862056798008813]; kernel_rfl
theorem both {α β γ : Type} {o : Option α} {f : α → β} {g : α → γ} {a : β} {b : γ} (h : o.map f = some a) (k : o.map g = some b) : o.map (fun s => (f s, g s)) = some (a, b) := by
  cases o with
  | none => cases h
  | some s => exact congrArg some (Prod.ext (Option.some.inj h) (Option.some.inj k))
local macro_rules | `(tactic| o_law) => `(tactic| refine holds_law said fun _ => ?_)
local macro_rules | `(tactic| o_head $H:term) => `(tactic| (
  refine holds_open (q := vw) (loose := lo) (Xt := xt) (XP := XL vw []) (Yf := Hook.obs $H) (Ya := Hook.val $H) (YP := Hook.says $H) (N := 3486) ?hl (Hook.of $H) (Hook.keeps $H) (fun s e => xl_of s (Bool.and_eq_true_iff.mp e).1) XL.keeps (by rfl) (by rfl) (by rfl) (fun s e => recFacts_of (Bool.and_eq_true_iff.mp e).2) (by rfl) (by assumption) (by decide +kernel) ⟨rfl, rfl, rfl, rfl, rfl, by decide +kernel⟩ ?hw ?hc
  case hl =>
    intro w; refine both (seen_ok w) ?_
    unfold openEnds fencedOpening topFrom; rw [PySem.W.Fast.te14082659384304107361, PySem.W.Fast.te10274390034422433532, PySem.W.Fast.te14289696077712309145, PySem.W.Fast.te1435165496053646825, PySem.W.Fast.te14364793385576792824, PySem.W.Fast.te5923862056798008813]; kernel_rfl))
open_top hd for PySem.Challenge.rw_qw0036_01
end Mine

end
section
open PySem PySem.Calls PySem.W PyProof.Rows
namespace Mine
noncomputable section

abbrev View := Addr → Option Obj
abbrev Mu := List (Addr × Obj)
abbrev Loc := List (Str × Value)
noncomputable def Le (V V' : View) : Prop := ∀ a o, V a = some o → V' a = some o
theorem Le.refl (V : View) : Le V V := fun _ _ h => h
theorem Le.trans {V V' V'' : View} (h : Le V V') (h' : Le V' V'') : Le V V'' := fun a o e => h' a o (h a o e)
noncomputable def put (V : View) (a : Addr) (o : Obj) : View := fun b => if b = a then some o else V b
theorem put_self (V : View) (a : Addr) (o : Obj) : put V a o a = some o := if_pos rfl
theorem put_ne {V : View} {a b : Addr} {o : Obj} (h : b ≠ a) : put V a o b = V b := if_neg h
theorem put_le {V : View} {a : Addr} {o : Obj} (h : V a = none) : Le V (put V a o) := fun b o' e => by
  by_cases hb : b = a
  · subst hb; rw [h] at e; cases e
  · rw [put_ne hb]; exact e

/-- what is held of a heap: base B, protected frames F, persistent V, mutable mu -/
structure Held (B F V : View) (mu : Mu) (h : Heap) : Prop where
  bs : Le B V
  sub : ∀ a o, V a = some o → h.get? a = some o
  fr : ∀ a o, F a = some o → ∃ sl, h.get? a = some { o with slots := sl }
  has : ∀ p ∈ mu, h.get? p.1 = some p.2
  vf : ∀ a o, F a = some o → V a = none
  vm : ∀ p ∈ mu, V p.1 = none
  fm : ∀ p ∈ mu, F p.1 = none
  nd : (mu.map (·.1)).Nodup

structure Cx where
  prog : Program
  w : World
  A : Around
  env : Env
  B : View
  F : View
  os : OsState
  X : Value → Shared → Prop

abbrev Cx.M (C : Cx) : Model := model C.prog C.w
abbrev Cx.L (C : Cx) : Addr := C.env.locals

structure Inv (C : Cx) (m : Loc) (V : View) (mu : Mu) (h : Heap) : Prop where
  held : Held C.B C.F V mu h
  ns : ∃ f, h.Ns C.env.locals f ∧ ∀ x v, m.lookup x = some v → f x = some v
  vl : V C.env.locals = none
  fl : C.F C.env.locals = none
  ml : ∀ p ∈ mu, p.1 ≠ C.env.locals

noncomputable def St (C : Cx) (m : Loc) (V : View) (mu : Mu) (s : Shared) : Prop := Inv C m V mu s.heap ∧ s.gens = #[] ∧ s.os = C.os

structure Tr (C : Cx) (m : Loc) (V : View) (mu : Mu) {α : Type} (t : Sem α) (P : α → Loc → View → Mu → Prop) : Prop where
  of ::
  run : ∀ s, St C m V mu s → wpAny C.M C.A t (fun v s' => ∃ m' V' mu', St C m' V' mu' s' ∧ P v m' V' mu') C.X s

section held
variable {B F V : View} {mu : Mu} {h h' : Heap}

theorem Held.keeps (H : Held B F V mu h) (k : ∀ b o, h.get? b = some o → h'.get? b = some o) : Held B F V mu h' :=
  ⟨H.bs, fun a o e => k _ _ (H.sub a o e), fun a o e => (H.fr a o e).imp fun _ => k _ _, fun p hp => k _ _ (H.has p hp), H.vf, H.vm, H.fm, H.nd⟩

theorem Held.outside (H : Held B F V mu h) {a : Addr} (k : ∀ b o, b ≠ a → h.get? b = some o → h'.get? b = some o) (hv : V a = none) (hf : F a = none) (hm : ∀ p ∈ mu, p.1 ≠ a) : Held B F V mu h' :=
  ⟨H.bs, fun b o e => k _ _ (fun q => by subst q; rw [hv] at e; cases e) (H.sub b o e), fun b o e => (H.fr b o e).imp fun _ => k _ _ (fun q => by subst q; rw [hf] at e; cases e),
    fun p hp => k _ _ (hm p hp) (H.has p hp), H.vf, H.vm, H.fm, H.nd⟩

theorem Held.fresh_V (H : Held B F V mu h) {a : Addr} (hn : h.get? a = none) : V a = none := by
  cases e : V a with
  | none => rfl
  | some o => rw [H.sub a o e] at hn; cases hn
theorem Held.fresh_F (H : Held B F V mu h) {a : Addr} (hn : h.get? a = none) : F a = none := by
  cases e : F a with
  | none => rfl
  | some o => obtain ⟨sl, q⟩ := H.fr a o e; rw [q] at hn; cases hn
theorem Held.fresh_mu (H : Held B F V mu h) {a : Addr} (hn : h.get? a = none) : ∀ p ∈ mu, p.1 ≠ a := fun p hp q => by
  subst q; rw [H.has p hp] at hn; cases hn

/-- a new persistent object -/
theorem Held.grow (H : Held B F V mu h) {a : Addr} {o : Obj} (hn : h.get? a = none) (k : ∀ b o, h.get? b = some o → h'.get? b = some o) (ha : h'.get? a = some o) : Held B F (put V a o) mu h' := by
  have v := H.fresh_V hn
  have f := H.fresh_F hn
  have m := H.fresh_mu hn
  refine ⟨H.bs.trans (put_le v), fun b o' e => ?_, fun b o' e => (H.fr b o' e).imp fun _ => k _ _, fun p hp => k _ _ (H.has p hp), fun b o' e => ?_, fun p hp => ?_, H.fm, H.nd⟩
  · by_cases q : b = a
    · subst q; rw [put_self] at e; cases e; exact ha
    · rw [put_ne q] at e; exact k _ _ (H.sub b o' e)
  · by_cases q : b = a
    · subst q; rw [f] at e; cases e
    · rw [put_ne q]; exact H.vf b o' e
  · rw [put_ne (m p hp)]; exact H.vm p hp

/-- a new mutable object -/
theorem Held.growMu (H : Held B F V mu h) {a : Addr} {o : Obj} (hn : h.get? a = none) (k : ∀ b o, h.get? b = some o → h'.get? b = some o) (ha : h'.get? a = some o) : Held B F V ((a, o) :: mu) h' := by
  have v := H.fresh_V hn
  have f := H.fresh_F hn
  have m := H.fresh_mu hn
  refine ⟨H.bs, fun b o' e => k _ _ (H.sub b o' e), fun b o' e => (H.fr b o' e).imp fun _ => k _ _, fun p hp => ?_, H.vf, fun p hp => ?_, fun p hp => ?_, ?_⟩
  · rcases List.mem_cons.mp hp with rfl | hp
    · exact ha
    · exact k _ _ (H.has p hp)
  · rcases List.mem_cons.mp hp with rfl | hp
    · exact v
    · exact H.vm p hp
  · rcases List.mem_cons.mp hp with rfl | hp
    · exact f
    · exact H.fm p hp
  · rw [List.map_cons]
    refine List.nodup_cons.mpr ⟨fun q => ?_, H.nd⟩
    obtain ⟨p, hp, e⟩ := List.mem_map.mp q
    exact m p hp e

noncomputable def Mu.set (mu : Mu) (a : Addr) (o : Obj) : Mu := mu.map fun p => if p.1 = a then (a, o) else p

theorem Mu.set_map (mu : Mu) (a : Addr) (o : Obj) : ((Mu.set mu a o).map (·.1)) = mu.map (·.1) := by
  unfold Mu.set
  rw [List.map_map]
  refine List.map_congr_left fun p _ => ?_
  show (if p.1 = a then (a, o) else p).1 = p.1
  split
  · rename_i q; exact q.symm
  · rfl

/-- a mutable object turned -/
theorem Held.upd (H : Held B F V mu h) {a : Addr} {o : Obj} (hs : Heap.SameBut a h h') (hv : V a = none) (hf : F a = none) (ha : h'.get? a = some o) : Held B F V (Mu.set mu a o) h' := by
  refine ⟨H.bs, fun b o' e => (hs.2 b fun q => by subst q; rw [hv] at e; cases e).trans (H.sub b o' e), fun b o' e => (H.fr b o' e).imp fun _ z => (hs.2 b fun q => by subst q; rw [hf] at e; cases e).trans z,
    fun p hp => ?_, H.vf, fun p hp => ?_, fun p hp => ?_, by rw [Mu.set_map]; exact H.nd⟩
  all_goals (obtain ⟨q, hq, e⟩ := List.mem_map.mp hp; split at e)
  · subst e; exact ha
  · rename_i ne; subst e; exact (hs.2 _ ne).trans (H.has _ hq)
  · subst e; exact hv
  · subst e; exact H.vm _ hq
  · subst e; exact hf
  · subst e; exact H.fm _ hq

/-- a mutable object laid to the persistent ones -/
theorem Held.freeze {a : Addr} {o : Obj} (H : Held B F V ((a, o) :: mu) h) : Held B F (put V a o) mu h := by
  have v := H.vm _ (List.mem_cons_self ..)
  have f := H.fm _ (List.mem_cons_self ..)
  have nd := H.nd
  rw [List.map_cons] at nd
  have nd' := List.nodup_cons.mp nd
  refine ⟨H.bs.trans (put_le v), fun b o' e => ?_, H.fr, fun p hp => H.has p (List.mem_cons_of_mem _ hp), fun b o' e => ?_, fun p hp => ?_, fun p hp => H.fm p (List.mem_cons_of_mem _ hp), nd'.2⟩
  · by_cases q : b = a
    · subst q; rw [put_self] at e; cases e; exact H.has _ (List.mem_cons_self ..)
    · rw [put_ne q] at e; exact H.sub b o' e
  · by_cases q : b = a
    · subst q; rw [f] at e; cases e
    · rw [put_ne q]; exact H.vf b o' e
  · have ne : p.1 ≠ a := fun q => nd'.1 (by
      show a ∈ List.map (fun x => x.1) mu
      rw [← q]; exact List.mem_map_of_mem (f := fun x : Addr × Obj => x.1) hp)
    rw [put_ne ne]; exact H.vm p (List.mem_cons_of_mem _ hp)

theorem Held.sub_mu (H : Held B F V mu h) {mu' : Mu} (hs : List.Sublist mu' mu) : Held B F V mu' h :=
  ⟨H.bs, H.sub, H.fr, fun p hp => H.has p (hs.subset hp), H.vf, fun p hp => H.vm p (hs.subset hp), fun p hp => H.fm p (hs.subset hp), H.nd.sublist (hs.map _)⟩
end held

-- the written part of the heap behind the top
abbrev K : Params → Frag := Mine.hd.heap_1
noncomputable def P0 : Params := { strHash := fun _ => 0, shareClass := fun _ => 0, mergeTok := id, idOf := fun _ => 0, idOfShared := fun _ _ => 0, followText := fun _ => false, idOfImm := fun _ => 0 }
noncomputable def fdAt (a : Addr) : FuncData := match (K P0).lookup a with
  | some ⟨_, _, .func fd, _⟩ => fd
  | _ => default
noncomputable def bodyAt (a : Addr) : List Stmt := match (fdAt a).body with
  | .stmts b => b
  | _ => []
noncomputable def fnO (fd : FuncData) : Obj := { cls := .type "function", data := .func fd }
noncomputable def gEnt (P : Params) : Array DictEntry := match (K P).lookup 3 with
  | some ⟨_, _, .dict es _, _⟩ => es
  | _ => #[]
noncomputable def gmap (P : Params) (x : Str) : Option Value := nsFind (gEnt P) x
noncomputable def strKeysB (es : Array DictEntry) : Bool := es.toList.all fun e => match e.key with | .str .. => true | _ => false
theorem strKeys_of {es : Array DictEntry} (h : strKeysB es = true) : StrKeys es := fun e he => by
  have := List.all_eq_true.mp h e (Array.mem_toList_iff.mpr he)
  cases hk : e.key with
  | str n t => exact ⟨n, t, rfl⟩
  | _ => rw [hk] at this; cases this
theorem K3 (P : Params) : (K P).lookup 3 = some ⟨.type "dict", none, .dict (gEnt P) 40, #[]⟩ := by kernel_rfl!
theorem gKeys (P : Params) : StrKeys (gEnt P) := strKeys_of (by kernel_rfl!)
theorem K2 (P : Params) : (K P).lookup 2 = some { cls := .none, data := .dict #[] } := by kernel_rfl!

/-- what stands at the bottom: the written part, the builtins -/
structure Gb (w : World) (B : View) : Prop where
  k : ∀ a o, (K w.params).lookup a = some o → B a = some o
  b : ∃ o es ep, B builtinsNs = some o ∧ o.data = .dict es ep ∧ StrKeys es ∧ ∀ x : Str, x ≠ "__name__" → nsFind es x = bootBuiltins x
  m : ∃ bm ob, gmap w.params "__builtins__" = some (.ref bm) ∧ bm ≠ builtinsNs ∧ bm ≠ mainGlobals ∧ B bm = some ob ∧ ob.cls = .type "module" ∧ ob.dict = some builtinsNs ∧ ob.data = .plain
theorem Gb.glob {w : World} {B : View} {h : Heap} (G : Gb w B) (k : ∀ a o, B a = some o → h.get? a = some o) : h.Ns mainGlobals (gmap w.params) :=
  ⟨_, _, _, k _ _ (G.k _ _ (K3 w.params)), rfl, gKeys _, fun _ => rfl⟩
theorem Gb.blt {w : World} {B : View} {h : Heap} (G : Gb w B) (k : ∀ a o, B a = some o → h.get? a = some o) : ∃ mb, h.Ns builtinsNs mb ∧ ∀ x : Str, x ≠ "__name__" → mb x = bootBuiltins x :=
  let ⟨o, es, ep, e, d, s, f⟩ := G.b; ⟨_, ⟨o, es, ep, k _ _ e, d, s, fun _ => rfl⟩, f⟩
theorem Gb.nolimit {w : World} {B : View} {h : Heap} (G : Gb w B) (k : ∀ a o, B a = some o → h.get? a = some o) : h.NoLimit :=
  ⟨fun _ => none, ⟨_, #[], 0, k _ _ (G.k _ _ (K2 w.params)), rfl, fun _ he => by simp at he, fun _ => rfl⟩, rfl⟩
theorem Held.base {B F V : View} {mu : Mu} {h : Heap} (H : Held B F V mu h) : ∀ a o, B a = some o → h.get? a = some o := fun a o e => H.sub a o (H.bs a o e)

/-- room for n calls more -/
structure Lv (n : Nat) (A : Around) : Prop where
  hd : A.handled = none
  dp : A.depth + n ≤ 900
  un : A.units + 20 * n ≤ 9000
theorem Lv.room {n : Nat} {A : Around} (h : Lv n A) : A.depth < recursionLimit := Nat.lt_of_le_of_lt (Nat.le_trans (Nat.le_add_right _ n) h.dp) (by decide)
theorem Lv.units {n : Nat} {A : Around} (h : Lv n A) : A.units < cLine := Nat.lt_of_le_of_lt (Nat.le_trans (Nat.le_add_right _ _) h.un) (by decide)
theorem Lv.deeper {n : Nat} {A : Around} (h : Lv (n + 1) A) (env : Env) : Lv n (A.deeper env) := ⟨h.hd, by have := h.dp; show A.depth + 1 + n ≤ 900; omega, by have := h.un; show A.units + 3 + 20 * n ≤ 9000; omega⟩
theorem Lv.le {n k : Nat} {A : Around} (h : Lv n A) (hk : k ≤ n) : Lv k A := ⟨h.hd, by have := h.dp; omega, by have := h.un; omega⟩

/-- the frames around are protected -/
noncomputable def FrOk (A : Around) (F : View) : Prop :=
  (∃ l, A.frames = some l ∧ ∀ env ∈ l, env.scope.kind ≠ .module ∧ ∃ L o, env.frame = some L ∧ F L = some o ∧ ∀ vs, o.data ≠ .fields vs) ∧ ∀ a o, F a = some o → ∃ es n, o.data = .dict es n
/-- a call gives what Post says -/
noncomputable def CallOk (prog : Program) (w : World) (B : View) (n : Nat) (f : Value) (args : Args) (V : View) (mu : Mu) (Post : Value → View → Mu → Prop) : Prop :=
  ∀ (A : Around) (F : View) (os : OsState) (s : Shared), Lv n A → FrOk A F → Held B F V mu s.heap → s.gens = #[] → s.os = os →
    codeAny (model prog w) A (.call f args) (fun r s' => match r with
      | .ok (.ret v) => ∃ V' mu', Held B F V' mu' s'.heap ∧ s'.gens = #[] ∧ s'.os = os ∧ Post v V' mu'
      | _ => False) s
end
end Mine

end
section
open PySem PySem.Calls PySem.W PyProof.Rows
namespace Mine
section
variable {C : Cx} {m : Loc} {V : View} {mu : Mu} {α β : Type}

theorem Tr.go {t : Sem α} {P : α → Loc → View → Mu → Prop} {Q : α → Shared → Prop} {s : Shared} (h : Tr C m V mu t P) (hs : St C m V mu s)
    (k : ∀ v m V mu s', St C m V mu s' → P v m V mu → Q v s') : wpAny C.M C.A t Q C.X s :=
  wpAny_mono (h.run s hs) (fun v s' ⟨m', V', mu', h1, h2⟩ => k v m' V' mu' s' h1 h2) (fun _ _ x => x)

theorem tr_pure {a : α} {P : α → Loc → View → Mu → Prop} (h : P a m V mu) : Tr C m V mu (pure a) P := .of <| fun _ hs => wpAny_pure ⟨_, _, _, hs, h⟩
theorem tr_bind {t : Sem α} {f : α → Sem β} {P : β → Loc → View → Mu → Prop} (h : Tr C m V mu t fun a m V mu => Tr C m V mu (f a) P) : Tr C m V mu (t >>= f) P :=
  .of <| fun _ hs => wpAny_bind (h.go hs fun _ _ _ _ s' h1 p1 => p1.run s' h1)
theorem tr_mono {t : Sem α} {P P' : α → Loc → View → Mu → Prop} (h : Tr C m V mu t P) (k : ∀ a m V mu, P a m V mu → P' a m V mu) : Tr C m V mu t P' :=
  .of <| fun _ hs => h.go hs fun v m V mu _ h1 p => ⟨m, V, mu, h1, k v m V mu p⟩
theorem tr_holding {vs : List Value} {t : Sem α} {P : α → Loc → View → Mu → Prop} (h : Tr C m V mu t P) : Tr C m V mu (holding vs t) P := .of <| fun s hs => wpAny_holding (h.run s hs)
theorem tr_eq {t t' : Sem α} {P : α → Loc → View → Mu → Prop} (e : t = t') (h : Tr C m V mu t' P) : Tr C m V mu t P := e ▸ h

/-- what is known may be forgotten -/
theorem Inv.weaken {h : Heap} {m' : Loc} {V' : View} {mu' : Mu} (H : Inv C m V mu h) (hm : ∀ x v, m'.lookup x = some v → m.lookup x = some v) (hb : Le C.B V') (hV : Le V' V) (hmu : List.Sublist mu' mu) : Inv C m' V' mu' h := by
  have H1 := H.held.sub_mu hmu
  have out : ∀ a, V a = none → V' a = none := fun a e => by
    cases q : V' a with
    | none => rfl
    | some o => rw [hV a o q] at e; cases e
  obtain ⟨f, hn, hf⟩ := H.ns
  exact ⟨⟨hb, fun a o e => H1.sub a o (hV a o e), H1.fr, H1.has, fun a o e => out _ (H1.vf a o e), fun p hp => out _ (H1.vm p hp), H1.fm, H1.nd⟩, ⟨f, hn, fun x v e => hf x v (hm x v e)⟩, out _ H.vl, H.fl, fun p hp => H.ml p (hmu.subset hp)⟩
theorem tr_weaken {t : Sem α} {P : α → Loc → View → Mu → Prop} {m' : Loc} (hm : ∀ x v, m'.lookup x = some v → m.lookup x = some v) (h : Tr C m' V mu t P) : Tr C m V mu t P :=
  .of <| fun s hs => h.run s ⟨hs.1.weaken hm hs.1.held.bs (Le.refl _) (List.Sublist.refl _), hs.2⟩
noncomputable def LocSub : Loc → Loc → Prop
  | [], _ => True
  | (x, v) :: r, m => m.lookup x = some v ∧ LocSub r m
theorem LocSub.sub : ∀ {m' m : Loc}, LocSub m' m → ∀ x v, m'.lookup x = some v → m.lookup x = some v
  | [], _, _, _, _, e => nomatch e
  | (y, u) :: r, m, h, x, v, e => by
    rw [List.lookup_cons] at e
    by_cases q : (x == y) = true
    · rw [q] at e; cases e; rw [beq_iff_eq.mp q]; exact h.1
    · rw [Bool.not_eq_true] at q
      rw [q] at e; exact LocSub.sub h.2 x v e

/-- a step that leaves the heap as it is -/
theorem tr_same {t : Sem α} {P : α → Loc → View → Mu → Prop} (h : ∀ s, St C m V mu s → ∀ Q : α → Shared → Prop, (∀ v tk, P v m V mu → Q v { s with toks := tk }) → wpAny C.M C.A t Q C.X s) : Tr C m V mu t P :=
  .of <| fun s hs => h s hs _ fun _ _ p => ⟨m, V, mu, hs, p⟩
theorem St.toks {s : Shared} (hs : St C m V mu s) (tk : Nat) : St C m V mu { s with toks := tk } := hs
theorem Inv.keeps {h h' : Heap} (H : Inv C m V mu h) (k : ∀ b o, h.get? b = some o → h'.get? b = some o) : Inv C m V mu h' :=
  ⟨H.held.keeps k, let ⟨f, hn, hf⟩ := H.ns; ⟨f, hn.keeps k, hf⟩, H.vl, H.fl, H.ml⟩
theorem St.keeps {s : Shared} {h' : Heap} {tk : Nat} (hs : St C m V mu s) (k : ∀ b o, s.heap.get? b = some o → h'.get? b = some o) : St C m V mu { s with heap := h', toks := tk } := ⟨hs.1.keeps k, hs.2⟩

/-- the frame's own facts -/
noncomputable def FrC (C : Cx) : Prop := (∃ l, C.A.frames = some l ∧ ∀ env ∈ l, env.scope.kind ≠ .module ∧ ∃ L, env.frame = some L ∧ (L = C.env.locals ∨ ∃ o, C.F L = some o ∧ ∀ vs, o.data ≠ .fields vs)) ∧ ∀ a o, C.F a = some o → ∃ es n, o.data = .dict es n
structure Fm (C : Cx) (sc : Scope) (n : Nat) : Prop where
  scp : C.env.scope = sc
  fn : sc.kind = .function
  gl : C.env.globals = mainGlobals
  bi : C.env.builtins = builtinsNs
  gb : Gb C.w C.B
  lv : Lv n C.A
  fr : FrC C

theorem Fm.kind {sc : Scope} {n : Nat} (hC : Fm C sc n) : C.env.scope.kind = .function := by rw [hC.scp]; exact hC.fn
theorem Fm.kindOf {sc : Scope} {n : Nat} (hC : Fm C sc n) {x : Str} {k : NameKind} (h : sc.names.lookup x = some k) : C.env.kindOf x = some k := by
  show C.env.scope.names.lookup x = some k
  rw [hC.scp]; exact h

-- names
theorem tr_ldl {sc : Scope} {n : Nat} (hC : Fm C sc n) {x : Str} {v : Value} {P : Value → Loc → View → Mu → Prop} (hl : sc.names.lookup x = some .local) (hv : m.lookup x = some v) (h : P v m V mu) :
    Tr C m V mu (loadName C.env x) P := .of <| fun s hs => by
  obtain ⟨f, hn, hf⟩ := hs.1.ns
  exact wpAny_loadName_local hC.kind (hC.kindOf hl) hn (hf _ _ hv) ⟨_, _, _, hs, h⟩
theorem tr_Name {x : Str} {pos : Pos} {P : Value → Loc → View → Mu → Prop} (h : Tr C m V mu (loadName C.env x) P) (hd : (x == ("__debug__" : Str)) = false := by decide) : Tr C m V mu (eval (.Name x pos) C.env) P :=
  .of <| fun s hs => wpAny_Name (h.run s hs) hd
theorem tr_local {sc : Scope} {n : Nat} (hC : Fm C sc n) {x : Str} {pos : Pos} {v : Value} {P : Value → Loc → View → Mu → Prop} (hl : sc.names.lookup x = some .local) (hv : m.lookup x = some v) (h : P v m V mu)
    (hd : (x == ("__debug__" : Str)) = false := by decide) : Tr C m V mu (eval (.Name x pos) C.env) P := tr_Name (tr_ldl hC hl hv h) hd

noncomputable def cellO (v : Value) : Obj := { cls := .type "cell", data := .cell (some v) }
noncomputable def cellN : Obj := { cls := .type "cell", data := .cell none }

/-- an object that is known -/
noncomputable def Known (C : Cx) (V : View) (mu : Mu) (a : Addr) (o : Obj) : Prop := V a = some o ∨ (a, o) ∈ mu
theorem Inv.known {h : Heap} {a : Addr} {o : Obj} (H : Inv C m V mu h) (k : Known C V mu a o) : h.get? a = some o := by
  rcases k with k | k
  · exact H.held.sub a o k
  · exact H.held.has _ k

theorem tr_ldc {sc : Scope} {n : Nat} (hC : Fm C sc n) {x : Str} {c : Addr} {v : Value} {P : Value → Loc → View → Mu → Prop} (hl : sc.names.lookup x = some .cell) (hc : C.env.cells.lookup x = some c) (hk : Known C V mu c (cellO v)) (h : P v m V mu) :
    Tr C m V mu (loadName C.env x) P := .of <| fun _ hs =>
  wpAny_loadName_cell hC.kind (hC.kindOf hl) hc ⟨_, hs.1.known hk, rfl⟩ ⟨_, _, _, hs, h⟩
theorem tr_ldf {sc : Scope} {n : Nat} (hC : Fm C sc n) {x : Str} {c : Addr} {v : Value} {P : Value → Loc → View → Mu → Prop} (hl : sc.names.lookup x = some .free) (hc : C.env.cells.lookup x = some c) (hk : Known C V mu c (cellO v)) (h : P v m V mu)
    (hn : (x == ("__classdict__" : Str)) = false := by decide) : Tr C m V mu (loadName C.env x) P := .of <| fun _ hs =>
  wpAny_loadName_free hC.kind (hC.kindOf hl) hc ⟨_, hs.1.known hk, rfl⟩ ⟨_, _, _, hs, h⟩ hn
theorem tr_cell {sc : Scope} {n : Nat} (hC : Fm C sc n) {x : Str} {pos : Pos} {c : Addr} {v : Value} {P : Value → Loc → View → Mu → Prop} (hl : sc.names.lookup x = some .cell) (hc : C.env.cells.lookup x = some c) (hk : Known C V mu c (cellO v)) (h : P v m V mu)
    (hd : (x == ("__debug__" : Str)) = false := by decide) : Tr C m V mu (eval (.Name x pos) C.env) P := tr_Name (tr_ldc hC hl hc hk h) hd
theorem tr_free {sc : Scope} {n : Nat} (hC : Fm C sc n) {x : Str} {pos : Pos} {c : Addr} {v : Value} {P : Value → Loc → View → Mu → Prop} (hl : sc.names.lookup x = some .free) (hc : C.env.cells.lookup x = some c) (hk : Known C V mu c (cellO v)) (h : P v m V mu)
    (hn : (x == ("__classdict__" : Str)) = false := by decide) (hd : (x == ("__debug__" : Str)) = false := by decide) : Tr C m V mu (eval (.Name x pos) C.env) P := tr_Name (tr_ldf hC hl hc hk h hn) hd

theorem tr_glob {sc : Scope} {n : Nat} (hC : Fm C sc n) {x : Str} {pos : Pos} {v : Value} {P : Value → Loc → View → Mu → Prop} (hl : sc.names.lookup x = some .globalImplicit) (hv : gmap C.w.params x = some v) (h : P v m V mu)
    (hd : (x == ("__debug__" : Str)) = false := by decide) : Tr C m V mu (eval (.Name x pos) C.env) P := .of <| fun s hs =>
  Calls.Name_function_global hC.kind (hC.kindOf hl) (Calls.loadGlobal_global (by rw [hC.gl]; exact hC.gb.glob hs.1.held.base) hv ⟨m, V, mu, hs, h⟩) hd
theorem tr_blt {sc : Scope} {n : Nat} (hC : Fm C sc n) {x : Str} {pos : Pos} {v : Value} {P : Value → Loc → View → Mu → Prop} (hl : sc.names.lookup x = some .globalImplicit) (hv : gmap C.w.params x = none) (hb : bootBuiltins x = some v) (h : P v m V mu)
    (hd : (x == ("__debug__" : Str)) = false := by decide) (hn : x ≠ "__name__" := by decide) : Tr C m V mu (eval (.Name x pos) C.env) P := .of <| fun s hs => by
  obtain ⟨mb, hN, hf⟩ := hC.gb.blt hs.1.held.base
  exact Calls.Name_function_global hC.kind (hC.kindOf hl) (Calls.loadGlobal_builtin (by rw [hC.gl]; exact hC.gb.glob hs.1.held.base) hv (by rw [hC.bi]; exact hN) ((hf x hn).trans hb) ⟨m, V, mu, hs, h⟩) hd

-- stores
theorem tr_stl {sc : Scope} {n : Nat} (hC : Fm C sc n) {x : Str} {v : Value} {P : Unit → Loc → View → Mu → Prop} (hl : sc.names.lookup x = some .local) (h : P () ((x, v) :: m) V mu) :
    Tr C m V mu (storeName C.env x v) P := .of <| fun s hs => by
  obtain ⟨f, hn, hf⟩ := hs.1.ns
  refine wpAny_storeName_local (hC.kindOf hl) hn (fun h' hn' hsb => ⟨_, V, mu, ⟨⟨hs.1.held.outside (a := C.env.locals) (fun b o hb e => (hsb.2 b hb).trans e) hs.1.vl hs.1.fl hs.1.ml, ⟨_, hn', fun y u e => ?_⟩, hs.1.vl, hs.1.fl, hs.1.ml⟩, hs.2⟩, h⟩) (by rw [hC.kind]; rfl)
  rw [List.lookup_cons] at e
  by_cases q : y = x
  · rw [if_pos q]; rw [q, beq_self_eq_true] at e; exact e
  · rw [if_neg q]; rw [beq_eq_false_iff_ne.mpr q] at e; exact hf y u e
theorem Inv.upd {h h' : Heap} {a : Addr} {o o' : Obj} (H : Inv C m V mu h) (hm : (a, o) ∈ mu) (hs : Heap.SameBut a h h') (ha : h'.get? a = some o') : Inv C m V (Mu.set mu a o') h' := by
  obtain ⟨f, hn, hf⟩ := H.ns
  refine ⟨H.held.upd hs (H.held.vm _ hm) (H.held.fm _ hm) ha, ⟨f, hn.sameBut hs (H.ml _ hm).symm, hf⟩, H.vl, H.fl, fun p hp => ?_⟩
  obtain ⟨q, hq, e⟩ := List.mem_map.mp hp
  split at e
  · subst e; exact H.ml (a, o) hm
  · subst e; exact H.ml _ hq
theorem tr_stc {sc : Scope} {n : Nat} (hC : Fm C sc n) {x : Str} {c : Addr} {v : Value} {v₀ : Option Value} {P : Unit → Loc → View → Mu → Prop} (hl : sc.names.lookup x = some .cell) (hc : C.env.cells.lookup x = some c)
    (hk : (c, ({ cls := .type "cell", data := .cell v₀ } : Obj)) ∈ mu) (h : P () m V (Mu.set mu c (cellO v))) : Tr C m V mu (storeName C.env x v) P := .of <| fun s hs => by
  have ho := hs.1.held.has _ hk
  unfold storeName
  simp only [hC.kindOf hl, hC.kind]
  refine wpAny_bind (wpAny_cellOf hc ?_)
  unfold cellSet
  refine wpAny_bind (wpAny_load ho ?_)
  exact wpAny_update ho ⟨m, V, _, ⟨hs.1.upd hk (Heap.SameBut.update ..) (Heap.get?_update_self _ ho rfl), hs.2⟩, h⟩

-- constants
theorem tr_int {i : Int} {k : Nat} {pos : Pos} {P : Value → Loc → View → Mu → Prop} (h : ∀ tk, P (.int i tk) m V mu) : Tr C m V mu (eval (.Constant (.int i) k pos) C.env) P :=
  .of <| fun s hs => wpAny_Constant_int ⟨m, V, mu, hs, h _⟩
theorem tr_str {x : Str} {k : Nat} {pos : Pos} {P : Value → Loc → View → Mu → Prop} (h : ∀ tk, P (.str x tk) m V mu) : Tr C m V mu (eval (.Constant (.str x) k pos) C.env) P :=
  .of <| fun s hs => Calls.Constant_str ⟨m, V, mu, hs, h _⟩
theorem tr_none {k : Nat} {pos : Pos} {P : Value → Loc → View → Mu → Prop} (h : P .none m V mu) : Tr C m V mu (eval (.Constant .none k pos) C.env) P :=
  .of <| fun s hs => wpAny_pure ⟨m, V, mu, hs, h⟩
theorem tr_bool {b : Bool} {k : Nat} {pos : Pos} {P : Value → Loc → View → Mu → Prop} (h : P (.bool b) m V mu) : Tr C m V mu (eval (.Constant (.bool b) k pos) C.env) P :=
  .of <| fun s hs => wpAny_pure ⟨m, V, mu, hs, h⟩
theorem tr_bytes {b : List UInt8} {k : Nat} {pos : Pos} {P : Value → Loc → View → Mu → Prop} (h : ∀ tk, P (.bytes b.toArray tk) m V mu) : Tr C m V mu (eval (.Constant (.bytes b) k pos) C.env) P :=
  .of <| fun s hs => fun _ _ _ => ⟨m, V, mu, hs, h _⟩

-- what is still to be done, by name (small terms)
abbrev BoP2 (C : Cx) (op : Operator) (a : Value) (P : Value → Loc → View → Mu → Prop) : Value → Loc → View → Mu → Prop := fun b m V mu => Tr C m V mu (binaryOp op a b) P
abbrev BoP (C : Cx) (op : Operator) (r : Expr) (P : Value → Loc → View → Mu → Prop) : Value → Loc → View → Mu → Prop := fun a m V mu => Tr C m V mu (eval r C.env) (BoP2 C op a P)
abbrev UoP (C : Cx) (op : UnaryOp) (P : Value → Loc → View → Mu → Prop) : Value → Loc → View → Mu → Prop := fun a m V mu => Tr C m V mu (unaryOp op a) P
abbrev CmP2 (C : Cx) (op : CmpOp) (a : Value) (P : Value → Loc → View → Mu → Prop) : Value → Loc → View → Mu → Prop := fun b m V mu => Tr C m V mu (compareOp op a b) P
abbrev CmP (C : Cx) (op : CmpOp) (r : Expr) (P : Value → Loc → View → Mu → Prop) : Value → Loc → View → Mu → Prop := fun a m V mu => Tr C m V mu (eval r C.env) (CmP2 C op a P)
abbrev TtP (C : Cx) (P : Bool → Loc → View → Mu → Prop) : Value → Loc → View → Mu → Prop := fun c m V mu => Tr C m V mu (truthy c) P
abbrev NoP (P : Bool → Loc → View → Mu → Prop) : Bool → Loc → View → Mu → Prop := fun b => P (!b)
abbrev AnP (C : Cx) (rest : List Expr) (P : Bool → Loc → View → Mu → Prop) : Bool → Loc → View → Mu → Prop := fun b m V mu => (b = true → Tr C m V mu (allTrue .And rest C.env) P) ∧ (b = false → P false m V mu)
abbrev OrP (C : Cx) (rest : List Expr) (P : Bool → Loc → View → Mu → Prop) : Bool → Loc → View → Mu → Prop := fun b m V mu => (b = true → P true m V mu) ∧ (b = false → Tr C m V mu (allTrue .Or rest C.env) P)
abbrev IeP (C : Cx) (body orelse : Expr) (P : Value → Loc → View → Mu → Prop) : Bool → Loc → View → Mu → Prop := fun b m V mu => (b = true → Tr C m V mu (eval body C.env) P) ∧ (b = false → Tr C m V mu (eval orelse C.env) P)
abbrev CaP (C : Cx) (f : Value) (P : Value → Loc → View → Mu → Prop) : List Value → Loc → View → Mu → Prop := fun vs m V mu => Tr C m V mu (call f vs) P
abbrev CcP (C : Cx) (f x : Value) (P : Value → Loc → View → Mu → Prop) : List Value → Loc → View → Mu → Prop := fun vs m V mu => Tr C m V mu (call f (x :: vs)) P
abbrev CoP (v : Value) (P : List Value → Loc → View → Mu → Prop) : List Value → Loc → View → Mu → Prop := fun vs => P (v :: vs)
abbrev IgP {α : Type} (N : Loc → View → Mu → Prop) : α → Loc → View → Mu → Prop := fun _ => N
-- operators
theorem tr_BinOp {l r : Expr} {op : Operator} {pos : Pos} {P : Value → Loc → View → Mu → Prop}
    (h : Tr C m V mu (eval l C.env) (BoP C op r P)) : Tr C m V mu (eval (.BinOp l op r pos) C.env) P :=
  .of <| fun _ hs => wpAny_BinOp (h.go hs fun _ _ _ _ s1 h1 p1 => p1.go h1 fun _ _ _ _ s2 h2 p2 => p2.run s2 h2)
theorem tr_UnaryOp {x : Expr} {op : UnaryOp} {pos : Pos} {P : Value → Loc → View → Mu → Prop}
    (h : Tr C m V mu (eval x C.env) (UoP C op P)) : Tr C m V mu (eval (.UnaryOp op x pos) C.env) P :=
  .of <| fun _ hs => wpAny_UnaryOp (h.go hs fun _ _ _ _ s1 h1 p1 => p1.run s1 h1)
theorem tr_Compare {l r : Expr} {op : CmpOp} {pos : Pos} {P : Value → Loc → View → Mu → Prop}
    (h : Tr C m V mu (eval l C.env) (CmP C op r P))
    (hm : behindInMarks op r = false := by with_unfolding_all rfl) : Tr C m V mu (eval (.Compare l [op] [r] pos) C.env) P :=
  .of <| fun _ hs => wpAny_Compare1 (h.go hs fun _ _ _ _ s1 h1 p1 => p1.go h1 fun _ _ _ _ s2 h2 p2 => p2.run s2 h2) hm
theorem tr_isCompare {l r : Expr} {op : CmpOp} {pos : Pos} {whole : Sem Value} {P : Bool → Loc → View → Mu → Prop}
    (h : Tr C m V mu (eval l C.env) (CmP C op r (TtP C P)))
    (hm : behindInMarks op r = false := by with_unfolding_all rfl) : Tr C m V mu (isTrue (.Compare l [op] [r] pos) C.env whole) P :=
  .of <| fun _ hs => wpAny_isTrue_Compare1 (h.go hs fun _ _ _ _ s1 h1 p1 => p1.go h1 fun _ _ _ _ s2 h2 p2 => p2.go h2 fun _ _ _ _ s3 h3 p3 => p3.run s3 h3) hm
theorem tr_isNot {x : Expr} {pos : Pos} {whole : Sem Value} {P : Bool → Loc → View → Mu → Prop}
    (h : Tr C m V mu (isTrue x C.env (eval x C.env)) (NoP P)) : Tr C m V mu (isTrue (.UnaryOp .Not x pos) C.env whole) P :=
  .of <| fun _ hs => wpAny_isTrue_Not (h.run _ hs)
theorem tr_isBool {op : BoolOp} {values : List Expr} {pos : Pos} {whole : Sem Value} {P : Bool → Loc → View → Mu → Prop} (h : Tr C m V mu (allTrue op values C.env) P) : Tr C m V mu (isTrue (.BoolOp op values pos) C.env whole) P :=
  .of <| fun _ hs => wpAny_isTrue_BoolOp (h.run _ hs)
theorem tr_and_nil {P : Bool → Loc → View → Mu → Prop} (h : P true m V mu) : Tr C m V mu (allTrue .And [] C.env) P := .of <| fun _ hs => wpAny_allTrue_And_nil ⟨m, V, mu, hs, h⟩
theorem tr_or_nil {P : Bool → Loc → View → Mu → Prop} (h : P false m V mu) : Tr C m V mu (allTrue .Or [] C.env) P := .of <| fun _ hs => wpAny_allTrue_Or_nil ⟨m, V, mu, hs, h⟩
theorem tr_and {x : Expr} {rest : List Expr} {P : Bool → Loc → View → Mu → Prop}
    (h : Tr C m V mu (isTrue x C.env (eval x C.env)) (AnP C rest P)) : Tr C m V mu (allTrue .And (x :: rest) C.env) P :=
  .of <| fun _ hs => wpAny_allTrue_And_cons (h.go hs fun b m V mu s1 h1 p1 => by
    cases b
    · exact ⟨m, V, mu, h1, p1.2 rfl⟩
    · exact (p1.1 rfl).run s1 h1)
theorem tr_or {x : Expr} {rest : List Expr} {P : Bool → Loc → View → Mu → Prop}
    (h : Tr C m V mu (isTrue x C.env (eval x C.env)) (OrP C rest P)) : Tr C m V mu (allTrue .Or (x :: rest) C.env) P :=
  .of <| fun _ hs => wpAny_allTrue_Or_cons (h.go hs fun b m V mu s1 h1 p1 => by
    cases b
    · exact (p1.2 rfl).run s1 h1
    · exact ⟨m, V, mu, h1, p1.1 rfl⟩)
theorem tr_isVal {e : Expr} {P : Bool → Loc → View → Mu → Prop} (h : Tr C m V mu (eval e C.env) (TtP C P))
    (he : isTrue e C.env (eval e C.env) = (do let v ← eval e C.env; standAt e.pos; holding [v] (truthy v)) := by rfl) : Tr C m V mu (isTrue e C.env (eval e C.env)) P :=
  .of <| fun _ hs => wpAny_isTrue_value (h.go hs fun _ _ _ _ s1 h1 p1 => p1.run s1 h1) he
theorem tr_IfExp {test body orelse : Expr} {pos : Pos} {P : Value → Loc → View → Mu → Prop}
    (h : Tr C m V mu (isTrue test C.env (eval test C.env)) (IeP C body orelse P)) : Tr C m V mu (eval (.IfExp test body orelse pos) C.env) P :=
  .of <| fun _ hs => wpAny_IfExp (h.go hs fun b m V mu s1 h1 p1 => by
    cases b
    · exact (p1.2 rfl).run s1 h1
    · exact (p1.1 rfl).run s1 h1)
theorem tr_Or2 {x y : Expr} {pos : Pos} {P : Value → Loc → View → Mu → Prop}
    (h : Tr C m V mu (eval x C.env) fun v m V mu => Tr C m V mu (truthy v) fun b m V mu => (b = true → P v m V mu) ∧ (b = false → Tr C m V mu (eval y C.env) P)) : Tr C m V mu (eval (.BoolOp .Or [x, y] pos) C.env) P :=
  .of <| fun _ hs => wpAny_Or2 (h.go hs fun v _ _ _ s1 h1 p1 => p1.go h1 fun b m V mu s2 h2 p2 => by
    cases b
    · exact (p2.2 rfl).run s2 h2
    · exact ⟨m, V, mu, h2, p2.1 rfl⟩)

-- statements
noncomputable def TrS (C : Cx) (m : Loc) (V : View) (mu : Mu) (t : Sem Flow) (N : Loc → View → Mu → Prop) (R : Value → View → Mu → Prop) (Bk Ct : Loc → View → Mu → Prop) : Prop :=
  Tr C m V mu t fun f m V mu => match f with | .next => N m V mu | .ret v => R v V mu | .brk => Bk m V mu | .cont => Ct m V mu
variable {N Bk Ct : Loc → View → Mu → Prop} {R : Value → View → Mu → Prop}
abbrev TN (C : Cx) (rest : List Stmt) (N : Loc → View → Mu → Prop) (R : Value → View → Mu → Prop) (Bk Ct : Loc → View → Mu → Prop) : Loc → View → Mu → Prop := fun m V mu => TrS C m V mu (execs rest C.env) N R Bk Ct
abbrev IfP (C : Cx) (body orelse : List Stmt) (N : Loc → View → Mu → Prop) (R : Value → View → Mu → Prop) (Bk Ct : Loc → View → Mu → Prop) : Bool → Loc → View → Mu → Prop := fun b m V mu => (b = true → TN C body N R Bk Ct m V mu) ∧ (b = false → TN C orelse N R Bk Ct m V mu)
abbrev StP (C : Cx) (x : Str) (N : Loc → View → Mu → Prop) : Value → Loc → View → Mu → Prop := fun v m V mu => Tr C m V mu (storeName C.env x v) (IgP N)
abbrev RtP (R : Value → View → Mu → Prop) : Value → Loc → View → Mu → Prop := fun v _ => R v
theorem ts_nil (h : N m V mu) : TrS C m V mu (execs [] C.env) N R Bk Ct := .of <| fun _ hs => wpAny_execs_nil ⟨m, V, mu, hs, h⟩
theorem ts_cons {st : Stmt} {rest : List Stmt} (h : TrS C m V mu (exec st C.env) (TN C rest N R Bk Ct) R Bk Ct) : TrS C m V mu (execs (st :: rest) C.env) N R Bk Ct :=
  .of <| fun _ hs => wpAny_execs_cons (Tr.go h hs fun f m V mu s1 h1 p1 => by
    cases f with
    | next => exact p1.run s1 h1
    | brk => exact ⟨m, V, mu, h1, p1⟩
    | cont => exact ⟨m, V, mu, h1, p1⟩
    | ret v => exact ⟨m, V, mu, h1, p1⟩)
theorem ts_Assign {x : Str} {pos' pos : Pos} {value : Expr} (h : Tr C m V mu (eval value C.env) (StP C x N))
    (hs : swapsWith value (some (.Name x pos')) pos.line C.env = pure false := by rfl) : TrS C m V mu (exec (.Assign [.Name x pos'] value pos) C.env) N R Bk Ct :=
  .of <| fun _ hs' => wpAny_Assign_Name (h.go hs' fun _ _ _ _ s1 h1 p1 => p1.go h1 fun _ m V mu s2 h2 p2 => ⟨m, V, mu, h2, p2⟩) hs
theorem ts_Aug {x : Str} {pos' pos : Pos} {op : Operator} {value : Expr} (h : Tr C m V mu (loadName C.env x) fun old m V mu => Tr C m V mu (eval value C.env) fun v m V mu => Tr C m V mu (inplaceOp op old v) fun r m V mu => Tr C m V mu (storeName C.env x r) fun _ m V mu => N m V mu) :
    TrS C m V mu (exec (.AugAssign (.Name x pos') op value pos) C.env) N R Bk Ct :=
  .of <| fun _ hs' => wpAny_AugAssign_Name (h.go hs' fun _ _ _ _ s1 h1 p1 => p1.go h1 fun _ _ _ _ s2 h2 p2 => p2.go h2 fun _ _ _ _ s3 h3 p3 => p3.go h3 fun _ m V mu s4 h4 p4 => ⟨m, V, mu, h4, p4⟩)
theorem ts_If {test : Expr} {body orelse : List Stmt} {pos : Pos} (h : Tr C m V mu (isTrue test C.env (eval test C.env)) (IfP C body orelse N R Bk Ct)) :
    TrS C m V mu (exec (.If test body orelse pos) C.env) N R Bk Ct :=
  .of <| fun _ hs => wpAny_If (h.go hs fun b m V mu s1 h1 p1 => by
    cases b
    · exact (p1.2 rfl).run s1 h1
    · exact (p1.1 rfl).run s1 h1)
theorem ts_Return {e : Expr} {pos : Pos} (h : Tr C m V mu (eval e C.env) (RtP R)) : TrS C m V mu (exec (.Return (some e) pos) C.env) N R Bk Ct :=
  .of <| fun _ hs => wpAny_Return_some (h.go hs fun _ m V mu _ h1 p1 => ⟨m, V, mu, h1, p1⟩)
theorem ts_Continue {pos : Pos} (h : Ct m V mu) : TrS C m V mu (exec (.Continue pos) C.env) N R Bk Ct := .of <| fun _ hs => wpAny_Continue ⟨m, V, mu, hs, h⟩
theorem ts_Assert {test : Expr} {msg : Option Expr} {pos : Pos} (h : Tr C m V mu (isTrue test C.env (eval test C.env)) fun b m V mu => b = true ∧ N m V mu) : TrS C m V mu (exec (.Assert test msg pos) C.env) N R Bk Ct :=
  .of <| fun _ hs => wpAny_Assert_holds (h.go hs fun _ m V mu _ h1 p1 => ⟨p1.1, m, V, mu, h1, p1.2⟩)
theorem ts_mono {t : Sem Flow} {N' Bk' Ct' : Loc → View → Mu → Prop} {R' : Value → View → Mu → Prop} (h : TrS C m V mu t N R Bk Ct) (hN : ∀ m V mu, N m V mu → N' m V mu) (hR : ∀ v V mu, R v V mu → R' v V mu)
    (hB : ∀ m V mu, Bk m V mu → Bk' m V mu) (hc : ∀ m V mu, Ct m V mu → Ct' m V mu) : TrS C m V mu t N' R' Bk' Ct' :=
  tr_mono h fun f m V mu p => by
    cases f with
    | next => exact hN _ _ _ p
    | brk => exact hB _ _ _ p
    | cont => exact hc _ _ _ p
    | ret v => exact hR _ _ _ p
end
end Mine

end
section
open PySem PySem.Calls PySem.W PyProof.Rows
namespace Mine
noncomputable section
section
variable {C : Cx} {m : Loc} {V : View} {mu : Mu} {α β : Type}

theorem tr_args_nil {pos : Pos} {P : List Value → Loc → View → Mu → Prop} (h : P [] m V mu) : Tr C m V mu (spliced (backTo pos (starEach [] C.env))) P := .of <| fun _ hs => args_nil ⟨m, V, mu, hs, h⟩
abbrev PoS (y : Str) (V : View) (mu : Mu) (v : Value) (V' : View) (mu' : Mu) : Prop := Le V V' ∧ mu' = mu ∧ ∃ tk, v = .str y tk
abbrev PoB (b : Array UInt8) (V : View) (mu : Mu) (v : Value) (V' : View) (mu' : Mu) : Prop := Le V V' ∧ mu' = mu ∧ ∃ tk, v = .bytes b tk
abbrev ArP (C : Cx) (pos : Pos) (rest : List Expr) (P : List Value → Loc → View → Mu → Prop) : Value → Loc → View → Mu → Prop := fun v m V mu => Tr C m V mu (spliced (backTo pos (starEach rest C.env))) (CoP v P)
abbrev NlP (C : Cx) (P : Value → Loc → View → Mu → Prop) : List Value → Loc → View → Mu → Prop := fun vs m V mu => Tr C m V mu (newList vs) P
abbrev NtP (C : Cx) (P : Value → Loc → View → Mu → Prop) : List Value → Loc → View → Mu → Prop := fun vs m V mu => Tr C m V mu (newTuple vs) P
abbrev CwP (C : Cx) (pos : Pos) (args : List Expr) (P : Value → Loc → View → Mu → Prop) : Value → Loc → View → Mu → Prop := fun f m V mu => Tr C m V mu (callWith pos f [] (backTo pos (starEach args C.env)) []) P
theorem tr_args {e : Expr} {rest : List Expr} {pos : Pos} {P : List Value → Loc → View → Mu → Prop}
    (h : Tr C m V mu (eval e C.env) (ArP C pos rest P))
    (he : starEach (e :: rest) C.env = (false, eval e C.env) :: starEach rest C.env := by rfl) : Tr C m V mu (spliced (backTo pos (starEach (e :: rest) C.env))) P :=
  .of <| fun _ hs => args_cons (h.go hs fun _ _ _ _ s1 h1 p1 => p1.run s1 h1) he
theorem tr_List {elts : List Expr} {pos : Pos} {P : Value → Loc → View → Mu → Prop} (h : Tr C m V mu (spliced (backTo pos (starEach elts C.env))) (NlP C P)) : Tr C m V mu (eval (.List elts pos) C.env) P :=
  .of <| fun _ hs => List_ (h.go hs fun _ _ _ _ s1 h1 p1 => p1.run s1 h1)
theorem tr_Tuple {elts : List Expr} {k : Nat} {pos : Pos} {P : Value → Loc → View → Mu → Prop} (h : Tr C m V mu (spliced (backTo pos (starEach elts C.env))) (NtP C P)) : Tr C m V mu (eval (.Tuple elts k pos) C.env) P :=
  .of <| fun _ hs => Tuple_ (h.go hs fun _ _ _ _ s1 h1 p1 => p1.run s1 h1)
theorem tr_Call {func : Expr} {args : List Expr} {pos : Pos} {P : Value → Loc → View → Mu → Prop}
    (h : Tr C m V mu (eval func C.env) (CwP C pos args P))
    (he : eval (.Call func args [] pos) C.env = (do callWith pos (← eval func C.env) [] (backTo pos (starEach args C.env)) (backToKw pos (keywordEach [] C.env))) := by rfl) : Tr C m V mu (eval (.Call func args [] pos) C.env) P :=
  .of <| fun _ hs => Call_ (h.go hs fun _ _ _ _ s1 h1 p1 => p1.run s1 h1) he
theorem tr_cwDef {f : Addr} {fd : FuncData} {e : Expr} {rest : List Expr} {pos : Pos} {P : Value → Loc → View → Mu → Prop} (hB : C.B f = some (fnO fd))
    (h : Tr C m V mu (spliced (backTo pos (starEach (e :: rest) C.env))) (CaP C (.ref f) P))
    (he : starEach (e :: rest) C.env = (false, eval e C.env) :: starEach rest C.env := by rfl) : Tr C m V mu (callWith pos (.ref f) [] (backTo pos (starEach (e :: rest) C.env)) []) P :=
  .of <| fun _ hs => callWith_def (o := fnO fd) (fd := fd) rfl (h.go hs fun _ _ _ _ s1 h1 p1 => ⟨h1.1.held.base _ _ hB, p1.run s1 h1⟩) he
theorem tr_cwDef0 {f : Addr} {fd : FuncData} {pos : Pos} {P : Value → Loc → View → Mu → Prop} (hB : C.B f = some (fnO fd))
    (h : Tr C m V mu (call (.ref f) []) P) : Tr C m V mu (callWith pos (.ref f) [] (backTo pos (starEach [] C.env)) []) P :=
  .of <| fun s hs => callWith_function (o := fnO fd) (fd := fd) (PyProof.Rows.evalArgs_none ⟨⟨hs.1.held.base _ _ hB, rfl⟩, h.run s hs⟩)
theorem tr_cwBlt {id : String} {e : Expr} {rest : List Expr} {pos : Pos} {P : Value → Loc → View → Mu → Prop}
    (h : Tr C m V mu (spliced (backTo pos (starEach (e :: rest) C.env))) (CaP C (.builtin id) P))
    (he : starEach (e :: rest) C.env = (false, eval e C.env) :: starEach rest C.env := by rfl) (hp : (backTo pos (starEach rest C.env)).any (·.1) = false := by rfl) : Tr C m V mu (callWith pos (.builtin id) [] (backTo pos (starEach (e :: rest) C.env)) []) P :=
  .of <| fun _ hs => PyProof.Rows.callWith_builtin1 (h.go hs fun _ _ _ _ s1 h1 p1 => p1.run s1 h1) he hp

theorem FrC.ok {oL : Obj} {es : Array DictEntry} {ep : Nat} (h : FrC C) (hd : oL.data = .dict es ep) : FrOk C.A (put C.F C.env.locals oL) := by
  obtain ⟨⟨l, e, k⟩, kd⟩ := h
  refine ⟨⟨l, e, fun env he => ⟨(k env he).1, ?_⟩⟩, fun a o q => ?_⟩
  rotate_left
  · by_cases hL : a = C.env.locals
    · subst hL; rw [put_self] at q; cases q; exact ⟨es, ep, hd⟩
    · rw [put_ne hL] at q; exact kd a o q
  obtain ⟨L, eL, q⟩ := (k env he).2
  by_cases hL : L = C.env.locals
  · subst hL; exact ⟨_, oL, eL, put_self .., fun vs z => by rw [hd] at z; cases z⟩
  · rcases q with q | ⟨o, q, nf⟩
    · exact absurd q hL
    · exact ⟨L, o, eL, by rw [put_ne hL]; exact q, nf⟩
/-- a call by its contract -/
theorem tr_call {k : Nat} {f : Value} {vs : List Value} {kw : List (Str × Value)} {Post : Value → View → Mu → Prop} {P : Value → Loc → View → Mu → Prop}
    (hok : CallOk C.prog C.w C.B k f ⟨vs, kw⟩ V mu Post) (hk : Lv k C.A) (hfr : FrC C) (h : ∀ v V' mu', Post v V' mu' → P v m V' mu') : Tr C m V mu (call f vs kw) P := .of <| fun s hs => by
  obtain ⟨I, hg, ho⟩ := hs
  obtain ⟨fm, ⟨oL, es, ep, eL, r⟩, hf⟩ := I.ns
  have H := I.held
  have H' : Held C.B (put C.F C.env.locals oL) V mu s.heap := by
    refine ⟨H.bs, H.sub, fun a o e => ?_, H.has, fun a o e => ?_, H.vm, fun p hp => ?_, H.nd⟩
    · by_cases q : a = C.env.locals
      · subst q; rw [put_self] at e; cases e; exact ⟨_, eL⟩
      · rw [put_ne q] at e; exact H.fr a o e
    · by_cases q : a = C.env.locals
      · subst q; exact I.vl
      · rw [put_ne q] at e; exact H.vf a o e
    · rw [put_ne (I.ml p hp)]; exact H.fm p hp
  refine wpAny_call (codeAny_mono (hok C.A _ C.os s hk (hfr.ok r.1) H' hg ho) fun r' s' hr => ?_)
  cases r' with
  | error e => exact hr.elim
  | ok fl =>
    cases fl with
    | ret v =>
      obtain ⟨V', mu', G, hg', ho', hp⟩ := hr
      refine ⟨m, V', mu', ⟨⟨⟨G.bs, G.sub, fun a o e => G.fr a o ?_, G.has, fun a o e => G.vf a o ?_, G.vm, fun p hp => ?_, G.nd⟩, ⟨fm, (let ⟨sl, q⟩ := G.fr _ _ (put_self ..); ⟨{ oL with slots := sl }, es, ep, q, r⟩), hf⟩, G.vf _ _ (put_self ..), I.fl, fun p hp q => ?_⟩, hg', ho'⟩, h v V' mu' hp⟩
      · exact put_le I.fl a o e
      · exact put_le I.fl a o e
      · have := G.fm p hp
        by_cases q : p.1 = C.env.locals
        · rw [q]; exact I.fl
        · rw [put_ne q] at this; exact this
      · have := G.fm p hp
        rw [q, put_self] at this; cases this
    | next => exact hr.elim
    | brk => exact hr.elim
    | cont => exact hr.elim

theorem Fm.room {sc : Scope} {n : Nat} (hC : Fm C sc n) : C.A.depth < recursionLimit := hC.lv.room
end

section
variable {prog : Program} {w : World} {B V : View} {mu : Mu}

/-- nothing is raised -/
noncomputable def NoX (C : Cx) : Prop := ∀ e s, ¬ C.X e s
/-- what binding the arguments gives -/
noncomputable def Binds (B V : View) (mu : Mu) (fd : FuncData) (args : Args) (binds : Loc) : Prop :=
  ∀ (M : Model) (A : Around) (F : View) (Q : Loc → Shared → Prop) (E : Value → Shared → Prop) (s : Shared), Held B F V mu s.heap → Q binds s → wpAny M A (bindArgs fd args) Q E s
theorem Binds.pure {fd : FuncData} {args : Args} {binds : Loc} (h : bindArgs fd args = pure binds) : Binds B V mu fd args binds := fun _ _ _ _ _ _ _ q => h ▸ wpAny_pure q

/-- the looks at a def that its call asks -/
noncomputable def fnLook (fa : Addr) : Bool :=
  let fd := fdAt fa
  fd.scope.isCoroutine == false && fd.scope.isGenerator == false && fd.scope.kind == .function && fd.scope.names.all (fun x => x.2 != .cell) && fd.closure.isEmpty && fd.globals == mainGlobals && fd.builtins == builtinsNs &&
  (match fd.body with | .stmts _ => true | _ => false)
noncomputable def strAt1 (vs : Array Value) (q : Str) : Bool := match (vs[1]? : Option Value) with
  | some (Value.str x _) => x == q
  | _ => false
noncomputable def codeLook (K : Frag) (cd : Value) (q : Str) : Bool := match cd with
  | .ref c => (match K.lookup c with
    | some ⟨_, _, .fields vs, _⟩ => strAt1 vs q
    | _ => false)
  | _ => false
theorem codeRec_look {K : Frag} {cd : Value} {q : Str} {h : Heap} (hk : ∀ a o, K.lookup a = some o → h.get? a = some o) (e : codeLook K cd q = true) : h.CodeRec cd q := by
  unfold codeLook at e
  split at e
  · rename_i c
    split at e
    · rename_i x1 x2 vs x3 hl
      unfold strAt1 at e
      split at e
      · rename_i x t hv
        exact ⟨c, _, vs, t, rfl, hk _ _ hl, rfl, by rw [hv, beq_iff_eq.mp e]⟩
      · cases e
    · cases e
  · cases e

theorem FrOk.deeper {A : Around} {F : View} {scope : Scope} {L globals : Addr} {cells : List (Str × Addr)} {qual : Str} {func : Option Addr} {code : Value} {builtins : Addr} {os : OsState} {X : Value → Shared → Prop} (h : FrOk A F) (hk : scope.kind = .function) :
    FrC ⟨prog, w, A.deeper (newEnv scope L globals cells qual func code none builtins), newEnv scope L globals cells qual func code none builtins, B, F, os, X⟩ := by
  obtain ⟨⟨l, e, k⟩, kd⟩ := h
  refine ⟨⟨_, Around.frames_deeper e, fun env he => ?_⟩, kd⟩
  rcases List.mem_cons.mp he with rfl | he
  · exact ⟨by show scope.kind ≠ .module; rw [hk]; decide, L, rfl, .inl rfl⟩
  · obtain ⟨k1, L', o, k2, k3, k4⟩ := k env he
    exact ⟨k1, L', k2, .inr ⟨o, k3, k4⟩⟩
theorem enter {n : Nat} {fa : Addr} {args : Args} {binds : Loc} {Post : Value → View → Mu → Prop} (G : Gb w B)
    (hK : (K w.params).lookup fa = some (fnO (fdAt fa))) (hl : fnLook fa = true) (hcd : codeLook (K w.params) (fdAt fa).code (fdAt fa).qualname = true)
    (hbind : Binds B V mu (fdAt fa) args binds) (hloc : (binds.all fun x => (fdAt fa).scope.names.lookup x.1 == some .local) = true)
    (h : ∀ C : Cx, Fm C (fdAt fa).scope n → NoX C → TrS C binds.reverse V mu (execs (bodyAt fa) C.env) (fun _ V mu => Post .none V mu) Post (fun _ _ _ => False) (fun _ _ _ => False)) :
    CallOk prog w B (n + 1) (.ref fa) args V mu Post := by
  intro A F os s hA hF H hg ho
  simp only [fnLook, Bool.and_eq_true, beq_iff_eq] at hl
  obtain ⟨⟨⟨⟨⟨⟨⟨h1, h2⟩, h3⟩, h4⟩, h5⟩, h6⟩, h7⟩, h8⟩ := hl
  have hbody : (fdAt fa).body = .stmts (bodyAt fa) := by
    unfold bodyAt
    cases e : (fdAt fa).body with
    | stmts b => rfl
    | expr => rw [e] at h8; cases h8
  have hclo : (fdAt fa).closure = [] := List.isEmpty_iff.mp h5
  refine codeAny_call_function hA.room (H.base _ _ (G.k _ _ hK)) (fd := fdAt fa) rfl h1 h2 hbody (codeRec_look (fun a o e => H.base _ _ (G.k _ _ e)) hcd) ?_
  refine hbind _ _ F _ _ _ H ?_
  rw [h6, h7, hclo]
  refine wpAny_newFunctionEnv (fun x hx => by have := List.all_eq_true.mp h4 x hx; simpa using this) (fun x hx => beq_iff_eq.mp (List.all_eq_true.mp hloc x hx)) (fun h' hns hsb => ⟨(G.nolimit H.base).fresh _ hsb, ?_⟩) h3
  have hn : s.heap.get? s.heap.objs.size = none := by
    cases e : s.heap.get? s.heap.objs.size with
    | none => rfl
    | some o => exact absurd (Heap.lt_size e) (Nat.lt_irrefl _)
  have k : ∀ b o, s.heap.get? b = some o → h'.get? b = some o := fun b o e => hsb.extBut b o (Nat.ne_of_lt (Heap.lt_size e)) (Heap.get?_push_of_some _ e)
  refine codeAny_func ?_
  have hC := h ⟨prog, w, A.deeper (newEnv (fdAt fa).scope s.heap.objs.size mainGlobals [] ((fdAt fa).qualname ++ ".<locals>.") (some fa) (fdAt fa).code none builtinsNs), newEnv (fdAt fa).scope s.heap.objs.size mainGlobals [] ((fdAt fa).qualname ++ ".<locals>.") (some fa) (fdAt fa).code none builtinsNs, B, F, os, fun _ _ => False⟩
    ⟨rfl, h3, rfl, rfl, G, hA.deeper _, hF.deeper h3⟩ (fun _ _ x => x)
  refine wpAny_mono (Tr.run hC _ ⟨⟨H.keeps k, ⟨_, hns, fun _ _ e => e⟩, H.fresh_V hn, H.fresh_F hn, H.fresh_mu hn⟩, hg, ho⟩) (fun f s' hf => ?_) (fun _ _ x => x.elim)
  obtain ⟨m', V', mu', I, p⟩ := hf
  cases f with
  | next => exact ⟨V', mu', I.1.held, I.2.1, I.2.2, p⟩
  | ret v => exact ⟨V', mu', I.1.held, I.2.1, I.2.2, p⟩
  | brk => exact p.elim
  | cont => exact p.elim
end
end
end Mine

end
section
open PySem PySem.Calls PySem.W PyProof.Rows
namespace Mine
noncomputable section

/-- plain data -/
inductive PV where
  | none
  | bool (b : Bool)
  | int (i : Int)
  | str (s : Str)
  | bytes (b : Array UInt8)
  | list (l : List PV)
  | tuple (l : List PV)

noncomputable def listO (vs : List Value) (n : Nat) : Obj := { cls := .type "list", data := .seq vs.toArray n }
noncomputable def tupO (vs : List Value) (n : Nat) : Obj := { cls := .type "tuple", data := .seq vs.toArray n }

mutual
inductive Rep (V : View) : Value → PV → Prop where
  | none : Rep V .none .none
  | bool (b : Bool) : Rep V (.bool b) (.bool b)
  | int (i : Int) (t : Tok) : Rep V (.int i t) (.int i)
  | str (s : Str) (t : Tok) : Rep V (.str s t) (.str s)
  | bytes (b : Array UInt8) (t : Tok) : Rep V (.bytes b t) (.bytes b)
  | list {a : Addr} {vs : List Value} {n : Nat} {l : List PV} : V a = some (listO vs n) → RepL V vs l → Rep V (.ref a) (.list l)
  | tuple {a : Addr} {vs : List Value} {n : Nat} {l : List PV} : V a = some (tupO vs n) → RepL V vs l → Rep V (.ref a) (.tuple l)
inductive RepL (V : View) : List Value → List PV → Prop where
  | nil : RepL V [] []
  | cons {v : Value} {d : PV} {vs : List Value} {l : List PV} : Rep V v d → RepL V vs l → RepL V (v :: vs) (d :: l)
end
mutual
theorem Rep.mono {V V' : View} (h : Le V V') : ∀ {v : Value} {d : PV}, Rep V v d → Rep V' v d
  | _, _, .none => .none
  | _, _, .bool b => .bool b
  | _, _, .int i t => .int i t
  | _, _, .str s t => .str s t
  | _, _, .bytes b t => .bytes b t
  | _, _, .list e r => .list (h _ _ e) (RepL.mono h r)
  | _, _, .tuple e r => .tuple (h _ _ e) (RepL.mono h r)
theorem RepL.mono {V V' : View} (h : Le V V') : ∀ {vs : List Value} {l : List PV}, RepL V vs l → RepL V' vs l
  | _, _, .nil => .nil
  | _, _, .cons a b => .cons (Rep.mono h a) (RepL.mono h b)
end
section
variable {V : View}
theorem Rep.int_inv {v : Value} {i : Int} (h : Rep V v (.int i)) : ∃ t, v = .int i t := by cases h; exact ⟨_, rfl⟩
theorem Rep.str_inv {v : Value} {x : Str} (h : Rep V v (.str x)) : ∃ t, v = .str x t := by cases h; exact ⟨_, rfl⟩
theorem Rep.bytes_inv {v : Value} {x : Array UInt8} (h : Rep V v (.bytes x)) : ∃ t, v = .bytes x t := by cases h; exact ⟨_, rfl⟩
theorem Rep.bool_inv {v : Value} {x : Bool} (h : Rep V v (.bool x)) : v = .bool x := by cases h; rfl
theorem Rep.list_inv {v : Value} {l : List PV} (h : Rep V v (.list l)) : ∃ a vs n, v = .ref a ∧ V a = some (listO vs n) ∧ RepL V vs l := by cases h with | list e r => exact ⟨_, _, _, rfl, e, r⟩
theorem Rep.tuple_inv {v : Value} {l : List PV} (h : Rep V v (.tuple l)) : ∃ a vs n, v = .ref a ∧ V a = some (tupO vs n) ∧ RepL V vs l := by cases h with | tuple e r => exact ⟨_, _, _, rfl, e, r⟩
theorem RepL.length {vs : List Value} {l : List PV} (h : RepL V vs l) : vs.length = l.length := by
  induction vs generalizing l with
  | nil => cases h; rfl
  | cons v r ih => cases h with | cons a b => rw [List.length_cons, List.length_cons, ih b]
theorem RepL.get {vs : List Value} {l : List PV} (h : RepL V vs l) {i : Nat} {d : PV} (e : l[i]? = some d) : ∃ v, vs[i]? = some v ∧ Rep V v d := by
  induction vs generalizing l i with
  | nil => cases h; simp at e
  | cons v r ih =>
    cases h with
    | cons a b =>
      cases i with
      | zero => simp at e; subst e; exact ⟨v, rfl, a⟩
      | succ i => simp at e; obtain ⟨u, hu, hr⟩ := ih b e; exact ⟨u, by simpa using hu, hr⟩
theorem RepL.append {vs ws : List Value} {l k : List PV} (h : RepL V vs l) (h' : RepL V ws k) : RepL V (vs ++ ws) (l ++ k) := by
  induction vs generalizing l with
  | nil => cases h; exact h'
  | cons v r ih => cases h with | cons a b => exact .cons a (ih b)
theorem RepL.take {vs : List Value} {l : List PV} (h : RepL V vs l) (n : Nat) : RepL V (vs.take n) (l.take n) := by
  induction vs generalizing l n with
  | nil => cases h; simp; exact .nil
  | cons v r ih =>
    cases h with
    | cons a b =>
      cases n with
      | zero => simp; exact .nil
      | succ n => simp; exact .cons a (ih b n)
theorem RepL.drop {vs : List Value} {l : List PV} (h : RepL V vs l) (n : Nat) : RepL V (vs.drop n) (l.drop n) := by
  induction vs generalizing l n with
  | nil => cases h; simp; exact .nil
  | cons v r ih =>
    cases h with
    | cons a b =>
      cases n with
      | zero => simp; exact .cons a b
      | succ n => simp; exact ih b n
theorem RepL.ints {vs : List Value} {l : List PV} {ns : List Int} (h : RepL V vs l) (e : l = ns.map PV.int) : IntsAre vs ns := by
  subst e
  induction ns generalizing vs with
  | nil => cases h; exact .nil
  | cons n r ih => cases h with | cons a b => obtain ⟨t, rfl⟩ := a.int_inv; exact .cons n t (ih b)
end

section
variable {C : Cx} {m : Loc} {V : View} {mu : Mu} {α β : Type}

theorem no_size (h : Heap) : h.get? h.objs.size = none := by
  cases e : h.get? h.objs.size with
  | none => rfl
  | some o => exact absurd (Heap.lt_size e) (Nat.lt_irrefl _)
theorem Inv.size_ne {h : Heap} (H : Inv C m V mu h) : C.env.locals ≠ h.objs.size := by
  obtain ⟨f, hn, _⟩ := H.ns
  exact Nat.ne_of_lt hn.lt
/-- a new persistent object -/
theorem Inv.push {h : Heap} (H : Inv C m V mu h) {o : Obj} (ho : o.isFreed = false) : Inv C m (put V h.objs.size o) mu (h.push o) := by
  obtain ⟨f, hn, hf⟩ := H.ns
  exact ⟨H.held.grow (no_size h) (fun b o' e => Heap.get?_push_of_some _ e) (Heap.get?_push_size _ ho), ⟨f, hn.push o, hf⟩, by rw [put_ne H.size_ne]; exact H.vl, H.fl, H.ml⟩
theorem Inv.pushMu {h : Heap} (H : Inv C m V mu h) {o : Obj} (ho : o.isFreed = false) : Inv C m V ((h.objs.size, o) :: mu) (h.push o) := by
  obtain ⟨f, hn, hf⟩ := H.ns
  refine ⟨H.held.growMu (no_size h) (fun b o' e => Heap.get?_push_of_some _ e) (Heap.get?_push_size _ ho), ⟨f, hn.push o, hf⟩, H.vl, H.fl, fun p hp => ?_⟩
  rcases List.mem_cons.mp hp with rfl | hp
  · exact H.size_ne.symm
  · exact H.ml p hp
theorem Inv.put_le {h : Heap} (H : Inv C m V mu h) (o : Obj) : Le V (put V h.objs.size o) := Mine.put_le (H.held.fresh_V (no_size h))

/-- a step that makes one persistent object -/
theorem tr_new {t : Sem α} {P : α → Loc → View → Mu → Prop} {o : Obj} (ho : o.isFreed = false)
    (h : ∀ s, St C m V mu s → ∀ Q : α → Shared → Prop, (∀ v tk, (∀ V', Le V V' → V' s.heap.objs.size = some o → P v m V' mu) → Q v { s with heap := s.heap.push o, toks := tk }) → wpAny C.M C.A t Q C.X s) : Tr C m V mu t P :=
  .of <| fun s hs => h s hs _ fun _ _ p => ⟨m, _, mu, ⟨hs.1.push ho, hs.2⟩, p _ (hs.1.put_le o) (put_self ..)⟩

theorem tr_newList {vs : List Value} {P : Value → Loc → View → Mu → Prop} (hz : vs.length ≤ sizeLine) (h : ∀ a V', Le V V' → V' a = some (listO vs 0) → P (.ref a) m V' mu) : Tr C m V mu (newList vs) P :=
  .of <| fun s hs => wpAny_newObj_type ⟨m, _, mu, ⟨hs.1.push (o := listO vs 0) rfl, hs.2⟩, h _ _ (hs.1.put_le _) (put_self ..)⟩ (by show vs.toArray.size ≤ sizeLine; rw [List.size_toArray]; exact hz)
theorem tr_newListMu {vs : List Value} {P : Value → Loc → View → Mu → Prop} (hz : vs.length ≤ sizeLine) (h : ∀ a, P (.ref a) m V ((a, listO vs 0) :: mu)) : Tr C m V mu (newList vs) P :=
  .of <| fun s hs => wpAny_newObj_type ⟨m, V, _, ⟨hs.1.pushMu (o := listO vs 0) rfl, hs.2⟩, h _⟩ (by show vs.toArray.size ≤ sizeLine; rw [List.size_toArray]; exact hz)
theorem tr_newTuple {vs : List Value} {P : Value → Loc → View → Mu → Prop} (hz : vs.length ≤ sizeLine) (h : ∀ a V', Le V V' → V' a = some (tupO vs 0) → P (.ref a) m V' mu) : Tr C m V mu (newTuple vs) P :=
  .of <| fun s hs => wpAny_newObj_type ⟨m, _, mu, ⟨hs.1.push (o := tupO vs 0) rfl, hs.2⟩, h _ _ (hs.1.put_le _) (put_self ..)⟩ (by show vs.toArray.size ≤ sizeLine; rw [List.size_toArray]; exact hz)

-- ints
variable {a b : Int} {t u : Tok} {P : Value → Loc → View → Mu → Prop}
theorem op_add (h : ∀ tk, P (.int (a + b) tk) m V mu) : Tr C m V mu (binaryOp .Add (.int a t) (.int b u)) P := .of <| fun s hs => PyProof.Rows.add_int ⟨m, V, mu, hs, h _⟩
theorem op_sub (h : ∀ tk, P (.int (a - b) tk) m V mu) : Tr C m V mu (binaryOp .Sub (.int a t) (.int b u)) P := .of <| fun s hs => PyProof.Rows.sub_int ⟨m, V, mu, hs, h _⟩
theorem op_mul (hm : IntMulOk a b) (h : ∀ tk, P (.int (a * b) tk) m V mu) : Tr C m V mu (binaryOp .Mult (.int a t) (.int b u)) P := .of <| fun s hs => PyProof.Rows.mul_int ⟨m, V, mu, hs, h _⟩ hm
theorem op_div (hb : b ≠ 0) (hz : b.natAbs < 1073741824) (h : ∀ tk, P (.int (a.fdiv b) tk) m V mu) : Tr C m V mu (binaryOp .FloorDiv (.int a t) (.int b u)) P := .of <| fun s hs => PyProof.Rows.floordiv_int hb ⟨m, V, mu, hs, h _⟩ (Or.inl (PyProof.noPylong_small hz))
theorem op_mod (hb : b ≠ 0) (h : ∀ tk, P (.int (a.fmod b) tk) m V mu) : Tr C m V mu (binaryOp .Mod (.int a t) (.int b u)) P := .of <| fun s hs => PyProof.Rows.mod_int hb ⟨m, V, mu, hs, h _⟩
theorem op_neg (h : ∀ tk, P (.int (-a) tk) m V mu) : Tr C m V mu (unaryOp .USub (.int a t)) P := .of <| fun s hs => PyProof.Rows.neg_int ⟨m, V, mu, hs, h _⟩
theorem op_eq (h : P (.bool (a == b)) m V mu) : Tr C m V mu (compareOp .Eq (.int a t) (.int b u)) P := .of <| fun s hs => PyProof.Rows.eq_int ⟨m, V, mu, hs, h⟩
theorem op_ne (h : P (.bool (a != b)) m V mu) : Tr C m V mu (compareOp .NotEq (.int a t) (.int b u)) P := .of <| fun s hs => PyProof.Rows.ne_int ⟨m, V, mu, hs, h⟩
theorem op_lt (h : P (.bool (decide (a < b))) m V mu) : Tr C m V mu (compareOp .Lt (.int a t) (.int b u)) P := .of <| fun s hs => PyProof.Rows.lt_int ⟨m, V, mu, hs, h⟩
theorem op_gt (h : P (.bool (decide (b < a))) m V mu) : Tr C m V mu (compareOp .Gt (.int a t) (.int b u)) P := .of <| fun s hs => PyProof.Rows.gt_int ⟨m, V, mu, hs, h⟩
theorem op_ge (h : P (.bool (decide (b ≤ a))) m V mu) : Tr C m V mu (compareOp .GtE (.int a t) (.int b u)) P := .of <| fun s hs => PyProof.Rows.ge_int ⟨m, V, mu, hs, h⟩
-- truth
variable {T : Bool → Loc → View → Mu → Prop}
theorem tt_bool {c : Bool} (h : T c m V mu) : Tr C m V mu (truthy (.bool c)) T := .of <| fun s hs => wpAny_truthy_bool ⟨m, V, mu, hs, h⟩
theorem tt_int (h : T (a != 0) m V mu) : Tr C m V mu (truthy (.int a t)) T := .of <| fun s hs => PyProof.Rows.truthy_int ⟨m, V, mu, hs, h⟩
-- texts
variable {x y : Str}
theorem op_eqS (h : P (.bool (x == y)) m V mu) : Tr C m V mu (compareOp .Eq (.str x t) (.str y u)) P := .of <| fun s hs => PyProof.Rows.eq_str ⟨m, V, mu, hs, h⟩
theorem op_neS (h : P (.bool (x != y)) m V mu) : Tr C m V mu (compareOp .NotEq (.str x t) (.str y u)) P := .of <| fun s hs => PyProof.Rows.ne_str ⟨m, V, mu, hs, h⟩
theorem op_addS (hz : x.length + y.length ≤ sizeLine) (h : ∀ tk, P (.str (x ++ y) tk) m V mu) : Tr C m V mu (binaryOp .Add (.str x t) (.str y u)) P := .of <| fun s hs => PyProof.Rows.add_str (fun t' tk => ⟨m, V, mu, hs, h _⟩) hz

-- items
abbrev SuP2 (C : Cx) (value slice : Expr) (o : Value) (P : Value → Loc → View → Mu → Prop) : Value → Loc → View → Mu → Prop := fun i m V mu => Tr C m V mu (subscriptTail value slice o i) P
abbrev SuP (C : Cx) (value slice : Expr) (P : Value → Loc → View → Mu → Prop) : Value → Loc → View → Mu → Prop := fun o m V mu => Tr C m V mu (eval slice C.env) (SuP2 C value slice o P)
theorem tr_Subscript {value slice : Expr} {pos : Pos} (h : Tr C m V mu (eval value C.env) (SuP C value slice P)) :
    Tr C m V mu (eval (.Subscript value slice pos) C.env) P :=
  .of <| fun _ hs => Subscript_ (h.go hs fun _ _ _ _ s1 h1 p1 => p1.go h1 fun _ _ _ _ s2 h2 p2 => p2.run s2 h2)
theorem subTail {value slice : Expr} {o i : Value} {T id : String} (hT : ∀ s, St C m V mu s → s.TypeIs o T) (hl : typeLookup (.type T) "__getitem__" = pure (some (.builtin id))) (h : Tr C m V mu (getItem o i) P) :
    Tr C m V mu (subscriptTail value slice o i) P := .of <| fun s hs => by
  unfold subscriptTail
  refine wpAny_bind ?_
  rw [getitemInPython_of_ne (hT s hs).not_modules]
  refine wpAny_bind (wpAny_specialOf (hT s hs) hl ?_)
  have e : ∃ l, subscripted slice false o i = operate l (getItem o i) := by
    unfold subscripted
    split
    · exact ⟨_, rfl⟩
    · rename_i q; cases q
    · exact ⟨_, rfl⟩
  obtain ⟨l, e⟩ := e
  have fin : wpAny C.M C.A (subscripted slice false o i) (fun r s₃ => wpAny C.M C.A (letTemporaryGo value o r >>= fun _ => pure r) (fun v s' => ∃ m' V' mu', St C m' V' mu' s' ∧ P v m' V' mu') C.X s₃) C.X s := by
    rw [e]
    exact wpAny_operating (wpAny_mono (h.run s hs) (fun r s₃ h₃ => wpAny_bind (wpAny_letTemporaryGo (wpAny_pure h₃))) fun _ _ x => x)
  first
    | exact wpAny_pure (wpAny_bind fin)
    | exact wpAny_bind (wpAny_pure (wpAny_bind fin))
    | exact wpAny_bind fin
theorem Inv.isList {h : Heap} {l : Addr} {vs : List Value} {n : Nat} (H : Inv C m V mu h) (k : Known C V mu l (listO vs n)) : h.IsList l vs.toArray := ⟨_, H.known k, rfl, n, rfl⟩
theorem sub_list {value slice : Expr} {l : Addr} {vs : List Value} {n : Nat} {i : Int} {v : Value} (hk : Known C V mu l (listO vs n)) (h0 : 0 ≤ i) (h1 : i < 2 ^ 63) (hv : vs[i.toNat]? = some v) (h : P v m V mu) :
    Tr C m V mu (subscriptTail value slice (.ref l) (.int i u)) P :=
  subTail (T := "list") (fun s hs => (hs.1.isList hk).typeIs) PySem.slot_list_getitem.lookup <| .of <| fun s hs => wpAny_getItem_list (hs.1.isList hk) h0 h1 (by simpa using hv) ⟨m, V, mu, hs, h⟩
theorem sub_str {value slice : Expr} {i : Int} {c : Nat} (h0 : 0 ≤ i) (h1 : i < 2 ^ 63) (hv : x.cps.toList[i.toNat]? = some c) (h : ∀ tk, P (.str ⟨#[c]⟩ tk) m V mu) :
    Tr C m V mu (subscriptTail value slice (.str x t) (.int i u)) P :=
  subTail (T := "str") (fun s hs => typeIs_str s x t) PyProof.Rows.slot_str_getitem.lookup <| .of <| fun s hs => PyProof.Rows.getItem_str (by
    rw [Bool.or_eq_false_iff]; exact ⟨decide_eq_false (by omega), decide_eq_false (by omega)⟩) (by
    have hlt : i.toNat < x.cps.size := by
      have := (List.getElem?_eq_some_iff.mp hv).1
      simpa using this
    have e : seqIndex? i x.length = some i.toNat := by
      unfold seqIndex?
      have h2 : ¬ i < 0 := by omega
      have h3 : i < (x.length : Int) := by unfold Str.length; omega
      simp [h2, h3, h0]
    rw [e]
    simpa using hv) ⟨m, V, mu, hs, h _⟩

theorem Le1 {V V' : View} {a : Addr} {o : Obj} (h : Le V V') (e : V a = some o) : V' a = some o := h a o e

-- calls by a global name
theorem tr_callG {sc : Scope} {n : Nat} (hC : Fm C sc n) (fa : Addr) {x : Str} {pos pos' : Pos} {e : Expr} {rest : List Expr} (hl : sc.names.lookup x = some .globalImplicit) (hv : gmap C.w.params x = some (.ref fa)) (hK : (K C.w.params).lookup fa = some (fnO (fdAt fa)))
    (h : Tr C m V mu (spliced (backTo pos (starEach (e :: rest) C.env))) (CaP C (.ref fa) P))
    (he : starEach (e :: rest) C.env = (false, eval e C.env) :: starEach rest C.env := by rfl) (hd : (x == ("__debug__" : Str)) = false := by decide) : Tr C m V mu (eval (.Call (.Name x pos') (e :: rest) [] pos) C.env) P :=
  tr_Call (tr_glob hC hl hv (tr_cwDef (hC.gb.k _ _ hK) h he) hd) rfl
theorem tr_callG0 {sc : Scope} {n : Nat} (hC : Fm C sc n) (fa : Addr) {x : Str} {pos pos' : Pos} (hl : sc.names.lookup x = some .globalImplicit) (hv : gmap C.w.params x = some (.ref fa)) (hK : (K C.w.params).lookup fa = some (fnO (fdAt fa)))
    (h : Tr C m V mu (call (.ref fa) []) P) (hd : (x == ("__debug__" : Str)) = false := by decide) : Tr C m V mu (eval (.Call (.Name x pos') [] [] pos) C.env) P :=
  tr_Call (tr_glob hC hl hv (tr_cwDef0 (hC.gb.k _ _ hK) h) hd) rfl
theorem tr_callB {sc : Scope} {n : Nat} (hC : Fm C sc n) (id : String) {x : Str} {pos pos' : Pos} {e : Expr} {rest : List Expr} (hl : sc.names.lookup x = some .globalImplicit) (hv : gmap C.w.params x = none) (hb : bootBuiltins x = some (.builtin id))
    (h : Tr C m V mu (spliced (backTo pos (starEach (e :: rest) C.env))) (CaP C (.builtin id) P))
    (he : starEach (e :: rest) C.env = (false, eval e C.env) :: starEach rest C.env := by rfl) (hp : (backTo pos (starEach rest C.env)).any (·.1) = false := by rfl)
    (hd : (x == ("__debug__" : Str)) = false := by decide) (hn : x ≠ "__name__" := by decide) : Tr C m V mu (eval (.Call (.Name x pos') (e :: rest) [] pos) C.env) P :=
  tr_Call (tr_blt hC hl hv hb (tr_cwBlt h he hp) hd hn) rfl
theorem tr_cwTy {T : String} {e : Expr} {rest : List Expr} {pos : Pos}
    (h : Tr C m V mu (spliced (backTo pos (starEach (e :: rest) C.env))) (CaP C (.type T) P))
    (he : starEach (e :: rest) C.env = (false, eval e C.env) :: starEach rest C.env := by rfl) (hp : (backTo pos (starEach rest C.env)).any (·.1) = false := by rfl) : Tr C m V mu (callWith pos (.type T) [] (backTo pos (starEach (e :: rest) C.env)) []) P :=
  .of <| fun _ hs => PyProof.Rows.callWith_type1 (h.go hs fun _ _ _ _ s1 h1 p1 => p1.run s1 h1) he hp
theorem tr_callT {sc : Scope} {n : Nat} (hC : Fm C sc n) (T : String) {x : Str} {pos pos' : Pos} {e : Expr} {rest : List Expr} (hl : sc.names.lookup x = some .globalImplicit) (hv : gmap C.w.params x = none) (hb : bootBuiltins x = some (.type T))
    (h : Tr C m V mu (spliced (backTo pos (starEach (e :: rest) C.env))) (CaP C (.type T) P))
    (he : starEach (e :: rest) C.env = (false, eval e C.env) :: starEach rest C.env := by rfl) (hp : (backTo pos (starEach rest C.env)).any (·.1) = false := by rfl)
    (hd : (x == ("__debug__" : Str)) = false := by decide) (hn : x ≠ "__name__" := by decide) : Tr C m V mu (eval (.Call (.Name x pos') (e :: rest) [] pos) C.env) P :=
  tr_Call (tr_blt hC hl hv hb (tr_cwTy h he hp) hd hn) rfl
end
end
end Mine

end
section
open PySem PySem.Calls PySem.W PyProof.Rows
namespace Mine
noncomputable section

/-- one entry of the mutable objects turned -/
inductive Upd (a : Addr) (o o' : Obj) : Mu → Mu → Prop where
  | head {mu : Mu} : Upd a o o' ((a, o) :: mu) ((a, o') :: mu)
  | tail {p : Addr × Obj} {mu mu' : Mu} : Upd a o o' mu mu' → Upd a o o' (p :: mu) (p :: mu')
theorem Upd.mem {a : Addr} {o o' : Obj} {mu mu' : Mu} (h : Upd a o o' mu mu') : (a, o) ∈ mu := by
  induction h with
  | head => exact List.mem_cons_self
  | tail _ ih => exact List.mem_cons_of_mem _ ih
theorem Mu.set_id : ∀ {mu : Mu} {a : Addr} {o : Obj}, a ∉ mu.map (·.1) → Mu.set mu a o = mu
  | [], _, _, _ => rfl
  | p :: mu, a, o, h => by
    have h1 : p.1 ≠ a := fun e => h (by rw [List.map_cons, e]; exact List.mem_cons_self)
    show (if p.1 = a then (a, o) else p) :: Mu.set mu a o = p :: mu
    rw [if_neg h1, Mu.set_id fun q => h (by rw [List.map_cons]; exact List.mem_cons_of_mem _ q)]
theorem Upd.set {a : Addr} {o o' : Obj} {mu mu' : Mu} (h : Upd a o o' mu mu') (nd : (mu.map (·.1)).Nodup) : Mu.set mu a o' = mu' := by
  induction h with
  | @head mu =>
    rw [List.map_cons] at nd
    show (if a = a then (a, o') else _) :: Mu.set mu a o' = _
    rw [if_pos rfl, Mu.set_id (List.nodup_cons.mp nd).1]
  | @tail p mu mu' h ih =>
    rw [List.map_cons] at nd
    have nd' := List.nodup_cons.mp nd
    have h1 : p.1 ≠ a := fun e => nd'.1 (by rw [e]; exact List.mem_map_of_mem (f := fun x : Addr × Obj => x.1) h.mem)
    show (if p.1 = a then (a, o') else p) :: Mu.set mu a o' = _
    rw [if_neg h1, ih nd'.2]

section
variable {C : Cx} {m : Loc} {V : View} {mu : Mu} {α β : Type}

theorem Inv.turn {h h' : Heap} {a : Addr} {o o' : Obj} {mu' : Mu} (H : Inv C m V mu h) (hu : Upd a o o' mu mu') (hs : Heap.SameBut a h h') (ha : h'.get? a = some o') : Inv C m V mu' h' := by
  have := H.upd hu.mem hs ha
  rwa [hu.set H.held.nd] at this
theorem Held.ext1 {B F : View} {h h' : Heap} {a : Addr} {o o' : Obj} (H : Held B F V ((a, o) :: mu) h) (k : ∀ b ob, b ≠ a → h.get? b = some ob → h'.get? b = some ob) (ha : h'.get? a = some o') : Held B F V ((a, o') :: mu) h' := by
  have v := H.vm _ (List.mem_cons_self ..)
  have f := H.fm _ (List.mem_cons_self ..)
  have nd := H.nd
  have nd' := List.nodup_cons.mp (by rw [List.map_cons] at nd; exact nd)
  have ne : ∀ p ∈ mu, p.1 ≠ a := fun p hp q => nd'.1 (by
      show a ∈ List.map (fun x => x.1) mu
      rw [← q]; exact List.mem_map_of_mem (f := fun x : Addr × Obj => x.1) hp)
  refine ⟨H.bs, fun b ob e => k _ _ (fun q => by subst q; rw [v] at e; cases e) (H.sub b ob e), fun b ob e => (H.fr b ob e).imp fun _ => k _ _ (fun q => by subst q; rw [f] at e; cases e), fun p hp => ?_, H.vf, fun p hp => ?_, fun p hp => ?_, ?_⟩
  · rcases List.mem_cons.mp hp with rfl | hp
    · exact ha
    · exact k _ _ (ne p hp) (H.has p (List.mem_cons_of_mem _ hp))
  · rcases List.mem_cons.mp hp with rfl | hp
    · exact v
    · exact H.vm p (List.mem_cons_of_mem _ hp)
  · rcases List.mem_cons.mp hp with rfl | hp
    · exact f
    · exact H.fm p (List.mem_cons_of_mem _ hp)
  · rw [List.map_cons] at nd ⊢; exact nd
theorem Inv.ext1 {h h' : Heap} {a : Addr} {o o' : Obj} (H : Inv C m V ((a, o) :: mu) h) (k : ∀ b ob, b ≠ a → h.get? b = some ob → h'.get? b = some ob) (ha : h'.get? a = some o') : Inv C m V ((a, o') :: mu) h' := by
  obtain ⟨f, ⟨oL, es, ep, eL, r⟩, hf⟩ := H.ns
  refine ⟨H.held.ext1 k ha, ⟨f, ⟨oL, es, ep, k _ _ (H.ml _ (List.mem_cons_self ..)).symm eL, r⟩, hf⟩, H.vl, H.fl, fun p hp => ?_⟩
  rcases List.mem_cons.mp hp with rfl | hp
  · exact H.ml (a, o) (List.mem_cons_self ..)
  · exact H.ml p (List.mem_cons_of_mem _ hp)
theorem Inv.drop1 {h h' : Heap} {a : Addr} {o : Obj} (H : Inv C m V ((a, o) :: mu) h) (k : ∀ b ob, b ≠ a → h.get? b = some ob → h'.get? b = some ob) : Inv C m V mu h' := by
  obtain ⟨f, ⟨oL, es, ep, eL, r⟩, hf⟩ := H.ns
  have nd := H.held.nd
  have nd' := List.nodup_cons.mp (by rw [List.map_cons] at nd; exact nd)
  have H1 := H.held.sub_mu (List.sublist_cons_self _ mu)
  refine ⟨H1.outside (a := a) k (H.held.vm _ (List.mem_cons_self ..)) (H.held.fm _ (List.mem_cons_self ..)) (fun p hp q => nd'.1 (by
      show a ∈ List.map (fun x => x.1) mu
      rw [← q]; exact List.mem_map_of_mem (f := fun x : Addr × Obj => x.1) hp)), ⟨f, ⟨oL, es, ep, k _ _ (H.ml _ (List.mem_cons_self ..)).symm eL, r⟩, hf⟩, H.vl, H.fl, fun p hp => H.ml p (List.mem_cons_of_mem _ hp)⟩
/-- a mutable object may be forgotten -/
theorem tr_forget {t : Sem α} {P : α → Loc → View → Mu → Prop} {p : Addr × Obj} (h : Tr C m V mu t P) : Tr C m V (p :: mu) t P :=
  .of fun s hs => h.run s ⟨Inv.drop1 (a := p.1) (o := p.2) hs.1 (fun _ _ _ e => e), hs.2⟩
/-- a mutable object may be laid to the persistent ones -/
theorem tr_freeze {t : Sem α} {P : α → Loc → View → Mu → Prop} {a : Addr} {o : Obj} (h : ∀ V', Le V V' → V' a = some o → Tr C m V' mu t P) : Tr C m V ((a, o) :: mu) t P :=
  .of fun s hs => (h (put V a o) (put_le (hs.1.held.vm _ (List.mem_cons_self ..))) (put_self ..)).run s ⟨⟨hs.1.held.freeze, hs.1.ns, by
    rw [put_ne (hs.1.ml _ (List.mem_cons_self ..)).symm]; exact hs.1.vl, hs.1.fl, fun p hp => hs.1.ml p (List.mem_cons_of_mem _ hp)⟩, hs.2⟩

-- iterators
noncomputable def ItSt (V : View) (I : Addr) (o : Obj) (S : Heap → Prop) : Prop := ∀ h : Heap, h.get? I = some o → (∀ a ob, V a = some ob → h.get? a = some ob) → S h
theorem ItSt.mono {V V' : View} {I : Addr} {o : Obj} {S : Heap → Prop} (h : ItSt V I o S) (l : Le V V') : ItSt V' I o S := fun g e k => h g e fun a ob e' => k a ob (l a ob e')
/-- an iterator of n items, what the i-th is -/
noncomputable def ItOk (C : Cx) (V : View) (I : Addr) (n : Nat) (P : Nat → Value → Prop) (S : Nat → Heap → Prop) : Prop :=
  ∃ fp, Walks C.prog C.w C.A I fp [I] n P S ∧ (∀ b ∈ fp, b = I ∨ ∃ ob, V b = some ob) ∧ (∀ i h, S i h → ∃ o, h.get? I = some o)
variable {I : Addr} {n : Nat} {P : Nat → Value → Prop} {S : Nat → Heap → Prop}
theorem ItOk.mono {V' : View} (h : ItOk C V I n P S) (l : Le V V') : ItOk C V' I n P S :=
  let ⟨fp, W, f, e⟩ := h; ⟨fp, W, fun b hb => (f b hb).imp id fun ⟨ob, q⟩ => ⟨ob, l _ _ q⟩, e⟩
theorem it_item {o : Obj} {i : Nat} {Q : Option Value → Loc → View → Mu → Prop} (ok : ItOk C V I n P S) (hi : i < n) (st : ItSt V I o (S i))
    (h : ∀ v o', P i v → ItSt V I o' (S (i + 1)) → Q (some v) m V ((I, o') :: mu)) : Tr C m V ((I, o) :: mu) (pyNext (.ref I)) Q := .of fun s hs => by
  obtain ⟨fp, W, hf, he⟩ := ok
  refine W.item i s _ _ hi (st s.heap (hs.1.held.has _ (List.mem_cons_self ..)) hs.1.held.sub) fun v h' tk hv hst hk => ?_
  obtain ⟨o', ho'⟩ := he _ _ hst
  have k : ∀ b ob, b ≠ I → s.heap.get? b = some ob → h'.get? b = some ob := fun b ob hb e => hk b ob (by simpa using hb) e
  refine ⟨m, V, _, ⟨hs.1.ext1 k ho', hs.2⟩, h v o' hv fun g eg kg => W.frame _ _ _ hst fun b hb ob e => ?_⟩
  rcases hf b hb with rfl | ⟨ob', q⟩
  · rw [ho'] at e; cases e; exact eg
  · by_cases hbI : b = I
    · subst hbI; rw [ho'] at e; cases e; exact eg
    · have := k b ob' hbI (hs.1.held.sub _ _ q)
      rw [this] at e; cases e; exact kg _ _ q
theorem it_stop {o : Obj} {Q : Option Value → Loc → View → Mu → Prop} (ok : ItOk C V I n P S) (st : ItSt V I o (S n))
    (h : Q none m V mu) : Tr C m V ((I, o) :: mu) (pyNext (.ref I)) Q := .of fun s hs => by
  obtain ⟨fp, W, hf, he⟩ := ok
  refine W.done s _ _ (st s.heap (hs.1.held.has _ (List.mem_cons_self ..)) hs.1.held.sub) fun h' tk hk => ?_
  exact ⟨m, V, mu, ⟨hs.1.drop1 fun b ob hb e => hk b ob (by simpa using hb) e, hs.2⟩, h⟩
theorem it_self {o : Obj} {i : Nat} {Q : Value → Loc → View → Mu → Prop} (ok : ItOk C V I n P S) (st : ItSt V I o (S i))
    (h : Q (.ref I) m V ((I, o) :: mu)) : Tr C m V ((I, o) :: mu) (pyIter (.ref I)) Q := .of fun s hs => by
  obtain ⟨fp, W, hf, he⟩ := ok
  exact W.self i s _ _ (st s.heap (hs.1.held.has _ (List.mem_cons_self ..)) hs.1.held.sub) ⟨m, V, _, hs, h⟩

theorem Inv.ne_size {h : Heap} {a : Addr} {o : Obj} (e : h.get? a = some o) : a ≠ h.objs.size := Nat.ne_of_lt (Heap.lt_size e)
-- the iterators that there are
theorem iter_list {l : Addr} {vs : List Value} {k : Nat} {Q : Value → Loc → View → Mu → Prop} (hh : C.A.handled = none) (hl : V l = some (listO vs k))
    (h : ∀ I o S, ItOk C V I vs.length (fun i v => vs[i]? = some v) S → ItSt V I o (S 0) → Q (.ref I) m V ((I, o) :: mu)) : Tr C m V mu (pyIter (.ref l)) Q := .of fun s hs => by
  have e := hs.1.held.sub _ _ hl
  have hne := Inv.ne_size e
  refine wpAny_pyIter_list (items := vs.toArray) ⟨_, e, rfl, k, rfl⟩ ⟨m, V, _, ⟨hs.1.pushMu rfl, hs.2⟩, h _ _ (fun i h => h.IsListIter s.heap.objs.size l i ∧ h.IsList l vs.toArray) ⟨[s.heap.objs.size, l], by simpa using Walks.list hh _ l hne vs.toArray, fun b hb => ?_, fun i g st => let ⟨o, ho, _⟩ := st.1; ⟨o, ho⟩⟩ fun g eg kg => ?_⟩
  · simp at hb
    rcases hb with rfl | rfl
    · exact .inl rfl
    · exact .inr ⟨_, hl⟩
  · exact ⟨⟨_, eg, rfl, rfl⟩, ⟨_, kg _ _ hl, rfl, k, rfl⟩⟩
theorem iter_tuple {l : Addr} {vs : List Value} {k : Nat} {Q : Value → Loc → View → Mu → Prop} (hh : C.A.handled = none) (hl : V l = some (tupO vs k))
    (h : ∀ I o S, ItOk C V I vs.length (fun i v => vs[i]? = some v) S → ItSt V I o (S 0) → Q (.ref I) m V ((I, o) :: mu)) : Tr C m V mu (pyIter (.ref l)) Q := .of fun s hs => by
  have e := hs.1.held.sub _ _ hl
  have hne := Inv.ne_size e
  refine wpAny_pyIter_tuple (items := vs.toArray) ⟨_, e, rfl, k, rfl⟩ ⟨m, V, _, ⟨hs.1.pushMu rfl, hs.2⟩, h _ _ (fun i h => h.IsTupleIter s.heap.objs.size l i ∧ h.IsTuple l vs.toArray) ⟨[s.heap.objs.size, l], by simpa using Walks.tuple hh _ l hne vs.toArray, fun b hb => ?_, fun i g st => let ⟨o, ho, _⟩ := st.1; ⟨o, ho⟩⟩ fun g eg kg => ?_⟩
  · simp at hb
    rcases hb with rfl | rfl
    · exact .inl rfl
    · exact .inr ⟨_, hl⟩
  · exact ⟨⟨_, eg, rfl, rfl⟩, ⟨_, kg _ _ hl, rfl, k, rfl⟩⟩
theorem iter_bytes {b : Array UInt8} {t : Tok} {Q : Value → Loc → View → Mu → Prop} (hh : C.A.handled = none)
    (h : ∀ I o S, ItOk C V I b.size (fun i v => ∃ c u, b[i]? = some c ∧ v = .int (c.toNat : Int) u) S → ItSt V I o (S 0) → Q (.ref I) m V ((I, o) :: mu)) : Tr C m V mu (pyIter (.bytes b t)) Q := .of fun s hs => by
  refine KBw.pyIter_bytes ⟨m, V, _, ⟨hs.1.pushMu rfl, hs.2⟩, h _ _ _ ⟨_, KBw.walks hh _ b t, fun b hb => by simp at hb; exact .inl hb, fun i g st => let ⟨o, ho, _⟩ := st; ⟨o, ho⟩⟩ fun g eg kg => ?_⟩
  exact ⟨_, eg, rfl, rfl⟩
theorem iter_ascii {x : Str} {t : Tok} {Q : Value → Loc → View → Mu → Prop} (hh : C.A.handled = none) (ha : x.cps.all (· < 128) = true)
    (h : ∀ I o S, ItOk C V I x.cps.size (SignAt x) S → ItSt V I o (S 0) → Q (.ref I) m V ((I, o) :: mu)) : Tr C m V mu (pyIter (.str x t)) Q := .of fun s hs => by
  refine wpAny_pyIter_ascii ha ⟨m, V, _, ⟨hs.1.pushMu rfl, hs.2⟩, h _ _ _ ⟨_, Walks.strAscii hh _ x t, fun b hb => by simp at hb; exact .inl hb, fun i g st => let ⟨o, ho, _⟩ := st; ⟨o, ho⟩⟩ fun g eg kg => ?_⟩
  exact ⟨_, eg, rfl, rfl⟩

theorem Tr.goN {t : Sem α} {Q : α → Loc → View → Mu → Prop} {R : α → Shared → Prop} {E : Value → Shared → Prop} {s : Shared} (hX : NoX C) (h : Tr C m V mu t Q) (hs : St C m V mu s)
    (k : ∀ v m V mu s', St C m V mu s' → Q v m V mu → R v s') : wpAny C.M C.A t R E s :=
  wpAny_mono (h.run s hs) (fun v s' ⟨m', V', mu', h1, h2⟩ => k v m' V' mu' s' h1 h2) (fun e s x => (hX e s x).elim)

variable {N Bk Ct : Loc → View → Mu → Prop} {R : Value → View → Mu → Prop}
abbrev FoP2 (C : Cx) (target : Expr) (body orelse : List Stmt) (N : Loc → View → Mu → Prop) (R : Value → View → Mu → Prop) (Bk Ct : Loc → View → Mu → Prop) : Value → Loc → View → Mu → Prop := fun it m V mu => TrS C m V mu (runOwn (.forLoop target it body orelse C.env) C.env) N R Bk Ct
abbrev FoP (C : Cx) (target : Expr) (body orelse : List Stmt) (N : Loc → View → Mu → Prop) (R : Value → View → Mu → Prop) (Bk Ct : Loc → View → Mu → Prop) : Value → Loc → View → Mu → Prop := fun x m V mu => Tr C m V mu (pyIter x) (FoP2 C target body orelse N R Bk Ct)
theorem ts_For {target iter : Expr} {body orelse : List Stmt} {pos : Pos} (h : Tr C m V mu (eval iter C.env) (FoP C target body orelse N R Bk Ct))
    (hs : ∀ x, foldedSetIterable iter C.env x = pure x := by intro _; rfl) : TrS C m V mu (exec (.For target iter body orelse pos) C.env) N R Bk Ct := .of fun s hs' => by
  rw [arm_exec_For]
  refine wpAny_bind (wpAny_standAt (wpAny_bind (h.go hs' fun x m1 V1 mu1 s1 h1 p1 => ?_)))
  refine wpAny_bind (wpAny_of_eq (hs x) (wpAny_bind (wpAny_standAt (wpAny_bind (wpAny_holding (p1.go h1 fun it m2 V2 mu2 s2 h2 p2 => p2.run s2 h2))))))

abbrev FN (I : Addr) (o' : Obj) (V' : View) (Q : Loc → View → Mu → Prop) : Loc → View → Mu → Prop := fun m3 V3 mu3 => ∃ mu4, mu3 = (I, o') :: mu4 ∧ Le V' V3 ∧ Q m3 V3 mu4
abbrev FR (I : Addr) (o' : Obj) (R : Value → View → Mu → Prop) : Value → View → Mu → Prop := fun v V3 mu3 => ∃ mu4, mu3 = (I, o') :: mu4 ∧ R v V3 mu4
abbrev FB (I : Addr) (o' : Obj) (N : Loc → View → Mu → Prop) : Loc → View → Mu → Prop := fun m3 V3 mu3 => ∃ mu4, mu3 = (I, o') :: mu4 ∧ N m3 V3 mu4
abbrev WN (J : Nat → Loc → View → Mu → Prop) (k : Nat) : Loc → View → Mu → Prop := fun m V mu => ∃ k', k' < k ∧ J k' m V mu
abbrev WP (C : Cx) (body orelse : List Stmt) (J : Nat → Loc → View → Mu → Prop) (k : Nat) (N : Loc → View → Mu → Prop) (R : Value → View → Mu → Prop) (Bk Ct : Loc → View → Mu → Prop) : Bool → Loc → View → Mu → Prop := fun b m V mu => (b = true → TN C body (WN J k) R N (WN J k) m V mu) ∧ (b = false → TN C orelse N R Bk Ct m V mu)
theorem ts_forLoop {o : Obj} {target : Expr} {body orelse : List Stmt} (hX : NoX C) (ok : ItOk C V I n P S) (st : ItSt V I o (S 0)) (J : Nat → Loc → View → Mu → Prop) (h0 : J 0 m V mu)
    (step : ∀ i v o' m' V' mu', i < n → P i v → Le V V' → J i m' V' mu' → Tr C m' V' ((I, o') :: mu') (assign target C.env v) fun _ =>
      TN C body (FN I o' V' (J (i + 1))) (FR I o' R) (FB I o' N) (FN I o' V' (J (i + 1))))
    (fin : ∀ m' V' mu', Le V V' → J n m' V' mu' → TrS C m' V' mu' (execs orelse C.env) N R Bk Ct)
    (ht : ∀ v, letOwnedTupleGo target (.ref I) v = pure () := by intro _; rfl) :
    TrS C m V ((I, o) :: mu) (runOwn (.forLoop target (.ref I) body orelse C.env) C.env) N R Bk Ct := .of fun s hs => by
  refine wpAny_runOwn ?_
  show codeAny C.M C.A _ _ s
  refine codeAny_forLoop (fun k s => ∃ i o' m' V' mu', k = n - i ∧ i ≤ n ∧ St C m' V' ((I, o') :: mu') s ∧ Le V V' ∧ ItSt V' I o' (S i) ∧ J i m' V' mu') ?_ (n - 0) ⟨0, o, m, V, mu, rfl, Nat.zero_le _, hs, Le.refl _, st, h0⟩ ht
  rintro k s ⟨i, o1, m1, V1, mu1, rfl, hi, hs1, l1, st1, j1⟩
  by_cases hin : i < n
  · refine Tr.goN hX (it_item (Q := fun r m V mu => ∃ v o', r = some v ∧ P i v ∧ ItSt V1 I o' (S (i + 1)) ∧ m = m1 ∧ V = V1 ∧ mu = (I, o') :: mu1) (ok.mono l1) hin st1 fun v o' hv hst => ⟨v, o', rfl, hv, hst, rfl, rfl, rfl⟩) hs1 ?_
    rintro r m2 V2 mu2 s2 h2 ⟨v, o', rfl, hv, hst, rfl, rfl, rfl⟩
    refine Tr.goN hX (step i v o' _ _ _ hin hv l1 j1) h2 fun _ m3 V3 mu3 s3 h3 p3 => ?_
    refine Tr.goN hX p3 h3 fun f m4 V4 mu4 s4 h4 p4 => ?_
    cases f with
    | next =>
      obtain ⟨mu5, rfl, l4, j4⟩ := p4
      exact ⟨n - (i + 1), by omega, i + 1, o', m4, V4, mu5, rfl, hin, h4, l1.trans l4, hst.mono l4, j4⟩
    | cont =>
      obtain ⟨mu5, rfl, l4, j4⟩ := p4
      exact ⟨n - (i + 1), by omega, i + 1, o', m4, V4, mu5, rfl, hin, h4, l1.trans l4, hst.mono l4, j4⟩
    | brk =>
      obtain ⟨mu5, rfl, q⟩ := p4
      exact ⟨m4, V4, mu5, ⟨h4.1.drop1 (fun _ _ _ e => e), h4.2⟩, q⟩
    | ret v =>
      obtain ⟨mu5, rfl, q⟩ := p4
      exact ⟨m4, V4, mu5, ⟨h4.1.drop1 (fun _ _ _ e => e), h4.2⟩, q⟩
  · obtain rfl : i = n := by omega
    refine Tr.goN hX (it_stop (Q := fun r m V mu => r = none ∧ m = m1 ∧ V = V1 ∧ mu = mu1) (ok.mono l1) st1 ⟨rfl, rfl, rfl, rfl⟩) hs1 ?_
    rintro r m2 V2 mu2 s2 h2 ⟨rfl, rfl, rfl, rfl⟩
    exact Tr.goN hX (fin _ _ _ l1 j1) h2 fun f m4 V4 mu4 s4 h4 p4 => ⟨m4, V4, mu4, h4, p4⟩

theorem tr_assign_Name {x : Str} {pos : Pos} {v : Value} {Q : Unit → Loc → View → Mu → Prop} (h : Tr C m V mu (storeName C.env x v) Q) : Tr C m V mu (assign (.Name x pos) C.env v) Q := .of fun s hs => by
  rw [arm_assign_Name]
  exact wpAny_bind (wpAny_standAt (wpAny_bindName (h.run s hs)))

theorem ts_While {test : Expr} {body orelse : List Stmt} {pos : Pos} (hX : NoX C) (J : Nat → Loc → View → Mu → Prop) (k : Nat) (h0 : J k m V mu)
    (turn : ∀ k m V mu, J k m V mu → Tr C m V mu (isTrue test C.env (eval test C.env)) 
      (WP C body orelse J k N R Bk Ct)) :
    TrS C m V mu (exec (.While test body orelse pos) C.env) N R Bk Ct := .of fun s hs => by
  refine wpAny_While ?_
  refine codeAny_whileLoop (fun k s => ∃ m V mu, St C m V mu s ∧ J k m V mu) ?_ k ⟨m, V, mu, hs, h0⟩
  rintro k s ⟨m1, V1, mu1, h1, j1⟩
  refine Tr.goN hX (turn k _ _ _ j1) h1 fun b m2 V2 mu2 s2 h2 p2 => ?_
  cases b with
  | false => exact Tr.goN hX (p2.2 rfl) h2 fun f m4 V4 mu4 s4 h4 p4 => ⟨m4, V4, mu4, h4, p4⟩
  | true =>
    refine Tr.goN hX (p2.1 rfl) h2 fun f m4 V4 mu4 s4 h4 p4 => ?_
    cases f with
    | next => obtain ⟨k', hk, q⟩ := p4; exact ⟨k', hk, m4, V4, mu4, h4, q⟩
    | cont => obtain ⟨k', hk, q⟩ := p4; exact ⟨k', hk, m4, V4, mu4, h4, q⟩
    | brk => exact ⟨m4, V4, mu4, h4, p4⟩
    | ret v => exact ⟨m4, V4, mu4, h4, p4⟩
end
end
end Mine

end
section
open PySem PySem.Calls PySem.W PyProof.Rows
namespace Mine
noncomputable section
section
variable {C : Cx} {m : Loc} {V : View} {mu : Mu} {α β : Type} {P : Value → Loc → View → Mu → Prop}

/-- a method of a built-in kind -/
theorem tr_Method {o : Expr} {name : Str} {apos pos : Pos} {args : List Expr} {T id : String} (pa : PlainAttrs T) (slot : Slot T name id) (ty : typeOf (.builtin id) = pure (.type "method_descriptor"))
    (h : Tr C m V mu (eval o C.env) fun ov m V mu => (∀ s, St C m V mu s → s.TypeIs ov T ∧ ∀ a, ov = .ref a → ∃ ob, s.heap.get? a = some ob ∧ ob.dict = none) ∧ Tr C m V mu (callWith pos (.builtin id) [ov] (backTo pos (starEach args C.env)) []) P)
    (hbase : attributeBase o name C.env (eval o C.env) = eval o C.env := by rfl)
    (hfew : ((backTo pos (starEach args C.env)).all (fun x => !x.1) && (backToKw pos (keywordEach [] C.env)).all (fun x => x.1.isSome)
      && decide (args.length + ([] : List Keyword).length + (if ([] : List Keyword).isEmpty then 0 else 1) < 30)) = true := by rfl)
    (hline : (apos.endLine == pos.line) = true := by rfl) : Tr C m V mu (eval (.Call (.Attribute o name apos) args [] pos) C.env) P := .of fun s hs =>
  wpAny_Call_method hbase hfew hline pa slot ty (h.go hs fun ov m1 V1 mu1 s1 h1 p1 => ⟨(p1.1 s1 h1).1, (p1.1 s1 h1).2, p1.2.run s1 h1⟩)
theorem tr_cwM {id : String} {first : List Value} {e : Expr} {rest : List Expr} {pos : Pos}
    (h : Tr C m V mu (spliced (backTo pos (starEach (e :: rest) C.env))) fun vs m V mu => Tr C m V mu (call (.builtin id) (first ++ vs)) P)
    (he : starEach (e :: rest) C.env = (false, eval e C.env) :: starEach rest C.env := by rfl) (hp : (backTo pos (starEach rest C.env)).any (·.1) = false := by rfl) :
    Tr C m V mu (callWith pos (.builtin id) first (backTo pos (starEach (e :: rest) C.env)) []) P := .of fun s hs =>
  callWith_method1 (h.go hs fun _ _ _ _ s1 h1 p1 => p1.run s1 h1) he hp
theorem tr_cwM0 {id : String} {first : List Value} {pos : Pos} (h : Tr C m V mu (call (.builtin id) first) P) :
    Tr C m V mu (callWith pos (.builtin id) first (backTo pos (starEach [] C.env)) []) P := .of fun s hs => callWith_method0 (h.run s hs)

/-- of a text -/
theorem tr_mStr {o : Expr} {name : Str} {apos pos : Pos} {e : Expr} {rest : List Expr} {id : String} (slot : Slot "str" name id) (ty : typeOf (.builtin id) = pure (.type "method_descriptor"))
    (h : Tr C m V mu (eval o C.env) fun ov m V mu => ∃ x t, ov = .str x t ∧ Tr C m V mu (spliced (backTo pos (starEach (e :: rest) C.env))) (CcP C (.builtin id) (.str x t) P))
    (hbase : attributeBase o name C.env (eval o C.env) = eval o C.env := by rfl)
    (hfew : ((backTo pos (starEach (e :: rest) C.env)).all (fun x => !x.1) && (backToKw pos (keywordEach [] C.env)).all (fun x => x.1.isSome)
      && decide ((e :: rest).length + ([] : List Keyword).length + (if ([] : List Keyword).isEmpty then 0 else 1) < 30)) = true := by rfl)
    (hline : (apos.endLine == pos.line) = true := by rfl)
    (he : starEach (e :: rest) C.env = (false, eval e C.env) :: starEach rest C.env := by rfl) (hp : (backTo pos (starEach rest C.env)).any (·.1) = false := by rfl) :
    Tr C m V mu (eval (.Call (.Attribute o name apos) (e :: rest) [] pos) C.env) P :=
  tr_Method F.plainAttrs_str slot ty (tr_mono h fun ov m V mu ⟨x, t, e1, q⟩ => by
    subst e1
    exact ⟨fun s hs => ⟨typeIs_str s x t, fun a e => nomatch e⟩, tr_cwM q he hp⟩) hbase hfew hline
/-- of a list, with arguments -/
theorem tr_mList {o : Expr} {name : Str} {apos pos : Pos} {e : Expr} {rest : List Expr} {id : String} (slot : Slot "list" name id) (ty : typeOf (.builtin id) = pure (.type "method_descriptor"))
    (h : Tr C m V mu (eval o C.env) fun ov m V mu => ∃ l vs n, ov = .ref l ∧ Known C V mu l (listO vs n) ∧ Tr C m V mu (spliced (backTo pos (starEach (e :: rest) C.env))) (CcP C (.builtin id) (.ref l) P))
    (hbase : attributeBase o name C.env (eval o C.env) = eval o C.env := by rfl)
    (hfew : ((backTo pos (starEach (e :: rest) C.env)).all (fun x => !x.1) && (backToKw pos (keywordEach [] C.env)).all (fun x => x.1.isSome)
      && decide ((e :: rest).length + ([] : List Keyword).length + (if ([] : List Keyword).isEmpty then 0 else 1) < 30)) = true := by rfl)
    (hline : (apos.endLine == pos.line) = true := by rfl)
    (he : starEach (e :: rest) C.env = (false, eval e C.env) :: starEach rest C.env := by rfl) (hp : (backTo pos (starEach rest C.env)).any (·.1) = false := by rfl) :
    Tr C m V mu (eval (.Call (.Attribute o name apos) (e :: rest) [] pos) C.env) P :=
  tr_Method F.plainAttrs_list slot ty (tr_mono h fun ov m V mu ⟨l, vs, n, e1, hk, q⟩ => by
    subst e1
    exact ⟨fun s hs => ⟨(hs.1.isList hk).typeIs, fun a e => by cases e; exact ⟨_, hs.1.known hk, rfl⟩⟩, tr_cwM q he hp⟩) hbase hfew hline
theorem tr_mList0 {o : Expr} {name : Str} {apos pos : Pos} {id : String} (slot : Slot "list" name id) (ty : typeOf (.builtin id) = pure (.type "method_descriptor"))
    (h : Tr C m V mu (eval o C.env) fun ov m V mu => ∃ l vs n, ov = .ref l ∧ Known C V mu l (listO vs n) ∧ Tr C m V mu (call (.builtin id) [.ref l]) P)
    (hbase : attributeBase o name C.env (eval o C.env) = eval o C.env := by rfl) (hline : (apos.endLine == pos.line) = true := by rfl) :
    Tr C m V mu (eval (.Call (.Attribute o name apos) [] [] pos) C.env) P :=
  tr_Method F.plainAttrs_list slot ty (tr_mono h fun ov m V mu ⟨l, vs, n, e1, hk, q⟩ => by
    subst e1
    exact ⟨fun s hs => ⟨(hs.1.isList hk).typeIs, fun a e => by cases e; exact ⟨_, hs.1.known hk, rfl⟩⟩, tr_cwM0 q⟩) hbase rfl hline

-- calls of the built-ins
variable {x y : Str} {t u : Tok} {a b : Int}
theorem c_index {i : Nat} {rest : List Nat} (ho : Builtin.Str.occurrences x y 0 x.length 1 = i :: rest) (h : ∀ tk, P (.int i tk) m V mu) : Tr C m V mu (call (.builtin "str.index") [.str x t, .str y u]) P := .of fun s hs => SC.index ho ⟨m, V, mu, hs, h _⟩
theorem c_starts (h : P (.bool (Txt.startswith x y)) m V mu) : Tr C m V mu (call (.builtin "str.startswith") [.str x t, .str y u]) P := .of fun s hs => SC.startswith ⟨m, V, mu, hs, h⟩
theorem c_ends (h : P (.bool (Txt.endswith x y)) m V mu) : Tr C m V mu (call (.builtin "str.endswith") [.str x t, .str y u]) P := .of fun s hs => SC.endswith ⟨m, V, mu, hs, h⟩
theorem c_append {l : Addr} {vs : List Value} {n : Nat} {mu' : Nat → Mu} {v : Value} (hu : ∀ n', Upd l (listO vs n) (listO (vs ++ [v]) n') mu (mu' n')) (hz : vs.length ≤ sizeLine) (h : ∀ n', P .none m V (mu' n')) :
    Tr C m V mu (call (.builtin "list.append") [.ref l, v]) P := .of fun s hs => by
  refine wpAny_list_append_plain (items := vs.toArray) ⟨n, hs.1.held.has _ (hu 0).mem⟩ (fun h' ⟨n', e⟩ hsb => ⟨m, V, mu' n', ⟨hs.1.turn (hu n') hsb (by rw [e]; simp [listO]), hs.2⟩, h n'⟩) (by simpa using hz)
theorem c_len {l : Addr} {vs : List Value} {n : Nat} (hk : Known C V mu l (listO vs n)) (hz : vs.length ≤ sizeLine) (h : ∀ tk, P (.int vs.length tk) m V mu) : Tr C m V mu (call (.builtin "len") [.ref l]) P := .of fun s hs =>
  PyProof.Rows.len_list (hs.1.isList hk) (by have := sizeLine_eq; simp; omega) ⟨m, V, mu, hs, by simpa using h _⟩
theorem c_lenB {b : Array UInt8} (hz : b.size ≤ 1099511627776) (h : ∀ tk, P (.int b.size tk) m V mu) : Tr C m V mu (call (.builtin "len") [.bytes b t]) P := .of fun s hs => len_bytes hz ⟨m, V, mu, hs, h _⟩
end
end
end Mine

end
section
open PySem PySem.Calls PySem.W PyProof.Rows
namespace Mine
noncomputable section
section
variable {C : Cx} {m : Loc} {V : View} {mu : Mu} {α β : Type} {P : Value → Loc → View → Mu → Prop}

theorem onT {X Y : Prop} (h : X) : (true = true → X) ∧ (true = false → Y) := ⟨fun _ => h, fun e => by cases e⟩
theorem onF {X Y : Prop} (h : Y) : (false = true → X) ∧ (false = false → Y) := ⟨fun e => (by cases e), fun _ => h⟩
noncomputable def sliceO (l u st : Value) : Obj := { cls := .type "slice", data := .fields #[l, u, st] }
theorem tr_Slice {lower upper step : Option Expr} {p : Pos}
    (h : Tr C m V mu (evalPart lower C.env) fun l m V mu => Tr C m V mu (evalPart upper C.env) fun u m V mu => Tr C m V mu (evalPart step C.env) fun st m V mu => ∀ a V', Le V V' → V' a = some (sliceO l u st) → P (.ref a) m V' mu) :
    Tr C m V mu (eval (.Slice lower upper step p) C.env) P := .of fun s hs =>
  wpAny_Slice (h.go hs fun l _ _ _ s1 h1 p1 => p1.go h1 fun u _ _ _ s2 h2 p2 => p2.go h2 fun st m3 V3 mu3 s3 h3 p3 =>
    ⟨m3, _, mu3, ⟨h3.1.push (o := sliceO l u st) rfl, h3.2⟩, p3 _ _ (h3.1.put_le _) (put_self ..)⟩)
theorem tr_partN (h : P .none m V mu) : Tr C m V mu (evalPart none C.env) P := .of fun s hs => wpAny_evalPart_none ⟨m, V, mu, hs, h⟩
theorem tr_partS {e : Expr} (h : Tr C m V mu (eval e C.env) P) : Tr C m V mu (evalPart (some e) C.env) P := .of fun s hs => wpAny_evalPart_some (h.run s hs)

variable {x y : Str} {t u : Tok} {a b : Int} {lo hi st : Option Int} {vl vu vs : Value} {sl : Addr}
theorem sub_sliceL {value slice : Expr} {l : Addr} {ws : List Value} {n : Nat} (hk : Known C V mu l (listO ws n)) (hs : V sl = some (sliceO vl vu vs)) (pl : IsPart vl lo) (pu : IsPart vu hi) (ps : IsPart vs st) (h0 : st ≠ some 0) (hz : ws.length ≤ sizeLine)
    (h : ∀ a V', Le V V' → V' a = some (listO (slicePick ws.toArray lo hi st).toList 0) → P (.ref a) m V' mu) : Tr C m V mu (subscriptTail value slice (.ref l) (.ref sl)) P :=
  subTail (T := "list") (fun s hs => (hs.1.isList hk).typeIs) PySem.slot_list_getitem.lookup <| .of fun s hs' =>
    wpAny_getItem_list_slice (hs'.1.isList hk) ⟨_, hs'.1.held.sub _ _ hs, rfl, rfl⟩ pl pu ps h0 ⟨m, _, mu, ⟨hs'.1.push (o := listO (slicePick ws.toArray lo hi st).toList 0) rfl, hs'.2⟩, h _ _ (hs'.1.put_le _) (put_self ..)⟩ (by simpa using hz)
theorem sub_sliceB {value slice : Expr} {b : Array UInt8} (hs : V sl = some (sliceO vl vu .none)) (pl : IsPart vl lo) (pu : IsPart vu hi) (hz : b.size ≤ sizeLine)
    (h : ∀ tk, P (.bytes (KBy.picked b lo hi) tk) m V mu) : Tr C m V mu (subscriptTail value slice (.bytes b t) (.ref sl)) P :=
  subTail (T := "bytes") (fun s hs => typeIs_bytes s b t) FB.slot_bytes_getitem.lookup <| .of fun s hs' =>
    getItem_meets (typeIs_bytes _ _ _) (by decide) FB.slot_bytes_getitem FB.entry_bytes_getitem (FB.args_bytes_getitem_2 _ _) (KBc.meets_slice2 b t _ pl pu)
      ⟨⟨_, hs'.1.held.sub _ _ hs, rfl, rfl⟩, Nat.le_trans (KBc.size_picked_le b lo hi) hz, fun t' k => ⟨m, V, mu, hs', h _⟩⟩
theorem IsPart.back {v : Value} {o : Option Int} (h : IsPart v o) : ∃ p : Option (Int × Tok), v = partValue p ∧ p.map (·.1) = o := by
  cases h with
  | none => exact ⟨none, rfl, rfl⟩
  | int i t => exact ⟨some (i, t), rfl, rfl⟩
theorem sub_sliceS {value slice : Expr} (hs : V sl = some (sliceO vl vu .none)) (pl : IsPart vl lo) (pu : IsPart vu hi) (hz : x.length ≤ sizeLine)
    (h : ∀ tk, P (.str (Txt.slice x lo hi) tk) m V mu) : Tr C m V mu (subscriptTail value slice (.str x t) (.ref sl)) P :=
  subTail (T := "str") (fun s hs => typeIs_str s x t) PyProof.Rows.slot_str_getitem.lookup <| .of fun s hs' => by
    obtain ⟨p, rfl, rfl⟩ := IsPart.back pl
    obtain ⟨q, rfl, rfl⟩ := IsPart.back pu
    refine wpAny_getItem_str_slice (l := p) (u := q) (st := none) ⟨_, hs'.1.held.sub _ _ hs, rfl, rfl⟩ rfl ?_
    have le := Txt.slice_le x (p.map (·.1)) (q.map (·.1))
    unfold Txt.slice at h le
    show Made.post (if ((1 : Int) == 1 && (Builtin.Str.strSliceIndices (p.map (·.1)) (q.map (·.1)) 1 x.length).length == x.length) = true then _ else _) _ s
    split
    · rename_i c
      rw [if_pos c] at h
      exact ⟨m, V, mu, hs', h _⟩
    · rename_i c
      rw [if_neg c] at h le
      exact ⟨Nat.le_trans le hz, m, V, mu, hs', h _⟩

-- kinds
theorem c_typeS (h : P (.type "str") m V mu) : Tr C m V mu (call (.type "type") [.str x t]) P := .of fun s hs => call_type_of (typeIs_str s x t) (by decide) ⟨m, V, mu, hs, h⟩
theorem c_typeB {b : Array UInt8} (h : P (.type "bytes") m V mu) : Tr C m V mu (call (.type "type") [.bytes b t]) P := .of fun s hs => call_type_of (typeIs_bytes s b t) (by decide) ⟨m, V, mu, hs, h⟩
theorem c_typeBool {b : Bool} (h : P (.type "bool") m V mu) : Tr C m V mu (call (.type "type") [.bool b]) P := .of fun s hs => call_type_of (x := .bool b) (Tx := "bool") rfl (by decide) ⟨m, V, mu, hs, h⟩
theorem c_isiSB (h : P (.bool false) m V mu) : Tr C m V mu (call (.builtin "isinstance") [.str x t, .type "bytes"]) P := .of fun s hs => IsiPair.str_bytes ⟨m, V, mu, hs, h⟩
theorem c_isiBB {b : Array UInt8} (h : P (.bool true) m V mu) : Tr C m V mu (call (.builtin "isinstance") [.bytes b t, .type "bytes"]) P := .of fun s hs =>
  call_isinstance (isinstance_true F.isi_meta_bytes F.sub_bytes_bytes) ⟨typeIs_bytes s b t, m, V, mu, hs, h⟩
end
end
end Mine

end
section
open PySem PySem.Calls PySem.W PyProof.Rows
namespace Mine
noncomputable section
theorem g_wall (P : Params) : gmap P "_wall" = some (.ref 21) := by kernel_rfl!
theorem k_wall (P : Params) : (K P).lookup 21 = some (fnO (fdAt 21)) := by kernel_rfl!
theorem g_fspath (P : Params) : gmap P "fspath" = some (.ref 94) := by kernel_rfl!
theorem k_fspath (P : Params) : (K P).lookup 94 = some (fnO (fdAt 94)) := by kernel_rfl!
theorem g_get_sep (P : Params) : gmap P "_get_sep" = some (.ref 108) := by kernel_rfl!
theorem k_get_sep (P : Params) : (K P).lookup 108 = some (fnO (fdAt 108)) := by kernel_rfl!
theorem g_join (P : Params) : gmap P "join" = some (.ref 115) := by kernel_rfl!
theorem k_join (P : Params) : (K P).lookup 115 = some (fnO (fdAt 115)) := by kernel_rfl!
theorem g_splitroot (P : Params) : gmap P "splitroot" = some (.ref 122) := by kernel_rfl!
theorem k_splitroot (P : Params) : (K P).lookup 122 = some (fnO (fdAt 122)) := by kernel_rfl!
theorem g_normpath (P : Params) : gmap P "normpath" = some (.ref 129) := by kernel_rfl!
theorem k_normpath (P : Params) : (K P).lookup 129 = some (fnO (fdAt 129)) := by kernel_rfl!
theorem g_read_uint1 (P : Params) : gmap P "read_uint1" = some (.ref 136) := by kernel_rfl!
theorem k_read_uint1 (P : Params) : (K P).lookup 136 = some (fnO (fdAt 136)) := by kernel_rfl!
theorem g_read_string1 (P : Params) : gmap P "read_string1" = some (.ref 143) := by kernel_rfl!
theorem k_read_string1 (P : Params) : (K P).lookup 143 = some (fnO (fdAt 143)) := by kernel_rfl!
theorem g_read_bytes1 (P : Params) : gmap P "read_bytes1" = some (.ref 150) := by kernel_rfl!
theorem k_read_bytes1 (P : Params) : (K P).lookup 150 = some (fnO (fdAt 150)) := by kernel_rfl!
theorem g_Example (P : Params) : gmap P "_Example" = some (.ref 167) := by kernel_rfl!
theorem g_buffer (P : Params) : gmap P "_buffer" = some (.ref 178) := by kernel_rfl!
theorem k_buffer (P : Params) : (K P).lookup 178 = some (fnO (fdAt 178)) := by kernel_rfl!
theorem g_truth (P : Params) : gmap P "_truth" = some (.ref 185) := by kernel_rfl!
theorem k_truth (P : Params) : (K P).lookup 185 = some (fnO (fdAt 185)) := by kernel_rfl!
theorem g_b2a_base64 (P : Params) : gmap P "b2a_base64" = some (.ref 193) := by kernel_rfl!
theorem k_b2a_base64 (P : Params) : (K P).lookup 193 = some (fnO (fdAt 193)) := by kernel_rfl!
theorem g_b64encode (P : Params) : gmap P "b64encode" = some (.ref 201) := by kernel_rfl!
theorem k_b64encode (P : Params) : (K P).lookup 201 = some (fnO (fdAt 201)) := by kernel_rfl!
theorem g_law_stream (P : Params) : gmap P "_law_stream" = some (.ref 208) := by kernel_rfl!
theorem k_law_stream (P : Params) : (K P).lookup 208 = some (fnO (fdAt 208)) := by kernel_rfl!
theorem g_law_signs (P : Params) : gmap P "_law_signs" = some (.ref 215) := by kernel_rfl!
theorem k_law_signs (P : Params) : (K P).lookup 215 = some (fnO (fdAt 215)) := by kernel_rfl!
theorem g_law_cell (P : Params) : gmap P "_law_cell" = some (.ref 222) := by kernel_rfl!
theorem k_law_cell (P : Params) : (K P).lookup 222 = some (fnO (fdAt 222)) := by kernel_rfl!
theorem g_law_octets (P : Params) : gmap P "_law_octets" = some (.ref 229) := by kernel_rfl!
theorem k_law_octets (P : Params) : (K P).lookup 229 = some (fnO (fdAt 229)) := by kernel_rfl!
theorem g_law_tape (P : Params) : gmap P "_law_tape" = some (.ref 236) := by kernel_rfl!
theorem k_law_tape (P : Params) : (K P).lookup 236 = some (fnO (fdAt 236)) := by kernel_rfl!
theorem g_law_items (P : Params) : gmap P "_law_items" = some (.ref 243) := by kernel_rfl!
theorem k_law_items (P : Params) : (K P).lookup 243 = some (fnO (fdAt 243)) := by kernel_rfl!
theorem g_law_written (P : Params) : gmap P "_law_written" = some (.ref 250) := by kernel_rfl!
theorem k_law_written (P : Params) : (K P).lookup 250 = some (fnO (fdAt 250)) := by kernel_rfl!
theorem g_law_pair (P : Params) : gmap P "_law_pair" = some (.ref 257) := by kernel_rfl!
theorem k_law_pair (P : Params) : (K P).lookup 257 = some (fnO (fdAt 257)) := by kernel_rfl!
theorem g_law_struck (P : Params) : gmap P "_law_struck" = some (.ref 262) := by kernel_rfl!
theorem k_law_struck (P : Params) : (K P).lookup 262 = some (fnO (fdAt 262)) := by kernel_rfl!
theorem g_law_due (P : Params) : gmap P "_law_due" = some (.ref 267) := by kernel_rfl!
theorem k_law_due (P : Params) : (K P).lookup 267 = some (fnO (fdAt 267)) := by kernel_rfl!
theorem n_type (P : Params) : gmap P "type" = none := by kernel_rfl!
theorem n_str (P : Params) : gmap P "str" = none := by kernel_rfl!
theorem n_bytes (P : Params) : gmap P "bytes" = none := by kernel_rfl!
theorem n_issubclass (P : Params) : gmap P "issubclass" = none := by kernel_rfl!
theorem n_isinstance (P : Params) : gmap P "isinstance" = none := by kernel_rfl!
theorem n_len (P : Params) : gmap P "len" = none := by kernel_rfl!
theorem n_sum (P : Params) : gmap P "sum" = none := by kernel_rfl!
theorem n_min (P : Params) : gmap P "min" = none := by kernel_rfl!
theorem n_max (P : Params) : gmap P "max" = none := by kernel_rfl!
theorem n_sorted (P : Params) : gmap P "sorted" = none := by kernel_rfl!
theorem n_range (P : Params) : gmap P "range" = none := by kernel_rfl!
theorem n_ValueError (P : Params) : gmap P "ValueError" = none := by kernel_rfl!
theorem b_issubclass : bootBuiltins "issubclass" = some (.builtin "issubclass") := by kernel_rfl!
theorem b_len : bootBuiltins "len" = some (.builtin "len") := by kernel_rfl!
theorem b_sorted : bootBuiltins "sorted" = some (.builtin "sorted") := by kernel_rfl!
theorem b_ValueError : bootBuiltins "ValueError" = some (.type "ValueError") := by kernel_rfl!
end
end Mine

end
section
open PySem PySem.Calls PySem.W PyProof.Rows
namespace Mine
noncomputable section
section
variable {C : Cx} {m : Loc} {V : View} {mu : Mu} {α β : Type} {P : Value → Loc → View → Mu → Prop}

-- unpacking
theorem tr_draw {I : Addr} {vs : List Value} {S : Nat → Heap → Prop} (ok : ItOk C V I vs.length (fun i v => vs[i]? = some v) S) :
    ∀ (n i : Nat) (o : Obj) (m : Loc) (mu : Mu) (Q : List Value → Loc → View → Mu → Prop), i + n ≤ vs.length → ItSt V I o (S i) → (∀ o', ItSt V I o' (S (i + n)) → Q ((vs.drop i).take n) m V ((I, o') :: mu)) → Tr C m V ((I, o) :: mu) (draw (.ref I) n) Q
  | 0, i, o, m, mu, Q, _, st, h => tr_pure (by simpa using h o st)
  | n + 1, i, o, m, mu, Q, hi, st, h => by
    unfold draw
    refine tr_bind (it_item ok (by omega) st fun v o' hv st' => ?_)
    refine tr_bind (tr_holding (tr_draw ok n (i + 1) o' m mu _ (by omega) st' fun o2 st2 => tr_pure ?_))
    have e : v :: List.take n (List.drop (i + 1) vs) = List.take (n + 1) (List.drop i vs) := by
      obtain ⟨hl, hv'⟩ := List.getElem?_eq_some_iff.mp hv
      rw [List.drop_eq_getElem_cons hl, List.take_succ_cons, hv']
    rw [e]
    exact h o2 (by rw [show i + (n + 1) = i + 1 + n by omega]; exact st2)
theorem tr_unpackIt {v : Value} {T id : String} {vs : List Value} {Q : List Value → Loc → View → Mu → Prop} (hT : ∀ s, St C m V mu s → s.TypeIs v T) (hl : typeLookup (.type T) "__iter__" = pure (some (.builtin id)))
    (hit : ∀ (m : Loc) (mu : Mu) (Q : Value → Loc → View → Mu → Prop), (∀ I o S, ItOk C V I vs.length (fun i v => vs[i]? = some v) S → ItSt V I o (S 0) → Q (.ref I) m V ((I, o) :: mu)) → Tr C m V mu (pyIter v) Q)
    (h : Q vs m V mu) : Tr C m V mu (unpackItems v vs.length none) Q := by
  unfold unpackItems
  refine tr_bind (.of fun s hs => ?_)
  unfold notIterableAtAll
  refine wpAny_bind (wpAny_specialOf (hT s hs) hl (wpAny_pure ⟨m, V, mu, hs, ?_⟩))
  show Tr C m V mu (do
    let it ← holding [v] (pyIter v)
    let items ← holding [it] (draw it vs.length)
    if items.length < vs.length then
      rule "unpack.too-few"; raiseError "ValueError" s!"not enough values to unpack (expected {vs.length}, got {items.length})"
    if (← holding items (pyNext it)).isSome then
      rule "unpack.too-many"; raiseError "ValueError" s!"too many values to unpack (expected {vs.length})"
    return items) Q
  refine tr_bind (tr_holding (hit _ _ _ fun I o S ok st => ?_))
  refine tr_bind (tr_holding (tr_draw ok vs.length 0 o _ _ _ (by omega) st fun o' st' => ?_))
  have e : List.take vs.length (List.drop 0 vs) = vs := by simp
  rw [e, if_neg (Nat.lt_irrefl _)]
  refine tr_bind (tr_holding (it_stop ok (by simpa using st') ?_))
  exact tr_pure h
theorem Inv.isTuple {h : Heap} {l : Addr} {vs : List Value} {n : Nat} (H : Inv C m V mu h) (k : V l = some (tupO vs n)) : h.IsTuple l vs.toArray := ⟨_, H.held.sub _ _ k, rfl, n, rfl⟩
theorem tr_unpackT {l : Addr} {vs : List Value} {k n : Nat} {Q : List Value → Loc → View → Mu → Prop} (hh : C.A.handled = none) (hl : V l = some (tupO vs k)) (hn : vs.length = n) (h : Q vs m V mu) : Tr C m V mu (unpackItems (.ref l) n none) Q :=
  hn ▸ tr_unpackIt (T := "tuple") (fun s hs => (hs.1.isTuple hl).typeIs) F.slot_tuple_iter.lookup (fun m mu Q h => iter_tuple hh hl h) h
theorem tr_unpackL {l : Addr} {vs : List Value} {k n : Nat} {Q : List Value → Loc → View → Mu → Prop} (hh : C.A.handled = none) (hl : V l = some (listO vs k)) (hn : vs.length = n) (h : Q vs m V mu) : Tr C m V mu (unpackItems (.ref l) n none) Q :=
  hn ▸ tr_unpackIt (T := "list") (fun s hs => (hs.1.isList (.inl hl)).typeIs) PySem.slot_list_iter.lookup (fun m mu Q h => iter_list hh hl h) h
variable {U : Unit → Loc → View → Mu → Prop}
theorem tr_aio_nil {ts : List (Value → Sem Unit)} (h : U () m V mu) : Tr C m V mu (assignInOrder ts []) U := by
  cases ts <;> exact tr_pure h
abbrev AiP (C : Cx) (ts : List (Value → Sem Unit)) (xs : List Value) (U : Unit → Loc → View → Mu → Prop) : Unit → Loc → View → Mu → Prop := fun _ m V mu => Tr C m V mu (assignInOrder ts xs) U
abbrev AuP (C : Cx) (elts : List Expr) (U : Unit → Loc → View → Mu → Prop) : List Value → Loc → View → Mu → Prop := fun vs m V mu => Tr C m V mu (assignInOrder ((assignEach elts C.env).map (·.2)) vs) U
abbrev AtP (C : Cx) (elts : List Expr) (k : Nat) (p : Pos) (N : Loc → View → Mu → Prop) : Value → Loc → View → Mu → Prop := fun v m V mu => Tr C m V mu (assign (.Tuple elts k p) C.env v) (IgP N)
theorem tr_aio {t : Value → Sem Unit} {ts : List (Value → Sem Unit)} {x : Value} {xs : List Value} (h : Tr C m V mu (t x) (AiP C ts xs U)) : Tr C m V mu (assignInOrder (t :: ts) (x :: xs)) U := by
  unfold assignInOrder
  exact tr_bind (tr_holding h)
/-- a tuple of targets -/
theorem tr_asgT {elts : List Expr} {k : Nat} {pos : Pos} {v : Value} {n : Nat} (hn : elts.length = n) (h : Tr C m V mu (unpackItems v n none) (AuP C elts U))
    (hl : (assignEach elts C.env).length = elts.length := by rfl) (hs : (assignEach elts C.env).findIdx? (·.1) = none := by rfl) : Tr C m V mu (assign (.Tuple elts k pos) C.env v) U := .of fun s hs' => by
  rw [arm_assign_Tuple]
  refine wpAny_bind (wpAny_standAt ?_)
  unfold unpack
  rw [hl, hs, hn]
  exact wpAny_bind (wpAny_holding (h.go hs' fun vs m1 V1 mu1 s1 h1 p1 => p1.run s1 h1))
variable {N Bk Ct : Loc → View → Mu → Prop} {R : Value → View → Mu → Prop}
theorem ts_AssignT {elts : List Expr} {k : Nat} {p pos : Pos} {value : Expr} (h : Tr C m V mu (eval value C.env) (AtP C elts k p N))
    (hs : swapsWithSole [.Tuple elts k p] value pos.line C.env = pure false := by rfl) (hw : swappedStores [.Tuple elts k p] value C.env = pure none := by rfl) : TrS C m V mu (exec (.Assign [.Tuple elts k p] value pos) C.env) N R Bk Ct := .of fun s hs' =>
  wpAny_Assign_stores (h.go hs' fun v m1 V1 mu1 s1 h1 p1 => by
    show wpAny _ _ (assignAll v [assign (.Tuple elts k p) C.env]) _ _ s1
    unfold assignAll
    exact p1.go h1 fun _ m2 V2 mu2 s2 h2 p2 => ⟨m2, V2, mu2, h2, p2⟩) hs hw
theorem ts_Expr {e : Expr} {pos : Pos} (h : Tr C m V mu (eval e C.env) (IgP N)) (hi : interactive C.env = false) (hs : swapsWith e none pos.line C.env = pure false := by rfl) : TrS C m V mu (exec (.Expr e pos) C.env) N R Bk Ct := .of fun s hs' =>
  wpAny_Expr_any (h.go hs' fun _ m2 V2 mu2 s2 h2 p2 => ⟨m2, V2, mu2, h2, p2⟩) hi hs
theorem Fm.notInteractive {sc : Scope} {n : Nat} (hC : Fm C sc n) : interactive C.env = false := by unfold interactive; rw [hC.kind]; rfl

-- built-ins
variable {x y : Str} {t u : Tok} {a b : Int} {T : Bool → Loc → View → Mu → Prop}
theorem tt_str (hz : x.length ≤ sizeLine) (h : T ((x.length : Int) != 0) m V mu) : Tr C m V mu (truthy (.str x t)) T := .of fun s hs => PySem.P.truthy_str (by have := sizeLine_eq; omega) ⟨m, V, mu, hs, h⟩
theorem tt_bytes {b : Array UInt8} (hz : b.size ≤ sizeLine) (h : T ((b.size : Int) != 0) m V mu) : Tr C m V mu (truthy (.bytes b t)) T := .of fun s hs => truthy_bytes (by have := sizeLine_eq; omega) ⟨m, V, mu, hs, h⟩
theorem tt_list {l : Addr} {vs : List Value} {n : Nat} (hk : Known C V mu l (listO vs n)) (hz : vs.length ≤ sizeLine) (h : T (!vs.isEmpty) m V mu) : Tr C m V mu (truthy (.ref l)) T := .of fun s hs =>
  wpAny_truthy_list (hs.1.isList hk) (by have := sizeLine_eq; simp; omega) ⟨m, V, mu, hs, by simpa using h⟩
theorem sub_last {value slice : Expr} {l : Addr} {vs : List Value} {n : Nat} {v : Value} (hk : Known C V mu l (listO vs n)) (hv : vs.getLast? = some v) (hz : vs.length ≤ sizeLine) (h : P v m V mu) :
    Tr C m V mu (subscriptTail value slice (.ref l) (.int (-1) u)) P :=
  subTail (T := "list") (fun s hs => (hs.1.isList hk).typeIs) PySem.slot_list_getitem.lookup <| .of fun s hs => by
    have hne : vs ≠ [] := fun e => by subst e; cases hv
    have hlen : 0 < vs.length := List.length_pos_iff.mpr hne
    refine wpAny_getItem_list_neg (hs.1.isList hk) (by decide) (by simp; omega) (by decide) ?_ ⟨m, V, mu, hs, h⟩
    rw [List.getLast?_eq_getElem?] at hv
    have e : (-1 + (vs.toArray.size : Int)).toNat = vs.length - 1 := by simp; omega
    rw [e]; simpa using hv
theorem c_pop {l : Addr} {vs : List Value} {n : Nat} {v : Value} {mu' : Nat → Mu} (hu : ∀ n', Upd l (listO (vs ++ [v]) n) (listO vs n') mu (mu' n')) (hz : vs.length + 1 ≤ sizeLine) (h : ∀ n', P v m V (mu' n')) :
    Tr C m V mu (call (.builtin "list.pop") [.ref l]) P := .of fun s hs => by
  have ho := hs.1.held.has _ (hu 0).mem
  have e : Obj.mapSeq (fun xs => xs.eraseIdxIfInBounds ((vs ++ [v]).toArray.size - 1)) (listO (vs ++ [v]) n) = listO vs (n + 1) := by
    have e1 : (vs ++ [v]).toArray.eraseIdxIfInBounds ((vs ++ [v]).toArray.size - 1) = vs.toArray := by
      simp [Array.eraseIdxIfInBounds, List.eraseIdx_append_of_length_le]
    unfold listO Obj.mapSeq
    dsimp only
    rw [e1]
    simp
  refine call_meets F.slot_list_pop ⟨_, ho, rfl⟩ F.entry_list_pop (F.args_list_pop_1 _) (PySem.MeetsSeq.list_pop_last l (vs ++ [v]).toArray n v (by simp) (by simpa using hz)) ⟨ho, ?_⟩
  exact ⟨m, V, _, ⟨hs.1.turn (hu (n + 1)) (Heap.SameBut.update ..) (by rw [Heap.get?_update_self _ ho (by rw [e]; rfl), e]), hs.2⟩, h _⟩
end
end
end Mine

end
section
open PySem PySem.Calls PySem.W PyProof.Rows
namespace Mine
noncomputable section
section
variable {C : Cx} {m : Loc} {V : View} {mu : Mu} {α β : Type} {P : Value → Loc → View → Mu → Prop}
variable {x y : Str} {t u : Tok} {a b : Int}
theorem ts_weaken {m' : Loc} {t : Sem Flow} {N Bk Ct : Loc → View → Mu → Prop} {R : Value → View → Mu → Prop} (hm : LocSub m' m) (h : TrS C m' V mu t N R Bk Ct) : TrS C m V mu t N R Bk Ct := tr_weaken hm.sub h
theorem ts_freeze {a : Addr} {o : Obj} {t : Sem Flow} {N Bk Ct : Loc → View → Mu → Prop} {R : Value → View → Mu → Prop} (h : ∀ V', Le V V' → V' a = some o → TrS C m V' mu t N R Bk Ct) : TrS C m V ((a, o) :: mu) t N R Bk Ct := tr_freeze h
theorem ts_forget {p : Addr × Obj} {t : Sem Flow} {N Bk Ct : Loc → View → Mu → Prop} {R : Value → View → Mu → Prop} (h : TrS C m V mu t N R Bk Ct) : TrS C m V (p :: mu) t N R Bk Ct := tr_forget h
theorem repL_strs (V : View) : ∀ l : List (Str × Tok), RepL V (strValues l) ((l.map (·.1)).map PV.str)
  | [] => .nil
  | (x, t) :: l => .cons (.str x t) (repL_strs V l)
theorem RepL.strs {V : View} : ∀ {vs : List Value} {texts : List Str}, RepL V vs (texts.map PV.str) → ∃ l : List (Str × Tok), vs = strValues l ∧ l.map (·.1) = texts
  | vs, [], h => by cases h; exact ⟨[], rfl, rfl⟩
  | vs, x :: texts, h => by
    cases h with
    | cons h1 h2 =>
      obtain ⟨t, rfl⟩ := h1.str_inv
      obtain ⟨l, rfl, rfl⟩ := RepL.strs h2
      exact ⟨(x, t) :: l, rfl, rfl⟩
theorem c_split (hy : (y.length == 0) = false) (hz : x.length ≤ 1000000)
    (h : ∀ a V' vs, Le V V' → V' a = some (listO vs 0) → RepL V' vs ((Txt.split x y).map PV.str) → P (.ref a) m V' mu) : Tr C m V mu (call (.builtin "str.split") [.str x t, .str y u]) P := .of fun s hs => by
  have hz1 : x.length ≤ sizeLine := Nat.le_trans hz (Nat.le_of_ble_eq_true rfl)
  have key : ∀ (l : List (Str × Tok)) (tk : Nat), l.map (·.1) = Txt.split x y → ∃ m' V' mu', St C m' V' mu' { s with heap := s.heap.push { cls := .type "list", data := .seq (strValues l).toArray }, toks := tk } ∧ P (.ref s.heap.objs.size) m' V' mu' := fun l tk e =>
    ⟨m, _, mu, ⟨hs.1.push (o := listO (strValues l) 0) rfl, hs.2⟩, h _ _ _ (hs.1.put_le _) (put_self ..) (by rw [← e]; exact repL_strs _ l)⟩
  cases h1 : (decide (x.length < y.length) || decide (Builtin.Str.strKind x < Builtin.Str.strKind y))
  · cases hf : (Builtin.Str.occurrences x y 0 x.length (x.length + 1)).isEmpty
    · have hs2 : (Builtin.Str.partsBetween x (Builtin.Str.occurrences x y 0 x.length (x.length + 1)) y.length).length ≤ sizeLine := by
        have := split_le x y
        unfold Txt.split at this
        rw [if_neg (ne_true_of_eq_false h1), if_neg (ne_true_of_eq_false hf)] at this
        exact Nat.le_trans this (Nat.le_trans (Nat.add_le_add_right hz 2) (Nat.le_of_ble_eq_true rfl))
      refine call_meets F.slot_str_split (typeIs_str _ _ _) F.entry_str_split (F.args_str_split_2 _ _) (meets_str_split_sep x y t u h1 hy hf hz1 hs2) ?_
      have e := key (numbered s.toks (Builtin.Str.partsBetween x (Builtin.Str.occurrences x y 0 x.length (x.length + 1)) y.length)) (s.toks + (Builtin.Str.partsBetween x (Builtin.Str.occurrences x y 0 x.length (x.length + 1)) y.length).length)
        ((numbered_texts _ _).trans ((if_neg (ne_true_of_eq_false h1)).trans (if_neg (ne_true_of_eq_false hf))).symm)
      rw [← strsFrom_eq] at e
      exact e
    · exact call_meets F.slot_str_split (typeIs_str _ _ _) F.entry_str_split (F.args_str_split_2 _ _) (meets_str_split_not_found x y t u h1 hy hf)
        (key [(x, t)] s.toks ((if_neg (ne_true_of_eq_false h1)).trans (if_pos hf)).symm)
  · exact call_meets F.slot_str_split (typeIs_str _ _ _) F.entry_str_split (F.args_str_split_2 _ _) (meets_str_split_cannot_occur x y t u h1) (key [(x, t)] s.toks (if_pos h1).symm)
theorem c_join {l : Addr} {vs : List Value} {n : Nat} {texts : List Str} (hk : Known C V mu l (listO vs n)) (hr : RepL V vs (texts.map PV.str)) (hw : (texts.map (·.length)).sum + texts.length ≤ 1048576) (hs1 : x.length ≤ 16)
    (h : ∀ tk, P (.str (Txt.join x texts) tk) m V mu) : Tr C m V mu (call (.builtin "str.join") [.str x t, .ref l]) P := .of fun s hs => by
  obtain ⟨l', rfl, rfl⟩ := hr.strs
  exact SC.join (hs.1.isList hk) rfl (joinOk_of_weight hw hs1) fun t' k => ⟨m, V, mu, hs, h _⟩
theorem op_addL {l k : Addr} {vs ws : List Value} {n n' : Nat} (hl : Known C V mu l (listO vs n)) (hk : Known C V mu k (listO ws n')) (hz : vs.length + ws.length ≤ sizeLine)
    (h : ∀ a V', Le V V' → V' a = some (listO (vs ++ ws) 0) → P (.ref a) m V' mu) : Tr C m V mu (binaryOp .Add (.ref l) (.ref k)) P := .of fun s hs => by
  refine PySem.P.add_list (items := vs.toArray) (items2 := ws.toArray) (n := n) (n2 := n') (hs.1.known hl) (hs.1.known hk) ?_ (by simpa using hz)
  have e : vs.toArray ++ ws.toArray = (vs ++ ws).toArray := by simp
  rw [e]
  exact ⟨m, _, mu, ⟨hs.1.push (o := listO (vs ++ ws) 0) rfl, hs.2⟩, h _ _ (hs.1.put_le _) (put_self ..)⟩
end
end
end Mine

end
section
open PySem PySem.Calls PySem.W PyProof.Rows
namespace Mine
noncomputable section
section
variable {C : Cx} {m : Loc} {V : View} {mu : Mu} {α β : Type} {P : Value → Loc → View → Mu → Prop}
variable {N Bk Ct : Loc → View → Mu → Prop} {R : Value → View → Mu → Prop}
theorem ts_TryN {body orelse : List Stmt} {h₀ : ExceptHandler} {hs : List ExceptHandler} {pos : Pos} (hX : NoX C) (h : TrS C m V mu (execs body C.env) (TN C orelse N R Bk Ct) R Bk Ct) :
    TrS C m V mu (exec (.Try body (h₀ :: hs) orelse [] pos) C.env) N R Bk Ct := .of fun s hs' =>
  wpAny_Try_except (Tr.goN hX h hs' fun f m1 V1 mu1 s1 h1 p1 => by
    cases f with
    | next => exact p1.run s1 h1
    | brk => exact ⟨m1, V1, mu1, h1, p1⟩
    | cont => exact ⟨m1, V1, mu1, h1, p1⟩
    | ret v => exact ⟨m1, V1, mu1, h1, p1⟩)
variable {x y : Str} {t u : Tok}
theorem ip_addS (hz : x.length + y.length ≤ sizeLine) (h : ∀ tk, P (.str (x ++ y) tk) m V mu) : Tr C m V mu (inplaceOp .Add (.str x t) (.str y u)) P := .of fun s hs => PyProof.Rows.iadd_str (fun t' tk => ⟨m, V, mu, hs, h _⟩) hz
end
section
variable {prog : Program} {w : World} {B V : View} {mu : Mu}
/-- the arguments behind the named ones, as a tuple -/
noncomputable def BindsV (fd : FuncData) (args : Args) (binds : Addr → Loc) (o : Obj) : Prop :=
  ∀ (M : Model) (A : Around) (Q : Loc → Shared → Prop) (E : Value → Shared → Prop) (s : Shared), Q (binds s.heap.objs.size) { s with heap := s.heap.push o } → wpAny M A (bindArgs fd args) Q E s

theorem enterV {n : Nat} {fa : Addr} {args : Args} {binds : Addr → Loc} {o : Obj} {Post : Value → View → Mu → Prop} (G : Gb w B)
    (hK : (K w.params).lookup fa = some (fnO (fdAt fa))) (hl : fnLook fa = true) (hcd : codeLook (K w.params) (fdAt fa).code (fdAt fa).qualname = true)
    (ho' : o.isFreed = false) (hbind : BindsV (fdAt fa) args binds o) (hloc : ∀ a, ((binds a).all fun x => (fdAt fa).scope.names.lookup x.1 == some .local) = true)
    (h : ∀ (C : Cx) a V', Fm C (fdAt fa).scope n → NoX C → Le V V' → V' a = some o → TrS C (binds a).reverse V' mu (execs (bodyAt fa) C.env) (fun _ V mu => Post .none V mu) Post (fun _ _ _ => False) (fun _ _ _ => False)) :
    CallOk prog w B (n + 1) (.ref fa) args V mu Post := by
  intro A F os s hA hF H hg ho
  simp only [fnLook, Bool.and_eq_true, beq_iff_eq] at hl
  obtain ⟨⟨⟨⟨⟨⟨⟨h1, h2⟩, h3⟩, h4⟩, h5⟩, h6⟩, h7⟩, h8⟩ := hl
  have hbody : (fdAt fa).body = .stmts (bodyAt fa) := by
    unfold bodyAt
    cases e : (fdAt fa).body with
    | stmts b => rfl
    | expr => rw [e] at h8; cases h8
  have hclo : (fdAt fa).closure = [] := List.isEmpty_iff.mp h5
  refine codeAny_call_function hA.room (H.base _ _ (G.k _ _ hK)) (fd := fdAt fa) rfl h1 h2 hbody (codeRec_look (fun a o e => H.base _ _ (G.k _ _ e)) hcd) ?_
  refine hbind _ _ _ _ _ ?_
  have H1 : Held B F (put V s.heap.objs.size o) mu (s.heap.push o) := H.grow (no_size _) (fun b o' e => Heap.get?_push_of_some _ e) (Heap.get?_push_size _ ho')
  have hV : Le V (put V s.heap.objs.size o) := put_le (H.fresh_V (no_size _))
  have eV : put V s.heap.objs.size o s.heap.objs.size = some o := put_self ..
  generalize put V s.heap.objs.size o = V1 at H1 hV eV
  generalize hs1 : ({ s with heap := s.heap.push o } : Shared) = s1
  have hh1 : s1.heap = s.heap.push o := by subst hs1; rfl
  have hg1 : s1.gens = #[] := by subst hs1; exact hg
  have ho1 : s1.os = os := by subst hs1; exact ho
  rw [← hh1] at H1
  rw [h6, h7, hclo]
  refine wpAny_newFunctionEnv (fun x hx => by have := List.all_eq_true.mp h4 x hx; simpa using this) (fun x hx => beq_iff_eq.mp (List.all_eq_true.mp (hloc _) x hx)) (fun h' hns hsb => ⟨(G.nolimit H1.base).fresh _ hsb, ?_⟩) h3
  have hn := no_size s1.heap
  have k : ∀ b o, s1.heap.get? b = some o → h'.get? b = some o := fun b o e => hsb.extBut b o (Nat.ne_of_lt (Heap.lt_size e)) (Heap.get?_push_of_some _ e)
  refine codeAny_func ?_
  have hC := h ⟨prog, w, A.deeper (newEnv (fdAt fa).scope s1.heap.objs.size mainGlobals [] ((fdAt fa).qualname ++ ".<locals>.") (some fa) (fdAt fa).code none builtinsNs), newEnv (fdAt fa).scope s1.heap.objs.size mainGlobals [] ((fdAt fa).qualname ++ ".<locals>.") (some fa) (fdAt fa).code none builtinsNs, B, F, os, fun _ _ => False⟩ s.heap.objs.size V1
    ⟨rfl, h3, rfl, rfl, G, hA.deeper _, hF.deeper h3⟩ (fun _ _ x => x) hV eV
  refine wpAny_mono (Tr.run hC _ ⟨⟨H1.keeps k, ⟨_, hns, fun _ _ e => e⟩, H1.fresh_V hn, H1.fresh_F hn, H1.fresh_mu hn⟩, hg1, ho1⟩) (fun f s' hf => ?_) (fun _ _ x => x.elim)
  obtain ⟨m', V', mu', I, p⟩ := hf
  cases f with
  | next => exact ⟨V', mu', I.1.held, I.2.1, I.2.2, p⟩
  | ret v => exact ⟨V', mu', I.1.held, I.2.1, I.2.2, p⟩
  | brk => exact p.elim
  | cont => exact p.elim
end
end
end Mine

end
section
open PySem PySem.Calls PySem.W PyProof.Rows
namespace Mine
noncomputable section
noncomputable def relab (scope sc : Scope) : Scope :=
  { scope with names := scope.names.map fun (n, k) => if (k == .free && sc.kind == .function && sc.names.lookup n == some .cell) then (n, .cell) else (n, k) }
/-- the cells that a block made within takes along -/
noncomputable def clos (cells : List (Str × Addr)) : List (Str × NameKind) → List (Str × Addr) → Option (List (Str × Addr))
  | [], acc => some acc
  | (x, k) :: r, acc => if k == .free then (match cells.lookup x with | some c => clos cells r ((x, c) :: acc) | none => none) else clos cells r acc
theorem closureFor_of {scope : Scope} {env : Env} {cl : List (Str × Addr)} (h : clos env.cells scope.names [] = some cl) : closureFor scope env = pure cl := by
  unfold closureFor
  suffices ∀ (names : List (Str × NameKind)) (acc : List (Str × Addr)), clos env.cells names acc = some cl →
      (forIn names acc fun (x : Str × NameKind) (r : List (Str × Addr)) => (if (x.2 == NameKind.free) = true then do let __do_lift ← cellOf env x.1; pure (ForInStep.yield ((x.1, __do_lift) :: r)) else pure (ForInStep.yield r) : Sem _)) = pure cl by
    have := this scope.names [] h
    exact (congrArg (fun z => z >>= fun r => pure r) this)
  intro names
  induction names with
  | nil => intro acc e; cases e; rfl
  | cons x r ih =>
    intro acc e
    obtain ⟨x, k⟩ := x
    rw [List.forIn_cons]
    unfold clos at e
    by_cases hk : (k == NameKind.free) = true
    · rw [if_pos hk] at e
      simp only [hk, if_true]
      split at e
      · rename_i c hc
        have e1 : cellOf env x = pure c := by unfold cellOf; rw [hc]
        rw [e1]
        exact ih _ e
      · cases e
    · rw [if_neg hk] at e
      simp only [hk, if_false]
      exact ih _ e
section
variable {C : Cx} {m : Loc} {V : View} {mu : Mu} {α β : Type} {P : Value → Loc → View → Mu → Prop}

abbrev Cx.inner (C : Cx) (env : Env) (oL : Obj) : Cx := { C with env := env, F := put C.F C.env.locals oL, X := fun _ _ => False }
theorem Inv.inner {h h' : Heap} (H : Inv C m V mu h) {oL : Obj} (eL : h.get? C.env.locals = some oL) {env : Env} {f : Str → Option Value} (hn : h'.Ns env.locals f) (k : ∀ b o, h.get? b = some o → h'.get? b = some o) (hf : h.get? env.locals = none) :
    Inv (C.inner env oL) [] V mu h' := by
  have G := H.held
  have ne : C.env.locals ≠ env.locals := fun e => by rw [← e, eL] at hf; cases hf
  refine ⟨⟨G.bs, fun a o e => k _ _ (G.sub a o e), fun a o e => ?_, fun p hp => k _ _ (G.has p hp), fun a o e => ?_, G.vm, fun p hp => ?_, G.nd⟩, ⟨f, hn, fun x v e => nomatch e⟩, G.fresh_V hf, ?_, G.fresh_mu hf⟩
  · by_cases q : a = C.env.locals
    · subst q; simp only [Cx.inner, put_self] at e; cases e; exact ⟨_, k _ _ eL⟩
    · simp only [Cx.inner, put_ne q] at e; exact (G.fr a o e).imp fun _ => k _ _
  · by_cases q : a = C.env.locals
    · subst q; exact H.vl
    · simp only [Cx.inner, put_ne q] at e; exact G.vf a o e
  · simp only [Cx.inner, put_ne (H.ml p hp)]; exact G.fm p hp
  · show put C.F C.env.locals oL env.locals = none
    rw [put_ne (Ne.symm ne)]; exact G.fresh_F hf
theorem Inv.outer {h : Heap} {env : Env} {oL oI : Obj} {m' : Loc} {f : Str → Option Value} {es : Array DictEntry} {ep : Nat} (H : Inv (C.inner env oL) m' V mu h) (hd : oL.data = .dict es ep) (hk : StrKeys es) (hf : ∀ x, nsFind es x = f x) (hm : ∀ x v, m.lookup x = some v → f x = some v)
    (fl : C.F C.env.locals = none) (fI : C.F env.locals = none) (hI : h.get? env.locals = some oI) : Inv C m V ((env.locals, oI) :: mu) h := by
  have G := H.held
  have eF : (C.inner env oL).F = put C.F C.env.locals oL := rfl
  obtain ⟨sl, eL⟩ := G.fr C.env.locals oL (by rw [eF, put_self])
  have vL : V C.env.locals = none := G.vf C.env.locals oL (by rw [eF, put_self])
  have ne : env.locals ≠ C.env.locals := fun e => by
    have := H.fl
    rw [eF] at this
    have e' : (C.inner env oL).env.locals = C.env.locals := e
    rw [e', put_self] at this; cases this
  refine ⟨⟨G.bs, G.sub, fun a o e => G.fr a o (Mine.put_le fl a o e), fun p hp => ?_, fun a o e => G.vf a o (Mine.put_le fl a o e), fun p hp => ?_, fun p hp => ?_, ?_⟩, ⟨f, ⟨_, es, ep, eL, hd, hk, hf⟩, hm⟩, vL, fl, fun p hp => ?_⟩
  · rcases List.mem_cons.mp hp with rfl | hp
    · exact hI
    · exact G.has p hp
  · rcases List.mem_cons.mp hp with rfl | hp
    · exact H.vl
    · exact G.vm p hp
  · rcases List.mem_cons.mp hp with rfl | hp
    · exact fI
    · have := G.fm p hp
      rw [eF] at this
      by_cases q : p.1 = C.env.locals
      · rw [q]; exact fl
      · rw [put_ne q] at this; exact this
  · rw [List.map_cons]
    refine List.nodup_cons.mpr ⟨fun q => ?_, G.nd⟩
    obtain ⟨p, hp, e⟩ := List.mem_map.mp q
    exact H.ml p hp e
  · rcases List.mem_cons.mp hp with rfl | hp
    · exact ne
    · intro q
      have := G.fm p hp
      rw [eF, q, put_self] at this; cases this
theorem Fm.inner {sc : Scope} {n : Nat} (hC : Fm C sc n) {env : Env} {oL : Obj} {es : Array DictEntry} {ep : Nat} {sc' : Scope} (hd : oL.data = .dict es ep) (h1 : env.scope = sc') (h2 : sc'.kind = .function) (h3 : env.globals = C.env.globals) (h4 : env.builtins = C.env.builtins) : Fm (C.inner env oL) sc' n := by
  refine ⟨h1, h2, h3.trans hC.gl, h4.trans hC.bi, hC.gb, hC.lv, ?_⟩
  obtain ⟨⟨l, e, k⟩, kd⟩ := hC.fr.ok hd
  exact ⟨⟨l, e, fun en he => let ⟨k1, L, o, k2, k3, k4⟩ := k en he; ⟨k1, L, k2, .inr ⟨o, k3, k4⟩⟩⟩, kd⟩

/-- the part of a comprehension behind its first iterator -/
noncomputable def CompR (C : Cx) (m : Loc) (V : View) (mu : Mu) (e : Expr) (scope : Scope) (cl : List (Str × Addr)) (it : Value) (P : Value → Loc → View → Mu → Prop) : Prop :=
  ∀ s, St C m V mu s → ∀ (E : Value → Shared → Prop) (R : Value → Addr → Result → Shared → Prop),
    (∀ acc L oI es ep m' V' mu' s', oI.data = .dict es ep → StrKeys es → St C m' V' ((L, oI) :: mu') s' → P acc m' V' mu' → R acc L (.ok .next) s') →
    wpAny C.M C.A (newList []) (fun acc s₃ => wpAny C.M C.A (newFunctionEnv scope C.env.globals cl [] C.env.qual none .none (some C.env)) (fun cenv s₄ =>
      codeAny C.M C.A (.compStart e 0 it acc { cenv with scope := relabel scope C.env }) (R acc cenv.locals) s₄) E s₃) E s

theorem tr_ListComp {elt : Expr} {gens : List Comprehension} {scope : Scope} {pos : Pos} {cl : List (Str × Addr)} {target iter : Expr} {ifs : List Expr} (hcl : clos C.env.cells scope.names [] = some cl) (hk : scope.kind = .function)
    (hnm : (scope.names.all fun x => x.2 != .local || scope.names.lookup x.1 == some .local) = true)
    (h : Tr C m V mu (eval iter C.env) fun x m V mu => Tr C m V mu (pyIter x) fun it m V mu => CompR C m V mu (.ListComp elt (⟨target, iter, ifs, 0⟩ :: gens) scope pos) scope cl it P)
    (hs : ∀ x, foldedSetIterable iter C.env x = pure x := by intro _; rfl) :
    Tr C m V mu (eval (.ListComp elt (⟨target, iter, ifs, 0⟩ :: gens) scope pos) C.env) P := .of fun s hs' => by
  rw [eval_ListComp]
  refine wpAny_comprehension_free (use := none) rfl hs (closureFor_of hcl) hk (fun x hx e => ?_) (h.go hs' fun x m1 V1 mu1 s1 h1 p1 => p1.go h1 fun it m2 V2 mu2 s2 h2 p2 => p2 s2 h2 _ _ ?_)
  · have := List.all_eq_true.mp hnm x hx
    rw [e] at this
    simpa using this
  · intro acc L oI es ep m' V' mu' s' hd hks st p
    refine ⟨_, ⟨oI, es, ep, st.1.held.has _ (List.mem_cons_self ..), hd, hks, fun _ => rfl⟩, fun h' hsb => ⟨m', V', mu', ⟨st.1.drop1 (fun b ob hb e => (hsb.2 b hb).trans e), st.2⟩, p⟩⟩
variable {N Bk Ct : Loc → View → Mu → Prop} {R : Value → View → Mu → Prop}
theorem ts_AssignComp {elt : Expr} {gens : List Comprehension} {scope : Scope} {pos spos py : Pos} {y : Str} {cl : List (Str × Addr)} {target iter : Expr} {ifs : List Expr} {sc : Scope} {n : Nat} (hC : Fm C sc n)
    (hsw : swapsWith (.ListComp elt (⟨target, iter, ifs, 0⟩ :: gens) scope pos) (some (.Name y py)) spos.line C.env = pure true) (hy : sc.names.lookup y = some .local)
    (hcl : clos C.env.cells scope.names [] = some cl) (hk : scope.kind = .function)
    (hnm : (scope.names.all fun x => x.2 != .local || scope.names.lookup x.1 == some .local) = true)
    (h : Tr C m V mu (eval iter C.env) fun x m V mu => Tr C m V mu (pyIter x) fun it m V mu => CompR C m V mu (.ListComp elt (⟨target, iter, ifs, 0⟩ :: gens) scope pos) scope cl it fun v m V mu => N ((y, v) :: m) V mu)
    (hs : ∀ x, foldedSetIterable iter C.env x = pure x := by intro _; rfl) :
    TrS C m V mu (exec (.Assign [.Name y py] (.ListComp elt (⟨target, iter, ifs, 0⟩ :: gens) scope pos) spos) C.env) N R Bk Ct := .of fun s hs' => by
  rw [exec_Assign_Name_used _ _ _ _ hsw]
  refine wpAny_bind (wpAny_standAt (wpAny_bind ?_))
  show wpAny _ C.A (do let _ ← comprehension (.ListComp elt (⟨target, iter, ifs, 0⟩ :: gens) scope pos) scope C.env _ (newList []) false (eval iter C.env) (some (assign (.Name y py) C.env))) _ _ s
  refine wpAny_bind (wpAny_mono (wpAny_comprehension_free (use := some (assign (.Name y py) C.env)) (Q := fun _ s' => ∃ m V mu, St C m V mu s' ∧ N m V mu) rfl hs (closureFor_of hcl) hk (fun x hx e => ?_) (h.go hs' fun x m1 V1 mu1 s1 h1 p1 => p1.go h1 fun it m2 V2 mu2 s2 h2 p2 => p2 s2 h2 _ _ ?_))
    (fun _ s' ⟨m', V', mu', h', p'⟩ => wpAny_pure (wpAny_pure ⟨m', V', mu', h', p'⟩)) fun _ _ e => e)
  · have := List.all_eq_true.mp hnm x hx
    rw [e] at this
    simpa using this
  · intro acc L oI es ep m' V' mu' s' hd hks st p
    refine (tr_assign_Name (tr_stl hC hy (P := fun _ m V mu => m = (y, acc) :: m' ∧ V = V' ∧ mu = (L, oI) :: mu') ⟨rfl, rfl, rfl⟩)).go st ?_
    rintro _ m2 V2 mu2 s2 h2 ⟨rfl, rfl, rfl⟩
    exact ⟨_, ⟨oI, es, ep, h2.1.held.has _ (List.mem_cons_self ..), hd, hks, fun _ => rfl⟩, fun h' hsb => ⟨_, V2, mu', ⟨h2.1.drop1 (fun b ob hb e => (hsb.2 b hb).trans e), h2.2⟩, p⟩⟩
end
end
end Mine

end
section
open PySem PySem.Calls PySem.W PyProof.Rows
namespace Mine
noncomputable section
section
variable {C : Cx} {m : Loc} {V : View} {mu : Mu} {α β : Type} {P : Value → Loc → View → Mu → Prop}

theorem tr_tests0 {Q : Bool → Loc → View → Mu → Prop} (h : Q true m V mu) :
    Tr C m V mu (forIn ([] : List Expr) true fun c r => if r = true then do let ok ← isTrue c C.env (eval c C.env); pure (ForInStep.yield ok) else pure (ForInStep.yield r)) Q := .of fun _ hs => wpAny_tests_nil ⟨m, V, mu, hs, h⟩
theorem tr_tests1 {c : Expr} {Q : Bool → Loc → View → Mu → Prop} (h : Tr C m V mu (isTrue c C.env (eval c C.env)) Q) :
    Tr C m V mu (forIn [c] true fun c r => if r = true then do let ok ← isTrue c C.env (eval c C.env); pure (ForInStep.yield ok) else pure (ForInStep.yield r)) Q := .of fun _ hs => wpAny_tests_one (h.run _ hs)

/-- one turn of a comprehension's loop -/
noncomputable def CompStep (sc' : Scope) (n : Nat) (cl : List (Str × Addr)) (target : Expr) (ifs : List Expr) (elt : Expr) (prog : Program) (w : World) (B : View) (V' : View) (mu : Mu) (v : Value) (Jn : View → List Value → Prop) : Prop :=
  ∀ C' : Cx, Fm C' sc' n → NoX C' → C'.env.cells = cl → C'.prog = prog → C'.w = w → C'.B = B → Tr C' [] V' mu (assign target C'.env v) fun _ m3 V3 mu3 =>
    Tr C' m3 V3 mu3 (forIn ifs true fun c r => if r = true then do let ok ← isTrue c C'.env (eval c C'.env); pure (ForInStep.yield ok) else pure (ForInStep.yield r)) fun ok m4 V4 mu4 =>
      (ok = true → Tr C' m4 V4 mu4 (eval elt C'.env) fun y _ V5 mu5 => mu5 = mu ∧ Le V' V5 ∧ Jn V5 [y]) ∧ (ok = false → mu4 = mu ∧ Le V' V4 ∧ Jn V4 [])

theorem Held.perm {B F : View} {h : Heap} {mu' : Mu} (H : Held B F V mu h) (p : mu.Perm mu') : Held B F V mu' h :=
  ⟨H.bs, H.sub, H.fr, fun q hq => H.has q (p.mem_iff.mpr hq), H.vf, fun q hq => H.vm q (p.mem_iff.mpr hq), fun q hq => H.fm q (p.mem_iff.mpr hq), (p.map _).nodup_iff.mp H.nd⟩
theorem Inv.perm {h : Heap} {mu' : Mu} (H : Inv C m V mu h) (p : mu.Perm mu') : Inv C m V mu' h :=
  ⟨H.held.perm p, H.ns, H.vl, H.fl, fun q hq => H.ml q (p.mem_iff.mpr hq)⟩
theorem Inv.freeze {h : Heap} {a : Addr} {o : Obj} (H : Inv C m V ((a, o) :: mu) h) : Inv C m (put V a o) mu h ∧ Le V (put V a o) :=
  ⟨⟨H.held.freeze, H.ns, by rw [put_ne (H.ml _ (List.mem_cons_self ..)).symm]; exact H.vl, H.fl, fun p hp => H.ml p (List.mem_cons_of_mem _ hp)⟩, Mine.put_le (H.held.vm _ (List.mem_cons_self ..))⟩
theorem comp_go {sc : Scope} {n : Nat} {elt target iter : Expr} {ifs : List Expr} {scope : Scope} {pos : Pos} {cl : List (Str × Addr)} {I : Addr} {o : Obj} {K : Nat} {Pi : Nat → Value → Prop} {S : Nat → Heap → Prop}
    (hC : Fm C sc n) (ok : ItOk C V I K Pi S) (st : ItSt V I o (S 0)) (hK : K ≤ sizeLine) (hcell : (scope.names.all fun x => x.2 != .cell) = true) (hkind : scope.kind = .function)
    (J : Nat → View → List Value → Prop) (h0 : J 0 V [])
    (step : ∀ i v ys V' o' D d, i < K → Pi i v → Le V V' → J i V' ys → CompStep (relab scope sc) n cl target ifs elt C.prog C.w C.B V' ((I, o') :: (D, d) :: mu) v fun V5 zs => J (i + 1) V5 (ys ++ zs))
    (fin : ∀ D V' V'' ys k, Le V V' → J K V' ys → Le V' V'' → V'' D = some (listO ys k) → P (.ref D) m V'' mu)
    (ht : ∀ v, letOwnedTupleGo target (.ref I) v = pure () := by intro _; rfl) :
    CompR C m V ((I, o) :: mu) (.ListComp elt [⟨target, iter, ifs, 0⟩] scope pos) scope cl (.ref I) P := by
  intro s hs E R hR
  obtain ⟨f, ⟨oL, esL, epL, eL, dL, kL, fL⟩, hf⟩ := hs.1.ns
  have fl := hs.1.fl
  refine wpAny_newObj_type ?_ (Nat.zero_le _)
  have hs1 : St C m V ((I, o) :: (s.heap.objs.size, listO [] 0) :: mu) { s with heap := s.heap.push (listO [] 0) } := ⟨(hs.1.pushMu rfl).perm (List.Perm.swap ..), hs.2⟩
  have eL1 : (s.heap.push (listO [] 0)).get? C.env.locals = some oL := Heap.get?_push_of_some _ eL
  generalize s.heap.objs.size = D at hs1
  show wpAny _ _ _ _ _ ({ s with heap := s.heap.push (listO [] 0) } : Shared)
  have eL1' : ({ s with heap := s.heap.push (listO [] 0) } : Shared).heap.get? C.env.locals = some oL := eL1
  generalize ({ s with heap := s.heap.push (listO [] 0) } : Shared) = s1 at hs1 eL1'
  clear hs eL1
  refine wpAny_newFunctionEnv (fun x hx => by simpa using List.all_eq_true.mp hcell x hx) (fun x hx => nomatch hx) (fun h' hns hsb => ?_) hkind
  have k : ∀ b o, s1.heap.get? b = some o → h'.get? b = some o := fun b o e => hsb.extBut b o (Nat.ne_of_lt (Heap.lt_size e)) (Heap.get?_push_of_some _ e)
  have hfr := no_size s1.heap
  generalize s1.heap.objs.size = L at hns hsb hfr
  have I1 : Inv (C.inner (compEnvC scope cl L C.env) oL) [] V ((I, o) :: (D, listO [] 0) :: mu) h' := hs1.1.inner eL1' (env := compEnvC scope cl L C.env) hns k hfr
  have fI : C.F L = none := hs1.1.held.fresh_F hfr
  have hF1 : Fm (C.inner (compEnvC scope cl L C.env) oL) (relab scope sc) n := hC.inner dL (by show relabel scope C.env = _; unfold relabel relab Env.kindOf; rw [hC.scp]) hkind rfl rfl
  have hX1 : NoX (C.inner (compEnvC scope cl L C.env) oL) := fun _ _ x => x
  have S1 : St (C.inner (compEnvC scope cl L C.env) oL) [] V ((I, o) :: (D, listO [] 0) :: mu) ({ s1 with heap := h', toks := s1.toks + ([] : List (Str × Value)).length } : Shared) := ⟨I1, hs1.2⟩
  show codeAny C.M C.A (.compStart _ 0 (.ref I) (.ref D) (compEnvC scope cl L C.env)) (R (.ref D) L) ({ s1 with heap := h', toks := s1.toks + ([] : List (Str × Value)).length } : Shared)
  generalize ({ s1 with heap := h', toks := s1.toks + ([] : List (Str × Value)).length } : Shared) = s2 at S1
  clear I1 hs1 eL1' hns hsb k
  have loop : ∀ s2, St (C.inner (compEnvC scope cl L C.env) oL) [] V ((I, o) :: (D, listO [] 0) :: mu) s2 → codeAny C.M C.A (.compLoop (.ListComp elt [⟨target, iter, ifs, 0⟩] scope pos) 0 (.ref I) (.ref D) (compEnvC scope cl L C.env)) (R (.ref D) L) s2 := by
    intro s2 S2
    refine codeAny_compLoop_tests (fun k s => ∃ i o' m' V' ys j, k = K - i ∧ i ≤ K ∧ St (C.inner (compEnvC scope cl L C.env) oL) m' V' ((I, o') :: (D, listO ys j) :: mu) s ∧ Le V V' ∧ ItSt V' I o' (S i) ∧ J i V' ys ∧ ys.length ≤ i) ?_ (K - 0)
      ⟨0, o, [], V, [], 0, rfl, Nat.zero_le _, S2, Le.refl _, st, h0, Nat.le_refl _⟩ ht
    rintro k s ⟨i, o1, m1, V1, ys, j, rfl, hi, hs1, l1, st1, j1, hy⟩
    by_cases hin : i < K
    · refine Tr.goN (C := C.inner (compEnvC scope cl L C.env) oL) hX1 (it_item (C := C.inner (compEnvC scope cl L C.env) oL) (Q := fun r m V mu' => ∃ v o', r = some v ∧ Pi i v ∧ ItSt V1 I o' (S (i + 1)) ∧ m = m1 ∧ V = V1 ∧ mu' = (I, o') :: (D, listO ys j) :: mu) (ItOk.mono (C := C) ok l1) hin st1 fun v o' hv hst => ⟨v, o', rfl, hv, hst, rfl, rfl, rfl⟩) hs1 ?_
      rintro r m2 V2 mu2 s2 h2 ⟨v, o', rfl, hv, hst, rfl, rfl, rfl⟩
      have h2' : St (C.inner (compEnvC scope cl L C.env) oL) [] V2 ((I, o') :: (D, listO ys j) :: mu) s2 := ⟨h2.1.weaken (fun x v e => nomatch e) h2.1.held.bs (Le.refl _) (List.Sublist.refl _), h2.2⟩
      refine Tr.goN (C := C.inner (compEnvC scope cl L C.env) oL) hX1 (step i v ys V2 o' D (listO ys j) hin hv l1 j1 _ hF1 hX1 rfl rfl rfl rfl) h2' fun _ m3 V3 mu3 s3 h3 p3 => ?_
      refine Tr.goN (C := C.inner (compEnvC scope cl L C.env) oL) hX1 p3 h3 fun okb m4 V4 mu4 s4 h4 p4 => ?_
      cases okb with
      | false =>
        rw [if_neg Bool.false_ne_true]
        obtain ⟨rfl, l4, j4⟩ := p4.2 rfl
        exact ⟨K - (i + 1), by omega, i + 1, o', m4, V4, ys ++ [], j, rfl, hin, by rw [List.append_nil]; exact h4, l1.trans l4, hst.mono l4, j4, by rw [List.append_nil]; omega⟩
      | true =>
        rw [if_pos rfl]
        refine Tr.goN (C := C.inner (compEnvC scope cl L C.env) oL) hX1 (p4.1 rfl) h4 fun y m5 V5 mu5 s5 h5 p5 => ?_
        obtain ⟨rfl, l5, j5⟩ := p5
        refine Tr.goN (C := C.inner (compEnvC scope cl L C.env) oL) hX1 (c_append (C := C.inner (compEnvC scope cl L C.env) oL) (P := fun _ m V mu' => m = m5 ∧ V = V5 ∧ ∃ n', mu' = (I, o') :: (D, listO (ys ++ [y]) n') :: mu) (fun n' => .tail .head) (by omega) fun n' => ⟨rfl, rfl, n', rfl⟩) h5 ?_
        rintro _ m6 V6 mu6 s6 h6 ⟨rfl, rfl, n', rfl⟩
        exact ⟨K - (i + 1), by omega, i + 1, o', m6, V6, ys ++ [y], n', rfl, hin, h6, l1.trans l5, hst.mono l5, j5, by rw [List.length_append]; show _ + 1 ≤ _; omega⟩
    · obtain rfl : i = K := by omega
      refine Tr.goN (C := C.inner (compEnvC scope cl L C.env) oL) hX1 (it_stop (C := C.inner (compEnvC scope cl L C.env) oL) (Q := fun r m V mu' => r = none ∧ m = m1 ∧ V = V1 ∧ mu' = (D, listO ys j) :: mu) (ItOk.mono (C := C) ok l1) st1 ⟨rfl, rfl, rfl, rfl⟩) hs1 ?_
      rintro r m2 V2 mu2 s2 h2 ⟨rfl, rfl, rfl, rfl⟩
      obtain ⟨f', ⟨oI, esI, epI, eI, dI, kI, fI'⟩, hf'⟩ := h2.1.ns
      have G := (h2.1.outer dL kL fL hf fl fI eI).perm (List.Perm.swap ..)
      obtain ⟨G1, G2⟩ := G.freeze
      exact hR _ L oI esI epI m _ mu s2 dI kI ⟨G1, h2.2⟩ (fin D V2 _ ys j l1 j1 G2 (put_self ..))
  refine codeAny_compStart_list (loop s2 S1) ?_
  refine Tr.goN (C := C.inner (compEnvC scope cl L C.env) oL) hX1 (it_self (C := C.inner (compEnvC scope cl L C.env) oL) (Q := fun r m V' mu' => r = .ref I ∧ m = [] ∧ V' = V ∧ mu' = (I, o) :: (D, listO [] 0) :: mu) ok st ⟨rfl, rfl, rfl, rfl⟩) S1 ?_
  rintro r m2 V2 mu2 s2 h2 ⟨rfl, rfl, rfl, rfl⟩
  exact loop s2 h2
end
end
end Mine

end
section
open PySem PySem.Calls PySem.W PyProof.Rows
namespace Mine
noncomputable section
noncomputable def cellMu (n : Nat) : List (Str × NameKind) → Mu → Mu
  | [], mu => mu
  | (_, kind) :: r, mu => if kind == .cell then cellMu (n + 1) r ((n, cellN) :: mu) else cellMu n r mu
section
variable {C : Cx} {m : Loc} {V : View} {mu : Mu}
theorem Inv.cells : ∀ (names : List (Str × NameKind)) {h : Heap} {mu : Mu}, Inv C m V mu h → Inv C m V (cellMu h.objs.size names mu) (pushCells h names)
  | [], _, _, H => H
  | (_, kind) :: r, h, mu, H => by
    unfold cellMu pushCells
    split
    · have := Inv.cells r (H.pushMu (o := cellN) rfl)
      rwa [Heap.size_push] at this
    · exact Inv.cells r H
/-- what binding the parameters makes of the locals and the cells -/
inductive BindOk (sc : Scope) (cells : List (Str × Addr)) : List (Str × Value) → Loc → Mu → Loc → Mu → Prop where
  | nil {m : Loc} {mu : Mu} : BindOk sc cells [] m mu m mu
  | loc {x : Str} {v : Value} {r : List (Str × Value)} {m m' : Loc} {mu mu' : Mu} : sc.names.lookup x = some .local → BindOk sc cells r ((x, v) :: m) mu m' mu' → BindOk sc cells ((x, v) :: r) m mu m' mu'
  | cell {x : Str} {v : Value} {r : List (Str × Value)} {m m' : Loc} {mu mu1 mu' : Mu} {c : Addr} {v₀ : Option Value} : sc.names.lookup x = some .cell → cells.lookup x = some c → Upd c ({ cls := .type "cell", data := .cell v₀ } : Obj) (cellO v) mu mu1 →
      BindOk sc cells r m mu1 m' mu' → BindOk sc cells ((x, v) :: r) m mu m' mu'

theorem tr_stlK {x : Str} {v : Value} {P : Unit → Loc → View → Mu → Prop} (hk : C.env.scope.kind = .function) (hl : C.env.kindOf x = some .local) (h : P () ((x, v) :: m) V mu) :
    Tr C m V mu (storeName C.env x v) P := .of <| fun s hs => by
  obtain ⟨f, hn, hf⟩ := hs.1.ns
  refine wpAny_storeName_local hl hn (fun h' hn' hsb => ⟨_, V, mu, ⟨⟨hs.1.held.outside (a := C.env.locals) (fun b o hb e => (hsb.2 b hb).trans e) hs.1.vl hs.1.fl hs.1.ml, ⟨_, hn', fun y u e => ?_⟩, hs.1.vl, hs.1.fl, hs.1.ml⟩, hs.2⟩, h⟩) (by rw [hk]; rfl)
  rw [List.lookup_cons] at e
  by_cases q : y = x
  · rw [if_pos q]; rw [q, beq_self_eq_true] at e; exact e
  · rw [if_neg q]; rw [beq_eq_false_iff_ne.mpr q] at e; exact hf y u e
theorem tr_stcK {x : Str} {c : Addr} {v : Value} {v₀ : Option Value} {mu' : Mu} {P : Unit → Loc → View → Mu → Prop} (hk : C.env.scope.kind = .function) (hl : C.env.kindOf x = some .cell) (hc : C.env.cells.lookup x = some c)
    (hu : Upd c ({ cls := .type "cell", data := .cell v₀ } : Obj) (cellO v) mu mu') (h : P () m V mu') : Tr C m V mu (storeName C.env x v) P := .of <| fun s hs => by
  have ho := hs.1.held.has _ hu.mem
  unfold storeName
  simp only [hl, hk]
  refine wpAny_bind (wpAny_cellOf hc ?_)
  unfold cellSet
  refine wpAny_bind (wpAny_load ho ?_)
  exact wpAny_update ho ⟨m, V, _, ⟨hs.1.turn hu (Heap.SameBut.update ..) (Heap.get?_update_self _ ho rfl), hs.2⟩, h⟩
/-- a cell that the frame owns is stored -/
theorem tr_stc1 {sc : Scope} {n : Nat} (hC : Fm C sc n) {x : Str} {c : Addr} {v : Value} {v₀ : Option Value} {mu' : Mu} {P : Unit → Loc → View → Mu → Prop} (hl : sc.names.lookup x = some .cell) (hc : C.env.cells.lookup x = some c)
    (hu : Upd c ({ cls := .type "cell", data := .cell v₀ } : Obj) (cellO v) mu mu') (h : P () m V mu') : Tr C m V mu (storeName C.env x v) P := tr_stcK hC.kind (hC.kindOf hl) hc hu h
theorem BindOk.tr {sc : Scope} {cells : List (Str × Addr)} {binds : List (Str × Value)} {m' : Loc} {mu' : Mu} (hb : BindOk sc cells binds m mu m' mu') (hs : C.env.scope = sc) (hk : sc.kind = .function) (hc : C.env.cells = cells)
    (f : Str × Value → PUnit → Sem (ForInStep PUnit)) (hf : ∀ n v u, f (n, v) u = (do storeName C.env n v; pure (.yield ⟨⟩))) : Tr C m V mu (forIn binds ⟨⟩ f) fun _ m2 V2 mu2 => m2 = m' ∧ V2 = V ∧ mu2 = mu' := by
  induction hb with
  | nil => rw [List.forIn_nil]; exact tr_pure ⟨rfl, rfl, rfl⟩
  | loc h1 _ ih =>
    rw [List.forIn_cons, hf]
    exact tr_bind (tr_bind (tr_stlK (hs ▸ hk) (by show C.env.scope.names.lookup _ = _; rw [hs]; exact h1) (tr_pure ih)))
  | cell h1 h2 h3 _ ih =>
    rw [List.forIn_cons, hf]
    exact tr_bind (tr_bind (tr_stcK (hs ▸ hk) (by show C.env.scope.names.lookup _ = _; rw [hs]; exact h1) (by rw [hc]; exact h2) h3 (tr_pure ih)))
end
section
variable {prog : Program} {w : World} {B V : View} {mu : Mu}
noncomputable def fdLook (fd : FuncData) : Bool :=
  fd.scope.isCoroutine == false && fd.scope.isGenerator == false && fd.scope.kind == .function && fd.globals == mainGlobals && fd.builtins == builtinsNs &&
  (match fd.body with | .stmts _ => true | _ => false)
noncomputable def bodyOf (fd : FuncData) : List Stmt := match fd.body with
  | .stmts b => b
  | _ => []
/-- a function with cells or with a closure -/
theorem enterG {n : Nat} {fa : Addr} {fd : FuncData} {args : Args} {binds : Loc} {Post : Value → View → Mu → Prop} (G : Gb w B)
    (hfa : ∀ h F, Held B F V mu h → h.get? fa = some (fnO fd)) (hl : fdLook fd = true) (hcd : ∀ h F, Held B F V mu h → h.CodeRec fd.code fd.qualname)
    (hbind : Binds B V mu fd args binds)
    (h : ∀ (C : Cx) (L : Addr), Fm C fd.scope n → NoX C → C.env.cells = cellsFrom (L + 1) fd.scope.names fd.closure → C.env.code = fd.code → C.env.qual = fd.qualname ++ ".<locals>." → C.env.func = some fa →
      ∃ m' mu', BindOk fd.scope (cellsFrom (L + 1) fd.scope.names fd.closure) binds [] (cellMu (L + 1) fd.scope.names mu) m' mu' ∧
        TrS C m' V mu' (execs (bodyOf fd) C.env) (fun _ V mu => Post .none V mu) Post (fun _ _ _ => False) (fun _ _ _ => False)) :
    CallOk prog w B (n + 1) (.ref fa) args V mu Post := by
  intro A F os s hA hF H hg ho
  simp only [fdLook, Bool.and_eq_true, beq_iff_eq] at hl
  obtain ⟨⟨⟨⟨⟨h1, h2⟩, h3⟩, h6⟩, h7⟩, h8⟩ := hl
  have hbody : fd.body = .stmts (bodyOf fd) := by
    unfold bodyOf
    cases e : fd.body with
    | stmts b => rfl
    | expr => rw [e] at h8; cases h8
  refine codeAny_call_function hA.room (hfa _ F H) (fd := fd) rfl h1 h2 hbody (hcd _ F H) ?_
  refine hbind _ _ F _ _ _ H ?_
  simp only [newFunctionEnv, Option.isSome_none, Bool.false_eq_true, if_false]
  refine wpAny_bind (wpAny_alloc ?_)
  refine wpAny_bind (wpAny_layCells _ (fun name kind cells => by cases hkc : kind == NameKind.cell <;> simp [hkc]) _ _ _ _ ?_)
  rw [show ({ s with heap := s.heap.push { cls := .type "frame", data := .dict #[] } } : Shared).heap.objs.size = s.heap.objs.size + 1 from Heap.size_push ..]
  have hn := no_size s.heap
  obtain ⟨env, henv⟩ : ∃ env, env = newEnv fd.scope s.heap.objs.size fd.globals (cellsFrom (s.heap.objs.size + 1) fd.scope.names fd.closure) (fd.qualname ++ ".<locals>.") (some fa) fd.code none fd.builtins := ⟨_, rfl⟩
  obtain ⟨C, hC⟩ : ∃ C : Cx, C = ⟨prog, w, A.deeper env, env, B, F, os, fun _ _ => False⟩ := ⟨_, rfl⟩
  have hFm : Fm C fd.scope n := by
    subst hC henv
    exact ⟨rfl, h3, h6, h7, G, hA.deeper _, hF.deeper h3⟩
  have hXC : NoX C := by subst hC; exact fun _ _ x => x
  have I0 : Inv C [] V mu (s.heap.push { cls := .type "frame", data := .dict #[] }) := by
    subst hC henv
    exact ⟨H.keeps fun b o e => Heap.get?_push_of_some _ e, ⟨_, Heap.Ns.new s.heap (.type "frame"), fun _ _ e => nomatch e⟩, H.fresh_V hn, H.fresh_F hn, H.fresh_mu hn⟩
  have I1 := I0.cells fd.scope.names
  rw [Heap.size_push] at I1
  obtain ⟨m', mu', hb, hT⟩ := h C s.heap.objs.size hFm hXC (by subst hC henv; rfl) (by subst hC henv; rfl) (by subst hC henv; rfl) (by subst hC henv; rfl)
  refine wpAny_bind ?_
  have T1 := hb.tr (C := { C with A := A.in1 }) (V := V) hFm.scp hFm.fn (by subst hC henv; rfl) (fun (x : Str × Value) (_ : PUnit) => do storeName env x.1 x.2; pure (.yield ⟨⟩)) (fun n v u => by subst hC henv; rfl)
  have S1 : St { C with A := A.in1 } [] V (cellMu (s.heap.objs.size + 1) fd.scope.names mu) { s with heap := pushCells (s.heap.push { cls := .type "frame", data := .dict #[] }) fd.scope.names } := by
    refine ⟨⟨I1.held, I1.ns, I1.vl, I1.fl, I1.ml⟩, hg, ?_⟩
    subst hC; exact ho
  have := T1.run _ S1
  subst hC henv
  refine wpAny_mono this (fun u s' hs' => ?_) (fun e s' x => ?_)
  · obtain ⟨m2, V2, mu2, S2, rfl, rfl, rfl⟩ := hs'
    refine wpAny_pure ⟨G.nolimit S2.1.held.base, codeAny_func ?_⟩
    have R := Tr.run hT s' ⟨⟨S2.1.held, S2.1.ns, S2.1.vl, S2.1.fl, S2.1.ml⟩, S2.2⟩
    refine wpAny_mono R (fun f s' hf => ?_) (fun _ _ x => x.elim)
    obtain ⟨m', V', mu', I, p⟩ := hf
    cases f with
    | next => exact ⟨V', mu', I.1.held, I.2.1, I.2.2, p⟩
    | ret v => exact ⟨V', mu', I.1.held, I.2.1, I.2.2, p⟩
    | brk => exact p.elim
    | cont => exact p.elim
  · exact x.elim
/-- a def of the text with cells -/
theorem enterC {n : Nat} {fa : Addr} {args : Args} {binds : Loc} {Post : Value → View → Mu → Prop} (G : Gb w B)
    (hK : (K w.params).lookup fa = some (fnO (fdAt fa))) (hl : fdLook (fdAt fa) = true) (hcd : codeLook (K w.params) (fdAt fa).code (fdAt fa).qualname = true)
    (hbind : Binds B V mu (fdAt fa) args binds)
    (h : ∀ (C : Cx) (L : Addr), Fm C (fdAt fa).scope n → NoX C → C.env.cells = cellsFrom (L + 1) (fdAt fa).scope.names (fdAt fa).closure → C.env.code = (fdAt fa).code → C.env.qual = (fdAt fa).qualname ++ ".<locals>." → C.env.func = some fa →
      ∃ m' mu', BindOk (fdAt fa).scope (cellsFrom (L + 1) (fdAt fa).scope.names (fdAt fa).closure) binds [] (cellMu (L + 1) (fdAt fa).scope.names mu) m' mu' ∧
        TrS C m' V mu' (execs (bodyOf (fdAt fa)) C.env) (fun _ V mu => Post .none V mu) Post (fun _ _ _ => False) (fun _ _ _ => False)) :
    CallOk prog w B (n + 1) (.ref fa) args V mu Post :=
  enterG G (fun _ _ H => H.base _ _ (G.k _ _ hK)) hl (fun _ _ H => codeRec_look (fun a o e => H.base _ _ (G.k _ _ e)) hcd) hbind h
end
end
end Mine

end
section
open PySem PySem.Calls PySem.W PyProof.Rows
namespace Mine
noncomputable section
theorem Gb.inK {w : World} {B : View} {h : Heap} (G : Gb w B) (k : ∀ a o, B a = some o → h.get? a = some o) : (K w.params).In h := fun a o e => k _ _ (G.k a o e)
section
variable {C : Cx} {m : Loc} {V : View} {mu : Mu} {α β : Type} {P : Value → Loc → View → Mu → Prop}
theorem St.inK {s : Shared} {sc : Scope} {n : Nat} (hC : Fm C sc n) (hs : St C m V mu s) : (K C.w.params).In s.heap := hC.gb.inK hs.1.held.base

/-- a call's code by its contract, the frames as they are -/
theorem call_code {A' : Around} {k : Nat} {f : Value} {vs : List Value} {kw : List (Str × Value)} {Post : Value → View → Mu → Prop} {R : Result → Shared → Prop} {s : Shared} (hs : St C m V mu s)
    (hok : CallOk C.prog C.w C.B k f ⟨vs, kw⟩ V mu Post) (hk : Lv k A') (hA : A'.frames = C.A.frames) (hfr : FrC C) (h : ∀ v V' mu' s', St C m V' mu' s' → Post v V' mu' → R (.ok (.ret v)) s') :
    codeAny C.M A' (.call f ⟨vs, kw⟩) R s := by
  obtain ⟨I, hg, ho⟩ := hs
  obtain ⟨fm, ⟨oL, es, ep, eL, r⟩, hf⟩ := I.ns
  have H := I.held
  have H' : Held C.B (put C.F C.env.locals oL) V mu s.heap := by
    refine ⟨H.bs, H.sub, fun a o e => ?_, H.has, fun a o e => ?_, H.vm, fun p hp => ?_, H.nd⟩
    · by_cases q : a = C.env.locals
      · subst q; rw [put_self] at e; cases e; exact ⟨_, eL⟩
      · rw [put_ne q] at e; exact H.fr a o e
    · by_cases q : a = C.env.locals
      · subst q; exact I.vl
      · rw [put_ne q] at e; exact H.vf a o e
    · rw [put_ne (I.ml p hp)]; exact H.fm p hp
  have hfr' : FrOk A' (put C.F C.env.locals oL) := by
    have := hfr.ok r.1
    unfold FrOk at this ⊢
    rw [hA]; exact this
  refine codeAny_mono (hok A' _ C.os s hk hfr' H' hg ho) fun r' s' hr => ?_
  cases r' with
  | error e => exact hr.elim
  | ok fl =>
    cases fl with
    | ret v =>
      obtain ⟨V', mu', G, hg', ho', hp⟩ := hr
      refine h v V' mu' s' ⟨⟨⟨G.bs, G.sub, fun a o e => G.fr a o ?_, G.has, fun a o e => G.vf a o ?_, G.vm, fun p hp => ?_, G.nd⟩, ⟨fm, (let ⟨sl, q⟩ := G.fr _ _ (put_self ..); ⟨{ oL with slots := sl }, es, ep, q, r⟩), hf⟩, G.vf _ _ (put_self ..), I.fl, fun p hp q => ?_⟩, hg', ho'⟩ hp
      · exact put_le I.fl a o e
      · exact put_le I.fl a o e
      · have := G.fm p hp
        by_cases q : p.1 = C.env.locals
        · rw [q]; exact I.fl
        · rw [put_ne q] at this; exact this
      · have := G.fm p hp
        rw [q, put_self] at this; cases this
    | next => exact hr.elim
    | brk => exact hr.elim
    | cont => exact hr.elim

/-- an object of an own class is made -/
theorem tr_make {sc : Scope} {n k : Nat} (hC : Fm C sc n) {Cl fI : Addr} {vs : List Value} {Post : Addr → Addr → View → Mu → Prop} (hm : makesIn (K C.w.params) Cl = true)
    (hi : findIn (K C.w.params) (.ref Cl) "__init__" = some (some (.ref fI))) (hf : typeIn (K C.w.params) (.ref fI) = some (.type "function")) (hn : k + 1 ≤ n)
    (hok : ∀ x dx, CallOk C.prog C.w C.B k (.ref fI) ⟨.ref x :: vs, []⟩ V ((x, instObj Cl dx) :: (dx, emptyDict) :: mu) (fun r V' mu' => r = .none ∧ Post x dx V' mu'))
    (h : ∀ x dx V' mu', Post x dx V' mu' → P (.ref x) m V' mu') : Tr C m V mu (call (.ref Cl) vs) P := .of fun s hs => by
  have X := hs.inK hC
  obtain ⟨hh, g, d, t, os⟩ := s
  refine wpAny_call (make_core (makes_of X hm) (looks_findIn X hi) (fun self => bind_fn X self hf) (.inl rfl) ?_)
  have hs1 : St C m V ((hh.objs.size + 1, instObj Cl hh.objs.size) :: (hh.objs.size, emptyDict) :: mu) ⟨(hh.push emptyDict).push (instObj Cl hh.objs.size), g, d, t, os⟩ := by
    have I1 := hs.1.pushMu (o := emptyDict) rfl
    have I2 := I1.pushMu (o := instObj Cl hh.objs.size) rfl
    rw [Heap.size_push] at I2
    exact ⟨I2, hs.2⟩
  have hv := hC.lv.le hn
  have hd := hv.dp
  have hu := hv.un
  refine call_code hs1 (hok _ _) ⟨hv.hd, ?_, ?_⟩ rfl hC.fr ?_
  · show C.A.depth + 1 + k ≤ 900
    omega
  · show C.A.units + 1 + 20 * k ≤ 9000
    omega
  · rintro v V' mu' s' h' ⟨rfl, p⟩
    exact ⟨rfl, m, V', mu', h', h _ _ _ _ p⟩

theorem St.instAt {s : Shared} {x dx Cl : Addr} {od : Obj} (hs : St C m V mu s) (hx : Known C V mu x (instObj Cl dx)) (hd : Known C V mu dx od) : InstAt s.heap x (instObj Cl dx) Cl (some od) :=
  ⟨hs.1.known hx, rfl, rfl, hs.1.known hd⟩
/-- a name of an object's own is stored -/
theorem tr_setAttr {sc : Scope} {n : Nat} (hC : Fm C sc n) {Cl x dx : Addr} {name : Str} {v : Value} {es : List DictEntry} {nn : Nat} {mu' : Obj → Mu} {U : Unit → Loc → View → Mu → Prop}
    (hx : Known C V mu x (instObj Cl dx)) (hu : ∀ o', Upd dx (dictOf es nn) o' mu (mu' o'))
    (hs : findIn (K C.w.params) (.ref Cl) "__setattr__" = some (some (.builtin "object.__setattr__"))) (hp : plainOver (K C.w.params) Cl = true) (ht : takerIn (K C.w.params) Cl name = some none)
    (hh : (clsIn (K C.w.params) Cl).any (·.hasDict) = true) (hl : (lookIn name (dictOf es nn)).isSome = true) (hz : ∀ hsh tk, (putL name hsh (.str name tk) v es).length ≤ 1000)
    (h : ∀ hsh tk, U () m V (mu' (dictOf (putL name hsh (.str name tk) v es) (putN name es nn)))) : Tr C m V mu (setAttr (.ref x) name v) U := .of fun s hs' => by
  have X := hs'.inK hC
  have I := hs'.instAt hx (Or.inr (hu (dictOf es nn)).mem)
  have D : s.heap.get? dx = some (dictOf es nn) := hs'.1.held.has _ (hu (dictOf es nn)).mem
  refine set_plain X I hs (osa_open (s := { s with toks := s.toks + 1 }) X I hp ht fun b => ?_)
  obtain ⟨cd, hc, hd'⟩ := any_some hh
  refine wpAny_bind (wpAny_pure (wpAny_bind (wpAny_bind (wpAny_loadPart I.at_ (wpAny_bind (Looks.here (s := { s with toks := s.toks + 1 }) (looks_clsIn X hc) ?_))))))
  rw [hd']
  refine wpAny_pure (a := some dx) (wpAny_bind (wpAny_pure (wpAny_bind ?_)))
  unfold nsSet
  refine wpAny_bind (wpAny_bind (wpAny_askSetting (wpAny_pure (wpAny_bind (wpAny_mkText (wpAny_bind (wpAny_loadPart D ?_)))))))
  unfold lookIn at hl
  have c : (!es.toArray.any (·.key.isStr name) && es.toArray.any (·.refKey)) = false := by
    rw [← Array.any_toList, ← Array.any_toList]
    dsimp only [dictOf] at hl
    split at hl
    · rename_i en he
      rw [List.any_eq_true.mpr ⟨en, List.mem_of_find?_eq_some he, List.find?_some he⟩]; rfl
    · split at hl
      · cases hl
      · rename_i z; rw [Bool.not_eq_true] at z; rw [z, Bool.and_false]
  dsimp only [dictOf]
  rw [aRefKeyMayBeTheName_at, c]
  refine wpAny_updatePart D ?_
  have e := putName_dict name (PyData.keyHash C.w.params name) (.str name (s.toks + 1)) v es nn
  have D' : (s.heap.update dx (Obj.putName name (PyData.keyHash C.w.params name) (.str name (s.toks + 1)) v)).get? dx = some (dictOf (putL name (PyData.keyHash C.w.params name) (.str name (s.toks + 1)) v es) (putN name es nn)) := by
    rw [Heap.get?_update_self _ D (by rw [e]; rfl), e]
  refine wpAny_bind (wpAny_lookBehind D' (pastItsLine_dict (by rw [List.size_toArray, sizeLine_eq]; have := hz (PyData.keyHash C.w.params name) (s.toks + 1); omega)) ?_)
  exact wpAny_pure ⟨m, V, _, ⟨hs'.1.turn (hu _) (Heap.SameBut.update ..) D', hs'.2⟩, h _ _⟩
variable {N Bk Ct : Loc → View → Mu → Prop} {R : Value → View → Mu → Prop}
theorem ts_AssignAttr {o : Expr} {attr : Str} {pos' pos : Pos} {value : Expr} (h : Tr C m V mu (eval value C.env) fun v m V mu => Tr C m V mu (eval o C.env) fun ov m V mu => Tr C m V mu (setAttr ov attr v) fun _ m V mu => N m V mu)
    (hs : swapsWith value (some (.Attribute o attr pos')) pos.line C.env = pure false := by rfl) : TrS C m V mu (exec (.Assign [.Attribute o attr pos'] value pos) C.env) N R Bk Ct := .of fun s hs' =>
  plainObj_wpAny_Assign_Attribute (h.go hs' fun v m1 V1 mu1 s1 h1 p1 => p1.go h1 fun ov m2 V2 mu2 s2 h2 p2 => p2.go h2 fun _ m3 V3 mu3 s3 h3 p3 => ⟨m3, V3, mu3, h3, p3⟩) hs

/-- a function that stands in an object's own names is called -/
theorem tr_callI {pl : Sem Bool} {sc : Scope} {n : Nat} (hC : Fm C sc n) {Cl : Addr} {o : Expr} {name : Str} {apos pos : Pos} {e : Expr} {rest : List Expr}
    (hga : findIn (K C.w.params) (.ref Cl) "__getattribute__" = some (some (.builtin "object.__getattribute__"))) (hgk : findIn (K C.w.params) (.ref Cl) "__getattr__" = some none) (hf : findIn (K C.w.params) (.ref Cl) name = some none)
    (hh : (clsIn (K C.w.params) Cl).any (·.hasDict) = true)
    (h : Tr C m V mu (eval o C.env) fun ov m V mu => ∃ x dx od f fd, ov = .ref x ∧ Known C V mu x (instObj Cl dx) ∧ Known C V mu dx od ∧ lookIn name od = some (some (.ref f)) ∧ V f = some (fnO fd) ∧
      Tr C m V mu (spliced (backTo pos (starEach (e :: rest) C.env))) fun vs m V mu => V f = some (fnO fd) ∧ Tr C m V mu (call (.ref f) vs) P)
    (he : eval (.Call (.Attribute o name apos) (e :: rest) [] pos) C.env = (do
      let ov ← eval o C.env
      standAt apos.atName
      let (f, first) ← holding [ov] (getMethod ov name pl)
      callWith pos f first (backTo pos (starEach (e :: rest) C.env)) (backToKw pos (keywordEach [] C.env))) := by rfl)
    (hse : starEach (e :: rest) C.env = (false, eval e C.env) :: starEach rest C.env := by rfl) (hpl : (backTo pos (starEach rest C.env)).any (·.1) = false := by rfl) :
    Tr C m V mu (eval (.Call (.Attribute o name apos) (e :: rest) [] pos) C.env) P := .of fun s hs => by
  refine methodCall_KW (h.go hs fun ov m1 V1 mu1 s1 h1 p1 => ?_) he
  obtain ⟨x, dx, od, f, fd, rfl, hx, hd, hl, hV, p⟩ := p1
  have X := h1.inK hC
  have I := h1.instAt hx hd
  obtain ⟨cd, hc, hd'⟩ := any_some hh
  have hfo : findObj (K C.w.params) Cl (some od) name = some (.value (.ref f)) := by
    unfold findObj PySem.W.ownOf
    rw [hc, hf]
    simp [hd', hl]
  refine method_usual X I hga hgk hf rfl (get_value X I hga hfo rfl ?_)
  have h1' : St C m1 V1 mu1 { s1 with toks := s1.toks + 1 } := h1
  refine callWith_F (s := { s1 with toks := s1.toks + 1 }) ⟨_, _, fd, _, h1.1.held.sub _ _ hV⟩ (p.go h1' fun vs m2 V2 mu2 s2 h2 p2 => ⟨⟨_, _, fd, _, h2.1.held.sub _ _ p2.1⟩, ?_⟩) hse hpl
  exact p2.2.run s2 h2
end
end
end Mine

end
section
open PySem PySem.Calls PySem.W PyProof.Rows
namespace Mine
noncomputable section
section
variable {C : Cx} {m : Loc} {V : View} {mu : Mu} {α β : Type} {P : Value → Loc → View → Mu → Prop}
theorem Inv.learn {h : Heap} {a : Addr} {o : Obj} (H : Inv C m V mu h) (ha : h.get? a = some o) (hv : V a = none) (hf : C.F a = none) (hm : ∀ p ∈ mu, p.1 ≠ a) (hl : C.env.locals ≠ a) : Inv C m (put V a o) mu h := by
  have G := H.held
  refine ⟨⟨G.bs.trans (Mine.put_le hv), fun b o' e => ?_, G.fr, G.has, fun b o' e => ?_, fun p hp => ?_, G.fm, G.nd⟩, H.ns, by rw [put_ne hl]; exact H.vl, H.fl, H.ml⟩
  · by_cases q : b = a
    · subst q; rw [put_self] at e; cases e; exact ha
    · rw [put_ne q] at e; exact G.sub b o' e
  · by_cases q : b = a
    · subst q; rw [hf] at e; cases e
    · rw [put_ne q]; exact G.vf b o' e
  · rw [put_ne (hm p hp)]; exact G.vm p hp

/-- a code's table: nothing in it, or the one nested code -/
noncomputable def TabOk (pos : Pos) (q : Str) (V : View) (ps : Array Value) : Prop :=
  ps = #[] ∨ ∃ c' oc vs t, ps = #[rawInt pos.line, rawInt pos.col, .ref c'] ∧ V c' = some oc ∧ oc.data = .fields vs ∧ vs[1]? = some (.str q t)
theorem TabOk.mono {pos : Pos} {q : Str} {V V' : View} {ps : Array Value} (h : TabOk pos q V ps) (l : Le V V') : TabOk pos q V' ps := by
  rcases h with h | ⟨c', oc, vs, t, h1, h2, h3⟩
  · exact .inl h
  · exact .inr ⟨c', oc, vs, t, h1, l _ _ h2, h3⟩
noncomputable def CodeV (V : View) (c : Addr) (q : Str) : Prop := ∃ oc vs t, V c = some oc ∧ oc.data = .fields vs ∧ vs[1]? = some (.str q t)
theorem CodeV.mono {V V' : View} {c : Addr} {q : Str} (h : CodeV V c q) (l : Le V V') : CodeV V' c q := let ⟨oc, vs, t, h1, h2⟩ := h; ⟨oc, vs, t, l _ _ h1, h2⟩
theorem CodeV.rec {V B F : View} {mu : Mu} {h : Heap} {c : Addr} {q : Str} (x : CodeV V c q) (H : Held B F V mu h) : h.CodeRec (.ref c) q := let ⟨oc, vs, t, h1, h2, h3⟩ := x; ⟨c, oc, vs, t, rfl, H.sub _ _ h1, h2, h3⟩

variable {N Bk Ct : Loc → View → Mu → Prop} {R : Value → View → Mu → Prop}
theorem ts_nest {sc : Scope} {n : Nat} (hC : Fm C sc n) {name q : Str} {params : Arguments} {body : List Stmt} {scope : Scope} {pos : Pos} {c Pl : Addr} {ps : Array Value} {clos : List (Str × Addr)}
    (hq : qualnameIn C.env name name = q) (hcode : C.env.code = .ref c) (hhd : codeHdIn (K C.w.params) c Pl = true) (hcl : closureFor scope C.env = pure clos) (ht : TabOk pos q V ps)
    (hd0 : params.defaults = []) (hk0 : params.kw_defaults = []) (ha : annTrees params none C.env = [])
    (h : ∀ f c' ctv doc pm V' ps', Le V V' → TabOk pos q V' ps' → CodeV V' c' q → V' f = some (fnMade name q params body scope clos doc pm c' ctv) → Tr C m V' ((Pl, tabObj ps') :: mu) (storeName C.env name (.ref f)) fun _ m V mu => N m V mu) :
    TrS C m V ((Pl, tabObj ps) :: mu) (exec (.FunctionDef name params body [] none [] scope none name pos) C.env) N R Bk Ct := .of fun s hs => by
  have X := hs.inK hC
  have G := hs.1.held
  have ge : C.env.globals = mainGlobals := hC.gl
  have hg : s.heap.Ns mainGlobals (gmap C.w.params) := hC.gb.glob G.base
  have hP : s.heap.get? Pl = some (tabObj ps) := G.has _ (List.mem_cons_self ..)
  obtain ⟨bm, ob, m1, m2, m3, m4, m5, m6, m7⟩ := hC.gb.m
  have hPB : C.B Pl = none := by
    cases e : C.B Pl with
    | none => rfl
    | some o => have := G.vm _ (List.mem_cons_self ..); rw [G.bs _ _ e] at this; cases this
  have m8 : bm ≠ Pl := fun e => by rw [e, hPB] at m4; cases m4
  have hgP : mainGlobals ≠ Pl := fun e => by
    obtain ⟨o, es, ep, e1, e2, _⟩ := hg
    rw [e, hP] at e1; cases e1; cases e2
  have hb : s.heap.BuiltinsAt (gmap C.w.params) Pl := ⟨bm, ob, m1, m2, m3, m8, G.base _ _ m4, m5, m6, m7⟩
  have hcd := codeHd_of_K X hhd
  have hbut : ∀ p ∈ mu, p.1 ≠ Pl := fun p hp q => by
    have nd := G.nd
    rw [List.map_cons] at nd
    exact (List.nodup_cons.mp nd).1 (List.mem_map.mpr ⟨p, hp, q⟩)
  refine nestDef_K hd0 hk0 ha ?_
  rw [hq]
  rcases ht with rfl | ⟨c', oc, vs, t, rfl, e1, e2, e3⟩
  · refine makeFunction_K hcl ge hg hcode hcd hP trivial (by rfl) hgP hb fun c' ctv doc h' tk hx hge hlt hrec htb => ?_
    obtain ⟨c₂, oc, vs, t, e0, hoc, hd, hv⟩ := hrec
    cases e0
    have I1 : Inv C m V ((Pl, tabObj (#[] ++ #[rawInt pos.line, rawInt pos.col, .ref c'])) :: mu) h' := hs.1.ext1 (fun b ob hb e => hx b ob hb e) htb
    have fr : s.heap.get? c' = none := Heap.get?_none_of_le hge
    have cP : Pl ≠ c' := fun e => by rw [e, fr] at hP; cases hP
    have cL : C.env.locals ≠ c' := fun e => by
      obtain ⟨f, hn, _⟩ := hs.1.ns
      obtain ⟨oL, _, _, eL, _⟩ := hn
      rw [e, fr] at eL; cases eL
    have v1 := G.fresh_V fr
    have f1 := G.fresh_F fr
    have m1' := G.fresh_mu fr
    have I2 := I1.learn hoc v1 f1 (fun p hp => by
      rcases List.mem_cons.mp hp with rfl | hp
      · exact cP
      · exact m1' p (List.mem_cons_of_mem _ hp)) cL
    have l2 : Le V (put V c' oc) := Mine.put_le v1
    have I3 := I2.push (o := fnMade name q params body scope clos doc ((gmap C.w.params "__name__").getD .none) c' ctv) rfl
    have l3 := I2.put_le (fnMade name q params body scope clos doc ((gmap C.w.params "__name__").getD .none) c' ctv)
    refine (h h'.objs.size c' ctv doc _ _ _ (l2.trans l3) (.inr ⟨c', oc, vs, t, by simp, l3 _ _ (put_self ..), hd, hv⟩) ⟨oc, vs, t, l3 _ _ (put_self ..), hd, hv⟩ (put_self ..)).go (s := { s with heap := h'.push _, toks := tk }) ⟨I3, hs.2⟩ fun _ m2 V2 mu2 s2 h2 p2 => ⟨m2, V2, mu2, h2, p2⟩
  · refine makeFunction_hit (cv := .ref c') hcl ge hg hcode hcd hP (by simp [TriplesOk, rawInt]) (by simp [codeAmong, rawInt]) hb fun ctv doc h' tk hk hsz => ?_
    have I2 := hs.1.keeps hk
    have I3 := I2.push (o := fnMade name q params body scope clos doc ((gmap C.w.params "__name__").getD .none) c' ctv) rfl
    have l3 := I2.put_le (fnMade name q params body scope clos doc ((gmap C.w.params "__name__").getD .none) c' ctv)
    refine (h h'.objs.size c' ctv doc _ _ _ l3 (.inr ⟨c', oc, vs, t, rfl, l3 _ _ e1, e2, e3⟩) ⟨oc, vs, t, l3 _ _ e1, e2, e3⟩ (put_self ..)).go (s := { s with heap := h'.push _, toks := tk }) ⟨I3, hs.2⟩ fun _ m2 V2 mu2 s2 h2 p2 => ⟨m2, V2, mu2, h2, p2⟩

/-- an item of a list is stored -/
theorem tr_setItemL {l : Addr} {vs : List Value} {n : Nat} {i : Int} {t : Tok} {v : Value} {mu' : Nat → Mu} {U : Unit → Loc → View → Mu → Prop} (hu : ∀ n', Upd l (listO vs n) (listO (vs.set i.toNat v) n') mu (mu' n')) (h0 : 0 ≤ i) (h1 : i < 2 ^ 63) (h2 : i < vs.length)
    (h : ∀ n', U () m V (mu' n')) : Tr C m V mu (setItem (.ref l) (.int i t) v) U := .of fun s hs => by
  have ho := hs.1.held.has _ (hu n).mem
  have hT : s.TypeIs (.ref l) "list" := ⟨_, ho, rfl⟩
  have hj : i.toNat < vs.toArray.size := by simp; omega
  have e1 : vs.toArray[i.toNat]? = some vs.toArray[i.toNat] := Array.getElem?_eq_getElem hj
  have eo : Obj.mapSeq (·.setIfInBounds i.toNat v) (listO vs n) = listO (vs.set i.toNat v) n := by
    unfold listO Obj.mapSeq
    simp
  have ho' : (s.heap.update l (Obj.mapSeq (·.setIfInBounds i.toNat v))).get? l = some (listO (vs.set i.toNat v) n) := by
    rw [Heap.get?_update_self _ ho (by rw [eo]; rfl), eo]
  have fin : ∃ m' V' mu', St C m' V' mu' { s with heap := s.heap.update l (Obj.mapSeq (·.setIfInBounds i.toNat v)) } ∧ U () m' V' mu' :=
    ⟨m, V, _, ⟨hs.1.turn (hu _) (Heap.SameBut.update ..) ho', hs.2⟩, h _⟩
  unfold setItem
  try with_reducible refine wpAny_holding ?_
  first | refine wpAny_bind (wpAny_pure ?_) | skip
  refine wpAny_bind (wpAny_sequenceKey hT (by decide) ?_)
  refine wpAny_bind (wpAny_callSpecial?_slot (name := Str.ofString "__setitem__") hT slot_list_setitem (wpAny_call_entry slot_list_setitem hT entry_list_setitem ?_ (args_list_setitem _ _ _)))
  show wpAny _ _ (Builtin.List.listSubscript? (.int i t) >>= _) _ _ s
  refine wpAny_bind (wpAny_listSubscript_int (fitsIndex_of h0 h1) ?_)
  clear h1
  obtain ⟨j, rfl⟩ := Int.eq_ofNat_of_zero_le h0
  show wpAny _ _ ((seqItemAt l j >>= fun r => pure (r.map (j, ·))) >>= _) _ _ s
  refine wpAny_bind (wpAny_bind (wpAny_seqItemAt ho rfl (wpAny_pure ?_)))
  rw [show vs.toArray[j]? = some vs.toArray[j] from e1]
  show wpAny _ _ (setSeqItemAt l j v >>= _) _ _ s
  refine wpAny_bind (wpAny_setSeqItemAt ho rfl ?_)
  first
    | exact wpAny_bind (wpAny_pure (wpAny_pure ⟨.none, rfl, wpAny_pure fin⟩))
    | exact wpAny_pure ⟨.none, rfl, wpAny_pure fin⟩
end
end
end Mine

end
section
open PySem PySem.Calls PySem.W PyProof.Rows
namespace Mine
noncomputable section
theorem putL_len (name : Str) (hsh : Int) (key v : Value) : ∀ es : List DictEntry, (putL name hsh key v es).length ≤ es.length + 1
  | [] => Nat.le_refl _
  | e :: r => by
    unfold putL
    split
    · simp
    · have := putL_len name hsh key v r; simp; omega
theorem putL_look (name : Str) (hsh : Int) (tk : Tok) (v : Value) : ∀ es : List DictEntry, ∃ e, (putL name hsh (.str name tk) v es).find? (·.key.isStr name) = some e ∧ e.val = v
  | [] => ⟨⟨hsh, .str name tk, v⟩, by
    show List.find? _ [_] = _
    rw [List.find?_cons]
    simp [Value.isStr], rfl⟩
  | e :: r => by
    obtain ⟨e', h1, h2⟩ := putL_look name hsh tk v r
    unfold putL
    split
    · rename_i h; exact ⟨_, by rw [List.find?_cons]; dsimp only; rw [h], rfl⟩
    · rename_i h
      rw [Bool.not_eq_true] at h
      exact ⟨e', by rw [List.find?_cons, h]; exact h1, h2⟩
theorem lookIn_put {name : Str} {hsh : Int} {tk : Tok} {v : Value} {es : List DictEntry} {n : Nat} : lookIn name (dictOf (putL name hsh (.str name tk) v es) n) = some (some v) := by
  obtain ⟨e, h1, h2⟩ := putL_look name hsh tk v es
  unfold lookIn dictOf
  dsimp only
  rw [h1]
  exact congrArg (fun z => some (some z)) h2
theorem perm_bac {γ : Type} {a b : γ} {l : List γ} : (a :: b :: l).Perm (b :: a :: l) := List.Perm.swap b a l
theorem perm_bca {γ : Type} {a b c : γ} {l : List γ} : (a :: b :: c :: l).Perm (b :: c :: a :: l) := (List.Perm.swap b a (c :: l)).trans (List.Perm.cons b (List.Perm.swap c a l))
theorem perm_cba {γ : Type} {a b c : γ} {l : List γ} : (a :: b :: c :: l).Perm (c :: b :: a :: l) := perm_bca.trans (List.Perm.swap c b (a :: l))
section
variable {C : Cx} {m : Loc} {V : View} {mu : Mu} {α β : Type} {P : Value → Loc → View → Mu → Prop}
variable {N Bk Ct : Loc → View → Mu → Prop} {R : Value → View → Mu → Prop}
theorem ts_AugSub {o i value : Expr} {tpos pos : Pos} {op : Operator} (h : Tr C m V mu (eval o C.env) fun ov m V mu => Tr C m V mu (eval i C.env) fun iv m V mu => Tr C m V mu (getItem ov iv) fun old m V mu =>
      Tr C m V mu (eval value C.env) fun v m V mu => Tr C m V mu (inplaceOp op old v) fun new m V mu => Tr C m V mu (setItem ov iv new) fun _ m V mu => N m V mu)
    (hi : ∀ ov iv new, augStore i ov iv new = (do holding [new, ov, iv] (setItem ov iv new); release [new, ov, iv] []; pure .next) := by intros; rfl) :
    TrS C m V mu (exec (.AugAssign (.Subscript o i tpos) op value pos) C.env) N R Bk Ct := .of fun s hs =>
  wpAny_AugAssign_SubscriptAny (h.go hs fun _ _ _ _ s1 h1 p1 => p1.go h1 fun _ _ _ _ s2 h2 p2 => p2.go h2 fun _ _ _ _ s3 h3 p3 => p3.go h3 fun _ _ _ _ s4 h4 p4 => p4.go h4 fun _ _ _ _ s5 h5 p5 => p5.go h5 fun _ m6 V6 mu6 s6 h6 p6 => ⟨m6, V6, mu6, h6, p6⟩) hi
variable {a b i : Int} {t u : Tok}
theorem gi_list {l : Addr} {vs : List Value} {n : Nat} {v : Value} (hk : Known C V mu l (listO vs n)) (h0 : 0 ≤ i) (h1 : i < 2 ^ 63) (hv : vs[i.toNat]? = some v) (h : P v m V mu) : Tr C m V mu (getItem (.ref l) (.int i u)) P :=
  .of <| fun s hs => wpAny_getItem_list (hs.1.isList hk) h0 h1 (by simpa using hv) ⟨m, V, mu, hs, h⟩
theorem ip_add (h : ∀ tk, P (.int (a + b) tk) m V mu) : Tr C m V mu (inplaceOp .Add (.int a t) (.int b u)) P := .of <| fun s hs => PyProof.Rows.iadd_int ⟨m, V, mu, hs, h _⟩
theorem tr_cwK {sc : Scope} {n : Nat} (hC : Fm C sc n) {f : Value} {e : Expr} {rest : List Expr} {pos : Pos} (hk : keepIn (K C.w.params) f = true)
    (h : Tr C m V mu (spliced (backTo pos (starEach (e :: rest) C.env))) (CaP C f P))
    (he : starEach (e :: rest) C.env = (false, eval e C.env) :: starEach rest C.env := by rfl) (hp : (backTo pos (starEach rest C.env)).any (·.1) = false := by rfl) : Tr C m V mu (callWith pos f [] (backTo pos (starEach (e :: rest) C.env)) []) P :=
  .of <| fun _ hs => callWith_K (first := []) (hs.inK hC) hk (h.go hs fun _ _ _ _ s1 h1 p1 => ⟨h1.inK hC, p1.run s1 h1⟩) he hp
theorem tr_callC {sc : Scope} {n : Nat} (hC : Fm C sc n) (Cl : Addr) {x : Str} {pos pos' : Pos} {e : Expr} {rest : List Expr} (hl : sc.names.lookup x = some .globalImplicit) (hv : gmap C.w.params x = some (.ref Cl)) (hk : keepIn (K C.w.params) (.ref Cl) = true)
    (h : Tr C m V mu (spliced (backTo pos (starEach (e :: rest) C.env))) (CaP C (.ref Cl) P))
    (he : starEach (e :: rest) C.env = (false, eval e C.env) :: starEach rest C.env := by rfl) (hp : (backTo pos (starEach rest C.env)).any (·.1) = false := by rfl) (hd : (x == ("__debug__" : Str)) = false := by decide) : Tr C m V mu (eval (.Call (.Name x pos') (e :: rest) [] pos) C.env) P :=
  tr_Call (tr_glob hC hl hv (tr_cwK hC hk h he hp) hd) rfl
theorem ts_perm {mu' : Mu} {t : Sem Flow} (p : mu.Perm mu') (h : TrS C m V mu' t N R Bk Ct) : TrS C m V mu t N R Bk Ct := .of fun s hs => h.run s ⟨hs.1.perm p, hs.2⟩
end
end
end Mine

end
section
open PySem PySem.Calls PySem.W PyProof.Rows
namespace Mine
noncomputable section
/-- an exception on its way out, towards the frames of A -/
noncomputable def Flies (A : Around) (B F : View) (e : Value) (x : Str) (V : View) (mu : Mu) (s : Shared) : Prop :=
  ∃ l ea t tk base, A.frames = some l ∧ e = .ref ea ∧ Heap.FlyingW base l ea (.type "ValueError") (.ref t) s.heap ∧ base.get? t = none ∧ s.heap.TupAt t [.str x tk] ∧
    (∀ a o, V a = some o → base.get? a = some o) ∧ (∀ p ∈ mu, base.get? p.1 = some p.2) ∧ Held B F V mu s.heap
/-- a call gives what Post says, or raises a ValueError -/
noncomputable def CallX (prog : Program) (w : World) (B : View) (n : Nat) (f : Value) (args : Args) (V : View) (mu : Mu) (Post : Value → View → Mu → Prop) (PX : Str → View → Mu → Prop) : Prop :=
  ∀ (A : Around) (F : View) (os : OsState) (s : Shared), Lv n A → FrOk A F → Held B F V mu s.heap → s.gens = #[] → s.os = os →
    codeAny (model prog w) A (.call f args) (fun r s' => match r with
      | .ok (.ret v) => ∃ V' mu', Held B F V' mu' s'.heap ∧ s'.gens = #[] ∧ s'.os = os ∧ Post v V' mu'
      | .error e => ∃ x V' mu', Flies A B F e x V' mu' s' ∧ s'.gens = #[] ∧ s'.os = os ∧ PX x V' mu'
      | _ => False) s
theorem CallX.ok {prog : Program} {w : World} {B : View} {n : Nat} {f : Value} {args : Args} {V : View} {mu : Mu} {Post : Value → View → Mu → Prop} {PX : Str → View → Mu → Prop} (h : CallX prog w B n f args V mu Post PX) (hx : ∀ x V mu, ¬ PX x V mu) :
    CallOk prog w B n f args V mu Post := fun A F os s hA hF H hg ho => codeAny_mono (h A F os s hA hF H hg ho) fun r s' hr => by
  cases r with
  | error e => obtain ⟨x, V', mu', _, _, _, p⟩ := hr; exact hx _ _ _ p
  | ok fl => cases fl with
    | ret v => exact hr
    | next => exact hr
    | brk => exact hr
    | cont => exact hr
section
variable {C : Cx} {m : Loc} {V : View} {mu : Mu} {α β : Type} {P : Value → Loc → View → Mu → Prop}
noncomputable def LocO (C : Cx) (m : Loc) (oL : Obj) : Prop := ∃ es ep, oL.data = .dict es ep ∧ StrKeys es ∧ ∀ x v, m.lookup x = some v → nsFind es x = some v
/-- an exception in this frame: just made, or come from a call -/
noncomputable def OutC (C : Cx) (m : Loc) (e : Value) (x : Str) (V : View) (mu : Mu) (s : Shared) : Prop :=
  ((∃ h ea tk, e = .ref ea ∧ Inv C m V mu h ∧ Heap.MadeExcOf h s.heap ea (.type "ValueError") [.str x tk]) ∨
   (∃ oL, Flies C.A C.B (put C.F C.env.locals oL) e x V mu s ∧ LocO C m oL ∧ C.F C.env.locals = none)) ∧ s.gens = #[] ∧ s.os = C.os

/-- an exception that came from a call of this frame -/
noncomputable def FlyC (C : Cx) (m : Loc) (e : Value) (x : Str) (V : View) (mu : Mu) (s : Shared) : Prop :=
  (∃ oL, Flies C.A C.B (put C.F C.env.locals oL) e x V mu s ∧ LocO C m oL ∧ C.F C.env.locals = none) ∧ s.gens = #[] ∧ s.os = C.os
theorem FlyC.out {e : Value} {x : Str} {s : Shared} (h : FlyC C m e x V mu s) : OutC C m e x V mu s := ⟨.inr h.1, h.2⟩
theorem Inv.cx {h : Heap} (I : Inv C m V mu h) (A : Around) (X : Value → Shared → Prop) : Inv { C with A := A, X := X } m V mu h := ⟨I.held, I.ns, I.vl, I.fl, I.ml⟩
theorem OutC.cx {e : Value} {x : Str} {s : Shared} (h : OutC C m e x V mu s) (X : Value → Shared → Prop) : OutC { C with X := X } m e x V mu s := by
  obtain ⟨h, q⟩ := h
  refine ⟨?_, q⟩
  rcases h with ⟨h, ea, tk, e1, I, hx⟩ | h
  · exact .inl ⟨h, ea, tk, e1, I.cx _ _, hx⟩
  · exact .inr h
theorem Inv.locO {h : Heap} (I : Inv C m V mu h) : ∃ oL, h.get? C.env.locals = some oL ∧ LocO C m oL := by
  obtain ⟨f, ⟨oL, es, ep, eL, d, k, q⟩, hf⟩ := I.ns
  exact ⟨oL, eL, es, ep, d, k, fun x v e => by rw [q]; exact hf x v e⟩
theorem Inv.heldPut {h : Heap} (I : Inv C m V mu h) {oL : Obj} (eL : h.get? C.env.locals = some oL) : Held C.B (put C.F C.env.locals oL) V mu h := by
  have H := I.held
  refine ⟨H.bs, H.sub, fun a o e => ?_, H.has, fun a o e => ?_, H.vm, fun p hp => ?_, H.nd⟩
  · by_cases q : a = C.env.locals
    · subst q; rw [put_self] at e; cases e; exact ⟨_, eL⟩
    · rw [put_ne q] at e; exact H.fr a o e
  · by_cases q : a = C.env.locals
    · subst q; exact I.vl
    · rw [put_ne q] at e; exact H.vf a o e
  · rw [put_ne (I.ml p hp)]; exact H.fm p hp
theorem Held.back {h : Heap} {oL : Obj} (G : Held C.B (put C.F C.env.locals oL) V mu h) (lo : LocO C m oL) (fl : C.F C.env.locals = none) : Inv C m V mu h := by
  obtain ⟨es, ep, d, k, q⟩ := lo
  refine ⟨⟨G.bs, G.sub, fun a o e => G.fr a o ?_, G.has, fun a o e => G.vf a o ?_, G.vm, fun p hp => ?_, G.nd⟩, ⟨fun x => nsFind es x, (let ⟨sl, q⟩ := G.fr _ _ (put_self ..); ⟨{ oL with slots := sl }, es, ep, q, d, k, fun _ => rfl⟩), q⟩, G.vf _ _ (put_self ..), fl, fun p hp q => ?_⟩
  · exact put_le fl a o e
  · exact put_le fl a o e
  · have := G.fm p hp
    by_cases q : p.1 = C.env.locals
    · rw [q]; exact fl
    · rw [put_ne q] at this; exact this
  · have := G.fm p hp
    rw [q, put_self] at this; cases this

/-- a call that may raise -/
theorem tr_callX {k : Nat} {f : Value} {vs : List Value} {kw : List (Str × Value)} {Post : Value → View → Mu → Prop} {PX : Str → View → Mu → Prop}
    (hok : CallX C.prog C.w C.B k f ⟨vs, kw⟩ V mu Post PX) (hk : Lv k C.A) (hfr : FrC C) (h : ∀ v V' mu', Post v V' mu' → P v m V' mu') (hx : ∀ e x V' mu' s', FlyC C m e x V' mu' s' → PX x V' mu' → C.X e s') : Tr C m V mu (call f vs kw) P := .of fun s hs => by
  obtain ⟨I, hg, ho⟩ := hs
  obtain ⟨oL, eL, lo⟩ := I.locO
  obtain ⟨es, ep, d, _⟩ := id lo
  refine wpAny_call (codeAny_mono (hok C.A _ C.os s hk (hfr.ok d) (I.heldPut eL) hg ho) fun r' s' hr => ?_)
  cases r' with
  | error e =>
    obtain ⟨x, V', mu', hf, hg', ho', p⟩ := hr
    exact hx e x V' mu' s' ⟨⟨oL, hf, lo, I.fl⟩, hg', ho'⟩ p
  | ok fl =>
    cases fl with
    | ret v =>
      obtain ⟨V', mu', G, hg', ho', hp⟩ := hr
      exact ⟨m, V', mu', ⟨G.back lo I.fl, hg', ho'⟩, h v V' mu' hp⟩
    | next => exact hr.elim
    | brk => exact hr.elim
    | cont => exact hr.elim

theorem Held.slots {B F : View} {h h' base : Heap} (H : Held B F V mu h) (hF : ∀ a o, F a = some o → ∃ es n, o.data = .dict es n) (hb : base.StaysIn h') (hv : ∀ a o, V a = some o → base.get? a = some o) (hm : ∀ p ∈ mu, base.get? p.1 = some p.2) (hs : h.UpToSlots h') : Held B F V mu h' := by
  refine ⟨H.bs, fun a o e => hb _ _ (hv a o e), fun a o e => ?_, fun p hp => hb _ _ (hm p hp), H.vf, H.vm, H.fm, H.nd⟩
  obtain ⟨sl, q⟩ := H.fr a o e
  obtain ⟨es, n, d⟩ := hF a o e
  obtain ⟨sl', q'⟩ := hs a _ q (fun vs z => by dsimp only at z; rw [d] at z; cases z)
  exact ⟨sl', q'⟩
theorem Held.weakF {B F F' : View} {h : Heap} (H : Held B F V mu h) (l : ∀ a o, F' a = some o → F a = some o) : Held B F' V mu h :=
  ⟨H.bs, H.sub, fun a o e => H.fr a o (l a o e), H.has, fun a o e => H.vf a o (l a o e), H.vm, fun p hp => (by
    cases e : F' p.1 with
    | none => rfl
    | some o => exact absurd (l _ _ e) (by rw [H.fm p hp]; exact fun z => nomatch z)), H.nd⟩

theorem funFr {h : Heap} (I : Inv C m V mu h) {l : List Env} (hl : ∀ env ∈ l, env.scope.kind ≠ .module ∧ ∃ L, env.frame = some L ∧ (L = C.env.locals ∨ ∃ o, C.F L = some o ∧ ∀ vs, o.data ≠ .fields vs)) {base : Heap} (hb : ∀ env ∈ l, ∀ a, env.frame = some a → base.get? a = none) : h.FunFrames base l := by
  induction l with
  | nil => trivial
  | cons env rest ih =>
    obtain ⟨k, L, eL, q⟩ := hl env (.head _)
    refine ⟨k, ⟨L, ?_⟩, ih (fun e he => hl e (.tail _ he)) fun e he => hb e (.tail _ he)⟩
    rcases q with rfl | ⟨o, q, nf⟩
    · obtain ⟨oL, e1, es, ep, d, _⟩ := I.locO
      exact ⟨oL, eL, hb env (.head _) _ eL, e1, fun vs z => by rw [d] at z; cases z⟩
    · obtain ⟨sl, e1⟩ := I.held.fr _ _ q
      exact ⟨_, eL, hb env (.head _) _ eL, e1, nf⟩

/-- the exception leaves the frame -/
theorem out_leave {env : Env} {A : Around} {e : Value} {x : Str} {s : Shared} {Q : Unit → Shared → Prop} {E : Value → Shared → Prop} (hA : C.A = A.deeper C.env) (hfr : FrC C) (hf : C.env.frame = some C.env.locals)
    (ho : OutC C m e x V mu s) (hQ : ∀ s', Flies A C.B C.F e x V mu s' → s'.gens = #[] → s'.os = C.os → Q () s') : wpAny C.M C.A (leaving C.env e) Q E s := by
  obtain ⟨ho, hg, hos⟩ := ho
  obtain ⟨⟨l, el, hl⟩, kd⟩ := hfr
  obtain ⟨lA, eA⟩ : ∃ lA, A.frames = some lA := by
    rw [hA] at el
    cases q : A.frames with
    | none => simp [Around.deeper, q] at el
    | some lA => exact ⟨lA, rfl⟩
  have el' : C.A.frames = some (C.env :: lA) := by rw [hA]; exact Around.frames_deeper eA
  rw [el'] at el
  cases el
  rcases ho with ⟨h, ea, tk, rfl, I, hx⟩ | ⟨oL, ⟨l2, ea, t, tk, base, e1, rfl, hfl, ht, htup, hv, hm, H⟩, lo, fl⟩
  · have fr := I.held
    let as : List Addr := (C.env :: lA).filterMap (·.frame)
    have nin : ∀ a, (C.F a = none) → a ≠ C.env.locals → a ∉ as := fun a h1 h2 hm => by
      obtain ⟨en, he, q⟩ := List.mem_filterMap.mp hm
      obtain ⟨_, L, eL, z⟩ := hl en he
      have q' : en.frame = some a := q
      rw [q'] at eL; cases eL
      rcases z with z | ⟨o, z, _⟩
      · exact h2 z
      · rw [h1] at z; cases z
    have hvb : ∀ a o, V a = some o → (hideAll h as).get? a = some o := fun a o q => hideAll_get _ (fr.sub _ _ q) (nin a (by
      cases z : C.F a with
      | none => rfl
      | some o' => have := fr.vf _ _ z; rw [q] at this; cases this) (fun z => by rw [z, I.vl] at q; cases q))
    have hmb : ∀ p ∈ mu, (hideAll h as).get? p.1 = some p.2 := fun p hp => hideAll_get _ (fr.has _ hp) (nin _ (fr.fm _ hp) (I.ml _ hp))
    refine wpAny_leaves_madeW (base := hideAll h as) el' hf (fun b o q => of_hideAll _ q) (funFr I hl fun en he a q => hideAll_none _ (List.mem_filterMap.mpr ⟨en, he, q⟩)) hx fun h' t k1 k2 k3 k4 => ?_
    refine hQ _ ⟨lA, ea, t, tk, _, eA, rfl, k1, k3, k2, hvb, hmb, ?_⟩ hg hos
    exact (fr.keeps hx.keeps).slots kd k1.1 hvb hmb k4
  · rw [el'] at e1; cases e1
    refine wpAny_leaves_onW el' hf hfl fun h' k1 k2 => ?_
    refine hQ _ ⟨lA, ea, t, tk, base, eA, rfl, k1, ht, htup.of_slots k2, hv, hm, ?_⟩ hg hos
    exact (H.weakF (put_le fl)).slots kd k1.1 hv hm k2
end
section
variable {prog : Program} {w : World} {B V : View} {mu : Mu}
/-- a def that may raise -/
theorem enterX {n : Nat} {fa : Addr} {args : Args} {binds : Loc} {Post : Value → View → Mu → Prop} {PX : Str → View → Mu → Prop} (G : Gb w B)
    (hK : (K w.params).lookup fa = some (fnO (fdAt fa))) (hl : fnLook fa = true) (hcd : codeLook (K w.params) (fdAt fa).code (fdAt fa).qualname = true)
    (hbind : Binds B V mu (fdAt fa) args binds) (hloc : (binds.all fun x => (fdAt fa).scope.names.lookup x.1 == some .local) = true)
    (h : ∀ C : Cx, Fm C (fdAt fa).scope n → (∀ e x m V mu s, OutC C m e x V mu s → PX x V mu → C.X e s) → TrS C binds.reverse V mu (execs (bodyAt fa) C.env) (fun _ V mu => Post .none V mu) Post (fun _ _ _ => False) (fun _ _ _ => False)) :
    CallX prog w B (n + 1) (.ref fa) args V mu Post PX := by
  intro A F os s hA hF H hg ho
  simp only [fnLook, Bool.and_eq_true, beq_iff_eq] at hl
  obtain ⟨⟨⟨⟨⟨⟨⟨h1, h2⟩, h3⟩, h4⟩, h5⟩, h6⟩, h7⟩, h8⟩ := hl
  have hbody : (fdAt fa).body = .stmts (bodyAt fa) := by
    unfold bodyAt
    cases e : (fdAt fa).body with
    | stmts b => rfl
    | expr => rw [e] at h8; cases h8
  have hclo : (fdAt fa).closure = [] := List.isEmpty_iff.mp h5
  refine codeAny_call_function hA.room (H.base _ _ (G.k _ _ hK)) (fd := fdAt fa) rfl h1 h2 hbody (codeRec_look (fun a o e => H.base _ _ (G.k _ _ e)) hcd) ?_
  refine hbind _ _ F _ _ _ H ?_
  rw [h6, h7, hclo]
  refine wpAny_newFunctionEnv (fun x hx => by have := List.all_eq_true.mp h4 x hx; simpa using this) (fun x hx => beq_iff_eq.mp (List.all_eq_true.mp hloc x hx)) (fun h' hns hsb => ⟨(G.nolimit H.base).fresh _ hsb, ?_⟩) h3
  have hn := no_size s.heap
  have k : ∀ b o, s.heap.get? b = some o → h'.get? b = some o := fun b o e => hsb.extBut b o (Nat.ne_of_lt (Heap.lt_size e)) (Heap.get?_push_of_some _ e)
  refine codeAny_func ?_
  generalize henv : newEnv (fdAt fa).scope s.heap.objs.size mainGlobals [] ((fdAt fa).qualname ++ ".<locals>.") (some fa) (fdAt fa).code none builtinsNs = env
  have eF : env.frame = some env.locals := by subst henv; rfl
  obtain ⟨C0, hC0⟩ : ∃ C0 : Cx, C0 = ⟨prog, w, A.deeper env, env, B, F, os, fun _ _ => False⟩ := ⟨_, rfl⟩
  obtain ⟨C, hCe⟩ : ∃ C : Cx, C = ⟨prog, w, A.deeper env, env, B, F, os, fun e s => ∃ x m V mu, OutC C0 m e x V mu s ∧ PX x V mu⟩ := ⟨_, rfl⟩
  have hFr : FrC C := by subst hCe henv; exact hF.deeper (os := os) (B := B) (w := w) (prog := prog) (X := fun e s => ∃ x m V mu, OutC C0 m e x V mu s ∧ PX x V mu) h3
  have hC := h C (by subst hCe; subst henv; exact ⟨rfl, h3, rfl, rfl, G, hA.deeper _, hFr⟩) (fun e x m V mu s ho p => by
    subst hCe; subst hC0; exact ⟨x, m, V, mu, ho.cx (fun _ _ => False), p⟩)
  have S0 : St C binds.reverse V mu { s with heap := h', toks := s.toks + binds.length } := by
    subst hCe; subst henv
    exact ⟨⟨H.keeps k, ⟨_, hns, fun _ _ e => e⟩, H.fresh_V hn, H.fresh_F hn, H.fresh_mu hn⟩, hg, ho⟩
  have R := Tr.run hC _ S0
  have eA : C.A = A.deeper C.env := by subst hCe; rfl
  have eF' : C.env.frame = some C.env.locals := by subst hCe; exact eF
  have key : ∀ e s', C.X e s' → wpAny C.M C.A (leaving C.env e) (fun _ s'' => ∃ x V' mu', Flies A B F e x V' mu' s'' ∧ s''.gens = #[] ∧ s''.os = os ∧ PX x V' mu') (fun _ _ => False) s' := by
    intro e s' hx
    have : ∃ x m V mu, OutC C m e x V mu s' ∧ PX x V mu := by
      subst hCe; subst hC0
      obtain ⟨x, m, V, mu, h1, h2⟩ := hx
      exact ⟨x, m, V, mu, h1.cx _, h2⟩
    obtain ⟨x, m', V', mu', ho', p⟩ := this
    refine out_leave (A := A) (env := C.env) eA hFr eF' ho' fun s'' f g o => ?_
    subst hCe
    exact ⟨x, V', mu', f, g, o, p⟩
  subst hCe
  refine wpAny_mono R (fun f s' hf => ?_) (fun e s' hx => wpAny_mono (key e s' hx) (fun _ s'' z => z) fun _ _ z => z.elim)
  obtain ⟨m', V', mu', I, p⟩ := hf
  cases f with
  | next => exact ⟨V', mu', I.1.held, I.2.1, I.2.2, p⟩
  | ret v => exact ⟨V', mu', I.1.held, I.2.1, I.2.2, p⟩
  | brk => exact p.elim
  | cont => exact p.elim
end
end
end Mine

end
section
open PySem PySem.Calls PySem.W PyProof.Rows
namespace Mine
noncomputable section
section
variable {C : Cx} {m : Loc} {V : View} {mu : Mu} {α β : Type} {P : Value → Loc → View → Mu → Prop}
variable {N Bk Ct : Loc → View → Mu → Prop} {R : Value → View → Mu → Prop}
theorem bb_ValueError : bootBuiltins "ValueError" = some (.type "ValueError") := by kernel_rfl!
theorem ts_RaiseVE {sc : Scope} {n : Nat} (hC : Fm C sc n) {x : Str} {k : Nat} {np sp cpos pos : Pos} (hl : sc.names.lookup ("ValueError" : Str) = some .globalImplicit) (hv : gmap C.w.params "ValueError" = none) (hx : ∀ e s, OutC C m e x V mu s → C.X e s) :
    TrS C m V mu (exec (.Raise (some (.Call (.Name "ValueError" np) [.Constant (.str x) k sp] [] cpos)) none pos) C.env) N R Bk Ct := .of fun s hs => by
  refine Raise_madeB PySem.F.excCall_ValueError PySem.F.excRaise_ValueError hC.lv.hd ?_
  refine (tr_blt hC hl hv bb_ValueError (P := fun v m' V' mu' => v = .type "ValueError" ∧ m' = m ∧ V' = V ∧ mu' = mu) ⟨rfl, rfl, rfl, rfl⟩).go hs ?_
  rintro _ m1 V1 mu1 s1 h1 ⟨rfl, rfl, rfl, rfl⟩
  refine ⟨rfl, ?_⟩
  refine (tr_args (P := fun vs m' V' mu' => (∃ tk, vs = [.str x tk]) ∧ m' = m1 ∧ V' = V1 ∧ mu' = mu1) (tr_str fun tk => tr_args_nil ⟨⟨tk, rfl⟩, rfl, rfl, rfl⟩)).go h1 ?_
  rintro _ _ _ _ s2 h2 ⟨⟨tk, rfl⟩, rfl, rfl, rfl⟩
  refine ⟨by simp [sizeLine_eq], fun h' e mx => hx _ _ ⟨.inl ⟨_, e, tk, rfl, h2.1, Heap.MadeExc.of mx⟩, h2.2⟩⟩

/-- a caught ValueError, its arguments -/
noncomputable def ExcV (V : View) (ea t : Addr) (x : Str) : Prop :=
  ∃ oe vs ot n tk, V ea = some oe ∧ oe.cls = .type "ValueError" ∧ oe.data = .fields vs ∧ vs[0]? = some (.ref t) ∧ V t = some ot ∧ ot.cls = .type "tuple" ∧ ot.data = .seq #[.str x tk] n

theorem ts_TryVE {sc : Scope} {n : Nat} (hC : Fm C sc n) (hX : NoX C) {PX : Str → Loc → View → Mu → Prop} {body : List Stmt} {b₀ : Stmt} {suite : List Stmt} {nm : Str} {np hp pos : Pos}
    (hfr : C.env.frame = some C.env.locals) (hAe : ∃ l, C.A.frames = some (C.env :: l))
    (hl : sc.names.lookup ("ValueError" : Str) = some .globalImplicit) (hv : gmap C.w.params "ValueError" = none) (hloc : sc.names.lookup nm = some .local)
    (hb : TrS { C with X := fun e s => ∃ x m' V' mu', FlyC C m' e x V' mu' s ∧ PX x m' V' mu' } m V mu (execs body C.env) N R Bk Ct)
    (hc : ∀ x m' V' mu' V'' ea t, PX x m' V' mu' → Le V' V'' → ExcV V'' ea t x → TrS { C with A := C.A.mark (some (.ref ea)) } ((nm, .ref ea) :: m') V'' mu' (execs (b₀ :: suite) C.env) (fun _ _ _ => False) R (fun _ _ _ => False) (fun _ _ _ => False)) :
    TrS C m V mu (exec (.Try body [.ExceptHandler (some (.Name "ValueError" np)) (some nm) (b₀ :: suite) hp] [] [] pos) C.env) N R Bk Ct := .of fun s hs => by
  refine wpAny_Try_except ?_
  have hs0 : St { C with X := fun e s => ∃ x m' V' mu', FlyC C m' e x V' mu' s ∧ PX x m' V' mu' } m V mu s := ⟨hs.1.cx _ _, hs.2⟩
  refine wpAny_mono (Tr.run hb s hs0) (fun f s1 hf => ?_) (fun e s1 he => ?_)
  · obtain ⟨m1, V1, mu1, h1, p1⟩ := hf
    have h1' : St C m1 V1 mu1 s1 := ⟨h1.1.cx C.A C.X, h1.2⟩
    cases f with
    | next => exact wpAny_execs_nil ⟨m1, V1, mu1, h1', p1⟩
    | brk => exact ⟨m1, V1, mu1, h1', p1⟩
    | cont => exact ⟨m1, V1, mu1, h1', p1⟩
    | ret v => exact ⟨m1, V1, mu1, h1', p1⟩
  · obtain ⟨x, m', V', mu', ⟨⟨oL, ⟨l, ea, t, tk, base, e1, rfl, hfl, ht, htup, hvb, hmb, H⟩, lo, fl⟩, hg, hos⟩, px⟩ := he
    obtain ⟨⟨l0, el, hl0⟩, kd⟩ := hC.fr
    obtain ⟨lA, eA⟩ := hAe
    rw [eA] at e1; cases e1
    have kd' : ∀ a o, put C.F C.env.locals oL a = some o → ∃ es n, o.data = .dict es n := fun a o q => by
      by_cases z : a = C.env.locals
      · subst z; rw [put_self] at q; cases q; obtain ⟨es, ep, d, _⟩ := id lo; exact ⟨es, ep, d⟩
      · rw [put_ne z] at q; exact kd a o q
    refine wpAny_looks_onW eA hfr hfl fun h4 hheld4 hsm4 => ?_
    refine wpAny_landsW hheld4 fun h5 hheld hsm5' => ?_
    have hsm5 := hsm4.trans hsm5'
    have H5 := H.slots kd' hheld.1 hvb hmb hsm5
    have I5 := H5.back lo fl
    obtain ⟨ob, hob, hobc⟩ := hheld.there
    obtain ⟨mb, hN, hbf⟩ := hC.gb.blt I5.held.base
    refine wpAny_handleBy_builtin_as (X := "ValueError") (T := "ValueError") (b := true) PySem.F.isExc_ValueError PySem.F.notTuple_ValueError (by rw [isSubtype_type]; kernel_rfl) ?_
    refine Calls.Name_function_global hC.kind (hC.kindOf hl) (Calls.loadGlobal_builtin (by rw [hC.gl]; exact hC.gb.glob I5.held.base) hv (by rw [hC.bi]; exact hN) ((hbf _ (by decide)).trans bb_ValueError) ⟨rfl, ⟨ob, hob, hobc⟩, ?_⟩) (by decide)
    refine lands_againW hheld fun h6 hfl6 hsm6 => ?_
    have hsm := hsm5.trans hsm6
    have H6 := H.slots kd' hfl6.1 hvb hmb hsm
    have I6 := H6.back lo fl
    obtain ⟨oe, vs, hoe, hoec, hoed, hoe0⟩ := hfl6.first
    obtain ⟨ot, nt, hot, hotc, hotd⟩ := htup.of_slots hsm
    have fno : ∀ a o, h6.get? a = some o → (∀ es n, o.data ≠ .dict es n) → C.F a = none ∧ a ≠ C.env.locals := fun a o q nd => by
      have key : put C.F C.env.locals oL a = none := by
        cases z : put C.F C.env.locals oL a with
        | none => rfl
        | some o' =>
          obtain ⟨sl, q'⟩ := H6.fr a o' z
          obtain ⟨es, n, d⟩ := kd' a o' z
          rw [q] at q'; cases q'
          exact absurd d (nd es n)
      have ne : a ≠ C.env.locals := fun z => by rw [z, put_self] at key; cases key
      rw [put_ne ne] at key
      exact ⟨key, ne⟩
    have vno : ∀ a, base.get? a = none → V' a = none := fun a q => by
      cases z : V' a with
      | none => rfl
      | some o => have := hvb a o z; rw [q] at this; cases this
    have mno : ∀ a, base.get? a = none → ∀ p ∈ mu', p.1 ≠ a := fun a q p hp z => by
      have := hmb p hp; rw [z, q] at this; cases this
    obtain ⟨fe, le⟩ := fno ea oe hoe (fun es n z => by rw [hoed] at z; cases z)
    obtain ⟨ft, lt⟩ := fno t ot hot (fun es n z => by rw [hotd] at z; cases z)
    have te : t ≠ ea := fun z => by rw [z, hoe] at hot; cases hot; rw [hoed] at hotd; cases hotd
    have I7 := I6.learn hoe (vno _ hfl.2.1) fe (mno _ hfl.2.1) (Ne.symm le)
    have I8 := I7.learn hot (by rw [put_ne te]; exact vno _ ht) ft (mno _ ht) (Ne.symm lt)
    have l7 : Le V' (put V' ea oe) := put_le (vno _ hfl.2.1)
    have l8 : Le (put V' ea oe) (put (put V' ea oe) t ot) := put_le (by rw [put_ne te]; exact vno _ ht)
    have hx8 : ExcV (put (put V' ea oe) t ot) ea t x := ⟨oe, vs, ot, nt, tk, l8 _ _ (put_self ..), hoec, hoed, hoe0, put_self .., hotc, hotd⟩
    generalize put (put V' ea oe) t ot = V8 at I8 l8 hx8
    have S8 : St { C with A := C.A.mark (some (.ref ea)) } m' V8 mu' { s1 with heap := h6 } := ⟨I8.cx _ _, hg, hos⟩
    refine Tr.goN (C := { C with A := C.A.mark (some (.ref ea)) }) hX (tr_stlK (C := { C with A := C.A.mark (some (.ref ea)) }) (P := fun _ m2 V2 mu2 => m2 = (nm, .ref ea) :: m' ∧ V2 = V8 ∧ mu2 = mu') hC.kind (hC.kindOf hloc) ⟨rfl, rfl, rfl⟩) S8 ?_
    rintro _ m9 V9 mu9 s9 h9 ⟨rfl, rfl, rfl⟩
    refine Tr.goN (C := { C with A := C.A.mark (some (.ref ea)) }) hX (hc x m' V' mu9 V9 ea t px (l7.trans l8) hx8) h9 ?_
    intro f m10 V10 mu10 s10 h10 p10
    cases f with
    | ret v =>
      obtain ⟨f10, hn10, _⟩ := h10.1.ns
      refine wpAny_nameGoes (hC.kindOf hloc) hn10 (by rw [hC.kind]; rfl) fun h' mm hn' hsb => ?_
      refine ⟨[], V10, mu10, ⟨⟨h10.1.held.outside (a := C.env.locals) (fun b o hb e => (hsb.2 b hb).trans e) h10.1.vl h10.1.fl h10.1.ml, ⟨_, hn', fun _ _ e => nomatch e⟩, h10.1.vl, h10.1.fl, h10.1.ml⟩, h10.2⟩, p10⟩
    | next => exact p10.elim
    | brk => exact p10.elim
    | cont => exact p10.elim
theorem sub_bytes {value slice : Expr} {l : List UInt8} {i : Int} {t u : Tok} (hz : l.length ≤ 1000000) (h0 : 0 ≤ i) (h1 : i < l.length) (h : ∀ tk, P (.int (l.getD i.toNat 0).toNat tk) m V mu) : Tr C m V mu (subscriptTail value slice (.bytes l.toArray t) (.int i u)) P :=
  subTail (T := "bytes") (fun s hs => typeIs_bytes s _ t) FB.slot_bytes_getitem.lookup <| .of fun s hs => PySem.W.getItem_bytes (by omega) h0 h1 ⟨m, V, mu, hs, h _⟩
/-- the arguments of a caught exception -/
theorem tr_excArgs {C : Cx} {m : Loc} {V : View} {mu : Mu} {P : Value → Loc → View → Mu → Prop} {ea t : Addr} {x : Str} {expr : Bool} (hx : ExcV V ea t x) (h : P (.ref t) m V mu) : Tr C m V mu (getAttr (.ref ea) "args" expr) P := .of fun s hs => by
  obtain ⟨oe, vs, ot, n, tk, e1, e2, e3, e4, e5, _⟩ := hx
  obtain ⟨hh, g, d, tt, os⟩ := s
  exact args_attr PySem.F.excAttr_ValueError (hs.1.held.sub _ _ e1) e2 e3 e4 ⟨m, V, mu, hs, h⟩
theorem tr_AttrName {C : Cx} {m : Loc} {V : View} {mu : Mu} {P : Value → Loc → View → Mu → Prop} {x attr : Str} {np pos : Pos} (h : Tr C m V mu (eval (.Name x np) C.env) fun o m V mu => Tr C m V mu (getAttr o attr true) P) :
    Tr C m V mu (eval (.Attribute (.Name x np) attr pos) C.env) P := .of fun s hs =>
  Attribute_name (h.go hs fun _ _ _ _ s1 h1 p1 => p1.run s1 h1)
end
section
variable {prog : Program} {w : World} {B V : View} {mu : Mu}
theorem enter2 {n : Nat} {fa : Addr} {args : Args} {binds : Loc} {Post : Value → View → Mu → Prop} (G : Gb w B)
    (hK : (K w.params).lookup fa = some (fnO (fdAt fa))) (hl : fnLook fa = true) (hcd : codeLook (K w.params) (fdAt fa).code (fdAt fa).qualname = true)
    (hbind : Binds B V mu (fdAt fa) args binds) (hloc : (binds.all fun x => (fdAt fa).scope.names.lookup x.1 == some .local) = true)
    (h : ∀ C : Cx, Fm C (fdAt fa).scope n → NoX C → C.env.frame = some C.env.locals → (∃ l, C.A.frames = some (C.env :: l)) → TrS C binds.reverse V mu (execs (bodyAt fa) C.env) (fun _ V mu => Post .none V mu) Post (fun _ _ _ => False) (fun _ _ _ => False)) :
    CallOk prog w B (n + 1) (.ref fa) args V mu Post := by
  intro A F os s hA hF H hg ho
  simp only [fnLook, Bool.and_eq_true, beq_iff_eq] at hl
  obtain ⟨⟨⟨⟨⟨⟨⟨h1, h2⟩, h3⟩, h4⟩, h5⟩, h6⟩, h7⟩, h8⟩ := hl
  have hbody : (fdAt fa).body = .stmts (bodyAt fa) := by
    unfold bodyAt
    cases e : (fdAt fa).body with
    | stmts b => rfl
    | expr => rw [e] at h8; cases h8
  have hclo : (fdAt fa).closure = [] := List.isEmpty_iff.mp h5
  refine codeAny_call_function hA.room (H.base _ _ (G.k _ _ hK)) (fd := fdAt fa) rfl h1 h2 hbody (codeRec_look (fun a o e => H.base _ _ (G.k _ _ e)) hcd) ?_
  refine hbind _ _ F _ _ _ H ?_
  rw [h6, h7, hclo]
  refine wpAny_newFunctionEnv (fun x hx => by have := List.all_eq_true.mp h4 x hx; simpa using this) (fun x hx => beq_iff_eq.mp (List.all_eq_true.mp hloc x hx)) (fun h' hns hsb => ⟨(G.nolimit H.base).fresh _ hsb, ?_⟩) h3
  have hn : s.heap.get? s.heap.objs.size = none := by
    cases e : s.heap.get? s.heap.objs.size with
    | none => rfl
    | some o => exact absurd (Heap.lt_size e) (Nat.lt_irrefl _)
  have k : ∀ b o, s.heap.get? b = some o → h'.get? b = some o := fun b o e => hsb.extBut b o (Nat.ne_of_lt (Heap.lt_size e)) (Heap.get?_push_of_some _ e)
  refine codeAny_func ?_
  have hC := h ⟨prog, w, A.deeper (newEnv (fdAt fa).scope s.heap.objs.size mainGlobals [] ((fdAt fa).qualname ++ ".<locals>.") (some fa) (fdAt fa).code none builtinsNs), newEnv (fdAt fa).scope s.heap.objs.size mainGlobals [] ((fdAt fa).qualname ++ ".<locals>.") (some fa) (fdAt fa).code none builtinsNs, B, F, os, fun _ _ => False⟩
    ⟨rfl, h3, rfl, rfl, G, hA.deeper _, hF.deeper h3⟩ (fun _ _ x => x) rfl (by
      obtain ⟨⟨l, e, _⟩, _⟩ := hF
      exact ⟨l, Around.frames_deeper e⟩)
  refine wpAny_mono (Tr.run hC _ ⟨⟨H.keeps k, ⟨_, hns, fun _ _ e => e⟩, H.fresh_V hn, H.fresh_F hn, H.fresh_mu hn⟩, hg, ho⟩) (fun f s' hf => ?_) (fun _ _ x => x.elim)
  obtain ⟨m', V', mu', I, p⟩ := hf
  cases f with
  | next => exact ⟨V', mu', I.1.held, I.2.1, I.2.2, p⟩
  | ret v => exact ⟨V', mu', I.1.held, I.2.1, I.2.2, p⟩
  | brk => exact p.elim
  | cont => exact p.elim
end
end
end Mine

end
section
open PySem PySem.Calls PySem.W PyProof.Rows
namespace Mine
noncomputable section
namespace LD
open Builtin
set_option maxRecDepth 100000
theorem road_eq {id : String} {b : Array UInt8} : _codecs.decodeRoad id b (PySem.Str.ofString "latin-1") none [] = (_codecs.runDecoder id _codecs.latin1Decoder none true b 0 [] >>= fun r => mkStr ⟨r.1⟩) := by kernel_rfl
theorem entry_eq {c : UInt8} {cs : List UInt8} {t u : Tok} : «bytes.decode» ⟨[.bytes (c :: cs).toArray t, .str (PySem.Str.ofString "latin-1") u], []⟩ = (mkStr (PySem.Str.ofString "utf-8") >>= fun _ => mkStr (PySem.Str.ofString "latin-1") >>= fun e => mkStr (PySem.Str.ofString "bytes.decode") >>= fun d =>
    call (.builtin "_codecs.decode.text") [.bytes (c :: cs).toArray t, e, .none, d] >>= fun v => ret v) := by kernel_rfl
theorem args_decode_2 (a b : Value) : argsOk "bytes.decode" ⟨[a, b], []⟩ := by unfold argsOk; kernel_rfl
theorem forIn_steps {σ : Type} (S : Nat → σ) (f : Nat → σ → Sem (ForInStep σ)) : ∀ (l : List Nat) (i : Nat), (∀ j x, i ≤ j → j < i + l.length → f x (S j) = pure (.yield (S (j + 1)))) → forIn l (S i) f = pure (S (i + l.length))
  | [], i, _ => rfl
  | x :: l, i, h => by
    rw [List.forIn_cons, h i x (Nat.le_refl _) (by simp)]
    have := forIn_steps S f l (i + 1) fun j y h1 h2 => h j y (by omega) (by simp; omega)
    rw [show i + (x :: l).length = i + 1 + l.length by simp; omega]
    exact this
theorem run_eq {id : String} {b : Array UInt8} (hz : b.size ≤ 1000) : _codecs.runDecoder id _codecs.latin1Decoder none true b 0 [] = pure ((b.toList.map fun c => c.toNat).toArray, b.size) := by
  unfold _codecs.runDecoder
  simp only [Std.Legacy.Range.forIn_eq_forIn_range']
  have key := forIn_steps (fun j => (j, ((b.toList.take j).map fun c => c.toNat).toArray, ({ } : _codecs.Faults)))
  have e0 : ((0 : Nat), (#[] : Array Nat), ({ } : _codecs.Faults)) = (fun j => (j, ((b.toList.take j).map fun c => c.toNat).toArray, ({ } : _codecs.Faults))) 0 := by simp
  rw [e0, key]
  · have e2 : b.size = (b.toList.map fun c => c.toNat).length := by simp
    simp
    conv => lhs; rw [List.take_of_length_le (by simp)]
  · intro j x h1 h2
    have hj : j < b.size := by simpa using h2
    dsimp only
    have hsz : ¬ (((b.toList.take j).map fun c => c.toNat).toArray.size > sizeLine) := by
      rw [sizeLine_eq]; simp; omega
    rw [if_neg hsz, if_neg (by omega)]
    have ef : _codecs.latin1Decoder.find true b j = _codecs.Found.text [(b.getD j 0).toNat] (j + 1) := rfl
    rw [ef]
    have e1 : (b.toList.take (j + 1)).map (fun c => c.toNat) = (b.toList.take j).map (fun c => c.toNat) ++ [(b.getD j 0).toNat] := by
      rw [List.take_succ, List.map_append]
      congr 1
      simp [hj]
    dsimp only
    rw [e1]
    simp
theorem meets_text {b : Array UInt8} {t t1 t2 : Tok} {d : PySem.Str} (hz : b.size ≤ 1000) :
    Meets («_codecs.decode.text» ⟨[.bytes b t, .str (PySem.Str.ofString "latin-1") t1, .none, .str d t2], []⟩) (fun _ R s => R (.ok (.ret (.str ⟨(b.toList.map fun c => c.toNat).toArray⟩ s.toks))) { s with toks := s.toks + 1 }) := by
  refine .of_wp fun prog w A R s h => ?_
  show wpAny _ _ (Bytes.bytesLike _ (.bytes b t) >>= fun r => _) _ _ s
  refine wpAny_bind (wpAny_of_eq KBd.like_eq ?_)
  refine wpAny_bind (wpAny_of_eq KBd.held_eq ?_)
  show wpAny _ _ (_codecs.decodeRoad _ b (PySem.Str.ofString "latin-1") none [] >>= fun v => _) _ _ s
  rw [road_eq, run_eq hz]
  refine wpAny_bind (wpAny_bind (wpAny_pure ?_))
  exact wpAny_mkStr (wpAny_pure ⟨_, rfl, h⟩) (by rw [sizeLine_eq]; simp [Str.length]; omega)
theorem meets_decode {c : UInt8} {cs : List UInt8} {t u : Tok} (hz : cs.length < 1000) :
    Meets («bytes.decode» ⟨[.bytes (c :: cs).toArray t, .str (PySem.Str.ofString "latin-1") u], []⟩) (fun _ R s => ∀ t' k, R (.ok (.ret (.str ⟨((c :: cs).map fun c => c.toNat).toArray⟩ t'))) { s with toks := k }) := by
  refine .of_wp fun prog w A R s h => ?_
  rw [entry_eq]
  refine wpAny_bind (wpAny_mkStr ?_ (by decide))
  refine wpAny_bind (wpAny_mkStr ?_ (by decide))
  refine wpAny_bind (wpAny_mkStr ?_ (by decide))
  exact wpAny_bind (call_function_meets KBd.kind_text KBd.plain_text KBd.entry_text (KBd.args_text _ _ _ _) (meets_text (b := (c :: cs).toArray) (by simp; omega)) (wpAny_pure ⟨_, rfl, h _ _⟩))
end LD
section
variable {C : Cx} {m : Loc} {V : View} {mu : Mu} {α β : Type} {P : Value → Loc → View → Mu → Prop}
theorem c_decode {b : Array UInt8} {t u : Tok} (h0 : b.size ≠ 0) (hz : b.size ≤ 1000) (h : ∀ tk, P (.str ⟨(b.toList.map fun c => c.toNat).toArray⟩ tk) m V mu) : Tr C m V mu (call (.builtin "bytes.decode") [.bytes b t, .str "latin-1" u]) P := .of fun s hs => by
  obtain ⟨l⟩ := b
  cases l with
  | nil => exact absurd rfl h0
  | cons c cs => exact call_meets FB.slot_bytes_decode (typeIs_bytes _ _ _) FB.entry_bytes_decode (LD.args_decode_2 _ _) (LD.meets_decode (by simp at hz; omega)) fun t' k => ⟨m, V, mu, hs, h _⟩
end
end
end Mine

end
section
open PySem PySem.Calls PySem.W PyProof.Rows
namespace Mine
noncomputable section
namespace LT
open Builtin
set_option maxRecDepth 100000
theorem slot_translate : Slot "bytes" "translate" "bytes.translate" := .of (owner := "bytes") (n := "translate") (by rw [typeLookup_type, builtinLookup_eq_fast]; kernel_rfl) (by decide +kernel) (by decide +kernel) (by decide +kernel)
    (by first | exact .inl (by decide +kernel) | exact .inr (by decide +kernel)) (by rw [isSubtype_type]; kernel_rfl)
theorem type_translate : typeOf (.builtin "bytes.translate") = pure (.type "method_descriptor") := by show builtinType _ = _; rw [builtinType_eq_fast]; kernel_rfl
theorem entry_translate : entryFor table "bytes.translate" = some Builtin.«bytes.translate» := entryFor_of_tree (by kernel_rfl)
theorem args_translate (a b : Value) : argsOk "bytes.translate" ⟨[a, b], []⟩ := by unfold argsOk; kernel_rfl
theorem entry_maketrans : entryFor table "bytes.maketrans" = some Builtin.«bytes.maketrans» := entryFor_of_tree (by kernel_rfl)
theorem kind_maketrans : builtinKind "bytes.maketrans" = some .staticMethod := by decide +kernel
theorem plain_maketrans : plainId "bytes.maketrans" = true := by decide +kernel
theorem args_maketrans (a b : Value) : argsOk "bytes.maketrans" ⟨[a, b], []⟩ := by unfold argsOk; kernel_rfl
theorem find_maketrans (K : Frag) : PySem.W.findCls K (.type "bytes") (.type "type") "maketrans" = some (.val (.builtin "bytes.maketrans")) := by kernel_rfl!
theorem split_maketrans : splitId "bytes.maketrans" = some ("bytes", "maketrans") := by decide +kernel
noncomputable def tab : Array UInt8 := (([43, 47] : List UInt8).zip [46, 47]).foldl (fun t (f, x) => t.setIfInBounds f.toNat x) ((Array.range 256).map (·.toUInt8))
theorem mk_eq {t u : Tok} : «bytes.maketrans» ⟨[.bytes #[43, 47] t, .bytes #[46, 47] u], []⟩ = (Bytes.bytesLike "bytes.maketrans" (.bytes #[43, 47] t) >>= fun f => Bytes.bytesLike "bytes.maketrans" (.bytes #[46, 47] u) >>= fun g =>
    (if f.size != g.size then (do rule s!"{"bytes.maketrans"}.sizes"; raiseError "ValueError" "maketrans arguments must have same length") else pure ()) >>= fun _ =>
    mkBytes ((f.toList.zip g.toList).foldl (fun t (f, x) => t.setIfInBounds f.toNat x) ((Array.range 256).map (·.toUInt8))) >>= fun v => ret v) := by kernel_rfl
theorem meets_maketrans {t u : Tok} : Meets («bytes.maketrans» ⟨[.bytes #[43, 47] t, .bytes #[46, 47] u], []⟩) (fun _ R s => ∀ t' k, R (.ok (.ret (.bytes tab t'))) { s with toks := k }) := by
  refine .of_wp fun prog w A R s h => ?_
  rw [mk_eq]
  refine wpAny_bind (wpAny_of_eq KBd.like_eq ?_)
  refine wpAny_bind (wpAny_of_eq KBd.like_eq ?_)
  rw [if_neg (by decide)]
  refine wpAny_bind (wpAny_pure ?_)
  refine wpAny_bind (wpAny_mkBytes ?_ (Nat.le_of_ble_eq_true (by decide +kernel)))
  exact wpAny_pure ⟨_, rfl, h _ _⟩
theorem call_static {prog : Program} {w : World} {A : Around} {E : Value → Shared → Prop} {s : Shared} {id : String} {o n : String} {B : Builtin} {args : List Value} {S : PySem.Spec} {Q : Value → Shared → Prop} (kind : builtinKind id = some .staticMethod) (sp : splitId id = some (o, n)) (plain : plainId id = true)
    (entry : entryFor table id = some B) (ok : argsOk id ⟨args, []⟩) (g : Meets (B ⟨args, []⟩) S) (h : S A (wants Q E) s) : wpAny (model prog w) A (call (.builtin id) args) Q E s := by
  refine wpAny_call (codeAny_call_builtin plain entry ?_)
  have hfin := g prog w A (wants Q E) s h
  simp only [checkBuiltinCall, kind, sp]
  cases hsig : Manifest.signature? id with
  | none => exact wpAny_pure hfin
  | some sig =>
    simp only [argsOk, hsig] at ok
    have h2 : Bind.checkArgs id sig ⟨args, []⟩ = pure () := ok
    show wpAny _ _ (Bind.checkArgs id sig ⟨args, []⟩) _ _ s
    rw [h2]; exact wpAny_pure hfin
noncomputable def tr (t : Array UInt8) (b : Array UInt8) : Array UInt8 := b.map fun c => t.getD c.toNat c
theorem meets_translate {b t : Array UInt8} {u v : Tok} (ht : t.size = 256) (hz : b.size ≤ 1000) : Meets («bytes.translate» ⟨[.bytes b u, .bytes t v], []⟩) (fun _ R s => ∀ t' k, R (.ok (.ret (.bytes (tr t b) t'))) { s with toks := k }) := by
  refine .of_wp fun prog w A R s h => ?_
  unfold «bytes.translate» Bytes.translateM
  dsimp only
  rw [if_neg (by simp), if_neg (by simp), if_neg (by simp)]
  refine wpAny_bind (wpAny_of_eq KBd.like_eq ?_)
  rw [if_neg (by simp [ht])]
  refine wpAny_bind (wpAny_pure ?_)
  show wpAny _ _ ((pure #[] : Sem (Array UInt8)) >>= fun delete => Bytes.payload (.bytes b u) >>= _) _ _ s
  refine wpAny_bind (wpAny_pure (wpAny_bind (wpAny_of_eq (a := b) rfl ?_)))
  have e : (b.filter (fun x => !(#[] : Array UInt8).contains x)).map (fun c => t.getD c.toNat c) = tr t b := by
    have e1 : b.filter (fun x => !(#[] : Array UInt8).contains x) = b := by simp
    rw [e1]; rfl
  dsimp only
  rw [e]
  split
  · rename_i q
    have q' : tr t b = b := by simpa using q
    rw [q'] at h
    refine wpAny_bind (wpAny_rule (wpAny_bind ?_))
    unfold Bytes.Kind.same
    rw [if_pos (by decide)]
    refine wpAny_bind (wpAny_typeOf (typeIs_bytes s b u) ?_)
    exact wpAny_pure (wpAny_pure ⟨_, rfl, h _ s.toks⟩)
  · refine wpAny_bind (wpAny_mkBytes ?_ (by rw [sizeLine_eq]; simp [tr]; omega))
    exact wpAny_pure ⟨_, rfl, h _ _⟩
end LT
section
variable {C : Cx} {m : Loc} {V : View} {mu : Mu} {α β : Type} {P : Value → Loc → View → Mu → Prop}
theorem c_maketrans {t u : Tok} (h : ∀ tk, P (.bytes LT.tab tk) m V mu) : Tr C m V mu (call (.builtin "bytes.maketrans") [.bytes #[43, 47] t, .bytes #[46, 47] u]) P := .of fun s hs =>
  LT.call_static LT.kind_maketrans LT.split_maketrans LT.plain_maketrans LT.entry_maketrans (LT.args_maketrans _ _) LT.meets_maketrans fun t' k => ⟨m, V, mu, hs, h _⟩
theorem c_translate {b t : Array UInt8} {u v : Tok} (ht : t.size = 256) (hz : b.size ≤ 1000) (h : ∀ tk, P (.bytes (LT.tr t b) tk) m V mu) : Tr C m V mu (call (.builtin "bytes.translate") [.bytes b u, .bytes t v]) P := .of fun s hs =>
  call_meets LT.slot_translate (typeIs_bytes _ _ _) LT.entry_translate (LT.args_translate _ _) (LT.meets_translate ht hz) fun t' k => ⟨m, V, mu, hs, h _⟩
/-- of bytes -/
theorem tr_mBytes {o : Expr} {name : Str} {apos pos : Pos} {e : Expr} {rest : List Expr} {id : String} (slot : Slot "bytes" name id) (ty : typeOf (.builtin id) = pure (.type "method_descriptor"))
    (h : Tr C m V mu (eval o C.env) fun ov m V mu => ∃ x t, ov = .bytes x t ∧ Tr C m V mu (spliced (backTo pos (starEach (e :: rest) C.env))) (CcP C (.builtin id) (.bytes x t) P))
    (hbase : attributeBase o name C.env (eval o C.env) = eval o C.env := by rfl)
    (hfew : ((backTo pos (starEach (e :: rest) C.env)).all (fun x => !x.1) && (backToKw pos (keywordEach [] C.env)).all (fun x => x.1.isSome)
      && decide ((e :: rest).length + ([] : List Keyword).length + (if ([] : List Keyword).isEmpty then 0 else 1) < 30)) = true := by rfl)
    (hline : (apos.endLine == pos.line) = true := by rfl)
    (he : starEach (e :: rest) C.env = (false, eval e C.env) :: starEach rest C.env := by rfl) (hp : (backTo pos (starEach rest C.env)).any (·.1) = false := by rfl) :
    Tr C m V mu (eval (.Call (.Attribute o name apos) (e :: rest) [] pos) C.env) P :=
  tr_Method FB.plainAttrs_bytes slot ty (tr_mono h fun ov m V mu ⟨x, t, e1, q⟩ => by
    subst e1
    exact ⟨fun s hs => ⟨typeIs_bytes s x t, fun a e => nomatch e⟩, tr_cwM q he hp⟩) hbase hfew hline
/-- a static method of a built-in kind -/
theorem tr_mStatic {pl : Sem Bool} {sc : Scope} {n : Nat} (hC : Fm C sc n) {o : Expr} {name : Str} {T id : String} {apos pos : Pos} {e : Expr} {rest : List Expr} (ht : typeOf (.type T) = pure (.type "type")) (hst : Manifest.isStub T = false)
    (hf : ∀ K, PySem.W.findCls K (.type T) (.type "type") name = some (.val (.builtin id))) (hh : handedIn (.builtin id) = true)
    (h : Tr C m V mu (eval o C.env) fun ov m V mu => ov = .type T ∧ Tr C m V mu (spliced (backTo pos (starEach (e :: rest) C.env))) (CaP C (.builtin id) P))
    (he : eval (.Call (.Attribute o name apos) (e :: rest) [] pos) C.env = (do
      let ov ← eval o C.env
      standAt apos.atName
      let (f, first) ← holding [ov] (getMethod ov name pl)
      callWith pos f first (backTo pos (starEach (e :: rest) C.env)) (backToKw pos (keywordEach [] C.env))) := by rfl)
    (hse : starEach (e :: rest) C.env = (false, eval e C.env) :: starEach rest C.env := by rfl) (hpl : (backTo pos (starEach rest C.env)).any (·.1) = false := by rfl) :
    Tr C m V mu (eval (.Call (.Attribute o name apos) (e :: rest) [] pos) C.env) P := .of fun s hs => by
  refine methodCall_KW (h.go hs fun ov m1 V1 mu1 s1 h1 p1 => ?_) he
  obtain ⟨rfl, p⟩ := p1
  have X := h1.inK hC
  have LO : Looks C.M s1.heap (opaqueClassAbove (.type T)) none := Looks.of_pure (by unfold opaqueClassAbove; dsimp only; rw [hst]; rfl)
  have L0 : Looks C.M s1.heap (typeOf (.type T)) (.type "type") := Looks.of_pure ht
  have hg : findIn (K C.w.params) (.type "type") "__getattribute__" = some (some (.builtin "type.__getattribute__")) := type_tga
  have h1' : St C m1 V1 mu1 { s1 with toks := s1.toks + 1 } := h1
  unfold getMethod specialOf
  refine wpAny_bind (wpAny_bind (L0.here ((looks_findIn X hg).here ?_)))
  dsimp only
  rw [if_pos canon_tga]
  refine wpAny_bind (wpAny_mono (Q := fun v s' => v = .builtin id ∧ s' = { s1 with toks := s1.toks + 1 }) (E := C.X) ?_ (fun v s' z => wpAny_pure ?_) fun _ _ z => z)
  · exact cls_open X LO L0 hg (looks_hook X (r := none) (by rfl)) (by show subIn (K C.w.params) _ _ = _; rfl) (hf _)
      (wpAny_pure (by show wpAny _ _ (handedOut (.builtin id)) _ _ _; rw [handedOut_of hh]; exact wpAny_pure ⟨rfl, rfl⟩))
  · obtain ⟨rfl, rfl⟩ := z
    refine callWith_method1 (first := []) (p.go h1' fun vs m2 V2 mu2 s2 h2 p2 => p2.run s2 h2) hse hpl
end
end
end Mine

end
section
open PySem PySem.Calls PySem.W PyProof.Rows
namespace Mine
noncomputable section
theorem and_shift : ∀ (k : Nat) (x y : Int), 0 ≤ y → y < 2 ^ k → Builtin.bitAnd (x * 2 ^ k) y = 0
  | 0, x, y, h0, h1 => by
    have : y = 0 := by simp at h1; omega
    subst this
    unfold Builtin.bitAnd
    cases decide (0 ≤ x * 2 ^ 0) <;> simp
  | k + 1, x, y, h0, h1 => by
    have e2 : x * 2 ^ (k + 1) = 2 * (x * 2 ^ k) := by rw [Int.pow_succ]; rw [← Int.mul_assoc, Int.mul_comm _ 2]
    have p : (2 : Int) ^ (k + 1) = 2 ^ k * 2 := Int.pow_succ 2 k
    rw [p] at h1
    rw [kbt_halves, e2]
    have e3 : 2 * (x * 2 ^ k) / 2 = x * 2 ^ k := by omega
    have e4 : ¬ (2 * (x * 2 ^ k) % 2 = 1 ∧ y % 2 = 1) := by omega
    rw [e3, if_neg e4, and_shift k x (y / 2) (by omega) (by omega)]
    rfl
theorem or_shift8 (x y : Int) (h0 : 0 ≤ y) (h1 : y < 256) : Builtin.bitOr (x * 2 ^ 8) y = x * 256 + y := by
  rw [bitOr_and, and_shift 8 x y h0 (by omega)]
  omega
section
variable {C : Cx} {m : Loc} {V : View} {mu : Mu} {α β : Type} {P : Value → Loc → View → Mu → Prop}
variable {N Bk Ct : Loc → View → Mu → Prop} {R : Value → View → Mu → Prop}
variable {a b : Int} {t u : Tok}
theorem op_is {a b : Value} {r : Bool} (hp : plainIs a b = true) (hr : (a == b) = r) (h : P (.bool r) m V mu) : Tr C m V mu (compareOp .Is a b) P := .of fun s hs => wpAny_is_plain hp ⟨m, V, mu, hs, by rw [hr]; exact h⟩
theorem op_isNot {a b : Value} {r : Bool} (hp : plainIs a b = true) (hr : (!(a == b)) = r) (h : P (.bool r) m V mu) : Tr C m V mu (compareOp .IsNot a b) P := .of fun s hs => wpAny_isNot_plain hp ⟨m, V, mu, hs, by rw [hr]; exact h⟩
theorem op_and (h : ∀ tk, P (.int (Builtin.bitAnd a b) tk) m V mu) : Tr C m V mu (binaryOp .BitAnd (.int a t) (.int b u)) P := .of fun s hs => PyProof.Rows.and_int ⟨m, V, mu, hs, h _⟩
theorem op_or (h : ∀ tk, P (.int (Builtin.bitOr a b) tk) m V mu) : Tr C m V mu (binaryOp .BitOr (.int a t) (.int b u)) P := .of fun s hs => PyProof.Rows.or_int ⟨m, V, mu, hs, h _⟩
theorem op_shl (hn : 0 ≤ b) (hn2 : b ≤ 1000000) (ha : a.natAbs < 2 ^ 64) (h : ∀ tk, P (.int (a * 2 ^ b.toNat) tk) m V mu) : Tr C m V mu (binaryOp .LShift (.int a t) (.int b u)) P := .of fun s hs => PyProof.Rows.lshift_int_small hn hn2 ha ⟨m, V, mu, hs, h _⟩
theorem op_shr (hn : 0 ≤ b) (h : ∀ tk, P (.int (a.fdiv (2 ^ b.toNat)) tk) m V mu) : Tr C m V mu (binaryOp .RShift (.int a t) (.int b u)) P := .of fun s hs => PyProof.Rows.rshift_int hn ⟨m, V, mu, hs, h _⟩
theorem c_bytesL {l : Addr} {vs : List Value} {n : Nat} {ns : List Int} (hk : Known C V mu l (listO vs n)) (hi : IntsAre vs ns) (hr : ∀ n ∈ ns, 0 ≤ n ∧ n < 256) (hz : vs.length ≤ sizeLine) (hh : C.A.handled = none) (h : ∀ tk, P (.bytes (byteArr ns) tk) m V mu) :
    Tr C m V mu (call (.type "bytes") [.ref l]) P := .of fun s hs => call_bytes_ints (hs.1.isList hk) hi hr hz hh fun h' t k hk' => ⟨m, V, mu, hs.keeps hk', h _⟩
theorem tr_ks_nil {Q : List Value → Loc → View → Mu → Prop} (h : Q [] m V mu) : Tr C m V mu (evalAll []) Q := .of fun s hs => wpAny_pure ⟨m, V, mu, hs, h⟩
theorem tr_ks {x : Sem Value} {xs : List (Sem Value)} {Q : List Value → Loc → View → Mu → Prop} (h : Tr C m V mu x fun v m V mu => Tr C m V mu (evalAll xs) fun vs m V mu => Q (v :: vs) m V mu) : Tr C m V mu (evalAll (x :: xs)) Q := by
  unfold evalAll
  exact tr_bind (tr_mono h fun v m V mu q => tr_bind (tr_holding (tr_mono q fun vs m V mu p => tr_pure p)))
/-- a call of a def with names -/
theorem tr_callKw {sc : Scope} {n : Nat} (hC : Fm C sc n) (fa : Addr) {x : Str} {pos pos' : Pos} {e : Expr} {rest : List Expr} {kws : List Keyword} (hl : sc.names.lookup x = some .globalImplicit) (hv : gmap C.w.params x = some (.ref fa)) (hk : keepIn (K C.w.params) (.ref fa) = true)
    (hall : (backToKw pos (keywordEach kws C.env)).all (·.1.isSome) = true)
    (h : Tr C m V mu (spliced (backTo pos (starEach (e :: rest) C.env))) fun vs m V mu => Tr C m V mu (evalAll ((backToKw pos (keywordEach kws C.env)).map (·.2))) fun ks m V mu =>
      Tr C m V mu (call (.ref fa) vs (((backToKw pos (keywordEach kws C.env)).filterMap (·.1)).zip ks)) P)
    (hplain : ((backTo pos (starEach (e :: rest) C.env)).any (·.1) || (backToKw pos (keywordEach kws C.env)).any (·.1.isNone)) = false := by rfl)
    (he : starEach (e :: rest) C.env = (false, eval e C.env) :: starEach rest C.env := by rfl) (hd : (x == ("__debug__" : Str)) = false := by decide)
    (hx : eval (.Call (.Name x pos') (e :: rest) kws pos) C.env = (do callWith pos (← eval (.Name x pos') C.env) [] (backTo pos (starEach (e :: rest) C.env)) (backToKw pos (keywordEach kws C.env))) := by rfl) : Tr C m V mu (eval (.Call (.Name x pos') (e :: rest) kws pos) C.env) P := by
  rw [hx]
  refine tr_bind (tr_glob hC hl hv (.of fun s hs => ?_) hd)
  exact callWith_KW (first := []) (hs.inK hC) hk hall (h.go hs fun vs m1 V1 mu1 s1 h1 p1 => p1.go h1 fun ks m2 V2 mu2 s2 h2 p2 => ⟨h2.inK hC, p2.run s2 h2⟩) hplain he
theorem tr_perm {t : Sem α} {P : α → Loc → View → Mu → Prop} {mu' : Mu} (p : mu.Perm mu') (h : Tr C m V mu' t P) : Tr C m V mu t P := .of fun s hs => h.run s ⟨hs.1.perm p, hs.2⟩
/-- behind the step some mutable objects are forgotten -/
theorem tr_postSub {t : Sem α} {P P' : α → Loc → View → Mu → Prop} (h : Tr C m V mu t P') (k : ∀ v m V mu, P' v m V mu → ∃ mu', List.Sublist mu' mu ∧ P v m V mu') : Tr C m V mu t P :=
  .of fun s hs => h.go hs fun v m1 V1 mu1 s1 h1 p1 => by
    obtain ⟨mu', hsub, p⟩ := k v m1 V1 mu1 p1
    exact ⟨m1, V1, mu', ⟨h1.1.weaken (fun _ _ e => e) h1.1.held.bs (Le.refl _) hsub, h1.2⟩, p⟩
theorem tr_kw1 {nm : Option Str} {e : Expr} {kp pos : Pos} {Q : List Value → Loc → View → Mu → Prop} (h : Tr C m V mu (eval e C.env) fun v m V mu => Q [v] m V mu) : Tr C m V mu (evalAll ((backToKw pos (keywordEach [⟨nm, e, kp⟩] C.env)).map (·.2))) Q := by
  show Tr C m V mu (evalAll [do let v ← eval e C.env; standAt pos; pure v]) Q
  refine tr_ks (tr_bind (tr_mono h fun v m V mu q => ?_))
  exact tr_bind (.of fun s hs => wpAny_standAt ⟨m, V, mu, hs, tr_pure (tr_ks_nil q)⟩)
end
section
variable {B V : View} {mu : Mu}
theorem bindsD {fd : FuncData} {args : Args} {binds : Loc} {T : Addr} {o : Obj} {items : Array Value} {n : Nat} (hB : B T = some o) (hd : fd.defaults = .ref T) (hs : o.data = .seq items n)
    (h : ∃ k, bindArgs fd args = seqItems? fd.defaults >>= k ∧ k (some items) = pure binds) : Binds B V mu fd args binds := fun M A F Q E s H q => by
  obtain ⟨k, h1, h2⟩ := h
  exact BindsTo.of_defaults hd (H.base _ _ hB) hs h1 h2 M A E Q q
end
end
end Mine

end
section
open PySem PySem.Calls PySem.W PyProof.Rows
namespace Mine
noncomputable section
section
variable {C : Cx} {m : Loc} {V : View} {mu : Mu} {α β : Type} {P : Value → Loc → View → Mu → Prop}
theorem tr_ldlK {x : Str} {v : Value} (hk : C.env.scope.kind = .function) (hl : C.env.kindOf x = some .local) (hv : m.lookup x = some v) (h : P v m V mu) : Tr C m V mu (loadName C.env x) P := .of <| fun s hs => by
  obtain ⟨f, hn, hf⟩ := hs.1.ns
  exact wpAny_loadName_local hk hl hn (hf _ _ hv) ⟨_, _, _, hs, h⟩
theorem tr_localK {x : Str} {pos : Pos} {v : Value} (hk : C.env.scope.kind = .function) (hl : C.env.kindOf x = some .local) (hv : m.lookup x = some v) (h : P v m V mu) (hd : (x == ("__debug__" : Str)) = false := by decide) : Tr C m V mu (eval (.Name x pos) C.env) P := tr_Name (tr_ldlK hk hl hv h) hd
theorem ts_cx {X : Value → Shared → Prop} {N Bk Ct : Loc → View → Mu → Prop} {R : Value → View → Mu → Prop} {t : Sem Flow} (hX : NoX C) (h : TrS C m V mu t N R Bk Ct) : TrS { C with X := X } m V mu t N R Bk Ct := .of fun s hs => by
  have hs' : St C m V mu s := ⟨hs.1.cx C.A C.X, hs.2⟩
  exact Tr.goN (C := C) hX h hs' fun f m1 V1 mu1 s1 h1 p1 => ⟨m1, V1, mu1, ⟨h1.1.cx _ _, h1.2⟩, p1⟩
end
end
end Mine

end
section
open PySem PySem.Calls PySem.W PyProof.Rows PySem.SeqAt
namespace Mine
noncomputable section
noncomputable def RangeV (V : View) (r : Addr) (n : Int) : Prop := ∃ t u v, V r = some { cls := .type "range", data := .fields #[.int 0 t, .int n u, .int 1 v] }
theorem seqObj_list (out : Array Value) (e : Nat) : seqObj "list" out e = listO out.toList e := by unfold listO; simp [seqObj]
section
variable {C : Cx} {m : Loc} {V : View} {mu : Mu} {α β : Type} {P : Value → Loc → View → Mu → Prop}
variable {a b : Int} {t u : Tok}
theorem c_range {n : Int} (h : ∀ r V', Le V V' → RangeV V' r n → P (.ref r) m V' mu) : Tr C m V mu (call (.type "range") [.int n t]) P := .of fun s hs =>
  call_range_1 ⟨m, _, mu, ⟨hs.1.push rfl, hs.2⟩, h _ _ (hs.1.put_le _) ⟨_, _, _, put_self ..⟩⟩
theorem iter_range {r : Addr} {n : Nat} {Q : Value → Loc → View → Mu → Prop} (hh : C.A.handled = none) (hz : n ≤ 100000) (hl : RangeV V r n)
    (h : ∀ I o S, ItOk C V I n (fun i v => ∃ t, v = .int (i : Int) t) S → ItSt V I o (S 0) → Q (.ref I) m V ((I, o) :: mu)) : Tr C m V mu (pyIter (.ref r)) Q := .of fun s hs => by
  obtain ⟨t, u, v, e⟩ := hl
  have e' := hs.1.held.sub _ _ e
  have hsz : Builtin.Range.rangeSize 0 (n : Int) 1 = n := by
    unfold Builtin.Range.rangeSize
    by_cases h0 : 0 < n
    · rw [if_pos (by decide), if_pos (by omega)]; omega
    · rw [if_pos (by decide), if_neg (by omega)]; omega
  have W := Walks.range (prog := C.prog) (w := C.w) (A := C.A) hh s.heap.objs.size 0 1 n
  have W' : Walks C.prog C.w C.A s.heap.objs.size [s.heap.objs.size] [s.heap.objs.size] n (fun i v => ∃ t, v = .int (i : Int) t) (fun i h => IsRangeIter h s.heap.objs.size (0 + (i : Nat) * 1) ((n : Int) - (i : Nat)) 1) :=
    { W with item := fun i s Q E hi st hQ => W.item i s Q E hi st fun v h' tk hv hst hk => hQ v h' tk (by
        obtain ⟨t, rfl⟩ := hv
        exact ⟨t, by simp⟩) hst hk }
  refine wpAny_pyIter_range (a := 0) (b := n) (c := 1) e' (small_one (by decide) (by decide) (by omega) (by omega)) ⟨m, V, _, ⟨hs.1.pushMu rfl, hs.2⟩, h _ _ _ ⟨[s.heap.objs.size], W', fun b hb => by simp at hb; exact .inl hb, fun i g st => ⟨_, st⟩⟩ fun g eg kg => ?_⟩
  rw [hsz] at eg
  show g.get? _ = _
  rw [eg]
  simp
theorem c_sum {l : Addr} {vs : List Value} {n : Nat} {ns : List Int} (hh : C.A.handled = none) (hk : Known C V mu l (listO vs n)) (hi : IntsAre vs ns) (h : ∀ tk, P (.int ns.sum tk) m V mu) : Tr C m V mu (call (.builtin "sum") [.ref l]) P := .of fun s hs => by
  obtain ⟨xs, hx⟩ := hi.allInts.items
  have hl' : s.heap.IsList l (intItems xs) := hx ▸ hs.1.isList hk
  refine sum_intListG hh hl' fun h' tk t' hk' => ?_
  have e1 : ns = xs.toList.map (·.1) := by
    rw [← nums_intItems, ← hx]
    exact (show numsOf vs.toArray.toList = ns from hi.numsOf).symm
  have e2 : preSum (numAt xs) xs.size = ns.sum := by
    rw [preSum_eq, List.take_of_length_le (by simp), e1]
  rw [e2]
  exact ⟨m, V, mu, hs.keeps hk', h _⟩
theorem c_max (hh : C.A.handled = none) (h : ∀ tk, P (.int (max a b) tk) m V mu) : Tr C m V mu (call (.builtin "max") [.int a t, .int b u]) P := .of fun s hs =>
  max_two_ints hh fun h' tk hk => ⟨m, V, mu, hs.keeps hk, by
    by_cases c : b > a
    · rw [if_pos c]; have := h u; rw [show max a b = b by omega] at this; exact this
    · rw [if_neg c]; have := h t; rw [show max a b = a by omega] at this; exact this⟩
theorem c_min (hh : C.A.handled = none) (h : ∀ tk, P (.int (min a b) tk) m V mu) : Tr C m V mu (call (.builtin "min") [.int a t, .int b u]) P := .of fun s hs =>
  min_two_ints hh fun h' tk hk => ⟨m, V, mu, hs.keeps hk, by
    by_cases c : b < a
    · rw [if_pos c]; have := h u; rw [show min a b = b by omega] at this; exact this
    · rw [if_neg c]; have := h t; rw [show min a b = a by omega] at this; exact this⟩
theorem c_sorted {l : Addr} {vs : List Value} {n : Nat} {ns : List Int} (hk : Known C V mu l (listO vs n)) (hi : IntsAre vs ns) (hz : vs.length < 64)
    (h : ∀ a V' vs' n' ns', Le V V' → V' a = some (listO vs' n') → IntsAre vs' ns' → ns'.Perm ns → ns'.Pairwise (· ≤ ·) → P (.ref a) m V' mu) : Tr C m V mu (call (.builtin "sorted") [.ref l]) P := .of fun s hs => by
  refine sorted_ints (hs.1.isList hk) hi hz fun out ns' a1 a2 a3 => ?_
  obtain ⟨e, he⟩ := sortedAll_at s.heap vs out
  rw [seqObj_list] at he
  have hn : s.heap.get? (s.heap.objs.size + 1) = none := Heap.get?_none_of_le (Nat.le_succ _)
  have k : ∀ b o, s.heap.get? b = some o → (sortedAll s.heap vs out).get? b = some o := fun _ _ => sortedAll_old
  have H := hs.1.held
  have I1 : Inv C m V mu (sortedAll s.heap vs out) := hs.1.keeps k
  have ne : C.env.locals ≠ s.heap.objs.size + 1 := fun q => by
    obtain ⟨f, hn', _⟩ := hs.1.ns
    have h1 : C.env.locals < s.heap.objs.size := hn'.lt
    exact absurd q (Nat.ne_of_lt (Nat.lt_succ_of_lt h1))
  have I2 := I1.learn he (H.fresh_V hn) (H.fresh_F hn) (H.fresh_mu hn) ne
  exact ⟨m, _, mu, ⟨I2, hs.2⟩, h _ _ out.toList e ns' (put_le (H.fresh_V hn)) (put_self ..) a1 a2 a3⟩
theorem foldl_flat {α : Type} (k : Nat) (vs : List α) : List.foldl (fun x1 x2 => x1 ++ x2) (#[] : Array α) (List.replicate k vs.toArray) = (List.replicate k vs).flatten.toArray := by
  have gen : ∀ (k : Nat) (acc : List α), List.foldl (fun x1 x2 => x1 ++ x2) acc.toArray (List.replicate k vs.toArray) = (acc ++ (List.replicate k vs).flatten).toArray := by
    intro k
    induction k with
    | zero => intro acc; simp
    | succ k ih =>
      intro acc
      rw [List.replicate_succ, List.foldl_cons, List.append_toArray, ih, List.replicate_succ, List.flatten_cons, List.append_assoc]
  simpa using gen k []
theorem mulM (l : Addr) (items : Array Value) (n : Nat) (k : Nat) (u : Tok) (hz : items.size * k ≤ 1000) (hz2 : k ≤ 1000) : Meets (Builtin.«list.__mul__» ⟨[.ref l, .int (k : Int) u], []⟩) (fun _ R s => s.heap.get? l = some { cls := .type "list", dict := none, data := .seq items n, slots := #[] } ∧ R (.ok (.ret (Value.ref s.heap.objs.size))) { s with heap := s.heap.push { cls := Value.type "list", data := Data.seq (List.foldl (fun x1 x2 => x1 ++ x2) #[] (List.replicate (if items.isEmpty = true then 0 else (k : Int).toNat) items)) }, toks := s.toks }) := by
  obtain ⟨x, hx⟩ : ∃ x : Int, x = (k : Int) := ⟨_, rfl⟩
  rw [← hx]
  have hx2 : x.toNat = k := by omega
  refine AutoListH.list___mul___list_int_3 l items n x u ?_ ?_ ?_
  · unfold Builtin.List.listFitsIndex; simp; omega
  · rw [hx2]; omega
  · unfold Builtin.List.listTooLong; rw [hx2, sizeLine_eq]; simp; omega
theorem op_mulL {l : Addr} {vs : List Value} {n : Nat} {k : Nat} (hk : Known C V mu l (listO vs n)) (hz : vs.length * k ≤ 1000) (hz2 : k ≤ 1000)
    (h : ∀ a V', Le V V' → V' a = some (listO (List.replicate k vs).flatten 0) → P (.ref a) m V' mu) : Tr C m V mu (binaryOp .Mult (.ref l) (.int (k : Int) u)) P := .of fun s hs => by
  have hl := hs.1.known hk
  have e0 : (List.foldl (fun x1 x2 => x1 ++ x2) (#[] : Array Value) (List.replicate (if vs.toArray.isEmpty = true then 0 else (k : Int).toNat) vs.toArray)) = (List.replicate k vs).flatten.toArray := by
    cases vs with
    | nil => simp
    | cons v r =>
      rw [if_neg (by simp), Int.toNat_natCast]
      exact foldl_flat k (v :: r)
  have tI : ∀ s' : Shared, s'.TypeIs (.int (k : Int) u) "int" := fun s' => typeIs_int s' k u
  obtain ⟨x, hx⟩ : ∃ x : Int, x = (k : Int) := ⟨_, rfl⟩
  rw [← hx] at e0 tI ⊢
  have hM := @mulM l vs.toArray n k u (by simpa using hz) hz2
  rw [← hx] at hM
  refine wpAny_binaryOp_repeat_ref (T := "list") (U := "int") (by decide) ⟨_, hl, rfl⟩ tI noFill_list_mul F.fills_int_mul F.slot_int_rmul repeat_list F.slot_int_index.lookup ?_
  refine call_meets F.slot_int_rmul (tI s) F.entry_int_rmul (F.args_int_rmul_2 _ _) (int___rmul___int_list x u l vs.toArray n) ?_
  refine ⟨hl, rfl, ⟨_, hl, rfl⟩, ?_⟩
  refine call_meets F.slot_list_mul ⟨_, hl, rfl⟩ F.entry_list_mul (F.args_list_mul_2 _ _) hM ⟨hl, ?_⟩
  have e1 : ({ cls := .type "list", data := .seq (List.foldl (fun x1 x2 => x1 ++ x2) #[] (List.replicate (if vs.toArray.isEmpty = true then 0 else x.toNat) vs.toArray)) } : Obj) = listO (List.replicate k vs).flatten 0 := by
    rw [e0]; rfl
  rw [e1]
  exact ⟨m, _, mu, ⟨hs.1.push rfl, hs.2⟩, h _ _ (hs.1.put_le _) (put_self ..)⟩
theorem op_notInL {l : Addr} {vs : List Value} {n : Nat} {ns : List Int} (hk : Known C V mu l (listO vs n)) (hi : IntsAre vs ns) (h : P (.bool (!ns.contains a)) m V mu) : Tr C m V mu (compareOp .NotIn (.int a t) (.ref l)) P := .of fun s hs => by
  refine notIn_listAt (isInt a) (hs.1.isList hk) (fun y hy => (eq_isInt a t hi y (by simpa using hy)).at _ _) ⟨m, V, mu, hs, ?_⟩
  have e : vs.toArray.any (isInt a) = ns.contains a := by
    rw [← Array.any_toList]
    show vs.any (isInt a) = _
    rw [any_isInt a hi, List.contains_eq_any_beq]
    congr 1
    funext x
    by_cases q : x = a
    · subst q; rfl
    · rw [beq_eq_false_iff_ne.mpr q, beq_eq_false_iff_ne.mpr (Ne.symm q)]
  rw [e]; exact h
/-- two lists of the same texts, of the same bytes, two tuples of the same text -/
theorem op_neSame {l k : Addr} {vs ws : List Value} {n n' : Nat} (hl : Known C V mu l (listO vs n)) (hk : Known C V mu k (listO ws n')) (hlen : vs.length = ws.length) (hu : C.A.units < cLine)
    (he : ∀ (j : Nat) (v w : Value) A s, vs[j]? = some v → ws[j]? = some w → EqAt A s v w true) (h : P (.bool false) m V mu) : Tr C m V mu (compareOp .NotEq (.ref l) (.ref k)) P := .of fun s hs => by
  refine RcNeAt.lists (hs.1.isList hl) (hs.1.isList hk) (by simpa using hlen) hu (e := fun _ => true) (fun j h1 h2 => he j _ _ _ _ (by simp at h1; simp [h1]) (by simp at h2; simp [h2])) _ _ _ _ ⟨m, V, mu, hs, ?_⟩
  have e : (List.range vs.toArray.size).all (fun _ => true) = true := by simp
  rw [e]; exact h
theorem eqAt_bytes {A : Around} {s : Shared} (b : Array UInt8) (t u : Tok) : EqAt A s (.bytes b t) (.bytes b u) true := fun prog w E Q h => PySem.W.eqBool_bytes (by simpa using h)
theorem op_neStrs {l k : Addr} {vs ws : List Value} {n n' : Nat} {xs : List Str} (hl : Known C V mu l (listO vs n)) (hk : Known C V mu k (listO ws n')) (hr : RepL V vs (xs.map PV.str)) (hr' : RepL V ws (xs.map PV.str)) (hu : C.A.units < cLine) (h : P (.bool false) m V mu) :
    Tr C m V mu (compareOp .NotEq (.ref l) (.ref k)) P := by
  refine op_neSame hl hk (by rw [hr.length, hr'.length]) hu (fun j v w A s e1 e2 => ?_) h
  have hj : j < xs.length := by have := (List.getElem?_eq_some_iff.mp e1).1; rw [hr.length, List.length_map] at this; exact this
  obtain ⟨v', q1, r1⟩ := hr.get (i := j) (d := .str xs[j]) (by simp [hj])
  obtain ⟨w', q2, r2⟩ := hr'.get (i := j) (d := .str xs[j]) (by simp [hj])
  rw [e1] at q1; cases q1
  rw [e2] at q2; cases q2
  obtain ⟨t1, rfl⟩ := r1.str_inv
  obtain ⟨t2, rfl⟩ := r2.str_inv
  have := EqAt.str_str (A := A) (s := s) xs[j] t1 xs[j] t2
  rwa [beq_self_eq_true] at this
theorem op_neBytes {l k : Addr} {vs ws : List Value} {n n' : Nat} {xs : List (Array UInt8)} (hl : Known C V mu l (listO vs n)) (hk : Known C V mu k (listO ws n')) (hr : RepL V vs (xs.map PV.bytes)) (hr' : RepL V ws (xs.map PV.bytes)) (hu : C.A.units < cLine) (h : P (.bool false) m V mu) :
    Tr C m V mu (compareOp .NotEq (.ref l) (.ref k)) P := by
  refine op_neSame hl hk (by rw [hr.length, hr'.length]) hu (fun j v w A s e1 e2 => ?_) h
  have hj : j < xs.length := by have := (List.getElem?_eq_some_iff.mp e1).1; rw [hr.length, List.length_map] at this; exact this
  obtain ⟨v', q1, r1⟩ := hr.get (i := j) (d := .bytes xs[j]) (by simp [hj])
  obtain ⟨w', q2, r2⟩ := hr'.get (i := j) (d := .bytes xs[j]) (by simp [hj])
  rw [e1] at q1; cases q1
  rw [e2] at q2; cases q2
  obtain ⟨t1, rfl⟩ := r1.bytes_inv
  obtain ⟨t2, rfl⟩ := r2.bytes_inv
  exact eqAt_bytes xs[j] t1 t2
theorem op_neTup1 {l k : Addr} {ot : Obj} {x : Str} {n n' : Nat} {tk tk' : Tok} (hl : V l = some ot) (hc : ot.cls = .type "tuple") (hd : ot.data = .seq #[.str x tk] n) (hk : V k = some (tupO [.str x tk'] n')) (hu : C.A.units < cLine) (h : P (.bool false) m V mu) :
    Tr C m V mu (compareOp .NotEq (.ref l) (.ref k)) P := .of fun s hs => by
  have T1 : s.heap.IsTuple l #[.str x tk] := ⟨ot, hs.1.held.sub _ _ hl, hc, n, hd⟩
  have T2 : s.heap.IsTuple k #[.str x tk'] := ⟨_, hs.1.held.sub _ _ hk, rfl, n', rfl⟩
  refine RcNeAt.tuples T1 T2 hu (e := fun _ => true) (fun j h1 h2 => ?_) _ _ _ _ ⟨m, V, mu, hs, h⟩
  have hj : j = 0 := by simp at h1; exact h1
  subst hj
  have := EqAt.str_str (A := C.A.in1) (s := s) x tk x tk'
  rwa [beq_self_eq_true] at this
end
end
end Mine

end
section
open PySem PySem.Calls PySem.W PyProof.Rows
namespace Mine
noncomputable section
section
variable {C : Cx} {m : Loc} {V : View} {mu : Mu} {α β : Type} {P : Value → Loc → View → Mu → Prop}
variable {N Bk Ct : Loc → View → Mu → Prop} {R : Value → View → Mu → Prop} {U : Unit → Loc → View → Mu → Prop}
theorem tr_bindName {x : Str} {v : Value} (h : Tr C m V mu (storeName C.env x v) U) : Tr C m V mu (bindName C.env x v) U := .of fun s hs => wpAny_bindName (h.run s hs)
theorem swapped_scope (t : List Expr) (v : Expr) (env : Env) : swappedStores t v env = swappedStores t v { scope := env.scope, locals := 0, globals := 0, cells := [] } := rfl
theorem swapped_of {sc : Scope} {n : Nat} (hC : Fm C sc n) {t : List Expr} {v : Expr} {r : Option (List Str)} (h : swappedStores t v { scope := sc, locals := 0, globals := 0, cells := [] } = pure r) : swappedStores t v C.env = pure r := by
  rw [swapped_scope, hC.scp]; exact h
theorem swaps_scope (v : Expr) (t : Option Expr) (l : Nat) (env : Env) : swapsWith v t l env = swapsWith v t l { scope := env.scope, locals := 0, globals := 0, cells := [] } := rfl
theorem swaps_of {sc : Scope} {n : Nat} (hC : Fm C sc n) {v : Expr} {t : Option Expr} {l : Nat} {r : Bool} (h : swapsWith v t l { scope := sc, locals := 0, globals := 0, cells := [] } = pure r) : swapsWith v t l C.env = pure r := by
  rw [swaps_scope, hC.scp]; exact h
theorem ts_AssignSwap {ts : List Expr} {k : Nat} {p pos : Pos} {value : Expr} {names : List Str} (hsw : swappedStores [.Tuple ts k p] value C.env = pure (some names))
    (h : Tr C m V mu (eval value C.env) fun v m V mu => Tr C m V mu (unpackItems v names.length none) fun items m V mu => Tr C m V mu (assignInOrder (names.reverse.map fun n => bindName C.env n) items.reverse) fun _ m V mu => N m V mu)
    (hs : swapsWithSole [.Tuple ts k p] value pos.line C.env = pure false := by rfl) : TrS C m V mu (exec (.Assign [.Tuple ts k p] value pos) C.env) N R Bk Ct := by
  have e : exec (.Assign [.Tuple ts k p] value pos) C.env = (do
      standAt pos
      if ← swapsWithSole [.Tuple ts k p] value pos.line C.env then do
        evalThenUse value C.env fun v => assignAll v ((assignEach [.Tuple ts k p] C.env).map (·.2))
        pure .next
      else do
        let v ← eval value C.env
        assignStores C.env v (← swappedStores [.Tuple ts k p] value C.env) ((assignEach [.Tuple ts k p] C.env).map (·.2))) := rfl
  unfold TrS
  rw [e, hs, hsw]
  refine tr_bind (.of fun s hs => wpAny_standAt ⟨m, V, mu, hs, ?_⟩)
  refine tr_bind (tr_pure ?_)
  rw [if_neg Bool.false_ne_true]
  refine tr_bind (tr_mono h fun v m V mu q => ?_)
  refine tr_bind (tr_pure ?_)
  unfold assignStores
  refine tr_bind (.of fun s hs => wpAny_rule ⟨m, V, mu, hs, ?_⟩)
  refine tr_bind (tr_mono q fun items m V mu q2 => ?_)
  exact tr_bind (tr_mono q2 fun _ m V mu q3 => tr_pure q3)
end
end
end Mine

end
section
open PySem PySem.Calls PySem.W PyProof.Rows
namespace Mine
noncomputable section
section
variable {prog : Program} {w : World} {A : Around} {R : Result → Shared → Prop} {s : Shared}
theorem compLoopG {elt target iter : Expr} {ifs : List Expr} {scope : Scope} {pos : Pos} {it acc : Value} {env : Env} (I : Nat → Shared → Prop)
    (turn : ∀ n s, I n s → wpAny (model prog w) A (pyNext it) (fun r s₁ => match r with
      | none => R (.ok .next) s₁
      | some v => wpAny (model prog w) A (letOwnedTupleGo target it v) (fun _ s₁' => wpAny (model prog w) A (assign target env v) (fun _ s₂ =>
          wpAny (model prog w) A (forIn ifs true fun c r => if r = true then do let ok ← isTrue c env (eval c env); pure (ForInStep.yield ok) else pure (ForInStep.yield r)) (fun ok s₃ =>
            if ok = true then wpAny (model prog w) A (eval elt env) (fun x s₄ =>
              wpAny (model prog w) A (call (.builtin "list.append") [acc, x]) (fun _ s₅ => ∃ m, m < n ∧ I m s₅) (notedBy (model prog w) A env fun e s' => R (.error e) s') s₄) (notedBy (model prog w) A env fun e s' => R (.error e) s') s₃
            else ∃ m, m < n ∧ I m s₃) (notedBy (model prog w) A env fun e s' => R (.error e) s') s₂) (notedBy (model prog w) A env fun e s' => R (.error e) s') s₁') (notedBy (model prog w) A env fun e s' => R (.error e) s') s₁) (notedBy (model prog w) A env fun e s' => R (.error e) s') s)
    (n : Nat) (h : I n s) :
    codeAny (model prog w) A (.compLoop (.ListComp elt [⟨target, iter, ifs, 0⟩] scope pos) 0 it acc env) R s := by
  refine codeAny_loop rfl I (fun n s hI => ?_) n h
  show wpAny _ A ((compTurn (.ListComp elt [⟨target, iter, ifs, 0⟩] scope pos) 0 it acc env).onRaise (fun x => do noteFrame x env; theTreesLotGoes x)) _ _ s
  refine wpAny_noted ?_
  rw [compTurn_list]
  refine wpAny_bind (wpAny_standAt (wpAny_bind (wpAny_mono (turn n s hI) (fun r s₁ h₁ => ?_) fun _ _ h' => h')))
  cases r with
  | none => exact wpAny_pure h₁
  | some v =>
    refine wpAny_bind (wpAny_mono h₁ (fun _ s₁' h₁ => ?_) fun _ _ h' => h')
    refine wpAny_bind (wpAny_mono h₁ (fun _ s₂ h₂ => wpAny_bind (wpAny_mono h₂ (fun ok s₃ h₃ => ?_) fun _ _ h' => h')) fun _ _ h' => h')
    cases ok with
    | false => exact wpAny_pure ⟨rfl, h₃⟩
    | true =>
      exact wpAny_bind (wpAny_bind (wpAny_mono h₃ (fun x s₄ h₄ => wpAny_bind (wpAny_mono h₄ (fun _ s₅ h₅ => wpAny_pure (wpAny_pure ⟨rfl, h₅⟩)) fun _ _ h' => h')) fun _ _ h' => h'))
end
section
variable {C : Cx} {m : Loc} {V : View} {mu : Mu} {α β : Type} {P : Value → Loc → View → Mu → Prop}
theorem iter_listT {l : Addr} {vs : List Value} {k : Nat} {Q : Value → Loc → View → Mu → Prop} (hh : C.A.handled = none) (hl : V l = some (listO vs k))
    (h : ∀ I o S, ItOk C V I vs.length (fun i v => vs[i]? = some v) S → ItSt V I o (S 0) → (∀ i h, S i h → ∃ l j, h.IsListIter I l j) → Q (.ref I) m V ((I, o) :: mu)) : Tr C m V mu (pyIter (.ref l)) Q := .of fun s hs => by
  have e := hs.1.held.sub _ _ hl
  have hne := Inv.ne_size e
  refine wpAny_pyIter_list (items := vs.toArray) ⟨_, e, rfl, k, rfl⟩ ⟨m, V, _, ⟨hs.1.pushMu rfl, hs.2⟩, h _ _ (fun i h => h.IsListIter s.heap.objs.size l i ∧ h.IsList l vs.toArray) ⟨[s.heap.objs.size, l], by simpa using Walks.list hh _ l hne vs.toArray, fun b hb => ?_, fun i g st => let ⟨o, ho, _⟩ := st.1; ⟨o, ho⟩⟩ (fun g eg kg => ?_) (fun i h st => ⟨l, i, st.1⟩)⟩
  · simp at hb
    rcases hb with rfl | rfl
    · exact .inl rfl
    · exact .inr ⟨_, hl⟩
  · exact ⟨⟨_, eg, rfl, rfl⟩, ⟨_, kg _ _ hl, rfl, k, rfl⟩⟩
/-- a tuple of targets: nothing is let go -/
theorem go_list {I : Addr} {S : Nat → Heap → Prop} (hS : ∀ i h, S i h → ∃ l j, h.IsListIter I l j) {elts : List Expr} {k : Nat} {p : Pos} {Pi : Nat → Value → Prop} (hP : ∀ i v, Pi i v → ∃ T, v = .ref T) :
    ∀ i v, Pi i v → ∀ (s : Shared) (Q : Unit → Shared → Prop) (E : Value → Shared → Prop), S (i + 1) s.heap → Q () s → wpAny C.M C.A (letOwnedTupleGo (.Tuple elts k p) (.ref I) v) Q E s := by
  intro i v hv s Q E hs q
  obtain ⟨T, rfl⟩ := hP i v hv
  obtain ⟨l, j, hl⟩ := hS _ _ hs
  exact wpAny_letOwnedTupleGo_listiter hl q
theorem comp_goT {sc : Scope} {n : Nat} {elt target iter : Expr} {ifs : List Expr} {scope : Scope} {pos : Pos} {cl : List (Str × Addr)} {I : Addr} {o : Obj} {K : Nat} {Pi : Nat → Value → Prop} {S : Nat → Heap → Prop}
    (hC : Fm C sc n) (ok : ItOk C V I K Pi S) (st : ItSt V I o (S 0)) (hK : K ≤ sizeLine) (hcell : (scope.names.all fun x => x.2 != .cell) = true) (hkind : scope.kind = .function)
    (J : Nat → View → List Value → Prop) (h0 : J 0 V [])
    (step : ∀ i v ys V' o' D d, i < K → Pi i v → Le V V' → J i V' ys → CompStep (relab scope sc) n cl target ifs elt C.prog C.w C.B V' ((I, o') :: (D, d) :: mu) v fun V5 zs => J (i + 1) V5 (ys ++ zs))
    (fin : ∀ D V' V'' ys k, Le V V' → J K V' ys → Le V' V'' → V'' D = some (listO ys k) → P (.ref D) m V'' mu)
    (hgo : ∀ i v, Pi i v → ∀ (s : Shared) (Q : Unit → Shared → Prop) (E : Value → Shared → Prop), S (i + 1) s.heap → Q () s → wpAny C.M C.A (letOwnedTupleGo target (.ref I) v) Q E s) :
    CompR C m V ((I, o) :: mu) (.ListComp elt [⟨target, iter, ifs, 0⟩] scope pos) scope cl (.ref I) P := by
  intro s hs E R hR
  obtain ⟨f, ⟨oL, esL, epL, eL, dL, kL, fL⟩, hf⟩ := hs.1.ns
  have fl := hs.1.fl
  refine wpAny_newObj_type ?_ (Nat.zero_le _)
  have hs1 : St C m V ((I, o) :: (s.heap.objs.size, listO [] 0) :: mu) { s with heap := s.heap.push (listO [] 0) } := ⟨(hs.1.pushMu rfl).perm (List.Perm.swap ..), hs.2⟩
  have eL1 : (s.heap.push (listO [] 0)).get? C.env.locals = some oL := Heap.get?_push_of_some _ eL
  generalize s.heap.objs.size = D at hs1
  show wpAny _ _ _ _ _ ({ s with heap := s.heap.push (listO [] 0) } : Shared)
  have eL1' : ({ s with heap := s.heap.push (listO [] 0) } : Shared).heap.get? C.env.locals = some oL := eL1
  generalize ({ s with heap := s.heap.push (listO [] 0) } : Shared) = s1 at hs1 eL1'
  clear hs eL1
  refine wpAny_newFunctionEnv (fun x hx => by simpa using List.all_eq_true.mp hcell x hx) (fun x hx => nomatch hx) (fun h' hns hsb => ?_) hkind
  have k : ∀ b o, s1.heap.get? b = some o → h'.get? b = some o := fun b o e => hsb.extBut b o (Nat.ne_of_lt (Heap.lt_size e)) (Heap.get?_push_of_some _ e)
  have hfr := no_size s1.heap
  generalize s1.heap.objs.size = L at hns hsb hfr
  have I1 : Inv (C.inner (compEnvC scope cl L C.env) oL) [] V ((I, o) :: (D, listO [] 0) :: mu) h' := hs1.1.inner eL1' (env := compEnvC scope cl L C.env) hns k hfr
  have fI : C.F L = none := hs1.1.held.fresh_F hfr
  have hF1 : Fm (C.inner (compEnvC scope cl L C.env) oL) (relab scope sc) n := hC.inner dL (by show relabel scope C.env = _; unfold relabel relab Env.kindOf; rw [hC.scp]) hkind rfl rfl
  have hX1 : NoX (C.inner (compEnvC scope cl L C.env) oL) := fun _ _ x => x
  have S1 : St (C.inner (compEnvC scope cl L C.env) oL) [] V ((I, o) :: (D, listO [] 0) :: mu) ({ s1 with heap := h', toks := s1.toks + ([] : List (Str × Value)).length } : Shared) := ⟨I1, hs1.2⟩
  show codeAny C.M C.A (.compStart _ 0 (.ref I) (.ref D) (compEnvC scope cl L C.env)) (R (.ref D) L) ({ s1 with heap := h', toks := s1.toks + ([] : List (Str × Value)).length } : Shared)
  generalize ({ s1 with heap := h', toks := s1.toks + ([] : List (Str × Value)).length } : Shared) = s2 at S1
  clear I1 hs1 eL1' hns hsb k
  have loop : ∀ s2, St (C.inner (compEnvC scope cl L C.env) oL) [] V ((I, o) :: (D, listO [] 0) :: mu) s2 → codeAny C.M C.A (.compLoop (.ListComp elt [⟨target, iter, ifs, 0⟩] scope pos) 0 (.ref I) (.ref D) (compEnvC scope cl L C.env)) (R (.ref D) L) s2 := by
    intro s2 S2
    refine compLoopG (fun k s => ∃ i o' m' V' ys j, k = K - i ∧ i ≤ K ∧ St (C.inner (compEnvC scope cl L C.env) oL) m' V' ((I, o') :: (D, listO ys j) :: mu) s ∧ Le V V' ∧ ItSt V' I o' (S i) ∧ J i V' ys ∧ ys.length ≤ i) ?_ (K - 0)
      ⟨0, o, [], V, [], 0, rfl, Nat.zero_le _, S2, Le.refl _, st, h0, Nat.le_refl _⟩
    rintro k s ⟨i, o1, m1, V1, ys, j, rfl, hi, hs1, l1, st1, j1, hy⟩
    by_cases hin : i < K
    · refine Tr.goN (C := C.inner (compEnvC scope cl L C.env) oL) hX1 (it_item (C := C.inner (compEnvC scope cl L C.env) oL) (Q := fun r m V mu' => ∃ v o', r = some v ∧ Pi i v ∧ ItSt V1 I o' (S (i + 1)) ∧ m = m1 ∧ V = V1 ∧ mu' = (I, o') :: (D, listO ys j) :: mu) (ItOk.mono (C := C) ok l1) hin st1 fun v o' hv hst => ⟨v, o', rfl, hv, hst, rfl, rfl, rfl⟩) hs1 ?_
      rintro r m2 V2 mu2 s2 h2 ⟨v, o', rfl, hv, hst, rfl, rfl, rfl⟩
      refine hgo i v hv s2 _ _ (hst s2.heap (h2.1.held.has _ (List.mem_cons_self ..)) h2.1.held.sub) ?_
      have h2' : St (C.inner (compEnvC scope cl L C.env) oL) [] V2 ((I, o') :: (D, listO ys j) :: mu) s2 := ⟨h2.1.weaken (fun x v e => nomatch e) h2.1.held.bs (Le.refl _) (List.Sublist.refl _), h2.2⟩
      refine Tr.goN (C := C.inner (compEnvC scope cl L C.env) oL) hX1 (step i v ys V2 o' D (listO ys j) hin hv l1 j1 _ hF1 hX1 rfl rfl rfl rfl) h2' fun _ m3 V3 mu3 s3 h3 p3 => ?_
      refine Tr.goN (C := C.inner (compEnvC scope cl L C.env) oL) hX1 p3 h3 fun okb m4 V4 mu4 s4 h4 p4 => ?_
      cases okb with
      | false =>
        rw [if_neg Bool.false_ne_true]
        obtain ⟨rfl, l4, j4⟩ := p4.2 rfl
        exact ⟨K - (i + 1), by omega, i + 1, o', m4, V4, ys ++ [], j, rfl, hin, by rw [List.append_nil]; exact h4, l1.trans l4, hst.mono l4, j4, by rw [List.append_nil]; omega⟩
      | true =>
        rw [if_pos rfl]
        refine Tr.goN (C := C.inner (compEnvC scope cl L C.env) oL) hX1 (p4.1 rfl) h4 fun y m5 V5 mu5 s5 h5 p5 => ?_
        obtain ⟨rfl, l5, j5⟩ := p5
        refine Tr.goN (C := C.inner (compEnvC scope cl L C.env) oL) hX1 (c_append (C := C.inner (compEnvC scope cl L C.env) oL) (P := fun _ m V mu' => m = m5 ∧ V = V5 ∧ ∃ n', mu' = (I, o') :: (D, listO (ys ++ [y]) n') :: mu) (fun n' => .tail .head) (by omega) fun n' => ⟨rfl, rfl, n', rfl⟩) h5 ?_
        rintro _ m6 V6 mu6 s6 h6 ⟨rfl, rfl, n', rfl⟩
        exact ⟨K - (i + 1), by omega, i + 1, o', m6, V6, ys ++ [y], n', rfl, hin, h6, l1.trans l5, hst.mono l5, j5, by rw [List.length_append]; show _ + 1 ≤ _; omega⟩
    · obtain rfl : i = K := by omega
      refine Tr.goN (C := C.inner (compEnvC scope cl L C.env) oL) hX1 (it_stop (C := C.inner (compEnvC scope cl L C.env) oL) (Q := fun r m V mu' => r = none ∧ m = m1 ∧ V = V1 ∧ mu' = (D, listO ys j) :: mu) (ItOk.mono (C := C) ok l1) st1 ⟨rfl, rfl, rfl, rfl⟩) hs1 ?_
      rintro r m2 V2 mu2 s2 h2 ⟨rfl, rfl, rfl, rfl⟩
      obtain ⟨f', ⟨oI, esI, epI, eI, dI, kI, fI'⟩, hf'⟩ := h2.1.ns
      have G := (h2.1.outer dL kL fL hf fl fI eI).perm (List.Perm.swap ..)
      obtain ⟨G1, G2⟩ := G.freeze
      exact hR _ L oI esI epI m _ mu s2 dI kI ⟨G1, h2.2⟩ (fin D V2 _ ys j l1 j1 G2 (put_self ..))
  refine codeAny_compStart_list (loop s2 S1) ?_
  refine Tr.goN (C := C.inner (compEnvC scope cl L C.env) oL) hX1 (it_self (C := C.inner (compEnvC scope cl L C.env) oL) (Q := fun r m V' mu' => r = .ref I ∧ m = [] ∧ V' = V ∧ mu' = (I, o) :: (D, listO [] 0) :: mu) ok st ⟨rfl, rfl, rfl, rfl⟩) S1 ?_
  rintro r m2 V2 mu2 s2 h2 ⟨rfl, rfl, rfl, rfl⟩
  exact loop s2 h2
end
end
end Mine

end
section
open PySem PySem.Calls PySem.W PyProof.Rows
namespace Mine
noncomputable section
/-- a list given from outside -/
noncomputable def ListV (V : View) (l : Addr) (vs : List Value) : Prop := ∃ o n, V l = some o ∧ o.cls = .type "list" ∧ o.data = .seq vs.toArray n
theorem ListV.mono {V V' : View} {l : Addr} {vs : List Value} (h : ListV V l vs) (le : Le V V') : ListV V' l vs := let ⟨o, n, e, r⟩ := h; ⟨o, n, le _ _ e, r⟩
section
variable {C : Cx} {m : Loc} {V : View} {mu : Mu} {α β : Type} {P : Value → Loc → View → Mu → Prop}
variable {t u : Tok} {lo hi st : Option Int} {vl vu vst : Value} {sl : Addr}
theorem St.listV {s : Shared} (hs : St C m V mu s) {l : Addr} {vs : List Value} (h : ListV V l vs) : s.heap.IsList l vs.toArray := let ⟨o, n, e, c, d⟩ := h; ⟨o, hs.1.held.sub _ _ e, c, n, d⟩
theorem c_lenI {l : Addr} {vs : List Value} (hk : ListV V l vs) (hz : vs.length ≤ 100000) (h : ∀ tk, P (.int vs.length tk) m V mu) : Tr C m V mu (call (.builtin "len") [.ref l]) P := .of fun s hs =>
  PyProof.Rows.len_list (hs.listV hk) (by simp; omega) ⟨m, V, mu, hs, by simpa using h _⟩
theorem sub_sliceI {value slice : Expr} {l : Addr} {ws : List Value} (hk : ListV V l ws) (hs : V sl = some (sliceO vl vu vst)) (pl : IsPart vl lo) (pu : IsPart vu hi) (ps : IsPart vst st) (h0 : st ≠ some 0) (hz : ws.length ≤ sizeLine)
    (h : ∀ a V', Le V V' → V' a = some (listO (slicePick ws.toArray lo hi st).toList 0) → P (.ref a) m V' mu) : Tr C m V mu (subscriptTail value slice (.ref l) (.ref sl)) P :=
  subTail (T := "list") (fun s hs => (hs.listV hk).typeIs) PySem.slot_list_getitem.lookup <| .of fun s hs' =>
    wpAny_getItem_list_slice (hs'.listV hk) ⟨_, hs'.1.held.sub _ _ hs, rfl, rfl⟩ pl pu ps h0 ⟨m, _, mu, ⟨hs'.1.push (o := listO (slicePick ws.toArray lo hi st).toList 0) rfl, hs'.2⟩, h _ _ (hs'.1.put_le _) (put_self ..)⟩ (by simpa using hz)
theorem c_sumI {l : Addr} {vs : List Value} {ns : List Int} (hh : C.A.handled = none) (hk : ListV V l vs) (hi : IntsAre vs ns) (h : ∀ tk, P (.int ns.sum tk) m V mu) : Tr C m V mu (call (.builtin "sum") [.ref l]) P := .of fun s hs => by
  obtain ⟨xs, hx⟩ := hi.allInts.items
  have hl' : s.heap.IsList l (intItems xs) := hx ▸ hs.listV hk
  refine sum_intListG hh hl' fun h' tk t' hk' => ?_
  have e1 : ns = xs.toList.map (·.1) := by
    rw [← nums_intItems, ← hx]
    exact (show numsOf vs.toArray.toList = ns from hi.numsOf).symm
  have e2 : preSum (numAt xs) xs.size = ns.sum := by
    rw [preSum_eq, List.take_of_length_le (by simp), e1]
  rw [e2]
  exact ⟨m, V, mu, hs.keeps hk', h _⟩
/-- slices of lists by whole numbers -/
theorem pick_from (vs : List Value) (i : Nat) : (slicePick vs.toArray (some (i : Int)) none none).toList = vs.drop i := by
  rw [slicePick_plain]
  simp only [Option.elim, clipAt_nat, List.size_toArray, List.toList_toArray]
  by_cases h : i ≤ vs.length
  · rw [Nat.min_eq_left h, List.take_of_length_le (by simp)]
  · rw [Nat.min_eq_right (by omega), List.drop_eq_nil_of_le (Nat.le_refl _), List.drop_eq_nil_of_le (by omega)]; simp
theorem pick_upto (vs : List Value) (i : Nat) : (slicePick vs.toArray none (some (i : Int)) none).toList = vs.take i := by
  rw [slicePick_plain]
  simp only [Option.elim, clipAt_nat, List.size_toArray, List.toList_toArray]
  rw [List.drop_zero, Nat.sub_zero]
  by_cases h : i ≤ vs.length
  · rw [Nat.min_eq_left h]
  · rw [Nat.min_eq_right (by omega), List.take_of_length_le (Nat.le_refl _), List.take_of_length_le (by omega)]
theorem bpick_from (b : Array UInt8) (i : Nat) : (KBy.picked b (some (i : Int)) none).toList = b.toList.drop i := by
  rw [KBc.picked_eq]
  simp only [Option.elim, clipAt_nat]
  rw [List.toList_toArray]
  by_cases h : i ≤ b.size
  · rw [Nat.min_eq_left h, List.take_of_length_le (by simp)]
  · rw [Nat.min_eq_right (by omega), List.drop_eq_nil_of_le (by simp), List.drop_eq_nil_of_le (by simp; omega)]; simp
theorem bpick_upto (b : Array UInt8) (i : Nat) : (KBy.picked b none (some (i : Int))).toList = b.toList.take i := by
  rw [KBc.picked_eq]
  simp only [Option.elim, clipAt_nat]
  rw [List.toList_toArray, List.drop_zero, Nat.sub_zero]
  by_cases h : i ≤ b.size
  · rw [Nat.min_eq_left h]
  · rw [Nat.min_eq_right (by omega), List.take_of_length_le (by simp), List.take_of_length_le (by simp; omega)]
end
end
end Mine

end
section
open PySem PySem.Calls PySem.W PyProof.Rows
namespace Mine
noncomputable section
section
variable {prog : Program} {w : World} {A : Around} {R : Result → Shared → Prop} {s : Shared}
theorem compTurn_nest0 (elt t0 i0 t1 i1 : Expr) (scope : Scope) (pos : Pos) (it acc : Value) (env : Env) :
    compTurn (.ListComp elt [⟨t0, i0, [], 0⟩, ⟨t1, i1, [], 0⟩] scope pos) 0 it acc env = (standAt i0.pos >>= fun _ => pyNext it >>= fun r => match r with
      | none => pure (.done .next)
      | some v => letOwnedTupleGo t0 it v >>= fun _ => assign t0 env v >>= fun _ =>
        (eval i1 env >>= fun x => standAt i1.pos >>= fun _ => foldedSetIterable i1 env x >>= fun x => holding [x] (pyIter x) >>= fun j => runOwn (.compStart (.ListComp elt [⟨t0, i0, [], 0⟩, ⟨t1, i1, [], 0⟩] scope pos) 1 j acc env) env >>= fun _ =>
          again (.compLoop (.ListComp elt [⟨t0, i0, [], 0⟩, ⟨t1, i1, [], 0⟩] scope pos) 0 it acc env))) := by rfl
theorem compTurn_nest1 (elt t0 i0 t1 i1 : Expr) (scope : Scope) (pos : Pos) (it acc : Value) (env : Env) :
    compTurn (.ListComp elt [⟨t0, i0, [], 0⟩, ⟨t1, i1, [], 0⟩] scope pos) 1 it acc env = (standAt i1.pos >>= fun _ => pyNext it >>= fun r => match r with
      | none => pure (.done .next)
      | some v => letOwnedTupleGo t1 it v >>= fun _ => assign t1 env v >>= fun _ =>
        (eval elt env >>= fun x => call (.builtin "list.append") [acc, x] >>= fun _ => pure ()) >>= fun _ =>
          again (.compLoop (.ListComp elt [⟨t0, i0, [], 0⟩, ⟨t1, i1, [], 0⟩] scope pos) 1 it acc env)) := by rfl
theorem codeAny_compStart_nest1 {elt t0 i0 t1 i1 : Expr} {scope : Scope} {pos : Pos} {it acc : Value} {env : Env}
    (h0 : codeAny (model prog w) A (.compLoop (.ListComp elt [⟨t0, i0, [], 0⟩, ⟨t1, i1, [], 0⟩] scope pos) 1 it acc env) R s)
    (h : wpAny (model prog w) A (pyIter it) (fun it' s' => codeAny (model prog w) A (.compLoop (.ListComp elt [⟨t0, i0, [], 0⟩, ⟨t1, i1, [], 0⟩] scope pos) 1 it' acc env) R s')
      (notedBy (model prog w) A env fun x s' => R (.error x) s') s) :
    codeAny (model prog w) A (.compStart (.ListComp elt [⟨t0, i0, [], 0⟩, ⟨t1, i1, [], 0⟩] scope pos) 1 it acc env) R s := by
  refine codeAny_of_tree ?_
  show wpAny _ _ ((compStart (.ListComp elt [⟨t0, i0, [], 0⟩, ⟨t1, i1, [], 0⟩] scope pos) 1 it acc env).onRaise (fun x => do noteFrame x env; standAt theWindowsPlace)) _ _ s
  refine wpAny_notedAt ?_
  unfold compStart
  show wpAny _ _ (ask >>= _) _ _ s
  refine wpAny_bind (wpAny_askSetting (wpAny_ite ?_))
  split
  · first
      | exact wpAny_bind (wpAny_pure (wpAny_pure (And.intro rfl h0)))
      | exact wpAny_pure (And.intro rfl h0)
  · first
      | exact wpAny_bind (wpAny_rule (wpAny_bind (wpAny_standAt (wpAny_bind (wpAny_mono h (fun it' s' h' => wpAny_pure (And.intro rfl h')) fun _ _ x => x)))))
      | (refine wpAny_bind (wpAny_rule ?_); show wpAny _ _ (standAt i1.pos >>= _) _ _ s; exact wpAny_bind (wpAny_standAt (wpAny_bind (wpAny_mono h (fun it' s' h' => wpAny_pure (And.intro rfl h')) fun _ _ x => x))))
/-- the outer loop -/
theorem compLoop_nest0 {elt t0 i0 t1 i1 : Expr} {scope : Scope} {pos : Pos} {it acc : Value} {env : Env} (I : Nat → Shared → Prop)
    (hg : ∀ v, letOwnedTupleGo t0 it v = pure ()) (hf : ∀ x, foldedSetIterable i1 env x = pure x)
    (turn : ∀ n s, I n s → wpAny (model prog w) A (pyNext it) (fun r s₁ => match r with
      | none => R (.ok .next) s₁
      | some v => wpAny (model prog w) A (assign t0 env v) (fun _ s₂ => wpAny (model prog w) A (eval i1 env) (fun x s₃ => wpAny (model prog w) A (pyIter x) (fun j s₄ =>
          codeAny (model prog w) A (.compStart (.ListComp elt [⟨t0, i0, [], 0⟩, ⟨t1, i1, [], 0⟩] scope pos) 1 j acc env) (fun r s' => match r with | .ok _ => (∃ m, m < n ∧ I m s') | .error _ => False) s₄)
            (notedBy (model prog w) A env fun e s' => R (.error e) s') s₃) (notedBy (model prog w) A env fun e s' => R (.error e) s') s₂) (notedBy (model prog w) A env fun e s' => R (.error e) s') s₁) (notedBy (model prog w) A env fun e s' => R (.error e) s') s)
    (n : Nat) (h : I n s) :
    codeAny (model prog w) A (.compLoop (.ListComp elt [⟨t0, i0, [], 0⟩, ⟨t1, i1, [], 0⟩] scope pos) 0 it acc env) R s := by
  refine codeAny_loop rfl I (fun n s hI => ?_) n h
  show wpAny _ A ((compTurn (.ListComp elt [⟨t0, i0, [], 0⟩, ⟨t1, i1, [], 0⟩] scope pos) 0 it acc env).onRaise (fun x => do noteFrame x env; theTreesLotGoes x)) _ _ s
  refine wpAny_noted ?_
  rw [compTurn_nest0]
  refine wpAny_bind (wpAny_standAt (wpAny_bind (wpAny_mono (turn n s hI) (fun r s₁ h₁ => ?_) fun _ _ h' => h')))
  cases r with
  | none => exact wpAny_pure h₁
  | some v =>
    refine wpAny_bind (wpAny_of_eq (hg v) ?_)
    refine wpAny_bind (wpAny_mono h₁ (fun _ s₂ h₂ => wpAny_bind (wpAny_mono h₂ (fun x s₃ h₃ => ?_) fun _ _ h' => h')) fun _ _ h' => h')
    refine wpAny_bind (wpAny_standAt (wpAny_bind (wpAny_of_eq (hf x) (wpAny_bind (wpAny_holding (wpAny_mono h₃ (fun j s₄ h₄ => ?_) fun _ _ h' => h'))))))
    refine wpAny_bind (wpAny_runOwn ?_)
    show codeAny _ A _ _ s₄
    refine codeAny_mono h₄ fun r s' hr => ?_
    cases r with
    | ok f => exact wpAny_pure ⟨rfl, hr⟩
    | error e => exact hr.elim
/-- the inner loop -/
theorem compLoop_nest1 {elt t0 i0 t1 i1 : Expr} {scope : Scope} {pos : Pos} {it acc : Value} {env : Env} (I : Nat → Shared → Prop)
    (hg : ∀ v, letOwnedTupleGo t1 it v = pure ())
    (turn : ∀ n s, I n s → wpAny (model prog w) A (pyNext it) (fun r s₁ => match r with
      | none => R (.ok .next) s₁
      | some v => wpAny (model prog w) A (assign t1 env v) (fun _ s₂ => wpAny (model prog w) A (eval elt env) (fun x s₃ =>
          wpAny (model prog w) A (call (.builtin "list.append") [acc, x]) (fun _ s₄ => ∃ m, m < n ∧ I m s₄) (notedBy (model prog w) A env fun e s' => R (.error e) s') s₃)
          (notedBy (model prog w) A env fun e s' => R (.error e) s') s₂) (notedBy (model prog w) A env fun e s' => R (.error e) s') s₁) (notedBy (model prog w) A env fun e s' => R (.error e) s') s)
    (n : Nat) (h : I n s) :
    codeAny (model prog w) A (.compLoop (.ListComp elt [⟨t0, i0, [], 0⟩, ⟨t1, i1, [], 0⟩] scope pos) 1 it acc env) R s := by
  refine codeAny_loop rfl I (fun n s hI => ?_) n h
  show wpAny _ A ((compTurn (.ListComp elt [⟨t0, i0, [], 0⟩, ⟨t1, i1, [], 0⟩] scope pos) 1 it acc env).onRaise (fun x => do noteFrame x env; theTreesLotGoes x)) _ _ s
  refine wpAny_noted ?_
  rw [compTurn_nest1]
  refine wpAny_bind (wpAny_standAt (wpAny_bind (wpAny_mono (turn n s hI) (fun r s₁ h₁ => ?_) fun _ _ h' => h')))
  cases r with
  | none => exact wpAny_pure h₁
  | some v =>
    refine wpAny_bind (wpAny_of_eq (hg v) ?_)
    exact wpAny_bind (wpAny_mono h₁ (fun _ s₂ h₂ => wpAny_bind (wpAny_bind (wpAny_mono h₂ (fun x s₃ h₃ => wpAny_bind (wpAny_mono h₃
      (fun _ s₄ h₄ => wpAny_pure (wpAny_pure ⟨rfl, h₄⟩)) fun _ _ h' => h')) fun _ _ h' => h'))) fun _ _ h' => h')
end
noncomputable def bytesI (b : Array UInt8) : List Int := b.toList.map fun c => (c.toNat : Int)
section
variable {C : Cx} {m : Loc} {V : View} {mu : Mu} {α β : Type} {P : Value → Loc → View → Mu → Prop}
/-- [x for y in (bytes of a list) for x in y] -/
theorem comp_goN {sc : Scope} {n : Nat} {elt t0 i0 t1 i1 : Expr} {scope : Scope} {pos : Pos} {cl : List (Str × Addr)} {I : Addr} {o : Obj} {S : Nat → Heap → Prop} {vs : List Value} {bss : List (Array UInt8)}
    (hC : Fm C sc n) (ok : ItOk C V I vs.length (fun i v => vs[i]? = some v) S) (st : ItSt V I o (S 0)) (hv : RepL V vs (bss.map PV.bytes)) (hz : (bss.flatMap bytesI).length ≤ sizeLine)
    (hcell : (scope.names.all fun x => x.2 != .cell) = true) (hkind : scope.kind = .function)
    (hg0 : ∀ I v, letOwnedTupleGo t0 (.ref I) v = pure ()) (hg1 : ∀ I v, letOwnedTupleGo t1 (.ref I) v = pure ()) (hf : ∀ env x, foldedSetIterable i1 env x = pure x)
    (stp0 : ∀ C' : Cx, Fm C' (relab scope sc) n → ∀ m' V' mu' v, Tr C' m' V' mu' (assign t0 C'.env v) fun _ m V mu => Tr C' m V mu (eval i1 C'.env) fun x _ V4 mu4 => x = v ∧ V4 = V' ∧ mu4 = mu')
    (stp1 : ∀ C' : Cx, Fm C' (relab scope sc) n → ∀ m' V' mu' v, Tr C' m' V' mu' (assign t1 C'.env v) fun _ m V mu => Tr C' m V mu (eval elt C'.env) fun x _ V4 mu4 => x = v ∧ V4 = V' ∧ mu4 = mu')
    (fin : ∀ D V'' ys k, Le V V'' → IntsAre ys (bss.flatMap bytesI) → V'' D = some (listO ys k) → P (.ref D) m V'' mu) :
    CompR C m V ((I, o) :: mu) (.ListComp elt [⟨t0, i0, [], 0⟩, ⟨t1, i1, [], 0⟩] scope pos) scope cl (.ref I) P := by
  intro s hs E R hR
  obtain ⟨f, ⟨oL, esL, epL, eL, dL, kL, fL⟩, hfN⟩ := hs.1.ns
  have fl := hs.1.fl
  refine wpAny_newObj_type ?_ (Nat.zero_le _)
  have hs1 : St C m V ((I, o) :: (s.heap.objs.size, listO [] 0) :: mu) { s with heap := s.heap.push (listO [] 0) } := ⟨(hs.1.pushMu rfl).perm (List.Perm.swap ..), hs.2⟩
  have eL1 : (s.heap.push (listO [] 0)).get? C.env.locals = some oL := Heap.get?_push_of_some _ eL
  generalize s.heap.objs.size = D at hs1
  show wpAny _ _ _ _ _ ({ s with heap := s.heap.push (listO [] 0) } : Shared)
  have eL1' : ({ s with heap := s.heap.push (listO [] 0) } : Shared).heap.get? C.env.locals = some oL := eL1
  generalize ({ s with heap := s.heap.push (listO [] 0) } : Shared) = s1 at hs1 eL1'
  clear hs eL1
  refine wpAny_newFunctionEnv (fun x hx => by simpa using List.all_eq_true.mp hcell x hx) (fun x hx => nomatch hx) (fun h' hns hsb => ?_) hkind
  have k : ∀ b o, s1.heap.get? b = some o → h'.get? b = some o := fun b o e => hsb.extBut b o (Nat.ne_of_lt (Heap.lt_size e)) (Heap.get?_push_of_some _ e)
  have hfr := no_size s1.heap
  generalize s1.heap.objs.size = L at hns hsb hfr
  have I1 : Inv (C.inner (compEnvC scope cl L C.env) oL) [] V ((I, o) :: (D, listO [] 0) :: mu) h' := hs1.1.inner eL1' (env := compEnvC scope cl L C.env) hns k hfr
  have fI : C.F L = none := hs1.1.held.fresh_F hfr
  have hF1 : Fm (C.inner (compEnvC scope cl L C.env) oL) (relab scope sc) n := hC.inner dL (by show relabel scope C.env = _; unfold relabel relab Env.kindOf; rw [hC.scp]) hkind rfl rfl
  have hX1 : NoX (C.inner (compEnvC scope cl L C.env) oL) := fun _ _ x => x
  have S1 : St (C.inner (compEnvC scope cl L C.env) oL) [] V ((I, o) :: (D, listO [] 0) :: mu) ({ s1 with heap := h', toks := s1.toks + ([] : List (Str × Value)).length } : Shared) := ⟨I1, hs1.2⟩
  show codeAny C.M C.A (.compStart _ 0 (.ref I) (.ref D) (compEnvC scope cl L C.env)) (R (.ref D) L) ({ s1 with heap := h', toks := s1.toks + ([] : List (Str × Value)).length } : Shared)
  generalize ({ s1 with heap := h', toks := s1.toks + ([] : List (Str × Value)).length } : Shared) = s2 at S1
  clear I1 hs1 eL1' hns hsb k
  have hvl : vs.length = bss.length := by rw [hv.length, List.length_map]
  have loop : ∀ s2, St (C.inner (compEnvC scope cl L C.env) oL) [] V ((I, o) :: (D, listO [] 0) :: mu) s2 → codeAny C.M C.A (.compLoop (.ListComp elt [⟨t0, i0, [], 0⟩, ⟨t1, i1, [], 0⟩] scope pos) 0 (.ref I) (.ref D) (compEnvC scope cl L C.env)) (R (.ref D) L) s2 := by
    intro s2 S2
    refine compLoop_nest0 (fun k s => ∃ i o' m' V' ys j, k = vs.length - i ∧ i ≤ vs.length ∧ St (C.inner (compEnvC scope cl L C.env) oL) m' V' ((I, o') :: (D, listO ys j) :: mu) s ∧ Le V V' ∧ ItSt V' I o' (S i) ∧ IntsAre ys ((bss.take i).flatMap bytesI)) (hg0 _) (hf _) ?_ (vs.length - 0)
      ⟨0, o, [], V, [], 0, rfl, Nat.zero_le _, S2, Le.refl _, st, .nil⟩
    rintro k s ⟨i, o1, m1, V1, ys, j, rfl, hi, hs1, l1, st1, j1⟩
    by_cases hin : i < vs.length
    · refine Tr.goN (C := C.inner (compEnvC scope cl L C.env) oL) hX1 (it_item (C := C.inner (compEnvC scope cl L C.env) oL) (Q := fun r m V mu' => ∃ v o', r = some v ∧ vs[i]? = some v ∧ ItSt V1 I o' (S (i + 1)) ∧ m = m1 ∧ V = V1 ∧ mu' = (I, o') :: (D, listO ys j) :: mu) (ItOk.mono (C := C) ok l1) hin st1 fun v o' hv hst => ⟨v, o', rfl, hv, hst, rfl, rfl, rfl⟩) hs1 ?_
      rintro r m2 V2 mu2 s2 h2 ⟨v, o', rfl, hvi, hst, rfl, rfl, rfl⟩
      have hib : i < bss.length := by omega
      obtain ⟨v', ev, hd⟩ := RepL.get hv (i := i) (d := .bytes bss[i]) (by rw [List.getElem?_map, List.getElem?_eq_getElem hib]; rfl)
      obtain rfl : v = v' := by rw [hvi] at ev; injection ev
      obtain ⟨t, rfl⟩ : ∃ t, v = .bytes bss[i] t := by cases hd with | bytes _ t => exact ⟨t, rfl⟩
      refine Tr.goN (C := C.inner (compEnvC scope cl L C.env) oL) hX1 (stp0 _ hF1 m2 V2 _ _) h2 fun _ m3 V3 mu3 s3 h3 p3 => ?_
      refine Tr.goN (C := C.inner (compEnvC scope cl L C.env) oL) hX1 p3 h3 ?_
      rintro _ m4 V4 mu4 s4 h4 ⟨rfl, rfl, rfl⟩
      refine Tr.goN (C := C.inner (compEnvC scope cl L C.env) oL) hX1 (iter_bytes (C := C.inner (compEnvC scope cl L C.env) oL) (Q := fun r m V' mu' => ∃ I2 o2 S2, r = .ref I2 ∧ ItOk C V4 I2 bss[i].size (fun k v => ∃ c u, bss[i][k]? = some c ∧ v = .int (c.toNat : Int) u) S2 ∧ ItSt V4 I2 o2 (S2 0) ∧ m = m4 ∧ V' = V4 ∧ mu' = (I2, o2) :: (I, o') :: (D, listO ys j) :: mu) hC.lv.hd fun I2 o2 S2 ok2 st2 => ⟨I2, o2, S2, rfl, ok2, st2, rfl, rfl, rfl⟩) h4 ?_
      rintro _ m5 V5 mu5 s5 h5 ⟨I2, o2, S2', rfl, ok2, st2, rfl, rfl, rfl⟩
      have hstep : (bss.take (i + 1)).flatMap bytesI = (bss.take i).flatMap bytesI ++ bytesI bss[i] := by
        rw [List.take_succ, List.getElem?_eq_getElem hib, List.flatMap_append]; congr 1; exact List.append_nil _
      have hbound : ((bss.take i).flatMap bytesI).length + bss[i].size ≤ sizeLine := by
        have e : ((bss.take (i + 1)).flatMap bytesI).length ≤ (bss.flatMap bytesI).length := by
          have : bss.flatMap bytesI = (bss.take (i + 1)).flatMap bytesI ++ (bss.drop (i + 1)).flatMap bytesI := by rw [← List.flatMap_append, List.take_append_drop]
          rw [this, List.length_append]; omega
        rw [hstep, List.length_append] at e
        simp only [bytesI, List.length_map, Array.length_toList] at e ⊢
        omega
      have loop2 : ∀ s5, St (C.inner (compEnvC scope cl L C.env) oL) m5 V5 ((I2, o2) :: (I, o') :: (D, listO ys j) :: mu) s5 → codeAny C.M C.A (.compLoop (.ListComp elt [⟨t0, i0, [], 0⟩, ⟨t1, i1, [], 0⟩] scope pos) 1 (.ref I2) (.ref D) (compEnvC scope cl L C.env)) (fun r s' => match r with | .ok _ => (∃ q, q < vs.length - i ∧ ∃ i o' m' V' ys j, q = vs.length - i ∧ i ≤ vs.length ∧ St (C.inner (compEnvC scope cl L C.env) oL) m' V' ((I, o') :: (D, listO ys j) :: mu) s' ∧ Le V V' ∧ ItSt V' I o' (S i) ∧ IntsAre ys ((bss.take i).flatMap bytesI)) | .error _ => False) s5 := by
        intro s5 S5
        refine compLoop_nest1 (fun k s => ∃ x o2' m' V' zs j, k = bss[i].size - x ∧ x ≤ bss[i].size ∧ St (C.inner (compEnvC scope cl L C.env) oL) m' V' ((I2, o2') :: (I, o') :: (D, listO zs j) :: mu) s ∧ Le V5 V' ∧ ItSt V' I2 o2' (S2' x) ∧ IntsAre zs ((bss.take i).flatMap bytesI ++ (bytesI bss[i]).take x)) (hg1 _) ?_ (bss[i].size - 0)
          ⟨0, o2, m5, V5, ys, j, rfl, Nat.zero_le _, S5, Le.refl _, st2, by rw [List.take_zero, List.append_nil]; exact j1⟩
        rintro k s ⟨x, o3, m6, V6, zs, j6, rfl, hx, hs6, l6, st6, j6'⟩
        have hzl : zs.length ≤ sizeLine := by
          rw [j6'.length, List.length_append, List.length_take]; omega
        by_cases hxn : x < bss[i].size
        · refine Tr.goN (C := C.inner (compEnvC scope cl L C.env) oL) hX1 (it_item (C := C.inner (compEnvC scope cl L C.env) oL) (Q := fun r m V mu' => ∃ v o2', r = some v ∧ (∃ c u, bss[i][x]? = some c ∧ v = .int (c.toNat : Int) u) ∧ ItSt V6 I2 o2' (S2' (x + 1)) ∧ m = m6 ∧ V = V6 ∧ mu' = (I2, o2') :: (I, o') :: (D, listO zs j6) :: mu) (ItOk.mono (C := C) ok2 l6) hxn st6 fun v o' hv hst => ⟨v, o', rfl, hv, hst, rfl, rfl, rfl⟩) hs6 ?_
          rintro r m7 V7 mu7 s7 h7 ⟨v, o4, rfl, ⟨c, u, hc, rfl⟩, hst7, rfl, rfl, rfl⟩
          refine Tr.goN (C := C.inner (compEnvC scope cl L C.env) oL) hX1 (stp1 _ hF1 m7 V7 _ _) h7 fun _ m8 V8 mu8 s8 h8 p8 => ?_
          refine Tr.goN (C := C.inner (compEnvC scope cl L C.env) oL) hX1 p8 h8 ?_
          rintro _ m9 V9 mu9 s9 h9 ⟨rfl, rfl, rfl⟩
          refine Tr.goN (C := C.inner (compEnvC scope cl L C.env) oL) hX1 (c_append (C := C.inner (compEnvC scope cl L C.env) oL) (vs := zs) (n := j6) (v := .int (c.toNat : Int) u) (P := fun _ m V mu' => m = m9 ∧ V = V9 ∧ ∃ n', mu' = (I2, o4) :: (I, o') :: (D, listO (zs ++ [.int (c.toNat : Int) u]) n') :: mu) (fun n' => .tail (.tail .head)) hzl fun n' => ⟨rfl, rfl, n', rfl⟩) h9 ?_
          rintro _ m10 V10 mu10 s10 h10 ⟨rfl, rfl, n', rfl⟩
          refine ⟨bss[i].size - (x + 1), by omega, x + 1, o4, m10, V10, _, n', rfl, hxn, h10, l6, hst7, ?_⟩
          have hcx : (bytesI bss[i])[x]? = some (c.toNat : Int) := by
            unfold bytesI
            rw [List.getElem?_map, Array.getElem?_toList, hc]; rfl
          rw [List.take_succ, hcx, ← List.append_assoc]
          exact j6'.append (.cons _ u .nil)
        · obtain rfl : x = bss[i].size := by omega
          refine Tr.goN (C := C.inner (compEnvC scope cl L C.env) oL) hX1 (it_stop (C := C.inner (compEnvC scope cl L C.env) oL) (Q := fun r m V mu' => r = none ∧ m = m6 ∧ V = V6 ∧ mu' = (I, o') :: (D, listO zs j6) :: mu) (ItOk.mono (C := C) ok2 l6) st6 ⟨rfl, rfl, rfl, rfl⟩) hs6 ?_
          rintro r m7 V7 mu7 s7 h7 ⟨rfl, rfl, rfl, rfl⟩
          refine ⟨vs.length - (i + 1), by omega, i + 1, o', m7, V7, zs, j6, rfl, hin, h7, l1.trans l6, hst.mono l6, ?_⟩
          rw [hstep]
          have e : (bytesI bss[i]).take bss[i].size = bytesI bss[i] := List.take_of_length_le (by simp [bytesI])
          rw [e] at j6'
          exact j6'
      refine codeAny_compStart_nest1 (loop2 s5 h5) ?_
      refine Tr.goN (C := C.inner (compEnvC scope cl L C.env) oL) hX1 (it_self (C := C.inner (compEnvC scope cl L C.env) oL) (Q := fun r m V' mu' => r = .ref I2 ∧ m = m5 ∧ V' = V5 ∧ mu' = (I2, o2) :: (I, o') :: (D, listO ys j) :: mu) ok2 st2 ⟨rfl, rfl, rfl, rfl⟩) h5 ?_
      rintro r m6 V6 mu6 s6 h6 ⟨rfl, rfl, rfl, rfl⟩
      exact loop2 s6 h6
    · obtain rfl : i = vs.length := by omega
      refine Tr.goN (C := C.inner (compEnvC scope cl L C.env) oL) hX1 (it_stop (C := C.inner (compEnvC scope cl L C.env) oL) (Q := fun r m V mu' => r = none ∧ m = m1 ∧ V = V1 ∧ mu' = (D, listO ys j) :: mu) (ItOk.mono (C := C) ok l1) st1 ⟨rfl, rfl, rfl, rfl⟩) hs1 ?_
      rintro r m2 V2 mu2 s2 h2 ⟨rfl, rfl, rfl, rfl⟩
      obtain ⟨f', ⟨oI, esI, epI, eI, dI, kI, fI'⟩, hf'⟩ := h2.1.ns
      have G := (h2.1.outer dL kL fL hfN fl fI eI).perm (List.Perm.swap ..)
      obtain ⟨G1, G2⟩ := G.freeze
      refine hR _ L oI esI epI m _ mu s2 dI kI ⟨G1, h2.2⟩ (fin D _ ys j (l1.trans G2) ?_ (put_self ..))
      rw [List.take_of_length_le (by omega)] at j1
      exact j1
  refine codeAny_compStart_list (loop s2 S1) ?_
  refine Tr.goN (C := C.inner (compEnvC scope cl L C.env) oL) hX1 (it_self (C := C.inner (compEnvC scope cl L C.env) oL) (Q := fun r m V' mu' => r = .ref I ∧ m = [] ∧ V' = V ∧ mu' = (I, o) :: (D, listO [] 0) :: mu) ok st ⟨rfl, rfl, rfl, rfl⟩) S1 ?_
  rintro r m2 V2 mu2 s2 h2 ⟨rfl, rfl, rfl, rfl⟩
  exact loop s2 h2
end
end
end Mine

end
section
open PySem PySem.Calls PySem.W PyProof.Rows
namespace Mine
noncomputable section
section
variable {C : Cx} {m : Loc} {V : View} {mu : Mu} {α β : Type} {P : Value → Loc → View → Mu → Prop}
/-- one turn of a comprehension's loop that may change what is owned -/
noncomputable def CompStepM (sc' : Scope) (n : Nat) (cl : List (Str × Addr)) (target : Expr) (ifs : List Expr) (elt : Expr) (prog : Program) (w : World) (B : View) (V' : View) (mu : Mu) (v : Value) (Jn : View → Mu → Value → Prop) : Prop :=
  ∀ C' : Cx, Fm C' sc' n → NoX C' → C'.env.cells = cl → C'.prog = prog → C'.w = w → C'.B = B → Tr C' [] V' mu (assign target C'.env v) fun _ m3 V3 mu3 =>
    Tr C' m3 V3 mu3 (forIn ifs true fun c r => if r = true then do let ok ← isTrue c C'.env (eval c C'.env); pure (ForInStep.yield ok) else pure (ForInStep.yield r)) fun ok m4 V4 mu4 =>
      ok = true ∧ Tr C' m4 V4 mu4 (eval elt C'.env) fun y _ V5 mu5 => Le V' V5 ∧ Jn V5 mu5 y
theorem comp_goM {sc : Scope} {n : Nat} {elt target iter : Expr} {ifs : List Expr} {scope : Scope} {pos : Pos} {cl : List (Str × Addr)} {I : Addr} {o : Obj} {K : Nat} {Pi : Nat → Value → Prop} {S : Nat → Heap → Prop}
    (hC : Fm C sc n) (ok : ItOk C V I K Pi S) (st : ItSt V I o (S 0)) (hK : K ≤ sizeLine) (hcell : (scope.names.all fun x => x.2 != .cell) = true) (hkind : scope.kind = .function)
    (J : Nat → View → Mu → List Value → Prop) (h0 : J 0 V mu [])
    (step : ∀ i v ys V' mu' o' D d, i < K → Pi i v → Le V V' → J i V' mu' ys → CompStepM (relab scope sc) n cl target ifs elt C.prog C.w C.B V' ((I, o') :: (D, d) :: mu') v fun V5 mu5 y => ∃ mu'', mu5.Perm ((I, o') :: (D, d) :: mu'') ∧ J (i + 1) V5 mu'' (ys ++ [y]))
    (fin : ∀ D V' V'' mu' ys k, Le V V' → J K V' mu' ys → Le V' V'' → V'' D = some (listO ys k) → P (.ref D) m V'' mu')
    (ht : ∀ v, letOwnedTupleGo target (.ref I) v = pure () := by intro _; rfl) :
    CompR C m V ((I, o) :: mu) (.ListComp elt [⟨target, iter, ifs, 0⟩] scope pos) scope cl (.ref I) P := by
  intro s hs E R hR
  obtain ⟨f, ⟨oL, esL, epL, eL, dL, kL, fL⟩, hf⟩ := hs.1.ns
  have fl := hs.1.fl
  refine wpAny_newObj_type ?_ (Nat.zero_le _)
  have hs1 : St C m V ((I, o) :: (s.heap.objs.size, listO [] 0) :: mu) { s with heap := s.heap.push (listO [] 0) } := ⟨(hs.1.pushMu rfl).perm (List.Perm.swap ..), hs.2⟩
  have eL1 : (s.heap.push (listO [] 0)).get? C.env.locals = some oL := Heap.get?_push_of_some _ eL
  generalize s.heap.objs.size = D at hs1
  show wpAny _ _ _ _ _ ({ s with heap := s.heap.push (listO [] 0) } : Shared)
  have eL1' : ({ s with heap := s.heap.push (listO [] 0) } : Shared).heap.get? C.env.locals = some oL := eL1
  generalize ({ s with heap := s.heap.push (listO [] 0) } : Shared) = s1 at hs1 eL1'
  clear hs eL1
  refine wpAny_newFunctionEnv (fun x hx => by simpa using List.all_eq_true.mp hcell x hx) (fun x hx => nomatch hx) (fun h' hns hsb => ?_) hkind
  have k : ∀ b o, s1.heap.get? b = some o → h'.get? b = some o := fun b o e => hsb.extBut b o (Nat.ne_of_lt (Heap.lt_size e)) (Heap.get?_push_of_some _ e)
  have hfr := no_size s1.heap
  generalize s1.heap.objs.size = L at hns hsb hfr
  have I1 : Inv (C.inner (compEnvC scope cl L C.env) oL) [] V ((I, o) :: (D, listO [] 0) :: mu) h' := hs1.1.inner eL1' (env := compEnvC scope cl L C.env) hns k hfr
  have fI : C.F L = none := hs1.1.held.fresh_F hfr
  have hF1 : Fm (C.inner (compEnvC scope cl L C.env) oL) (relab scope sc) n := hC.inner dL (by show relabel scope C.env = _; unfold relabel relab Env.kindOf; rw [hC.scp]) hkind rfl rfl
  have hX1 : NoX (C.inner (compEnvC scope cl L C.env) oL) := fun _ _ x => x
  have S1 : St (C.inner (compEnvC scope cl L C.env) oL) [] V ((I, o) :: (D, listO [] 0) :: mu) ({ s1 with heap := h', toks := s1.toks + ([] : List (Str × Value)).length } : Shared) := ⟨I1, hs1.2⟩
  show codeAny C.M C.A (.compStart _ 0 (.ref I) (.ref D) (compEnvC scope cl L C.env)) (R (.ref D) L) ({ s1 with heap := h', toks := s1.toks + ([] : List (Str × Value)).length } : Shared)
  generalize ({ s1 with heap := h', toks := s1.toks + ([] : List (Str × Value)).length } : Shared) = s2 at S1
  clear I1 hs1 eL1' hns hsb k
  have loop : ∀ s2, St (C.inner (compEnvC scope cl L C.env) oL) [] V ((I, o) :: (D, listO [] 0) :: mu) s2 → codeAny C.M C.A (.compLoop (.ListComp elt [⟨target, iter, ifs, 0⟩] scope pos) 0 (.ref I) (.ref D) (compEnvC scope cl L C.env)) (R (.ref D) L) s2 := by
    intro s2 S2
    refine codeAny_compLoop_tests (fun k s => ∃ i o' m' V' mu' ys j, k = K - i ∧ i ≤ K ∧ St (C.inner (compEnvC scope cl L C.env) oL) m' V' ((I, o') :: (D, listO ys j) :: mu') s ∧ Le V V' ∧ ItSt V' I o' (S i) ∧ J i V' mu' ys ∧ ys.length ≤ i) ?_ (K - 0)
      ⟨0, o, [], V, mu, [], 0, rfl, Nat.zero_le _, S2, Le.refl _, st, h0, Nat.le_refl _⟩ ht
    rintro k s ⟨i, o1, m1, V1, mu0, ys, j, rfl, hi, hs1, l1, st1, j1, hy⟩
    by_cases hin : i < K
    · refine Tr.goN (C := C.inner (compEnvC scope cl L C.env) oL) hX1 (it_item (C := C.inner (compEnvC scope cl L C.env) oL) (Q := fun r m V mu' => ∃ v o', r = some v ∧ Pi i v ∧ ItSt V1 I o' (S (i + 1)) ∧ m = m1 ∧ V = V1 ∧ mu' = (I, o') :: (D, listO ys j) :: mu0) (ItOk.mono (C := C) ok l1) hin st1 fun v o' hv hst => ⟨v, o', rfl, hv, hst, rfl, rfl, rfl⟩) hs1 ?_
      rintro r m2 V2 mu2 s2 h2 ⟨v, o', rfl, hv, hst, rfl, rfl, rfl⟩
      have h2' : St (C.inner (compEnvC scope cl L C.env) oL) [] V2 ((I, o') :: (D, listO ys j) :: mu0) s2 := ⟨h2.1.weaken (fun x v e => nomatch e) h2.1.held.bs (Le.refl _) (List.Sublist.refl _), h2.2⟩
      refine Tr.goN (C := C.inner (compEnvC scope cl L C.env) oL) hX1 (step i v ys V2 mu0 o' D (listO ys j) hin hv l1 j1 _ hF1 hX1 rfl rfl rfl rfl) h2' fun _ m3 V3 mu3 s3 h3 p3 => ?_
      refine Tr.goN (C := C.inner (compEnvC scope cl L C.env) oL) hX1 p3 h3 fun okb m4 V4 mu4 s4 h4 p4 => ?_
      obtain ⟨rfl, p4⟩ := p4
      rw [if_pos rfl]
      refine Tr.goN (C := C.inner (compEnvC scope cl L C.env) oL) hX1 p4 h4 fun y m5 V5 mu5 s5 h5 p5 => ?_
      obtain ⟨l5, mu6, hp, j5⟩ := p5
      have h5' : St (C.inner (compEnvC scope cl L C.env) oL) m5 V5 ((I, o') :: (D, listO ys j) :: mu6) s5 := ⟨h5.1.perm hp, h5.2⟩
      refine Tr.goN (C := C.inner (compEnvC scope cl L C.env) oL) hX1 (c_append (C := C.inner (compEnvC scope cl L C.env) oL) (vs := ys) (n := j) (v := y) (P := fun _ m V mu' => m = m5 ∧ V = V5 ∧ ∃ n', mu' = (I, o') :: (D, listO (ys ++ [y]) n') :: mu6) (fun n' => .tail .head) (by omega) fun n' => ⟨rfl, rfl, n', rfl⟩) h5' ?_
      rintro _ m6 V6 mu7 s6 h6 ⟨rfl, rfl, n', rfl⟩
      exact ⟨K - (i + 1), by omega, i + 1, o', m6, V6, mu6, ys ++ [y], n', rfl, hin, h6, l1.trans l5, hst.mono l5, j5, by rw [List.length_append]; show _ + 1 ≤ _; omega⟩
    · obtain rfl : i = K := by omega
      refine Tr.goN (C := C.inner (compEnvC scope cl L C.env) oL) hX1 (it_stop (C := C.inner (compEnvC scope cl L C.env) oL) (Q := fun r m V mu' => r = none ∧ m = m1 ∧ V = V1 ∧ mu' = (D, listO ys j) :: mu0) (ItOk.mono (C := C) ok l1) st1 ⟨rfl, rfl, rfl, rfl⟩) hs1 ?_
      rintro r m2 V2 mu2 s2 h2 ⟨rfl, rfl, rfl, rfl⟩
      obtain ⟨f', ⟨oI, esI, epI, eI, dI, kI, fI'⟩, hf'⟩ := h2.1.ns
      have G := (h2.1.outer dL kL fL hf fl fI eI).perm (List.Perm.swap ..)
      obtain ⟨G1, G2⟩ := G.freeze
      exact hR _ L oI esI epI m _ mu0 s2 dI kI ⟨G1, h2.2⟩ (fin D V2 _ mu0 ys j l1 j1 G2 (put_self ..))
  refine codeAny_compStart_list (loop s2 S1) ?_
  refine Tr.goN (C := C.inner (compEnvC scope cl L C.env) oL) hX1 (it_self (C := C.inner (compEnvC scope cl L C.env) oL) (Q := fun r m V' mu' => r = .ref I ∧ m = [] ∧ V' = V ∧ mu' = (I, o) :: (D, listO [] 0) :: mu) ok st ⟨rfl, rfl, rfl, rfl⟩) S1 ?_
  rintro r m2 V2 mu2 s2 h2 ⟨rfl, rfl, rfl, rfl⟩
  exact loop s2 h2
end
end
end Mine

end
section
open PySem PySem.Calls PySem.W PyProof.Rows
namespace Mine
noncomputable section
local macro_rules | `(tactic| walk_at "name") => `(tactic| first
  | refine tr_local (by assumption) (by kernel_rfl!) rfl ?_
  | refine tr_cell (by assumption) (by kernel_rfl!) (by first | assumption | rfl) (by walk_at "known") ?_
  | refine tr_free (by assumption) (by kernel_rfl!) (by first | assumption | rfl) (by walk_at "known") ?_)
local macro_rules | `(tactic| walk_at "known") => `(tactic| first
  | (refine Or.inr ?_; walk_at "mem") | (refine Or.inl ?_; walk_at "vfact"))
local macro_rules | `(tactic| walk_at "mem") => `(tactic| first | assumption | exact List.Mem.head _ | (refine List.Mem.tail _ ?_; walk_at "mem"))
local macro_rules | `(tactic| walk_at "vfact") => `(tactic| first | assumption | exact Le1 (by assumption) (by assumption) | exact Le1 (by assumption) (Le1 (by assumption) (by assumption)) | exact Le1 (by assumption) (Le1 (by assumption) (Le1 (by assumption) (by assumption))) | exact Le1 (by assumption) (Le1 (by assumption) (Le1 (by assumption) (Le1 (by assumption) (by assumption)))))
local macro_rules | `(tactic| walk_at "ev") => `(tactic| first
  | ((with_reducible show TrS _ _ _ _ (execs (_ :: _) _) _ _ _ _); refine ts_cons ?_)
  | ((with_reducible show TrS _ _ _ _ (exec (Stmt.Assign [Expr.Name _ _] _ _) _) _ _ _ _); refine ts_Assign ?_)
  | ((with_reducible show TrS _ _ _ _ (exec (Stmt.Assign [Expr.Tuple _ _ _] _ _) _) _ _ _ _); refine ts_AssignT ?_)
  | ((with_reducible show TrS _ _ _ _ (exec (Stmt.If _ _ _ _) _) _ _ _ _); refine ts_If ?_)
  | ((with_reducible show TrS _ _ _ _ (exec (Stmt.For _ _ _ _ _) _) _ _ _ _); refine ts_For ?_)
  | ((with_reducible show TrS _ _ _ _ (exec (Stmt.Expr _ _) _) _ _ _ _); refine ts_Expr ?_ (Fm.notInteractive (by assumption)))
  | ((with_reducible show TrS _ _ _ _ (exec (Stmt.Return (some _) _) _) _ _ _ _); refine ts_Return ?_)
  | ((with_reducible show TrS _ _ _ _ (exec (Stmt.Assert _ _ _) _) _ _ _ _); refine ts_Assert ?_)
  | ((with_reducible show TrS _ _ _ _ (exec (Stmt.Continue _) _) _ _ _ _); refine ts_Continue ?_)
  | ((with_reducible show TrS _ _ _ _ (exec (Stmt.AugAssign (Expr.Name _ _) _ _ _) _) _ _ _ _); refine ts_Aug ?_)
  | ((with_reducible show Tr _ _ _ _ (eval (Expr.Constant (Const.int _) _ _) _) _); refine tr_int fun _ => ?_)
  | ((with_reducible show Tr _ _ _ _ (eval (Expr.Constant (Const.str _) _ _) _) _); refine tr_str fun _ => ?_)
  | ((with_reducible show Tr _ _ _ _ (eval (Expr.Constant Const.none _ _) _) _); refine tr_none ?_)
  | ((with_reducible show Tr _ _ _ _ (eval (Expr.Constant (Const.bool _) _ _) _) _); refine tr_bool ?_)
  | ((with_reducible show Tr _ _ _ _ (eval (Expr.Constant (Const.bytes _) _ _) _) _); refine tr_bytes fun _ => ?_)
  | ((with_reducible show Tr _ _ _ _ (eval (Expr.Name _ _) _) _); walk_at "name")
  | ((with_reducible show Tr _ _ _ _ (eval (Expr.BinOp _ _ _ _) _) _); refine tr_BinOp ?_)
  | ((with_reducible show Tr _ _ _ _ (eval (Expr.UnaryOp _ _ _) _) _); refine tr_UnaryOp ?_)
  | ((with_reducible show Tr _ _ _ _ (eval (Expr.Compare _ [_] [_] _) _) _); refine tr_Compare ?_)
  | ((with_reducible show Tr _ _ _ _ (eval (Expr.IfExp _ _ _ _) _) _); refine tr_IfExp ?_)
  | ((with_reducible show Tr _ _ _ _ (eval (Expr.BoolOp BoolOp.Or [_, _] _) _) _); refine tr_Or2 ?_)
  | ((with_reducible show Tr _ _ _ _ (eval (Expr.List _ _) _) _); refine tr_List ?_)
  | ((with_reducible show Tr _ _ _ _ (eval (Expr.Tuple _ _ _) _) _); refine tr_Tuple ?_)
  | ((with_reducible show Tr _ _ _ _ (eval (Expr.Subscript _ _ _) _) _); refine tr_Subscript ?_)
  | ((with_reducible show Tr _ _ _ _ (isTrue (Expr.Compare _ [_] [_] _) _ _) _); refine tr_isCompare ?_)
  | ((with_reducible show Tr _ _ _ _ (isTrue (Expr.UnaryOp UnaryOp.Not _ _) _ _) _); refine tr_isNot ?_)
  | ((with_reducible show Tr _ _ _ _ (isTrue (Expr.BoolOp _ _ _) _ _) _); refine tr_isBool ?_)
  | ((with_reducible show Tr _ _ _ _ (isTrue (Expr.Name _ _) _ _) _); refine tr_isVal ?_)
  | ((with_reducible show Tr _ _ _ _ (isTrue (Expr.Call _ _ _ _) _ _) _); refine tr_isVal ?_)
  | ((with_reducible show Tr _ _ _ _ (allTrue BoolOp.And (_ :: _) _) _); refine tr_and ?_)
  | ((with_reducible show Tr _ _ _ _ (allTrue BoolOp.Or (_ :: _) _) _); refine tr_or ?_)
  | ((with_reducible show Tr _ _ _ _ (allTrue BoolOp.And [] _) _); refine tr_and_nil ?_)
  | ((with_reducible show Tr _ _ _ _ (allTrue BoolOp.Or [] _) _); refine tr_or_nil ?_)
  | ((with_reducible show Tr _ _ _ _ (spliced (backTo _ (starEach [] _))) _); refine tr_args_nil ?_)
  | ((with_reducible show Tr _ _ _ _ (spliced (backTo _ (starEach (_ :: _) _))) _); refine tr_args ?_)
  | ((with_reducible show Tr _ _ _ _ (assign (Expr.Name _ _) _ _) _); refine tr_assign_Name ?_)
  | ((with_reducible show Tr _ _ _ _ (eval (Expr.Slice _ _ _ _) _) _); refine tr_Slice ?_)
  | ((with_reducible show Tr _ _ _ _ (evalPart none _) _); refine tr_partN ?_)
  | ((with_reducible show Tr _ _ _ _ (evalPart (some _) _) _); refine tr_partS ?_)
  | ((with_reducible show Tr _ _ _ _ (storeName _ _ _) _); refine tr_stl (by assumption) (by kernel_rfl!) ?_)
  | ((with_reducible show Tr _ _ _ _ (loadName _ _) _); refine tr_ldl (by assumption) (by kernel_rfl!) rfl ?_)
  | ((with_reducible show Tr _ _ _ _ (binaryOp Operator.Add (Value.int _ _) (Value.int _ _)) _); refine op_add fun _ => ?_)
  | ((with_reducible show Tr _ _ _ _ (binaryOp Operator.Sub (Value.int _ _) (Value.int _ _)) _); refine op_sub fun _ => ?_)
  | ((with_reducible show Tr _ _ _ _ (binaryOp Operator.FloorDiv (Value.int _ _) (Value.int _ _)) _); refine op_div (by decide) (by decide) fun _ => ?_)
  | ((with_reducible show Tr _ _ _ _ (binaryOp Operator.Mod (Value.int _ _) (Value.int _ _)) _); refine op_mod (by decide) fun _ => ?_)
  | ((with_reducible show Tr _ _ _ _ (unaryOp UnaryOp.USub (Value.int _ _)) _); refine op_neg fun _ => ?_)
  | ((with_reducible show Tr _ _ _ _ (compareOp CmpOp.Eq (Value.int _ _) (Value.int _ _)) _); refine op_eq ?_)
  | ((with_reducible show Tr _ _ _ _ (compareOp CmpOp.NotEq (Value.int _ _) (Value.int _ _)) _); refine op_ne ?_)
  | ((with_reducible show Tr _ _ _ _ (compareOp CmpOp.Lt (Value.int _ _) (Value.int _ _)) _); refine op_lt ?_)
  | ((with_reducible show Tr _ _ _ _ (compareOp CmpOp.Gt (Value.int _ _) (Value.int _ _)) _); refine op_gt ?_)
  | ((with_reducible show Tr _ _ _ _ (compareOp CmpOp.GtE (Value.int _ _) (Value.int _ _)) _); refine op_ge ?_)
  | ((with_reducible show Tr _ _ _ _ (compareOp CmpOp.Eq (Value.str _ _) (Value.str _ _)) _); refine op_eqS ?_)
  | ((with_reducible show Tr _ _ _ _ (compareOp CmpOp.NotEq (Value.str _ _) (Value.str _ _)) _); refine op_neS ?_)
  | ((with_reducible show Tr _ _ _ _ (truthy (Value.bool _)) _); refine tt_bool ?_)
  | ((with_reducible show Tr _ _ _ _ (truthy (Value.int _ _)) _); refine tt_int ?_))
local macro_rules | `(tactic| walk_at "kn") => `(tactic| walk_at "known")
local macro_rules | `(tactic| walk_at "sz") => `(tactic| first | exact Nat.le_of_ble_eq_true rfl | omega)
section
open PySem PySem.Calls PySem.W PyProof.Rows

section
noncomputable section
local macro_rules | `(tactic| walk_at "ev") => `(tactic| ((with_reducible show TrS _ _ _ _ (execs [] _) _ _ _ _); refine ts_nil ?_))

variable {prog : Program} {w : World} {B V : View} {mu : Mu}
noncomputable def sgn : Str := Str.ofString "ABCDEFGHIJKLMNOPQRSTUVWXYZabcdefghijklmnopqrstuvwxyz0123456789./"
theorem signs_ok (G : Gb w B) : CallOk prog w B 1 (.ref 215) ⟨[], []⟩ V mu (fun v V' mu' => V' = V ∧ mu' = mu ∧ ∃ tk, v = .str sgn tk) := by
  refine enter G (by kernel_rfl!) (by kernel_rfl!) (by kernel_rfl!) (Binds.pure (binds := []) (by rfl)) (by rfl) fun C hC hX => ?_
  refine ts_cons (ts_Return (tr_str fun tk => ⟨rfl, rfl, tk, rfl⟩))

noncomputable def sg (i : Nat) : Str := ⟨#[sgn.cps.toList.getD i 0]⟩
theorem sgn_len : sgn.cps.toList.length = 64 := by decide +kernel
theorem sgn_get {i : Nat} (h : i < 64) : sgn.cps.toList[i]? = some (sgn.cps.toList.getD i 0) := by
  rw [List.getD_eq_getElem?_getD, List.getElem?_eq_getElem (by rw [sgn_len]; exact h)]; rfl
noncomputable def cellF (n : Int) (p : Nat) : Int × Str × Str :=
  let sp := n.fdiv 5
  if n.fmod 5 = 4 then (0, if sp.fmod 2 = 0 then "././" else ".///", "")
  else if 1 < n.fmod 5 then (-1, "..//", "..")
  else
    let one := sg ((sp.fdiv 3).fmod 63).toNat
    let two := sg ((sp.fdiv 189).fmod 63).toNat
    if sp.fmod 3 = 0 then (1, one ++ sg p ++ two ++ "/", one ++ sg p ++ two)
    else if sp.fmod 3 = 1 then (1, sg p ++ one ++ "//", sg p ++ one)
    else (1, ("./" : Str) ++ sg p ++ "/", sg p)
noncomputable def cellPV (c : Int × Str × Str) : PV := .list [.int c.1, .str c.2.1, .str c.2.2]

theorem rep3 {V : View} {a : Addr} {n : Nat} {i : Int} {x y : Str} {t1 t2 t3 : Tok} {c : Int × Str × Str} (e : V a = some (listO [.int i t1, .str x t2, .str y t3] n)) (hc : c = (i, x, y)) : Rep V (.ref a) (cellPV c) := by
  subst hc
  exact .list e (.cons (.int _ _) (.cons (.str _ _) (.cons (.str _ _) .nil)))
theorem fm_nonneg {a b : Int} (h : 0 < b) : 0 ≤ a.fmod b := Int.fmod_nonneg_of_pos a h
theorem fm_lt {a b : Int} (h : 0 < b) : a.fmod b < b := Int.fmod_lt_of_pos a h

abbrev PoR (d : PV) (V : View) (mu : Mu) (v : Value) (V' : View) (mu' : Mu) : Prop := Le V V' ∧ mu' = mu ∧ Rep V' v d
theorem cell_ok (G : Gb w B) {n p : Int} {t1 t2 : Tok} (hp0 : 0 ≤ p) (hp : p < 10) : CallOk prog w B 2 (.ref 222) ⟨[.int n t1, .int p t2], []⟩ V mu (PoR (cellPV (cellF n p.toNat)) V mu) := by
  refine enter G (by kernel_rfl!) (by kernel_rfl!) (by kernel_rfl!) (Binds.pure (binds := [("number", .int n t1), ("place", .int p t2)]) (by rfl)) (by rfl) fun C hC hX => ?_
  have f2 := @fm_nonneg (n.fdiv 5) 2 (by decide)
  have g2 := @fm_lt (n.fdiv 5) 2 (by decide)
  refine ts_cons ?_
  repeat walk_at "ev"
  refine ⟨fun h4 => ?_, fun h4 => ?_⟩
  · repeat walk_at "ev"
    refine tr_newList (by walk_at "sz") fun a1 V1 l1 e1 => ?_
    repeat walk_at "ev"
    obtain ⟨i, hi⟩ : ∃ i : Nat, (n.fdiv 5).fmod 2 = i := ⟨_, (Int.toNat_of_nonneg f2).symm⟩
    have hlt : i = 0 ∨ i = 1 := by omega
    refine sub_list (.inl e1) f2 (by omega) (v := .str (if (n.fdiv 5).fmod 2 = 0 then "././" else ".///") (if (n.fdiv 5).fmod 2 = 0 then _ else _)) (by rw [hi]; rcases hlt with rfl | rfl <;> rfl) ?_
    repeat walk_at "ev"
    refine tr_newList (by walk_at "sz") fun a2 V2 l2 e2 => ?_
    refine ⟨l1.trans l2, rfl, rep3 e2 ?_⟩
    unfold cellF
    rw [if_pos (by simpa using h4)]
  · repeat walk_at "ev"
    refine ⟨fun h1 => ?_, fun h1 => ?_⟩
    · repeat walk_at "ev"
      refine tr_newList (by walk_at "sz") fun a2 V2 l2 e2 => ?_
      refine ⟨l2, rfl, rep3 e2 ?_⟩
      unfold cellF
      rw [if_neg (by simpa using h4), if_pos (by simpa using h1)]
    · repeat walk_at "ev"
      refine tr_callG0 hC 215 (by kernel_rfl!) (by kernel_rfl!) (by kernel_rfl!) ?_
      refine tr_call (signs_ok hC.gb) (hC.lv.le (by decide)) hC.fr ?_
      rintro v V1 mu1 ⟨rfl, rfl, tk, rfl⟩
      have f3 := @fm_nonneg ((n.fdiv 5).fdiv 3) 63 (by decide)
      have g3 := @fm_lt ((n.fdiv 5).fdiv 3) 63 (by decide)
      have f4 := @fm_nonneg ((n.fdiv 5).fdiv 189) 63 (by decide)
      have g4 := @fm_lt ((n.fdiv 5).fdiv 189) 63 (by decide)
      repeat walk_at "ev"
      refine sub_str f3 (by omega) (sgn_get (by omega)) fun _ => ?_
      repeat walk_at "ev"
      refine sub_str f4 (by omega) (sgn_get (by omega)) fun _ => ?_
      repeat walk_at "ev"
      refine ⟨fun h3 => ?_, fun h3 => ?_⟩
      · repeat walk_at "ev"
        refine sub_str hp0 (by omega) (sgn_get (by omega)) fun _ => ?_
        refine op_addS (by walk_at "sz") fun _ => ?_
        repeat walk_at "ev"
        refine op_addS (by walk_at "sz") fun _ => ?_
        repeat walk_at "ev"
        refine op_addS (by walk_at "sz") fun _ => ?_
        repeat walk_at "ev"
        refine sub_str hp0 (by omega) (sgn_get (by omega)) fun _ => ?_
        refine op_addS (by walk_at "sz") fun _ => ?_
        repeat walk_at "ev"
        refine op_addS (by walk_at "sz") fun _ => ?_
        repeat walk_at "ev"
        refine tr_newList (by walk_at "sz") fun a2 V2 l2 e2 => ?_
        refine ⟨l2, rfl, rep3 e2 ?_⟩
        unfold cellF
        rw [if_neg (by simpa using h4), if_neg (by simpa using h1)]
        dsimp only
        rw [if_pos (by simpa using h3)]; rfl
      · repeat walk_at "ev"
        refine ⟨fun h5 => ?_, fun h5 => ?_⟩
        · repeat walk_at "ev"
          refine sub_str hp0 (by omega) (sgn_get (by omega)) fun _ => ?_
          repeat walk_at "ev"
          refine op_addS (by walk_at "sz") fun _ => ?_
          repeat walk_at "ev"
          refine op_addS (by walk_at "sz") fun _ => ?_
          repeat walk_at "ev"
          refine sub_str hp0 (by omega) (sgn_get (by omega)) fun _ => ?_
          repeat walk_at "ev"
          refine op_addS (by walk_at "sz") fun _ => ?_
          repeat walk_at "ev"
          refine tr_newList (by walk_at "sz") fun a2 V2 l2 e2 => ?_
          refine ⟨l2, rfl, rep3 e2 ?_⟩
          unfold cellF
          rw [if_neg (by simpa using h4), if_neg (by simpa using h1)]
          dsimp only
          rw [if_neg (by simpa using h3), if_pos (by simpa using h5)]; rfl
        · repeat walk_at "ev"
          refine sub_str hp0 (by omega) (sgn_get (by omega)) fun _ => ?_
          refine op_addS (by walk_at "sz") fun _ => ?_
          repeat walk_at "ev"
          refine op_addS (by walk_at "sz") fun _ => ?_
          repeat walk_at "ev"
          refine sub_str hp0 (by omega) (sgn_get (by omega)) fun _ => ?_
          repeat walk_at "ev"
          refine tr_newList (by walk_at "sz") fun a2 V2 l2 e2 => ?_
          refine ⟨l2, rfl, rep3 e2 ?_⟩
          unfold cellF
          rw [if_neg (by simpa using h4), if_neg (by simpa using h1)]
          dsimp only
          rw [if_neg (by simpa using h3), if_neg (by simpa using h5)]; rfl
end
end

end
section
open PySem PySem.Calls PySem.W PyProof.Rows
section
noncomputable section

variable {prog : Program} {w : World} {B V : View} {mu : Mu}

/-- a text by its figures to the base 64 -/
noncomputable def txt (ds : List Nat) : Str := ⟨(ds.map fun d => sgn.cps.toList.getD d 0).toArray⟩
noncomputable def val (ds : List Nat) : Int := ds.foldl (fun (v : Int) (d : Nat) => v * 64 + (d : Int)) 0
theorem val_snoc (ds : List Nat) (d : Nat) : val (ds ++ [d]) = val ds * 64 + d := by unfold val; rw [List.foldl_append]; rfl
theorem sgn_ascii : sgn.cps.toList.all (· < 128) = true := by decide +kernel
theorem sgn_find : ∀ i : Nat, i < 64 → (Builtin.Str.occurrences sgn (sg i) 0 sgn.length 1).head? = some i := by decide +kernel
theorem sgn_lt (d : Nat) : sgn.cps.toList.getD d 0 < 128 := by
  by_cases h : d < 64
  · have := List.all_eq_true.mp sgn_ascii (sgn.cps.toList.getD d 0) (by
      have e := sgn_get h
      exact List.mem_of_getElem? e)
    simpa using this
  · rw [List.getD_eq_getElem?_getD, List.getElem?_eq_none (by rw [sgn_len]; omega)]; decide
theorem txt_ascii (ds : List Nat) : (txt ds).cps.all (· < 128) = true := by
  unfold txt
  rw [← Array.all_toList]
  simp only [List.all_eq_true]
  intro c hc
  simp at hc
  obtain ⟨d, _, rfl⟩ := hc
  exact decide_eq_true (by simpa using sgn_lt d)
theorem val_acc (ds : List Nat) (h : ∀ d ∈ ds, d < 64) : ∀ a : Int, 0 ≤ a → 0 ≤ ds.foldl (fun (v : Int) (d : Nat) => v * 64 + (d : Int)) a ∧ ds.foldl (fun (v : Int) (d : Nat) => v * 64 + (d : Int)) a < (a + 1) * 64 ^ ds.length := by
  induction ds with
  | nil => intro a ha; exact ⟨ha, by simp; omega⟩
  | cons d ds ih =>
    intro a ha
    have h1 := h d (List.mem_cons_self ..)
    obtain ⟨h2, h3⟩ := ih (fun x hx => h x (List.mem_cons_of_mem _ hx)) (a * 64 + d) (by omega)
    refine ⟨h2, Int.lt_of_lt_of_le h3 ?_⟩
    rw [List.length_cons, Int.pow_succ, ← Int.mul_assoc, Int.mul_right_comm]
    exact Int.mul_le_mul_of_nonneg_right (by omega) (Int.le_of_lt (Int.pow_pos (by decide)))
theorem val_nonneg (ds : List Nat) (h : ∀ d ∈ ds, d < 64) : 0 ≤ val ds := (val_acc ds h 0 (Int.le_refl _)).1
theorem val_lt (ds : List Nat) (h : ∀ d ∈ ds, d < 64) : val ds < 64 ^ ds.length := by
  have := (val_acc ds h 0 (Int.le_refl _)).2
  rwa [Int.zero_add, Int.one_mul] at this

noncomputable def octPV (ds : List Nat) : PV := .list [.int ((val ds).fdiv 65536), .int (((val ds).fdiv 256).fmod 256), .int ((val ds).fmod 256)]
theorem octets_ok (G : Gb w B) {ds : List Nat} {t : Tok} (hd : ∀ d ∈ ds, d < 64) (hl : ds.length = 4) :
    CallOk prog w B 2 (.ref 229) ⟨[.str (txt ds) t], []⟩ V mu (PoR (octPV ds) V mu) := by
  refine enter G (by kernel_rfl!) (by kernel_rfl!) (by kernel_rfl!) (Binds.pure (binds := [("text", .str (txt ds) t)]) (by rfl)) (by rfl) fun C hC hX => ?_
  refine ts_cons ?_
  repeat walk_at "ev"
  refine iter_ascii hC.lv.hd (txt_ascii ds) fun I o S ok st => ?_
  refine ts_weaken (m' := [("value", .int (val []) _), ("text", .str (txt ds) t)]) ⟨rfl, rfl, trivial⟩ ?_
  refine ts_forLoop hX ok st (fun i m' V' mu' => V' = V ∧ mu' = mu ∧ ∃ tk, m' = ([("value", .int (val (ds.take i)) tk), ("text", .str (txt ds) t)] : Loc)) ⟨rfl, rfl, _, rfl⟩ ?_ ?_
  · rintro i v o' m' V' mu' hi ⟨c, u, hc, rfl⟩ l1 ⟨rfl, rfl, tk, rfl⟩
    have hi' : i < ds.length := by simpa [txt] using hi
    obtain ⟨d, hds⟩ : ∃ d, ds[i]? = some d := ⟨_, List.getElem?_eq_getElem hi'⟩
    have hd64 : d < 64 := hd d (List.mem_of_getElem? hds)
    have hc' : c = sgn.cps.toList.getD d 0 := by
      have : (txt ds).cps[i]? = some (sgn.cps.toList.getD d 0) := by simp [txt, hds]
      rw [this] at hc; exact (Option.some.inj hc).symm
    subst hc'
    repeat walk_at "ev"
    have vb := val_lt (ds.take i) fun d hd' => hd d (List.mem_of_mem_take hd')
    have vn := val_nonneg (ds.take i) fun d hd' => hd d (List.mem_of_mem_take hd')
    have vl : (ds.take i).length ≤ 3 := by rw [List.length_take]; omega
    have vb' : val (ds.take i) < 64 ^ 3 := Int.lt_of_lt_of_le vb (by
      have : (64 : Nat) ^ (ds.take i).length ≤ 64 ^ 3 := Nat.pow_le_pow_right (by decide) vl
      exact_mod_cast this)
    refine op_mul (IntMulOk.of_right (by decide)) fun _ => ?_
    refine tr_mStr F.slot_str_index F.type_str_index ?_
    refine tr_callG0 hC 215 (by kernel_rfl!) (by kernel_rfl!) (by kernel_rfl!) ?_
    refine tr_call (signs_ok hC.gb) (hC.lv.le (by decide)) hC.fr ?_
    rintro v V1 mu1 ⟨rfl, rfl, tk, rfl⟩
    refine ⟨_, _, rfl, ?_⟩
    repeat walk_at "ev"
    obtain ⟨rest, hrest⟩ : ∃ rest, Builtin.Str.occurrences sgn (sg d) 0 sgn.length 1 = d :: rest := by
      have := sgn_find d hd64
      cases q : Builtin.Str.occurrences sgn (sg d) 0 sgn.length 1 with
      | nil => rw [q] at this; cases this
      | cons a r => rw [q] at this; cases this; exact ⟨r, rfl⟩
    refine c_index hrest fun _ => ?_
    repeat walk_at "ev"
    have ev : val (ds.take (i + 1)) = val (ds.take i) * 64 + (d : Int) := by
      rw [← val_snoc, List.take_succ, hds]; rfl
    rw [← ev]
    refine ts_weaken (m' := [("value", .int (val (ds.take (i + 1))) _), ("text", .str (txt ds) t)]) ⟨rfl, rfl, trivial⟩ ?_
    refine ts_nil ⟨_, rfl, Le.refl _, rfl, rfl, _, rfl⟩
  · rintro m' V' mu' l1 ⟨rfl, rfl, tk, rfl⟩
    have e : ds.take (txt ds).cps.size = ds := by simp [txt]
    rw [e]
    refine ts_nil ?_
    repeat walk_at "ev"
    refine tr_newList (by walk_at "sz") fun a2 V2 l2 e2 => ?_
    exact ⟨l2, rfl, .list e2 (.cons (.int _ _) (.cons (.int _ _) (.cons (.int _ _) .nil)))⟩
end
end

end
section
open PySem PySem.Calls PySem.W PyProof.Rows
section
noncomputable section
theorem nested_str {prog : Program} {w : World} {A : Around} {E : Value → Shared → Prop} {s : Shared} {k : Value} {dep : Int} {tk : Tok} (hk : k = .int dep tk) {Q : Fin → Shared → Prop} (hq : Q (.done (.ret (.bool true))) s) :
    wpAny (model prog w) A (Builtin.«issubclass.nested» ⟨[.type "str", .type "str", k], []⟩) Q E s := by
  subst hk
  have h1 := F.isi_meta_str
  have h2 := F.sub_str_str
  unfold Builtin.«issubclass.nested»
  refine wpAny_bind (wpAny_of_eq h1 ?_)
  repeat (any_goals (first | assumption | (rw [h2]) | wp_step))
theorem issub_meets {a : Addr} {n : Nat} : Meets (Builtin.«issubclass» ⟨[.type "str", .ref a], []⟩) (fun _ R s => s.heap.get? a = some (tupO [.type "str", .type "bytes"] n) ∧ R (.ok (.ret (.bool true))) s) := by
  intro prog w A R s hs
  refine issubclass_outer ?_
  obtain ⟨ha, hR⟩ := hs
  have hT : s.TypeIs (.ref a) "tuple" := ⟨_, ha, rfl⟩
  unfold Builtin.«issubclass.nested»
  refine wpAny_bind (wpAny_typeOf hT ?_)
  refine wpAny_ite_false (by decide) ?_
  refine wpAny_bind (m := Builtin.Builtins.unionMembers _) ?_
  unfold Builtin.Builtins.unionMembers
  refine wpAny_bind (wpAny_typeOf hT ?_)
  refine wpAny_ite_false (by decide) ?_
  refine wpAny_pure ?_
  refine wpAny_bind (wpAny_isInstance hT F.sub_tuple_tuple ?_)
  refine wpAny_ite_true rfl ?_
  refine wpAny_ite_false (by decide) ?_
  refine wpAny_bind (wpAny_seqItems ha rfl ?_)
  refine wpAny_bind ?_
  show wpAny _ _ (forIn (#[Value.type "str", Value.type "bytes"] : Array Value) _ _) _ _ s
  rw [show (#[Value.type "str", Value.type "bytes"] : Array Value) = [Value.type "str", Value.type "bytes"].toArray from rfl, List.forIn_toArray, List.forIn_cons]
  refine wpAny_bind (wpAny_bind ?_)
  refine call_function_entry (by decide +kernel) (by decide +kernel) F.entry_issubclass_nested (by unfold argsOk; kernel_rfl) ?_
  refine nested_str rfl ⟨_, rfl, ?_⟩
  refine wpAny_bind (wpAny_truthy_bool ?_)
  refine wpAny_ite_true rfl ?_
  exact wpAny_bind (wpAny_pure (wpAny_pure (wpAny_pure (wpAny_pure hR))))
theorem c_issub {C : Cx} {m : Loc} {V : View} {mu : Mu} {P : Value → Loc → View → Mu → Prop} {a : Addr} {n : Nat} (ha : V a = some (tupO [.type "str", .type "bytes"] n)) (h : P (.bool true) m V mu) :
    Tr C m V mu (call (.builtin "issubclass") [.type "str", .ref a]) P := .of fun s hs => call_issubclass issub_meets ⟨hs.1.held.sub _ _ ha, m, V, mu, hs, h⟩
end
end

end
section
open PySem PySem.Calls PySem.W PyProof.Rows
section
noncomputable section

variable {prog : Program} {w : World} {B V : View} {mu : Mu}
theorem fspath_ok (G : Gb w B) {x : Str} {t : Tok} : CallOk prog w B 1 (.ref 94) ⟨[.str x t], []⟩ V mu (fun v V' mu' => v = .str x t ∧ Le V V' ∧ mu' = mu) := by
  refine enter G (by kernel_rfl!) (by kernel_rfl!) (by kernel_rfl!) (Binds.pure (binds := [("path", .str x t)]) (by rfl)) (by rfl) fun C hC hX => ?_
  refine ts_cons ?_
  repeat walk_at "ev"
  refine tr_callT hC "type" (by kernel_rfl!) (n_type _) boot_type ?_
  repeat walk_at "ev"
  refine c_typeS ?_
  repeat walk_at "ev"
  refine tr_callB hC "issubclass" (by kernel_rfl!) (n_issubclass _) b_issubclass ?_
  repeat walk_at "ev"
  refine tr_blt hC (by kernel_rfl!) (n_str _) boot_str ?_
  repeat walk_at "ev"
  refine tr_blt hC (by kernel_rfl!) (n_bytes _) boot_bytes ?_
  repeat walk_at "ev"
  refine tr_newTuple (by walk_at "sz") fun a1 V1 l1 e1 => ?_
  repeat walk_at "ev"
  refine c_issub e1 ?_
  repeat walk_at "ev"
  refine onT ?_
  repeat walk_at "ev"
  exact ⟨rfl, l1, rfl⟩
theorem sep_ok (G : Gb w B) {x : Str} {t : Tok} : CallOk prog w B 1 (.ref 108) ⟨[.str x t], []⟩ V mu (fun v V' mu' => (∃ tk, v = .str "/" tk) ∧ V' = V ∧ mu' = mu) := by
  refine enter G (by kernel_rfl!) (by kernel_rfl!) (by kernel_rfl!) (Binds.pure (binds := [("path", .str x t)]) (by rfl)) (by rfl) fun C hC hX => ?_
  refine ts_cons ?_
  repeat walk_at "ev"
  refine tr_callB hC "isinstance" (by kernel_rfl!) (n_isinstance _) boot_isinstance ?_
  repeat walk_at "ev"
  refine tr_blt hC (by kernel_rfl!) (n_bytes _) boot_bytes ?_
  repeat walk_at "ev"
  refine c_isiSB ?_
  repeat walk_at "ev"
  refine onF ?_
  repeat walk_at "ev"
  exact ⟨⟨_, rfl⟩, rfl, rfl⟩

theorem slice1 {x : Str} {c : Nat} {r : List Nat} (h : x.cps.toList = c :: r) : Txt.slice x none (some 1) = ⟨#[c]⟩ := by
  have hn : x.length = r.length + 1 := by
    have := congrArg List.length h
    simpa [Str.length] using this
  have e : Builtin.Str.strSliceIndices none (some 1) 1 x.length = [0] := by
    unfold Builtin.Str.strSliceIndices sliceRange
    have e1 : max 0 (min (1 : Int) (x.length : Int)) = 1 := by omega
    have e0 : ¬ ((1 : Int) < 0) := by decide
    simp [e1]
  have hc : x.cps[0]? = some c := by
    rw [← Array.getElem?_toList, h]; rfl
  unfold Txt.slice
  rw [e]
  split
  · rename_i q
    have hl : r = [] := by
      simp at q
      have : r.length = 0 := by omega
      exact List.length_eq_zero_iff.mp this
    subst hl
    have : x.cps = #[c] := by apply Array.ext'; simpa using h
    cases x; simp_all
  · simp [hc]
theorem splitroot_ok (G : Gb w B) {x : Str} {t : Tok} {c : Nat} {r : List Nat} (hx : x.cps.toList = c :: r) (hc : c ≠ 47) (hz : x.length ≤ 1000000) :
    CallOk prog w B 2 (.ref 122) ⟨[.str x t], []⟩ V mu (fun v V' mu' => Le V V' ∧ mu' = mu ∧ ∃ a t1 t2 n, v = .ref a ∧ V' a = some (tupO [.str "" t1, .str "" t2, .str x t] n)) := by
  have hz1 : x.length ≤ sizeLine := Nat.le_trans hz (Nat.le_of_ble_eq_true rfl)
  refine enter G (by kernel_rfl!) (by kernel_rfl!) (by kernel_rfl!) (Binds.pure (binds := [("p", .str x t)]) (by rfl)) (by rfl) fun C hC hX => ?_
  refine ts_cons ?_
  repeat walk_at "ev"
  refine tr_callG hC 94 (by kernel_rfl!) (g_fspath _) (k_fspath _) ?_
  repeat walk_at "ev"
  refine tr_call (fspath_ok hC.gb) (hC.lv.le (by decide)) hC.fr ?_
  rintro v V1 mu1 ⟨rfl, l1, rfl⟩
  repeat walk_at "ev"
  refine tr_callB hC "isinstance" (by kernel_rfl!) (n_isinstance _) boot_isinstance ?_
  repeat walk_at "ev"
  refine tr_blt hC (by kernel_rfl!) (n_bytes _) boot_bytes ?_
  repeat walk_at "ev"
  refine c_isiSB ?_
  repeat walk_at "ev"
  refine onF ?_
  repeat walk_at "ev"
  refine ts_nil ?_
  repeat walk_at "ev"
  intro a2 V2 l2 e2
  refine sub_sliceS e2 .none (.int _ _) hz1 fun _ => ?_
  rw [slice1 hx]
  repeat walk_at "ev"
  have e : ((⟨#[c]⟩ : Str) != Str.ofString "/") = true := by
    rw [bne_iff_ne]
    intro q
    have q1 : #[c] = #[47] := congrArg Str.cps q
    have : [c] = [47] := congrArg Array.toList q1
    exact hc (List.cons.inj this).1
  rw [e]
  refine onT ?_
  repeat walk_at "ev"
  refine tr_newTuple (by walk_at "sz") fun a1 V3 l3 e3 => ?_
  exact ⟨(l1.trans l2).trans l3, rfl, _, _, _, _, rfl, e3⟩
end
end

end
section
open PySem PySem.Calls PySem.W PyProof.Rows
set_option maxHeartbeats 4000000
section
noncomputable section

variable {prog : Program} {w : World} {B V : View} {mu : Mu}
noncomputable def stepN (acc : List Str) (c : Str) : List Str :=
  if c = "" ∨ c = "." then acc
  else if c ≠ ".." ∨ acc = [] ∨ acc.getLast? = some ".." then acc ++ [c]
  else acc.dropLast
noncomputable def normL (ps : List Str) : List Str := ps.foldl stepN []
noncomputable def normJ (r : List Str) : Str := if (Txt.join "/" r).length = 0 then "." else Txt.join "/" r
theorem normL_len (ps : List Str) : (normL ps).length ≤ ps.length := by
  have : ∀ (ps acc : List Str), (ps.foldl stepN acc).length ≤ acc.length + ps.length := by
    intro ps
    induction ps with
    | nil => intro acc; simp
    | cons p ps ih =>
      intro acc
      refine Nat.le_trans (ih _) ?_
      have : (stepN acc p).length ≤ acc.length + 1 := by
        unfold stepN
        split
        · omega
        · split
          · simp
          · simp; omega
      rw [List.length_cons]; omega
  simpa [normL] using this ps []

noncomputable def wgt (ps : List Str) : Nat := (ps.map (·.length)).sum + ps.length
theorem wgt_append (a b : List Str) : wgt (a ++ b) = wgt a + wgt b := by simp [wgt]; omega
theorem wgt_dropLast (a : List Str) : wgt a.dropLast ≤ wgt a := by
  by_cases h : a = []
  · subst h; exact Nat.le_refl _
  · have := congrArg wgt (List.dropLast_concat_getLast h)
    rw [wgt_append] at this; omega
theorem normL_wgt (ps : List Str) : wgt (normL ps) ≤ wgt ps := by
  have : ∀ (ps acc : List Str), wgt (ps.foldl stepN acc) ≤ wgt acc + wgt ps := by
    intro ps
    induction ps with
    | nil => intro acc; simp [wgt]
    | cons p ps ih =>
      intro acc
      refine Nat.le_trans (ih _) ?_
      have e1 : wgt (p :: ps) = wgt [p] + wgt ps := wgt_append [p] ps
      have : wgt (stepN acc p) ≤ wgt acc + wgt [p] := by
        unfold stepN
        split
        · omega
        · split
          · rw [wgt_append]; omega
          · have := wgt_dropLast acc; omega
      omega
  simpa [normL, wgt] using this ps []

abbrev npJ (acc : List Str) (t2 k1 k2 k3 : Tok) (nc : Addr) (V3 : View) (mu2 : Mu) (m' : Loc) (V' : View) (mu' : Mu) : Prop :=
  V' = V3 ∧ LocSub [("new_comps", .ref nc), ("initial_slashes", .str "" t2), ("dotdot", .str ".." k3), ("dot", .str "." k2), ("sep", .str "/" k1)] m' ∧
    ∃ ws n, mu' = (nc, listO ws n) :: mu2 ∧ RepL V3 ws (acc.map PV.str)
theorem normpath_ok (G : Gb w B) {x : Str} {t : Tok} {c : Nat} {r : List Nat} (hx : x.cps.toList = c :: r) (hc : c ≠ 47) (hz : x.length ≤ 1000) :
    CallOk prog w B 3 (.ref 129) ⟨[.str x t], []⟩ V mu (PoS (normJ (normL (Txt.split x "/"))) V mu) := by
  have hz1 : x.length ≤ sizeLine := Nat.le_trans hz (Nat.le_of_ble_eq_true rfl)
  have hlen : ((x.length : Int) != 0) = true := by
    have := congrArg List.length hx
    have e : x.length = r.length + 1 := by simpa [Str.length] using this
    rw [bne_iff_ne]; omega
  refine enter G (by kernel_rfl!) (by kernel_rfl!) (by kernel_rfl!) (Binds.pure (binds := [("path", .str x t)]) (by rfl)) (by rfl) fun C hC hX => ?_
  refine ts_cons ?_
  repeat walk_at "ev"
  refine tr_callG hC 94 (by kernel_rfl!) (g_fspath _) (k_fspath _) ?_
  repeat walk_at "ev"
  refine tr_call (fspath_ok hC.gb) (hC.lv.le (by decide)) hC.fr ?_
  rintro v V1 mu1 ⟨rfl, l1, rfl⟩
  repeat walk_at "ev"
  refine tr_callB hC "isinstance" (by kernel_rfl!) (n_isinstance _) boot_isinstance ?_
  repeat walk_at "ev"
  refine tr_blt hC (by kernel_rfl!) (n_bytes _) boot_bytes ?_
  repeat walk_at "ev"
  refine c_isiSB ?_
  repeat walk_at "ev"
  refine onF ?_
  repeat walk_at "ev"
  refine ts_nil ?_
  repeat walk_at "ev"
  refine tt_str hz1 ?_
  rw [hlen]
  refine onF ?_
  refine ts_nil ?_
  repeat walk_at "ev"
  refine tr_callG hC 122 (by kernel_rfl!) (g_splitroot _) (k_splitroot _) ?_
  repeat walk_at "ev"
  refine tr_call (splitroot_ok hC.gb hx hc (by omega)) (hC.lv.le (by decide)) hC.fr ?_
  rintro v V2 mu2 ⟨l2, rfl, a, t1, t2, n, rfl, e2⟩
  refine tr_asgT (n := 3) rfl ?_
  refine tr_unpackT hC.lv.hd e2 rfl ?_
  refine tr_aio ?_
  repeat walk_at "ev"
  refine tr_aio ?_
  repeat walk_at "ev"
  refine tr_aio ?_
  repeat walk_at "ev"
  refine tr_aio_nil ?_
  repeat walk_at "ev"
  refine tr_mStr F.slot_str_split F.type_str_split ?_
  repeat walk_at "ev"
  refine ⟨_, _, rfl, ?_⟩
  repeat walk_at "ev"
  refine c_split (by rfl) (by omega) fun a3 V3 cs l3 e3 r3 => ?_
  repeat walk_at "ev"
  refine tr_newListMu (by walk_at "sz") fun nc => ?_
  repeat walk_at "ev"
  refine iter_list hC.lv.hd e3 fun I o S ok st => ?_
  rename_i k1 k2 k3
  have plen : ∀ p ∈ Txt.split x "/", p.length ≤ sizeLine := fun p hp => Nat.le_trans (part_short hp) hz1
  have cl : cs.length = (Txt.split x "/").length := by rw [r3.length, List.length_map]
  refine ts_forLoop hX ok st (fun i => npJ (normL ((Txt.split x "/").take i)) t2 k1 k2 k3 nc V3 mu2) ⟨rfl, ⟨rfl, rfl, rfl, rfl, rfl, trivial⟩, _, _, rfl, by simpa [normL] using RepL.nil⟩ ?_ ?_
  · rintro i v o' m' V' mu' hi hv lV ⟨rfl, hm, ws, n', rfl, hr⟩
    refine tr_weaken hm.sub ?_
    clear hm
    have hi' : i < (Txt.split x "/").length := by omega
    obtain ⟨p, hp⟩ : ∃ p, (Txt.split x "/")[i]? = some p := ⟨_, List.getElem?_eq_getElem hi'⟩
    obtain ⟨v', hv', rv⟩ := r3.get (i := i) (d := .str p) (by simp [hp])
    rw [hv'] at hv; cases hv
    obtain ⟨tp, rfl⟩ := rv.str_inv
    have pz := plen p (List.mem_of_getElem? hp)
    have hnext : normL ((Txt.split x "/").take (i + 1)) = stepN (normL ((Txt.split x "/").take i)) p := by
      unfold normL; rw [List.take_succ, hp, List.foldl_append]; rfl
    have wl : ws.length = (normL ((Txt.split x "/").take i)).length := by rw [hr.length, List.length_map]
    have wz : ws.length ≤ 2000 := by
      rw [wl]
      have h1 := normL_len ((Txt.split x "/").take i)
      have h2 := split_le x "/"
      rw [List.length_take] at h1
      omega
    have wz1 : ws.length ≤ sizeLine := Nat.le_trans wz (Nat.le_of_ble_eq_true rfl)
    generalize normL ((Txt.split x "/").take i) = acc at hr hnext wl
    rw [hnext]
    repeat walk_at "ev"
    refine tt_str pz ?_
    by_cases hp0 : p = ""
    · subst hp0
      refine onT ?_
      refine onT ?_
      repeat walk_at "ev"
      exact ⟨_, rfl, Le.refl _, rfl, ⟨rfl, rfl, rfl, rfl, rfl, trivial⟩, _, _, rfl, by
        have e : stepN acc "" = acc := if_pos (.inl rfl)
        rw [e]; exact hr⟩
    · have hl0 : ((p.length : Int) != 0) = true := by
        rw [bne_iff_ne]
        intro q
        have q1 : p.cps.size = 0 := by unfold Str.length at q; omega
        apply hp0
        cases p with | mk cps => exact congrArg Str.mk (Array.eq_empty_of_size_eq_zero q1)
      rw [hl0]
      refine onF ?_
      repeat walk_at "ev"
      by_cases hp1 : p = "."
      · subst hp1
        refine onT ?_
        refine onT ?_
        repeat walk_at "ev"
        exact ⟨_, rfl, Le.refl _, rfl, ⟨rfl, rfl, rfl, rfl, rfl, trivial⟩, _, _, rfl, by
          have e : stepN acc "." = acc := if_pos (.inr rfl)
          rw [e]; exact hr⟩
      · rw [beq_eq_false_iff_ne.mpr hp1]
        refine onF ?_
        repeat walk_at "ev"
        refine onF ?_
        refine ts_nil ?_
        repeat walk_at "ev"
        have hs0 : stepN acc p = if p ≠ ".." ∨ acc = [] ∨ acc.getLast? = some ".." then acc ++ [p] else acc.dropLast := if_neg (fun q => q.elim hp0 hp1)
        rw [hs0]
        clear hs0 hnext
        by_cases hp2 : p = ".."
        · subst hp2
          refine onF ?_
          repeat walk_at "ev"
          refine tt_str (by walk_at "sz") ?_
          refine onT ?_
          repeat walk_at "ev"
          refine tt_list (by walk_at "known") wz1 ?_
          by_cases ha : acc = []
          · have hw0 : ws = [] := by
              subst ha; cases hr; rfl
            subst hw0
            refine onT ?_
            repeat walk_at "ev"
            refine onT ?_
            refine onT ?_
            rw [if_pos (.inr (.inl ha))]
            repeat walk_at "ev"
            refine tr_mList PySem.slot_list_append PySem.type_list_append ?_
            repeat walk_at "ev"
            refine ⟨_, _, _, rfl, by walk_at "known", ?_⟩
            repeat walk_at "ev"
            refine c_append (fun _ => .tail .head) wz1 fun n2 => ?_
            refine ts_nil ?_
            refine ts_nil ?_
            exact ⟨_, rfl, Le.refl _, rfl, ⟨rfl, rfl, rfl, rfl, rfl, trivial⟩, _, _, rfl, by
              rw [List.map_append]; exact hr.append (.cons (.str _ _) .nil)⟩
          · have hw0 : ws.isEmpty = false := by
              cases ws with
              | nil => cases acc with
                | nil => exact absurd rfl ha
                | cons _ _ => cases hr
              | cons _ _ => rfl
            rw [hw0]
            refine onF ?_
            refine onF ?_
            repeat walk_at "ev"
            refine tt_list (by walk_at "known") wz1 ?_
            rw [hw0]
            refine onT ?_
            repeat walk_at "ev"
            obtain ⟨acc', q, rfl⟩ : ∃ acc' q, acc = acc' ++ [q] := ⟨_, _, (List.dropLast_concat_getLast ha).symm⟩
            obtain ⟨l', rfl, el⟩ := hr.strs
            obtain ⟨l2, z, rfl, rfl, hz2⟩ := List.map_eq_append_iff.mp el
            obtain ⟨qt, rfl⟩ : ∃ qt, z = [(q, qt)] := by
              cases z with
              | nil => cases hz2
              | cons y z => cases z with
                | nil => obtain ⟨y1, y2⟩ := y; cases hz2; exact ⟨_, rfl⟩
                | cons _ _ => cases hz2
            have esv : strValues (l2 ++ [(q, qt)]) = strValues l2 ++ [Value.str q qt] := by simp [strValues]
            rw [esv] at wz1 ⊢
            refine sub_last (v := .str q qt) (by walk_at "known") (by simp) wz1 ?_
            repeat walk_at "ev"
            by_cases hq : q = ".."
            · subst hq
              refine onT ?_
              repeat walk_at "ev"
              refine onT ?_
              refine onT ?_
              rw [if_pos (.inr (.inr (by simp)))]
              repeat walk_at "ev"
              refine tr_mList PySem.slot_list_append PySem.type_list_append ?_
              repeat walk_at "ev"
              refine ⟨_, _, _, rfl, by walk_at "known", ?_⟩
              repeat walk_at "ev"
              refine c_append (fun _ => .tail .head) wz1 fun n2 => ?_
              refine ts_nil ?_
              refine ts_nil ?_
              rw [esv] at hr
              exact ⟨_, rfl, Le.refl _, rfl, ⟨rfl, rfl, rfl, rfl, rfl, trivial⟩, _, _, rfl, by
                rw [List.map_append]; exact hr.append (.cons (.str _ _) .nil)⟩
            · rw [beq_eq_false_iff_ne.mpr hq]
              refine onF ?_
              refine onF ?_
              repeat walk_at "ev"
              refine onF ?_
              repeat walk_at "ev"
              refine tt_list (by walk_at "known") wz1 ?_
              have he : (strValues l2 ++ [Value.str q qt]).isEmpty = false := by simp
              rw [he]
              refine onT ?_
              rw [if_neg (by simp [hq])]
              repeat walk_at "ev"
              refine tr_mList0 F.slot_list_pop F.type_list_pop ?_
              repeat walk_at "ev"
              refine ⟨_, _, _, rfl, by walk_at "known", ?_⟩
              refine c_pop (fun _ => .tail .head) (by simpa using wz1) fun n2 => ?_
              refine ts_nil ?_
              refine ts_nil ?_
              refine ts_nil ?_
              exact ⟨_, rfl, Le.refl _, rfl, ⟨rfl, rfl, rfl, rfl, rfl, trivial⟩, _, _, rfl, by
                rw [List.dropLast_concat]; exact repL_strs _ l2⟩
        · have e : (p != Str.ofString "..") = true := bne_iff_ne.mpr hp2
          rw [e]
          refine onT ?_
          refine onT ?_
          rw [if_pos (.inl hp2)]
          repeat walk_at "ev"
          refine tr_mList PySem.slot_list_append PySem.type_list_append ?_
          repeat walk_at "ev"
          refine ⟨_, _, _, rfl, by walk_at "known", ?_⟩
          repeat walk_at "ev"
          refine c_append (fun _ => .tail .head) wz1 fun n2 => ?_
          refine ts_nil ?_
          refine ts_nil ?_
          exact ⟨_, rfl, Le.refl _, rfl, ⟨rfl, rfl, rfl, rfl, rfl, trivial⟩, _, _, rfl, by
            rw [List.map_append]; exact hr.append (.cons (.str _ _) .nil)⟩
  · rintro m' V' mu' lV ⟨rfl, hm, ws, n', rfl, hr⟩
    clear lV
    have e : (Txt.split x "/").take cs.length = Txt.split x "/" := by rw [cl, List.take_length]
    rw [e] at hr
    refine ts_weaken hm ?_
    refine ts_freeze fun V4 l4 e4 => ?_
    have hr4 := hr.mono l4
    refine ts_nil ?_
    repeat walk_at "ev"
    refine tr_mStr F.slot_str_join F.type_str_join ?_
    repeat walk_at "ev"
    refine ⟨_, _, rfl, ?_⟩
    repeat walk_at "ev"
    have hw : ((normL (Txt.split x "/")).map (·.length)).sum + (normL (Txt.split x "/")).length ≤ 100000 := by
      have h1 := normL_wgt (Txt.split x "/")
      have h2 := split_weight x "/" (by decide)
      unfold wgt at h1
      omega
    refine c_join (.inl e4) hr4 (by omega) (by walk_at "sz") fun _ => ?_
    have hjl : (Txt.join "/" (normL (Txt.split x "/"))).length ≤ 1000000 := by
      unfold Txt.join
      rw [StrLaws.glued_eq_join]
      refine Nat.le_trans (StrLaws.join_length_le _ _) ?_
      have e1 : (Str.ofString "/").length = 1 := rfl
      rw [e1]; omega
    refine op_addS (by
      have := sizeLine_eq
      have e0 : (Str.ofString "").length = 0 := rfl
      omega) fun _ => ?_
    have e0 : (Str.ofString "" ++ Txt.join "/" (normL (Txt.split x "/"))) = Txt.join "/" (normL (Txt.split x "/")) := Str.empty_append _
    rw [e0]
    repeat walk_at "ev"
    refine tt_str (Nat.le_trans hjl (Nat.le_of_ble_eq_true rfl)) ?_
    unfold normJ
    refine ⟨fun h => ?_, fun h => ?_⟩
    · rw [if_neg (by simpa using h)]
      exact ⟨((l1.trans l2).trans l3).trans l4, rfl, _, rfl⟩
    · rw [if_pos (by simpa using h)]
      repeat walk_at "ev"
      exact ⟨((l1.trans l2).trans l3).trans l4, rfl, _, rfl⟩
end
end

end
section
open PySem PySem.Calls PySem.W PyProof.Rows
set_option maxHeartbeats 4000000
section
noncomputable section

variable {prog : Program} {w : World} {B V : View} {mu : Mu}
noncomputable def pw (x : Str) : Nat → Str
  | 0 => x
  | i + 1 => pw x i ++ x
abbrev joJ (x : Str) (ts : Tok) (V3 : View) (mu3 : Mu) (i : Nat) (m' : Loc) (V' : View) (mu' : Mu) : Prop :=
  Le V3 V' ∧ mu' = mu3 ∧ ∃ tk, LocSub [("path", .str (pw x i) tk), ("sep", .str "/" ts)] m'
theorem join_ok (G : Gb w B) {x : Str} {t1 t2 t3 : Tok} (hs : Txt.startswith x "/" = false) (he : ∀ i < 2, Txt.endswith (pw x i) "/" = true) (hn : x.length ≠ 0) (hz : x.length ≤ 1000) :
    CallOk prog w B 2 (.ref 115) ⟨[.str x t1, .str x t2, .str x t3], []⟩ V mu (PoS (pw x 2) V mu) := by
  have pl : ∀ i, (pw x i).length = (i + 1) * x.length := by
    intro i
    induction i with
    | zero => simp [pw]
    | succ i ih => rw [pw, Str.length_append, ih]; rw [Nat.add_mul (i + 1) 1]; omega
  refine enterV G (by kernel_rfl!) (by kernel_rfl!) (by kernel_rfl!) (o := tupO [.str x t2, .str x t3] 0) rfl (binds := fun a => [("a", .str x t1), ("p", .ref a)]) ?_ (fun a => by rfl) fun C a V1 hC hX l1 e1 => ?_
  · intro M A Q E s hq
    have e : bindArgs (fdAt 115) ⟨[.str x t1, .str x t2, .str x t3], []⟩ = (newTuple [.str x t2, .str x t3] >>= fun v => pure ([("a", .str x t1), ("p", v)] : Loc)) := by kernel_rfl!
    rw [e]
    exact wpAny_bind (wpAny_newObj_type (wpAny_pure hq) (by walk_at "sz"))
  refine ts_cons ?_
  repeat walk_at "ev"
  refine tr_callG hC 94 (by kernel_rfl!) (g_fspath _) (k_fspath _) ?_
  repeat walk_at "ev"
  refine tr_call (fspath_ok hC.gb) (hC.lv.le (by decide)) hC.fr ?_
  rintro v V2 mu2 ⟨rfl, l2, rfl⟩
  repeat walk_at "ev"
  refine tr_callG hC 108 (by kernel_rfl!) (g_get_sep _) (k_get_sep _) ?_
  repeat walk_at "ev"
  refine tr_call (sep_ok hC.gb) (hC.lv.le (by decide)) hC.fr ?_
  rintro v V3 mu3 ⟨⟨ts, rfl⟩, rfl, rfl⟩
  repeat walk_at "ev"
  refine ts_TryN hX ?_
  repeat walk_at "ev"
  refine iter_tuple hC.lv.hd (l2 _ _ e1) fun I o S ok st => ?_
  refine ts_forLoop hX ok st (joJ x ts V3 mu3) ⟨Le.refl _, rfl, _, rfl, rfl, trivial⟩ ?_ ?_
  · rintro i v o' m' V' mu' hi hv lV ⟨-, rfl, tk, hm⟩
    refine tr_weaken hm.sub ?_
    clear hm
    have hi2 : i < 2 := by simpa using hi
    obtain ⟨tv, rfl⟩ : ∃ tv, v = .str x tv := by
      have : i = 0 ∨ i = 1 := by omega
      rcases this with rfl | rfl
      · cases hv; exact ⟨_, rfl⟩
      · cases hv; exact ⟨_, rfl⟩
    repeat walk_at "ev"
    refine tr_callG hC 94 (by kernel_rfl!) (g_fspath _) (k_fspath _) ?_
    repeat walk_at "ev"
    refine tr_call (fspath_ok hC.gb) (hC.lv.le (by decide)) hC.fr ?_
    rintro v V4 mu4 ⟨rfl, l4, rfl⟩
    repeat walk_at "ev"
    refine tr_mStr F.slot_str_startswith F.type_str_startswith ?_
    repeat walk_at "ev"
    refine ⟨_, _, rfl, ?_⟩
    repeat walk_at "ev"
    refine c_starts ?_
    repeat walk_at "ev"
    rw [hs]
    refine onF ?_
    repeat walk_at "ev"
    have pz : (pw x i).length ≤ 3000 := by
      rw [pl]
      have : (i + 1) * x.length ≤ 2 * 1000 := Nat.mul_le_mul (by omega) hz
      omega
    refine tt_str (by have := sizeLine_eq; omega) ?_
    have hp0 : (((pw x i).length : Int) != 0) = true := by
      rw [bne_iff_ne, pl]
      have : 1 * 1 ≤ (i + 1) * x.length := Nat.mul_le_mul (by omega) (by omega)
      omega
    rw [hp0]
    refine onF ?_
    repeat walk_at "ev"
    refine onF ?_
    repeat walk_at "ev"
    refine tr_mStr F.slot_str_endswith F.type_str_endswith ?_
    repeat walk_at "ev"
    refine ⟨_, _, rfl, ?_⟩
    repeat walk_at "ev"
    refine c_ends ?_
    repeat walk_at "ev"
    rw [he i hi2]
    refine onT ?_
    repeat walk_at "ev"
    refine ip_addS (by have := sizeLine_eq; omega) fun _ => ?_
    repeat walk_at "ev"
    refine ts_nil ?_
    refine ts_nil ?_
    refine ts_nil ?_
    exact ⟨_, rfl, l4, lV.trans l4, rfl, _, rfl, rfl, trivial⟩
  · rintro m' V' mu' lV ⟨-, rfl, tk, hm⟩
    refine ts_weaken hm ?_
    refine ts_nil ?_
    refine ts_nil ?_
    refine ts_nil ?_
    repeat walk_at "ev"
    exact ⟨(l1.trans l2).trans lV, rfl, _, rfl⟩
end
end

end
section
open PySem PySem.Calls PySem.W PyProof.Rows
section
noncomputable section

variable {prog : Program} {w : World} {B V : View} {mu : Mu}
noncomputable def nestD : Arguments × List Stmt × Scope := match ((bodyAt 208)[1]? : Option Stmt) with
  | some (.FunctionDef _ p b _ _ _ sc _ _ _) => (p, b, sc)
  | _ => default
noncomputable def nestPos : Pos := match ((bodyAt 208)[1]? : Option Stmt) with
  | some (.FunctionDef _ p b _ _ _ sc _ _ ps) => ps
  | _ => default
noncomputable def rdQ : Str := "_law_stream.<locals>._law_read"
noncomputable def rdFd (clos : List (Str × Addr)) (doc pm : Value) (c' : Addr) (ctv : Value) : FuncData := fnX "_law_read" rdQ nestD.1 nestD.2.1 nestD.2.2 clos .none .none doc pm none (.ref c') ctv

theorem picked_le {b : Array UInt8} {i k : Int} (hi : 0 ≤ i) (hk : 0 ≤ k) : (KBy.picked b (some i) (some (i + k))).toList = (b.toList.drop i.toNat).take k.toNat := by
  obtain ⟨i, rfl⟩ := Int.eq_ofNat_of_zero_le hi
  obtain ⟨k, rfl⟩ := Int.eq_ofNat_of_zero_le hk
  rw [KBc.picked_eq]
  have e : ((i : Int) + (k : Int)) = ((i + k : Nat) : Int) := by omega
  rw [e]
  simp only [Option.elim, clipAt_nat]
  rw [List.toList_toArray]
  simp only [Int.toNat_natCast]
  by_cases h : i ≤ b.size
  · rw [Nat.min_eq_left h]
    by_cases h2 : i + k ≤ b.size
    · rw [Nat.min_eq_left h2]; congr 1; omega
    · rw [Nat.min_eq_right (by omega)]
      rw [List.take_of_length_le (by simp), List.take_of_length_le (by simp; omega)]
  · rw [Nat.min_eq_right (by omega : b.size ≤ i), Nat.min_eq_right (by omega)]
    rw [List.drop_eq_nil_of_le (by simp), List.drop_eq_nil_of_le (by simp; omega)]; simp

noncomputable def rdNames : List (Str × NameKind) := [("count", NameKind.local), ("piece", NameKind.local), ("at", NameKind.free), ("octets", NameKind.free), ("len", NameKind.globalImplicit)]
theorem read_ok (G : Gb w B) {oc : Array UInt8} {to t tk : Tok} {i k : Int} {atl f c1 c2 c' : Addr} {doc pm ctv : Value} {n : Nat} {clos : List (Str × Addr)} {muF : Value → Nat → Mu}
    (hf : V f = some (fnO (rdFd clos doc pm c' ctv))) (hc : CodeV V c' rdQ) (h1 : clos.lookup ("octets" : Str) = some c1) (h2 : clos.lookup ("at" : Str) = some c2) (e1 : V c1 = some (cellO (.bytes oc to))) (e2 : V c2 = some (cellO (.ref atl)))
    (hu : ∀ v n', Upd atl (listO [.int i t] n) (listO [v] n') mu (muF v n')) (hi : 0 ≤ i) (hk : 0 ≤ k) (hz : oc.size ≤ 10000) (hi2 : i ≤ 10000) (hk2 : k ≤ 10000) :
    CallOk prog w B 1 (.ref f) ⟨[.int k tk], []⟩ V mu (fun v V' mu' => Le V V' ∧ (∃ tk, v = .bytes (KBy.picked oc (some i) (some (i + k))) tk) ∧ ∃ tk n', mu' = muF (.int (i + (KBy.picked oc (some i) (some (i + k))).size) tk) n') := by
  refine enterG G (fun h F H => H.sub _ _ hf) (by kernel_rfl!) (fun h F H => hc.rec H) (Binds.pure (binds := [("count", .int k tk)]) (by kernel_rfl!)) fun C L hC hX hcells _ _ _ => ?_
  have hscope : (rdFd clos doc pm c' ctv).scope.names = rdNames := by kernel_rfl!
  refine ⟨[("count", .int k tk)], mu, ?_, ?_⟩
  · rw [hscope]
    refine .loc (by kernel_rfl!) .nil
  · have hcl : C.env.cells = clos := by rw [hcells, hscope]; rfl
    have h1' : C.env.cells.lookup ("octets" : Str) = some c1 := by rw [hcl]; exact h1
    have h2' : C.env.cells.lookup ("at" : Str) = some c2 := by rw [hcl]; exact h2
    have ha : (atl, listO [.int i t] n) ∈ mu := (hu .none 0).mem
    refine ts_cons ?_
    repeat walk_at "ev"
    refine sub_list (.inr ha) (Int.le_refl 0) (by decide) rfl ?_
    repeat walk_at "ev"
    refine sub_list (.inr ha) (Int.le_refl 0) (by decide) rfl ?_
    repeat walk_at "ev"
    rintro a V1 l1 es
    refine sub_sliceB es (.int _ _) (.int _ _) (Nat.le_trans hz (Nat.le_of_ble_eq_true rfl)) fun tp => ?_
    repeat walk_at "ev"
    refine ts_AugSub ?_
    refine tr_free (by assumption) (by kernel_rfl!) h2' (.inl (l1 _ _ e2)) ?_
    repeat walk_at "ev"
    refine gi_list (.inr ha) (Int.le_refl 0) (by decide) rfl ?_
    refine tr_callB hC "len" (by kernel_rfl!) (n_len _) b_len ?_
    repeat walk_at "ev"
    have hp := KBc.size_picked_le oc (some i) (some (i + k))
    refine c_lenB (by omega) fun tl => ?_
    refine ip_add fun ta => ?_
    refine tr_setItemL (mu' := fun n' => muF (.int (i + (KBy.picked oc (some i) (some (i + k))).size) ta) n') (fun n' => hu _ n') (Int.le_refl 0) (by decide) (by simp) fun n' => ?_
    repeat walk_at "ev"
    exact ⟨l1, ⟨_, rfl⟩, _, _, rfl⟩
theorem init_ok (G : Gb w B) {x dx : Addr} {v : Value} :
    CallOk prog w B 1 (.ref 164) ⟨[.ref x, v], []⟩ V ((x, instObj 167 dx) :: (dx, emptyDict) :: mu) (fun r V' mu' => r = .none ∧ V' = V ∧ ∃ hsh tk, mu' = (x, instObj 167 dx) :: (dx, dictOf [⟨hsh, .str "value" tk, v⟩] 1) :: mu) := by
  refine enter G (by kernel_rfl!) (by kernel_rfl!) (by kernel_rfl!) (Binds.pure (binds := [("self", .ref x), ("value", v)]) (by rfl)) (by rfl) fun C hC hX => ?_
  refine ts_cons ?_
  refine ts_AssignAttr ?_
  repeat walk_at "ev"
  refine tr_setAttr (es := []) (nn := 0) hC (Cl := 167) (dx := dx) (mu' := fun o' => (x, instObj 167 dx) :: (dx, o') :: mu) (.inr (by walk_at "mem")) (fun o' => .tail .head) (by kernel_rfl!) (by kernel_rfl!) (by kernel_rfl!) (by kernel_rfl!) (by rfl) (fun hsh tk => Nat.le_trans (putL_len ..) (by simp)) fun hsh tk => ?_
  refine ts_nil ?_
  exact ⟨rfl, rfl, hsh, tk, rfl⟩

/-- a tape as _law_stream gives it: its object, what it reads, where it stands -/
noncomputable def Tape (V : View) (tape : Addr) (oc : Array UInt8) (atl : Addr) : Prop :=
  ∃ dx od f clos c1 c2 c' doc pm ctv to, V tape = some (instObj 167 dx) ∧ V dx = some od ∧ lookIn "read" od = some (some (.ref f)) ∧ V f = some (fnO (rdFd clos doc pm c' ctv)) ∧ CodeV V c' rdQ ∧
    clos.lookup ("octets" : Str) = some c1 ∧ clos.lookup ("at" : Str) = some c2 ∧ V c1 = some (cellO (.bytes oc to)) ∧ V c2 = some (cellO (.ref atl))
theorem Tape.mono {V V' : View} {tape atl : Addr} {oc : Array UInt8} (h : Tape V tape oc atl) (l : Le V V') : Tape V' tape oc atl := by
  obtain ⟨dx, od, f, clos, c1, c2, c', doc, pm, ctv, to, q1, q2, q3, q4, q5, q6, q7, q8, q9⟩ := h
  exact ⟨dx, od, f, clos, c1, c2, c', doc, pm, ctv, to, l _ _ q1, l _ _ q2, q3, l _ _ q4, q5.mono l, q6, q7, l _ _ q8, l _ _ q9⟩

theorem stream_ok (G : Gb w B) {oc : Array UInt8} {to : Tok} {atl : Addr} {ps : Array Value} (ht : TabOk nestPos rdQ V ps) :
    CallOk prog w B 3 (.ref 208) ⟨[.bytes oc to, .ref atl], []⟩ V ((203, tabObj ps) :: mu) (fun v V' mu' => Le V V' ∧ (∃ ps', mu' = (203, tabObj ps') :: mu ∧ TabOk nestPos rdQ V' ps') ∧ ∃ tape, v = .ref tape ∧ Tape V' tape oc atl) := by
  refine enterC G (by kernel_rfl!) (by kernel_rfl!) (by kernel_rfl!) (Binds.pure (binds := [("octets", .bytes oc to), ("at", .ref atl)]) (by rfl)) fun C L hC hX hcells hcode hqual _ => ?_
  have hcl : C.env.cells = ([("at", L + 2), ("octets", L + 1)] : List (Str × Addr)) := hcells.trans (by kernel_rfl!)
  have hmu : cellMu (L + 1) (fdAt 208).scope.names ((203, tabObj ps) :: mu) = (L + 2, cellN) :: (L + 1, cellN) :: (203, tabObj ps) :: mu := by kernel_rfl!
  refine ⟨[], (L + 2, cellO (.ref atl)) :: (L + 1, cellO (.bytes oc to)) :: (203, tabObj ps) :: mu, ?_, ?_⟩
  · rw [hmu]
    refine .cell (c := L + 1) (by kernel_rfl!) (by kernel_rfl!) (.tail .head) (.cell (c := L + 2) (by kernel_rfl!) (by kernel_rfl!) .head .nil)
  · refine ts_freeze fun V1 l1 e1 => ?_
    refine ts_freeze fun V2 l2 e2 => ?_
    have ht2 := (ht.mono l1).mono l2
    have h1' : C.env.cells.lookup ("octets" : Str) = some (L + 1) := by rw [hcl]; rfl
    refine ts_cons ?_
    repeat walk_at "ev"
    refine tr_callC hC 167 (by kernel_rfl!) (g_Example _) (by kernel_rfl!) ?_
    repeat walk_at "ev"
    refine tr_make (k := 1) (Post := fun x dx V' mu' => V' = V2 ∧ ∃ hsh tk, mu' = (x, instObj 167 dx) :: (dx, dictOf [⟨hsh, .str "value" tk, .bytes oc to⟩] 1) :: (203, tabObj ps) :: mu) hC (by kernel_rfl!) (by kernel_rfl!) (by kernel_rfl!) (by decide) (fun x dx => init_ok hC.gb) ?_
    rintro x dx V3 mu3 ⟨rfl, hsh, tk, rfl⟩
    repeat walk_at "ev"
    refine ts_perm (mu' := (203, tabObj ps) :: (dx, dictOf [⟨hsh, .str "value" tk, .bytes oc to⟩] 1) :: (x, instObj 167 dx) :: mu) perm_cba ?_
    refine ts_nest (q := rdQ) (c := 207) hC (by
      have hk : C.env.kindOf "_law_read" = some .local := hC.kindOf (by kernel_rfl!)
      unfold qualnameIn
      rw [hk, hqual]
      kernel_rfl!) (hcode.trans (by kernel_rfl!)) (by kernel_rfl!) (clos := [("octets", L + 1), ("at", L + 2)]) (closureFor_of (by rw [hcl]; kernel_rfl!)) ht2 rfl rfl rfl ?_
    intro f c' ctv doc pm V4 ps' l4 ht4 hc4 ef
    repeat walk_at "ev"
    refine ts_AssignAttr ?_
    repeat walk_at "ev"
    refine tr_setAttr hC (Cl := 167) (dx := dx) (mu' := fun o' => (203, tabObj ps') :: (dx, o') :: (x, instObj 167 dx) :: mu) (.inr (by walk_at "mem")) (fun o' => .tail .head) (by kernel_rfl!) (by kernel_rfl!) (by kernel_rfl!) (by kernel_rfl!) (by rfl) (fun hsh tk => Nat.le_trans (putL_len ..) (by simp)) fun hsh2 tk2 => ?_
    refine ts_perm (mu' := (dx, _) :: (x, instObj 167 dx) :: (203, tabObj ps') :: mu) perm_bca ?_
    refine ts_freeze fun V5 l5 e5 => ?_
    refine ts_freeze fun V6 l6 e6 => ?_
    repeat walk_at "ev"
    have l36 : Le V3 V6 := (l4.trans l5).trans l6
    have l46 : Le V4 V6 := l5.trans l6
    refine ⟨(l1.trans l2).trans l36, ⟨_, rfl, ht4.mono l46⟩, _, rfl, dx, _, f, _, L + 1, L + 2, c', doc, pm, ctv, to, e6, l6 _ _ e5, lookIn_put, l46 _ _ ef, hc4.mono l46, by rfl, by rfl, l36 _ _ e2, l36 _ _ (l2 _ _ e1)⟩
end
end

end
section
open PySem PySem.Calls PySem.W PyProof.Rows
section
noncomputable section

variable {prog : Program} {w : World} {B V : View} {mu : Mu}
noncomputable def endW : Str := "not enough data in stream to read uint1"
theorem Upd.app {a : Addr} {o o' : Obj} {post : Mu} : ∀ pre : Mu, Upd a o o' (pre ++ (a, o) :: post) (pre ++ (a, o') :: post)
  | [] => .head
  | _ :: pre => .tail (Upd.app pre)
theorem uint1_ok (G : Gb w B) {oc : Array UInt8} {tape atl : Addr} {t : Tok} {i n : Nat} {pre post : Mu} (hT : Tape V tape oc atl) (hz : oc.size ≤ 10000) (hi : i ≤ oc.size) :
    CallX prog w B 2 (.ref 136) ⟨[.ref tape], []⟩ V (pre ++ (atl, listO [.int (i : Int) t] n) :: post) (fun v V' mu' => Le V V' ∧ ∃ b tk t' n', oc.toList[i]? = some b ∧ v = .int (b.toNat : Int) tk ∧ mu' = pre ++ (atl, listO [.int ((i + 1 : Nat) : Int) t'] n') :: post)
      (fun x V' mu' => x = endW ∧ Le V V' ∧ i = oc.size ∧ ∃ t' n', mu' = pre ++ (atl, listO [.int (i : Int) t'] n') :: post) := by
  obtain ⟨dx, od, f, clos, c1, c2, c', doc, pm, ctv, to, q1, q2, q3, q4, q5, q6, q7, q8, q9⟩ := hT
  refine enterX G (by kernel_rfl!) (by kernel_rfl!) (by kernel_rfl!) (Binds.pure (binds := [("f", .ref tape)]) (by rfl)) (by rfl) fun C hC hX => ?_
  refine ts_cons ?_
  repeat walk_at "ev"
  refine tr_callI hC (Cl := 167) (by kernel_rfl!) (by kernel_rfl!) (by kernel_rfl!) (by kernel_rfl!) ?_
  repeat walk_at "ev"
  refine ⟨tape, dx, od, f, _, rfl, .inl q1, .inl q2, q3, q4, ?_⟩
  repeat walk_at "ev"
  refine ⟨q4, ?_⟩
  refine tr_call (read_ok (muF := fun v n' => pre ++ (atl, listO [v] n') :: post) hC.gb q4 q5 q6 q7 q8 q9 (fun _ _ => Upd.app pre) (by omega) (by decide) hz (by omega) (by decide)) (hC.lv.le (by decide)) hC.fr ?_
  rintro v V1 mu1 ⟨l1, ⟨tb, rfl⟩, ta, n', rfl⟩
  have hp := picked_le (b := oc) (i := (i : Int)) (k := 1) (by omega) (by decide)
  have hps := KBc.size_picked_le oc (some (i : Int)) (some ((i : Int) + 1))
  repeat walk_at "ev"
  have hzz : (KBy.picked oc (some (i : Int)) (some ((i : Int) + 1))).size ≤ sizeLine := Nat.le_trans (Nat.le_trans hps hz) (Nat.le_of_ble_eq_true rfl)
  refine tt_bytes hzz ?_
  by_cases hlt : i < oc.size
  · obtain ⟨b, hb⟩ : ∃ b, oc.toList[i]? = some b := ⟨_, List.getElem?_eq_getElem (by simpa using hlt)⟩
    have hpk : KBy.picked oc (some (i : Int)) (some ((i : Int) + 1)) = [b].toArray := by
      rw [← Array.toList_inj, hp]
      obtain ⟨h1, h2⟩ := List.getElem?_eq_some_iff.mp hb
      simp only [Int.toNat_natCast]
      rw [List.drop_eq_getElem_cons h1, h2]
      rfl
    rw [hpk]
    refine onT ?_
    repeat walk_at "ev"
    refine sub_bytes (by simp) (Int.le_refl 0) (by simp) fun tk => ?_
    exact ⟨l1, b, tk, ta, n', hb, rfl, rfl⟩
  · have hi' : i = oc.size := by omega
    have hpk : KBy.picked oc (some (i : Int)) (some ((i : Int) + 1)) = [].toArray := by
      rw [← Array.toList_inj, hp]
      rw [List.drop_eq_nil_of_le (by simp; omega)]
      rfl
    rw [hpk]
    refine onF ?_
    refine ts_nil ?_
    refine ts_cons ?_
    refine ts_RaiseVE hC (by kernel_rfl!) (n_ValueError _) fun e s ho => hX e _ _ _ _ s ho ⟨rfl, l1, hi', ta, n', by simp⟩

theorem bytes1_ok (G : Gb w B) {oc : Array UInt8} {tape atl : Addr} {t : Tok} {i n : Nat} {pre post : Mu} (hT : Tape V tape oc atl) (hz : oc.size ≤ 5000) (hi : i ≤ oc.size) (hfit : ∀ b, oc.toList[i]? = some b → i + 1 + b.toNat ≤ oc.size) :
    CallX prog w B 3 (.ref 150) ⟨[.ref tape], []⟩ V (pre ++ (atl, listO [.int (i : Int) t] n) :: post) (fun v V' mu' => Le V V' ∧ ∃ b tk t' n', oc.toList[i]? = some b ∧ v = .bytes ((oc.toList.drop (i + 1)).take b.toNat).toArray tk ∧ mu' = pre ++ (atl, listO [.int ((i + 1 + b.toNat : Nat) : Int) t'] n') :: post)
      (fun x V' mu' => x = endW ∧ Le V V' ∧ i = oc.size ∧ ∃ t' n', mu' = pre ++ (atl, listO [.int (i : Int) t'] n') :: post) := by
  refine enterX G (by kernel_rfl!) (by kernel_rfl!) (by kernel_rfl!) (Binds.pure (binds := [("f", .ref tape)]) (by rfl)) (by rfl) fun C hC hX => ?_
  refine ts_cons ?_
  repeat walk_at "ev"
  refine tr_callG hC 136 (by kernel_rfl!) (g_read_uint1 _) (k_read_uint1 _) ?_
  repeat walk_at "ev"
  refine tr_callX (uint1_ok hC.gb hT (by omega) hi) (hC.lv.le (by decide)) hC.fr ?_ (fun e x V' mu' s ho p => hX e x _ V' mu' s ho.out p)
  rintro v V1 mu1 ⟨l1, b, tk, t', n', hb, rfl, rfl⟩
  have hf := hfit b hb
  have hb256 : b.toNat < 256 := b.toNat_lt
  have hT1 := hT.mono l1
  obtain ⟨dx, od, f, clos, c1, c2, c', doc, pm, ctv, to, q1, q2, q3, q4, q5, q6, q7, q8, q9⟩ := hT1
  repeat walk_at "ev"
  refine ⟨decide_eq_true (by omega), ?_⟩
  repeat walk_at "ev"
  refine tr_callI hC (Cl := 167) (by kernel_rfl!) (by kernel_rfl!) (by kernel_rfl!) (by kernel_rfl!) ?_
  repeat walk_at "ev"
  refine ⟨tape, dx, od, f, _, rfl, .inl q1, .inl q2, q3, q4, ?_⟩
  repeat walk_at "ev"
  refine ⟨q4, ?_⟩
  refine tr_call (read_ok (muF := fun v n' => pre ++ (atl, listO [v] n') :: post) hC.gb q4 q5 q6 q7 q8 q9 (fun _ _ => Upd.app pre) (by omega) (by omega) (by omega) (by omega) (by omega)) (hC.lv.le (by decide)) hC.fr ?_
  rintro v V2 mu2 ⟨l2, ⟨tb, rfl⟩, ta, n2, rfl⟩
  have hpk : KBy.picked oc (some ((i + 1 : Nat) : Int)) (some (((i + 1 : Nat) : Int) + (b.toNat : Int))) = ((oc.toList.drop (i + 1)).take b.toNat).toArray := by
    rw [← Array.toList_inj, picked_le (by omega) (by omega)]
    rfl
  rw [hpk]
  have hlen : ((oc.toList.drop (i + 1)).take b.toNat).toArray.size = b.toNat := by
    rw [List.size_toArray, List.length_take, List.length_drop, Array.length_toList]; omega
  rw [hlen]
  repeat walk_at "ev"
  refine tr_callB hC "len" (by kernel_rfl!) (n_len _) b_len ?_
  repeat walk_at "ev"
  refine c_lenB (by rw [hlen]; omega) fun tl => ?_
  rw [hlen]
  repeat walk_at "ev"
  rw [beq_self_eq_true]
  refine onT ?_
  repeat walk_at "ev"
  exact ⟨l1.trans l2, b, tb, ta, n2, hb, rfl, rfl⟩
end
end

end
section
open PySem PySem.Calls PySem.W PyProof.Rows
section
noncomputable section
local macro_rules | `(tactic| walk_at "ev") => `(tactic| first
  | ((with_reducible show Tr _ _ _ _ (compareOp CmpOp.Is _ _) _); refine op_is (by rfl) (by first | exact (rfl : _ = true) | exact (rfl : _ = false)) ?_)
  | ((with_reducible show Tr _ _ _ _ (compareOp CmpOp.IsNot _ _) _); refine op_isNot (by rfl) (by first | exact (rfl : _ = true) | exact (rfl : _ = false)) ?_))

variable {prog : Program} {w : World} {B V : View} {mu : Mu}
theorem buffer_ok (G : Gb w B) {b : Array UInt8} {t : Tok} : CallOk prog w B 1 (.ref 178) ⟨[.bytes b t], []⟩ V mu (fun v V' mu' => V' = V ∧ mu' = mu ∧ v = .bytes b t) := by
  refine enter G (by kernel_rfl!) (by kernel_rfl!) (by kernel_rfl!) (Binds.pure (binds := [("data", .bytes b t)]) (by rfl)) (by rfl) fun C hC hX => ?_
  refine ts_cons ?_
  repeat walk_at "ev"
  refine tr_callT hC "type" (by kernel_rfl!) (n_type _) boot_type ?_
  repeat walk_at "ev"
  refine c_typeB ?_
  repeat walk_at "ev"
  refine tr_blt hC (by kernel_rfl!) (n_bytes _) boot_bytes ?_
  repeat walk_at "ev"
  refine onT ?_
  repeat walk_at "ev"
  exact ⟨rfl, rfl, rfl⟩
theorem truth_ok (G : Gb w B) {b : Bool} : CallOk prog w B 1 (.ref 185) ⟨[.bool b], []⟩ V mu (fun v V' mu' => V' = V ∧ mu' = mu ∧ v = .bool b) := by
  refine enter G (by kernel_rfl!) (by kernel_rfl!) (by kernel_rfl!) (Binds.pure (binds := [("x", .bool b)]) (by rfl)) (by rfl) fun C hC hX => ?_
  refine ts_cons ?_
  repeat walk_at "ev"
  refine tr_callT hC "type" (by kernel_rfl!) (n_type _) boot_type ?_
  repeat walk_at "ev"
  refine c_typeBool ?_
  repeat walk_at "ev"
  refine onF ?_
  repeat walk_at "ev"
  refine tr_blt hC (by kernel_rfl!) (by kernel_rfl!) (v := .type "bool") (by kernel_rfl!) ?_
  repeat walk_at "ev"
  refine onT ?_
  refine onT ?_
  repeat walk_at "ev"
  refine ⟨fun h => ?_, fun h => ?_⟩
  · subst h; repeat walk_at "ev"
    exact ⟨rfl, rfl, rfl⟩
  · subst h; repeat walk_at "ev"
    exact ⟨rfl, rfl, rfl⟩

noncomputable def b64L : List Nat := [65,66,67,68,69,70,71,72,73,74,75,76,77,78,79,80,81,82,83,84,85,86,87,88,89,90,97,98,99,100,101,102,103,104,105,106,107,108,109,110,111,112,113,114,115,116,117,118,119,120,121,122,48,49,50,51,52,53,54,55,56,57,43,47]
noncomputable def b64B : List UInt8 := b64L.map fun n => n.toUInt8
noncomputable def b64tok (P : Params) : Tok := match gmap P "_B64" with
  | some (.bytes _ t) => t
  | _ => 0
theorem g_B64 (P : Params) : gmap P "_B64" = some (.bytes b64B.toArray (b64tok P)) := by kernel_rfl!
/-- the k-th figure to the base 64 of a row of octets -/
noncomputable def d64 (bs : List Nat) (k : Nat) : Nat :=
  let q := k / 4 * 3
  if k % 4 = 0 then bs.getD q 0 / 4
  else if k % 4 = 1 then bs.getD q 0 % 4 * 16 + bs.getD (q + 1) 0 / 16
  else if k % 4 = 2 then bs.getD (q + 1) 0 % 16 * 4 + bs.getD (q + 2) 0 / 64
  else bs.getD (q + 2) 0 % 64
noncomputable def enc (bs : List Nat) (n : Nat) : List Int := (List.range n).map fun k => (b64L.getD (d64 bs k) 0 : Int)
theorem enc_succ (bs : List Nat) (n : Nat) : enc bs (n + 1) = enc bs n ++ [(b64L.getD (d64 bs n) 0 : Int)] := by
  unfold enc; rw [List.range_succ, List.map_append]; rfl
/-- the bits that are left, and the figures given, behind i octets -/
noncomputable def lbits (i : Nat) : Nat := i % 3 * 2
noncomputable def figs (i : Nat) : Nat := i / 3 * 4 + i % 3
/-- what the row of bits holds -/
noncomputable def lch (bs : List Nat) : Nat → Nat
  | 0 => 0
  | i + 1 => (lch bs i * 256 + bs.getD i 0) % 65536
theorem lch_lt (bs : List Nat) (i : Nat) : lch bs i < 65536 := by
  cases i with
  | zero => show 0 < 65536; decide
  | succ i => exact Nat.mod_lt _ (by decide)
theorem lch_low (bs : List Nat) (i : Nat) (h : bs.getD i 0 < 256) : lch bs (i + 1) % 256 = bs.getD i 0 := by
  unfold lch; omega
/-- a figure as the loop takes it -/
theorem fig_at (bs : List Nat) (hb : ∀ j, bs.getD j 0 < 256) (i k : Nat) (h1 : 1 ≤ k) (h2 : 6 * k ≤ lbits i + 8) :
    lch bs (i + 1) / 2 ^ (lbits (i + 1) + 6 * (k - 1)) % 64 = d64 bs (figs (i + 1) - k) := by
  have hl := lch_low bs i (hb i)
  have hb0 := hb i
  have key : ∀ j, i = j + 1 → lch bs (i + 1) % 65536 = bs.getD j 0 * 256 + bs.getD i 0 := fun j e => by
    subst e
    have h3 := lch_low bs j (hb j)
    have h4 := hb j
    show (lch bs (j + 1) * 256 + bs.getD (j + 1) 0) % 65536 % 65536 = _
    omega
  have hlt := lch_lt bs (i + 1)
  have e3 : i % 3 = 0 ∨ i % 3 = 1 ∨ i % 3 = 2 := by omega
  generalize lch bs (i + 1) = L at hl key hlt
  rcases e3 with e | e | e
  · have k1 : k = 1 := by unfold lbits at h2; omega
    subst k1
    have e1 : lbits (i + 1) = 2 := by unfold lbits; omega
    have e2 : figs (i + 1) - 1 = i / 3 * 4 := by unfold figs; omega
    rw [e1, e2]
    unfold d64
    have e4 : i / 3 * 4 % 4 = 0 := by omega
    have e5 : i / 3 * 4 / 4 * 3 = i := by omega
    simp only [e4, e5, if_true]
    show L / 4 % 64 = _
    omega
  · have k1 : k = 1 := by unfold lbits at h2; omega
    subst k1
    have e1 : lbits (i + 1) = 4 := by unfold lbits; omega
    have e2 : figs (i + 1) - 1 = i / 3 * 4 + 1 := by unfold figs; omega
    rw [e1, e2]
    unfold d64
    have e4 : (i / 3 * 4 + 1) % 4 = 1 := by omega
    have e5 : (i / 3 * 4 + 1) / 4 * 3 = i - 1 := by omega
    have e6 : i - 1 + 1 = i := by omega
    simp only [e4, e5, e6, if_true]
    have := key (i - 1) (by omega)
    have h4 := hb (i - 1)
    rw [if_neg (by decide)]
    show L / 16 % 64 = _
    omega
  · have k1 : k = 1 ∨ k = 2 := by unfold lbits at h2; omega
    have e1 : lbits (i + 1) = 0 := by unfold lbits; omega
    have := key (i - 1) (by omega)
    have h4 := hb (i - 1)
    rcases k1 with rfl | rfl
    · have e2 : figs (i + 1) - 1 = i / 3 * 4 + 3 := by unfold figs; omega
      rw [e1, e2]
      unfold d64
      have e4 : (i / 3 * 4 + 3) % 4 = 3 := by omega
      have e5 : (i / 3 * 4 + 3) / 4 * 3 + 2 = i := by omega
      simp only [e4, e5]
      rw [if_neg (by decide), if_neg (by decide), if_neg (by decide)]
      show L / 1 % 64 = _
      omega
    · have e2 : figs (i + 1) - 2 = i / 3 * 4 + 2 := by unfold figs; omega
      rw [e1, e2]
      unfold d64
      have e4 : (i / 3 * 4 + 2) % 4 = 2 := by omega
      have e5 : (i / 3 * 4 + 2) / 4 * 3 + 1 = i - 1 := by omega
      have e6 : (i / 3 * 4 + 2) / 4 * 3 + 2 = i := by omega
      simp only [e4, e5, e6]
      rw [if_neg (by decide), if_neg (by decide), if_pos trivial]
      show L / 64 % 64 = _
      omega
theorem d64_lt (bs : List Nat) (hb : ∀ j, bs.getD j 0 < 256) (k : Nat) : d64 bs k < 64 := by
  unfold d64
  have h0 := hb (k / 4 * 3)
  have h1 := hb (k / 4 * 3 + 1)
  have h2 := hb (k / 4 * 3 + 2)
  dsimp only
  split
  · omega
  · split
    · omega
    · split <;> omega

theorem enc_rng (bs : List Nat) (n : Nat) : ∀ x ∈ enc bs n, 0 ≤ x ∧ x < 256 := by
  intro x hx
  obtain ⟨k, _, rfl⟩ := List.mem_map.mp hx
  have h : ∀ i : Nat, b64L.getD i 0 < 256 := by
    intro i
    rw [List.getD_eq_getElem?_getD]
    by_cases hi : i < b64L.length
    · rw [List.getElem?_eq_getElem hi]
      exact (show ∀ y ∈ b64L, y < 256 by decide) _ (List.getElem_mem hi)
    · rw [List.getElem?_eq_none (by omega)]; decide
  have := h (d64 bs k)
  omega
theorem b64_item {i : Nat} (h : i < 64) : (((b64B.getD i 0).toNat : Nat) : Int) = (b64L.getD i 0 : Int) := by
  have : ∀ i : Fin 64, (((b64B.getD i.1 0).toNat : Nat) : Int) = (b64L.getD i.1 0 : Int) := by decide +kernel
  exact this ⟨i, h⟩
abbrev baJ (bs : List Nat) (ol : Addr) (V1 : View) (mu1 : Mu) (i : Nat) (m' : Loc) (V' : View) (mu' : Mu) : Prop :=
  V' = V1 ∧ (∃ t1 t2, LocSub [("leftbits", .int (lbits i : Int) t1), ("leftchar", .int (lch bs i : Int) t2), ("newline", .bool false), ("out", .ref ol)] m') ∧
    ∃ ws n, mu' = (ol, listO ws n) :: mu1 ∧ IntsAre ws (enc bs (figs i))
abbrev baW (bs : List Nat) (ol I : Addr) (o' : Obj) (mu1 : Mu) (i kk : Nat) (V' : View) (k : Nat) (m : Loc) (V : View) (mu : Mu) : Prop :=
  V = V' ∧ k ≤ kk ∧ (∃ t1 t2, LocSub [("leftbits", .int ((lbits (i + 1) + 6 * k : Nat) : Int) t1), ("leftchar", .int (lch bs (i + 1) : Int) t2), ("newline", .bool false), ("out", .ref ol)] m) ∧
      ∃ ws n, mu = (I, o') :: (ol, listO ws n) :: mu1 ∧ IntsAre ws (enc bs (figs (i + 1) - k))
theorem b2a_ok (G : Gb w B) {b : Array UInt8} {t : Tok} (hz : b.size ≤ 300) (h3 : b.size % 3 = 0) : CallOk prog w B 2 (.ref 193) ⟨[.bytes b t], [("newline", .bool false)]⟩ V mu (PoB (byteArr (enc (b.toList.map fun c => c.toNat) (figs b.size))) V mu) := by
  refine enter G (by kernel_rfl!) (by kernel_rfl!) (by kernel_rfl!) (Binds.pure (binds := [("data", .bytes b t), ("newline", .bool false)]) (by kernel_rfl!)) (by rfl) fun C hC hX => ?_
  generalize hbs : (b.toList.map fun c => c.toNat) = bs
  have hb : ∀ j, bs.getD j 0 < 256 := by
    intro j
    rw [← hbs, List.getD_eq_getElem?_getD, List.getElem?_map]
    cases b.toList[j]? with
    | none => decide
    | some c => exact c.toNat_lt
  refine ts_cons ?_
  repeat walk_at "ev"
  refine tr_callG hC 178 (by kernel_rfl!) (g_buffer _) (k_buffer _) ?_
  repeat walk_at "ev"
  refine tr_call (buffer_ok hC.gb) (hC.lv.le (by decide)) hC.fr ?_
  rintro v V1 mu1 ⟨rfl, rfl, rfl⟩
  repeat walk_at "ev"
  refine tr_callG hC 185 (by kernel_rfl!) (g_truth _) (k_truth _) ?_
  repeat walk_at "ev"
  refine tr_call (truth_ok hC.gb) (hC.lv.le (by decide)) hC.fr ?_
  rintro v V1 mu1 ⟨rfl, rfl, rfl⟩
  repeat walk_at "ev"
  refine tr_newListMu (by walk_at "sz") fun ol => ?_
  repeat walk_at "ev"
  refine iter_bytes hC.lv.hd fun I o S ok st => ?_
  refine ts_forLoop hX ok st (baJ bs ol V1 mu1) ⟨rfl, ⟨_, _, rfl, rfl, rfl, rfl, trivial⟩, _, _, rfl, .nil⟩ ?_ ?_
  · rintro i v o' m' V' mu' hi ⟨c, u, hc, rfl⟩ lV ⟨rfl, ⟨t1, t2, hm⟩, ws, n', rfl, hr⟩
    have hci : bs.getD i 0 = c.toNat := by
      rw [← hbs, List.getD_eq_getElem?_getD, List.getElem?_map]
      have : b.toList[i]? = some c := by simpa using hc
      rw [this]; rfl
    have hc256 := c.toNat_lt
    have hlt := lch_lt bs i
    refine tr_weaken hm.sub ?_
    clear hm
    repeat walk_at "ev"
    refine op_shl (by decide) (by decide) (by omega) fun _ => ?_
    repeat walk_at "ev"
    refine op_or fun _ => ?_
    repeat walk_at "ev"
    refine op_and fun _ => ?_
    have e1 : Builtin.bitAnd (Builtin.bitOr ((lch bs i : Int) * 2 ^ (Int.toNat 8)) (c.toNat : Int)) 65535 = (lch bs (i + 1) : Int) := by
      rw [bitAnd_m16]
      rw [show (Int.toNat 8) = 8 from rfl, or_shift8 _ _ (by omega) (by omega)]
      have e0 : lch bs (i + 1) = (lch bs i * 256 + bs.getD i 0) % 65536 := rfl
      rw [e0, hci]
      omega
    rw [e1]
    repeat walk_at "ev"
    obtain ⟨kk, hkk⟩ : ∃ kk, kk = (lbits i + 8) / 6 := ⟨_, rfl⟩
    have hl1 : lbits i + 8 = lbits (i + 1) + 6 * kk := by unfold lbits at *; omega
    have hl2 : figs (i + 1) = figs i + kk := by unfold figs; unfold lbits at *; omega
    have hl3 : lbits (i + 1) < 6 := by unfold lbits; omega
    have hsz : figs (i + 1) ≤ 500 := by unfold figs; omega
    refine ts_While hX (baW bs ol I o' mu1 i kk V') kk ⟨rfl, Nat.le_refl _, ⟨_, _, by rw [← hl1]; rfl, rfl, rfl, rfl, trivial⟩, _, _, rfl, by rw [hl2, Nat.add_sub_cancel]; exact hr⟩ ?_
    rintro k m2 V2 mu2 ⟨rfl, hk, ⟨t3, t4, hm⟩, ws2, n2, rfl, hr2⟩
    refine tr_weaken hm.sub ?_
    clear hm
    have hwl : ws2.length ≤ 500 := by
      rw [hr2.length]; unfold enc; simp; omega
    repeat walk_at "ev"
    refine ⟨fun hge => ?_, fun hge => ?_⟩
    · have hk1 : 1 ≤ k := by
        have := of_decide_eq_true hge
        omega
      repeat walk_at "ev"
      refine tr_mList PySem.slot_list_append PySem.type_list_append ?_
      repeat walk_at "ev"
      refine ⟨_, _, _, rfl, by walk_at "known", ?_⟩
      repeat walk_at "ev"
      refine tr_glob hC (by kernel_rfl!) (g_B64 _) ?_
      repeat walk_at "ev"
      refine op_shr (by omega) fun _ => ?_
      repeat walk_at "ev"
      refine op_and fun _ => ?_
      have hdl := d64_lt bs hb (figs (i + 1) - k)
      have e5 : Builtin.bitAnd ((lch bs (i + 1) : Int).fdiv (2 ^ (((lbits (i + 1) + 6 * k : Nat) : Int) - 6).toNat)) 63 = (d64 bs (figs (i + 1) - k) : Int) := by
        rw [bitAnd_m6, ← fig_at bs hb i k hk1 (by omega)]
        have e6 : (((lbits (i + 1) + 6 * k : Nat) : Int) - 6).toNat = lbits (i + 1) + 6 * (k - 1) := by omega
        rw [e6]
        have e7 : ((2 : Int) ^ (lbits (i + 1) + 6 * (k - 1))) = ((2 ^ (lbits (i + 1) + 6 * (k - 1)) : Nat) : Int) := by push_cast; rfl
        rw [e7, Int.fdiv_eq_ediv_of_nonneg _ (Int.natCast_nonneg _)]
        push_cast
        rfl
      rw [e5]
      refine sub_bytes (by decide) (by omega) (by show _ < ((64 : Nat) : Int); omega) fun tk => ?_
      rw [Int.toNat_natCast, b64_item hdl]
      repeat walk_at "ev"
      refine c_append (fun _ => .tail .head) (Nat.le_trans hwl (Nat.le_of_ble_eq_true rfl)) fun n3 => ?_
      repeat walk_at "ev"
      have e9 : (((lbits (i + 1) + 6 * k : Nat) : Int) - 6) = ((lbits (i + 1) + 6 * (k - 1) : Nat) : Int) := by omega
      rw [e9]
      refine ts_nil ?_
      refine ⟨k - 1, by omega, rfl, by omega, ⟨_, _, rfl, rfl, rfl, rfl, trivial⟩, _, _, rfl, ?_⟩
      · have e8 : figs (i + 1) - (k - 1) = figs (i + 1) - k + 1 := by omega
        rw [e8, enc_succ]
        exact hr2.append (.cons _ _ .nil)
    · have hk0 : k = 0 := by
        have := of_decide_eq_false hge
        omega
      subst hk0
      refine ts_nil ?_
      refine ts_nil ?_
      exact ⟨_, rfl, Le.refl _, rfl, ⟨_, _, rfl, rfl, rfl, rfl, trivial⟩, _, _, rfl, hr2⟩
  · rintro m' V' mu' lV ⟨rfl, ⟨t1, t2, hm⟩, ws, n', rfl, hr⟩
    clear lV
    have hl0 : lbits b.size = 0 := by unfold lbits; omega
    rw [hl0] at hm
    have hwl : ws.length ≤ 500 := by
      rw [hr.length]; unfold enc; simp; unfold figs; omega
    refine ts_weaken hm ?_
    clear hm
    refine ts_freeze fun V4 l4 e4 => ?_
    refine ts_nil ?_
    repeat walk_at "ev"
    refine onF ?_
    repeat walk_at "ev"
    refine onF ?_
    refine ts_nil ?_
    refine ts_nil ?_
    repeat walk_at "ev"
    refine onF ?_
    refine ts_nil ?_
    repeat walk_at "ev"
    refine tr_callT hC "bytes" (by kernel_rfl!) (n_bytes _) boot_bytes ?_
    repeat walk_at "ev"
    refine c_bytesL (by walk_at "known") hr (enc_rng _ _) (Nat.le_trans hwl (Nat.le_of_ble_eq_true rfl)) hC.lv.hd fun tk => ?_
    exact ⟨l4, rfl, tk, rfl⟩
end
end

end
section
open PySem PySem.Calls PySem.W PyProof.Rows
section
noncomputable section
local macro_rules | `(tactic| walk_at "ev") => `(tactic| first
  | ((with_reducible show Tr _ _ _ _ (compareOp CmpOp.Is _ _) _); refine op_is (by rfl) (by first | exact (rfl : _ = true) | exact (rfl : _ = false)) ?_)
  | ((with_reducible show Tr _ _ _ _ (compareOp CmpOp.IsNot _ _) _); refine op_isNot (by rfl) (by first | exact (rfl : _ = true) | exact (rfl : _ = false)) ?_))

variable {prog : Program} {w : World} {B V : View} {mu : Mu}
theorem enc_len (bs : List Nat) (n : Nat) : (byteArr (enc bs n)).size = n := by rw [byteArr_size]; unfold enc; simp
noncomputable def par201 : Arguments := (fdAt 201).params
noncomputable def arg2 (a b : Str) : Arguments → Bool := fun p => p.posonlyargs.isEmpty && p.args.map (·.arg) == [a, b] && p.kwonlyargs.isEmpty && p.vararg.isNone && p.kwarg.isNone
theorem bind2 {fd : FuncData} {x y : Str} {a1 a2 : PySem.Arg} {d : List Expr} (hp : fd.params = ⟨[], [a1, a2], none, [], [], none, d⟩) (hx : a1.arg = x) (hy : a2.arg = y) (hne : (x == y) = false) (hne2 : (y == x) = false) (a b i : Value) :
    ∃ k, bindArgs fd ⟨[a, b], []⟩ = seqItems? fd.defaults >>= k ∧ k (some #[i]) = pure [(x, a), (y, b)] := by
  subst hx hy
  obtain ⟨name, qn, params, body, scope, globals, closure, defaults, kwd, doc, pm, ann, code, ct, bi⟩ := fd
  cases hp
  refine ⟨_, rfl, ?_⟩
  simp [hne, hne2, List.lookup]
theorem b64encode_ok (G : Gb w B) {b : Array UInt8} {t u : Tok} (hz : b.size ≤ 150) (h3 : b.size % 3 = 0) :
    CallOk prog w B 3 (.ref 201) ⟨[.bytes b t, .bytes #[46, 47] u], []⟩ V mu (PoB (LT.tr LT.tab (byteArr (enc (b.toList.map fun c => c.toNat) (figs b.size)))) V mu) := by
  refine enter G (by kernel_rfl!) (by kernel_rfl!) (by kernel_rfl!) (bindsD (binds := [("s", .bytes b t), ("altchars", .bytes #[46, 47] u)]) (T := 194) (items := #[.none]) (n := 0) (o := tupO [.none] 0) (G.k _ _ (by kernel_rfl!)) (by kernel_rfl!) rfl (bind2 (x := "s") (y := "altchars") (d := par201.defaults) (a1 := par201.args.getD 0 default) (a2 := par201.args.getD 1 default) (by kernel_rfl!) (by kernel_rfl!) (by kernel_rfl!) (by decide) (by decide) _ _ _)) (by rfl) fun C hC hX => ?_
  refine ts_cons ?_
  repeat walk_at "ev"
  refine tr_callKw hC 193 (by kernel_rfl!) (g_b2a_base64 _) (by kernel_rfl!) (by rfl) ?_
  repeat walk_at "ev"
  refine tr_kw1 ?_
  repeat walk_at "ev"
  refine tr_call (b2a_ok hC.gb (by omega) h3) (hC.lv.le (by decide)) hC.fr ?_
  rintro v V1 mu1 ⟨l1, rfl, tk, rfl⟩
  have hfz : figs b.size ≤ 250 := by unfold figs; omega
  repeat walk_at "ev"
  refine onT ?_
  repeat walk_at "ev"
  refine tr_callB hC "len" (by kernel_rfl!) (n_len _) b_len ?_
  repeat walk_at "ev"
  refine c_lenB (by decide) fun tl => ?_
  repeat walk_at "ev"
  refine ⟨rfl, ?_⟩
  repeat walk_at "ev"
  refine tr_mBytes LT.slot_translate LT.type_translate ?_
  repeat walk_at "ev"
  refine ⟨_, _, rfl, ?_⟩
  repeat walk_at "ev"
  refine tr_mStatic hC (T := "bytes") (id := "bytes.maketrans") (by kernel_rfl) (by decide +kernel) LT.find_maketrans (by decide +kernel) ?_
  refine tr_blt hC (by kernel_rfl!) (n_bytes _) boot_bytes ?_
  refine ⟨rfl, ?_⟩
  repeat walk_at "ev"
  refine c_maketrans fun tm => ?_
  repeat walk_at "ev"
  refine c_translate (by decide +kernel) (by rw [enc_len]; omega) fun tt => ?_
  exact ⟨l1, rfl, tt, rfl⟩

theorem string1_ok (G : Gb w B) {oc : Array UInt8} {tape atl : Addr} {t : Tok} {i n : Nat} {pre post : Mu} {b0 : UInt8} (hT : Tape V tape oc atl) (hz : oc.size ≤ 900) (hb0 : oc.toList[i]? = some b0) (hn0 : b0.toNat ≠ 0) (hfit : i + 1 + b0.toNat ≤ oc.size) :
    CallOk prog w B 3 (.ref 143) ⟨[.ref tape], []⟩ V (pre ++ (atl, listO [.int (i : Int) t] n) :: post) (fun v V' mu' => Le V V' ∧ ∃ tk t' n', v = .str ⟨(((oc.toList.drop (i + 1)).take b0.toNat).map fun c => c.toNat).toArray⟩ tk ∧ mu' = pre ++ (atl, listO [.int ((i + 1 + b0.toNat : Nat) : Int) t'] n') :: post) := by
  have hi : i ≤ oc.size := by have := (List.getElem?_eq_some_iff.mp hb0).1; simp at this; omega
  have hi2 : i ≠ oc.size := by have := (List.getElem?_eq_some_iff.mp hb0).1; simp at this; omega
  refine enter G (by kernel_rfl!) (by kernel_rfl!) (by kernel_rfl!) (Binds.pure (binds := [("f", .ref tape)]) (by rfl)) (by rfl) fun C hC hX => ?_
  refine ts_cons ?_
  repeat walk_at "ev"
  refine tr_callG hC 136 (by kernel_rfl!) (g_read_uint1 _) (k_read_uint1 _) ?_
  repeat walk_at "ev"
  refine tr_callX (uint1_ok hC.gb hT (by omega) hi) (hC.lv.le (by decide)) hC.fr ?_ (fun e x V' mu' s ho p => absurd p.2.2.1 hi2)
  rintro v V1 mu1 ⟨l1, b, tk, t', n', hb, rfl, rfl⟩
  rw [hb0] at hb; cases hb
  have hf := hfit
  have hb256 : b0.toNat < 256 := b0.toNat_lt
  have hT1 := hT.mono l1
  obtain ⟨dx, od, f, clos, c1, c2, c', doc, pm, ctv, to, q1, q2, q3, q4, q5, q6, q7, q8, q9⟩ := hT1
  repeat walk_at "ev"
  refine ⟨decide_eq_true (by omega), ?_⟩
  repeat walk_at "ev"
  refine tr_callI hC (Cl := 167) (by kernel_rfl!) (by kernel_rfl!) (by kernel_rfl!) (by kernel_rfl!) ?_
  repeat walk_at "ev"
  refine ⟨tape, dx, od, f, _, rfl, .inl q1, .inl q2, q3, q4, ?_⟩
  repeat walk_at "ev"
  refine ⟨q4, ?_⟩
  refine tr_call (read_ok (muF := fun v n' => pre ++ (atl, listO [v] n') :: post) hC.gb q4 q5 q6 q7 q8 q9 (fun _ _ => Upd.app pre) (by omega) (by omega) (by omega) (by omega) (by omega)) (hC.lv.le (by decide)) hC.fr ?_
  rintro v V2 mu2 ⟨l2, ⟨tb, rfl⟩, ta, n2, rfl⟩
  have hpk : KBy.picked oc (some ((i + 1 : Nat) : Int)) (some (((i + 1 : Nat) : Int) + (b0.toNat : Int))) = ((oc.toList.drop (i + 1)).take b0.toNat).toArray := by
    rw [← Array.toList_inj, picked_le (by omega) (by omega)]
    rfl
  rw [hpk]
  have hlen : ((oc.toList.drop (i + 1)).take b0.toNat).toArray.size = b0.toNat := by
    rw [List.size_toArray, List.length_take, List.length_drop, Array.length_toList]; omega
  rw [hlen]
  repeat walk_at "ev"
  refine tr_callB hC "len" (by kernel_rfl!) (n_len _) b_len ?_
  repeat walk_at "ev"
  refine c_lenB (by rw [hlen]; omega) fun tl => ?_
  rw [hlen]
  repeat walk_at "ev"
  rw [beq_self_eq_true]
  refine onT ?_
  repeat walk_at "ev"
  refine tr_mBytes FB.slot_bytes_decode FB.type_bytes_decode ?_
  repeat walk_at "ev"
  refine ⟨_, _, rfl, ?_⟩
  repeat walk_at "ev"
  refine c_decode (by rw [hlen]; exact hn0) (by rw [hlen]; omega) fun td => ?_
  exact ⟨l1.trans l2, td, ta, n2, rfl, rfl⟩

theorem trans_enc (bs : List Nat) (hb : ∀ j, bs.getD j 0 < 256) (n : Nat) : (⟨((LT.tr LT.tab (byteArr (enc bs n))).toList.map fun c => c.toNat).toArray⟩ : Str) = txt ((List.range n).map (d64 bs)) := by
  have key : ∀ i : Fin 64, (LT.tab.getD ((b64L.getD i.1 0 : Int).toNat.toUInt8).toNat ((b64L.getD i.1 0 : Int).toNat.toUInt8)).toNat = sgn.cps.toList.getD i.1 0 := by decide +kernel
  unfold txt
  congr 2
  unfold LT.tr byteArr enc
  simp only [Array.toList_map, List.map_map]
  refine List.map_congr_left fun k _ => ?_
  exact key ⟨d64 bs k, d64_lt bs hb k⟩

theorem op_addB {C : Cx} {m : Loc} {V : View} {mu : Mu} {P : Value → Loc → View → Mu → Prop} {b c : Array UInt8} {t u : Tok} (hz : b.size + c.size ≤ 100000) (h : ∀ tk, P (.bytes (b ++ c) tk) m V mu) : Tr C m V mu (binaryOp .Add (.bytes b t) (.bytes c u)) P := .of fun s hs =>
  KBy.add_bytes (by omega) fun t' k => ⟨m, V, mu, hs, h _⟩

theorem written_ok (G : Gb w B) {b : Array UInt8} {t : Tok} {ps : Array Value} (hz : b.size ≤ 150) (h3 : b.size % 3 = 0) (h0 : b.size ≠ 0) (ht : TabOk nestPos rdQ V ps) :
    CallOk prog w B 4 (.ref 250) ⟨[.bytes b t], []⟩ V ((203, tabObj ps) :: mu) (fun v V' mu' => Le V V' ∧ (∃ ps', mu' = (203, tabObj ps') :: mu ∧ TabOk nestPos rdQ V' ps') ∧ ∃ tk, v = .str (txt ((List.range (figs b.size)).map (d64 (b.toList.map fun c => c.toNat)))) tk) := by
  have hb : ∀ j, (b.toList.map fun c => c.toNat).getD j 0 < 256 := by
    intro j
    rw [List.getD_eq_getElem?_getD, List.getElem?_map]
    cases b.toList[j]? with
    | none => decide
    | some c => exact c.toNat_lt
  have hfz : figs b.size ≤ 200 := by unfold figs; omega
  have hf0 : figs b.size ≠ 0 := by unfold figs; omega
  refine enter G (by kernel_rfl!) (by kernel_rfl!) (by kernel_rfl!) (Binds.pure (binds := [("octets", .bytes b t)]) (by rfl)) (by rfl) fun C hC hX => ?_
  refine ts_cons ?_
  repeat walk_at "ev"
  refine tr_callG hC 201 (by kernel_rfl!) (g_b64encode _) (k_b64encode _) ?_
  repeat walk_at "ev"
  refine tr_call (b64encode_ok hC.gb hz h3) (hC.lv.le (by decide)) hC.fr ?_
  rintro v V1 mu1 ⟨l1, rfl, tk, rfl⟩
  have ht1 := ht.mono l1
  rw [← trans_enc _ hb]
  have hsz : (LT.tr LT.tab (byteArr (enc (b.toList.map fun c => c.toNat) (figs b.size)))).size = figs b.size := by unfold LT.tr; rw [Array.size_map, enc_len]
  generalize LT.tr LT.tab (byteArr (enc (b.toList.map fun c => c.toNat) (figs b.size))) = W at hsz
  repeat walk_at "ev"
  refine tr_callB hC "isinstance" (by kernel_rfl!) (n_isinstance _) boot_isinstance ?_
  repeat walk_at "ev"
  refine tr_blt hC (by kernel_rfl!) (n_bytes _) boot_bytes ?_
  repeat walk_at "ev"
  refine c_isiBB ?_
  repeat walk_at "ev"
  refine onF ?_
  refine ts_nil ?_
  repeat walk_at "ev"
  refine tr_postSub (P' := fun v _ V' mu' => Le V V' ∧ (∃ ps' p, mu' = (203, tabObj ps') :: p :: mu ∧ TabOk nestPos rdQ V' ps') ∧ ∃ tk, v = .str ⟨(W.toList.map fun c => c.toNat).toArray⟩ tk) ?_ ?_
  rotate_left
  · rintro v _ V' mu' ⟨h1, ⟨ps', p, rfl, h2⟩, h3⟩
    exact ⟨(203, tabObj ps') :: mu, List.Sublist.cons₂ _ (List.sublist_cons_self _ _), h1, ⟨ps', rfl, h2⟩, h3⟩
  refine tr_callG hC 143 (by kernel_rfl!) (g_read_string1 _) (k_read_string1 _) ?_
  repeat walk_at "ev"
  refine tr_callG hC 208 (by kernel_rfl!) (g_law_stream _) (k_law_stream _) ?_
  repeat walk_at "ev"
  refine tr_callT hC "bytes" (by kernel_rfl!) (n_bytes _) boot_bytes ?_
  repeat walk_at "ev"
  refine tr_callB hC "len" (by kernel_rfl!) (n_len _) b_len ?_
  repeat walk_at "ev"
  refine c_lenB (by omega) fun tl => ?_
  repeat walk_at "ev"
  refine tr_newList (by walk_at "sz") fun a1 V2 l2 e2 => ?_
  repeat walk_at "ev"
  refine c_bytesL (.inl e2) (.cons _ _ .nil) (by intro n hn; simp at hn; omega) (by walk_at "sz") hC.lv.hd fun tb => ?_
  repeat walk_at "ev"
  have hws : (byteArr [(W.size : Int)]).size = 1 := rfl
  refine op_addB (by omega) fun ta => ?_
  repeat walk_at "ev"
  refine tr_newListMu (by walk_at "sz") fun atl => ?_
  repeat walk_at "ev"
  refine tr_perm perm_bac ?_
  refine tr_call (stream_ok hC.gb (ht1.mono l2)) (hC.lv.le (by decide)) hC.fr ?_
  rintro v V3 mu3 ⟨l3, ⟨ps', rfl, ht3⟩, tape, rfl, hT⟩
  repeat walk_at "ev"
  have hoc : (byteArr [(W.size : Int)] ++ W).toList = (W.size.toUInt8) :: W.toList := by
    rw [Array.toList_append]; rfl
  have hW : W.size.toUInt8.toNat = W.size := by
    simp [Nat.toUInt8, UInt8.toNat_ofNat']; omega
  refine tr_call (string1_ok (i := 0) (pre := [(203, tabObj ps')]) (post := mu) (b0 := W.size.toUInt8) hC.gb hT (by rw [Array.size_append, hws]; omega) (by rw [hoc]; rfl) (by omega) (by rw [Array.size_append, hws, hW]; omega)) (hC.lv.le (by decide)) hC.fr ?_
  rintro v V4 mu4 ⟨l4, ts, t', n', rfl, rfl⟩
  rw [hoc, hW]
  refine ⟨((l1.trans l2).trans l3).trans l4, ⟨ps', _, rfl, ht3.mono l4⟩, ts, ?_⟩
  have e1 : List.take W.size (List.drop (0 + 1) (W.size.toUInt8 :: W.toList)) = W.toList := by
    show List.take W.size W.toList = W.toList
    exact List.take_of_length_le (by simp)
  rw [e1]
end
end

end
section
open PySem PySem.Calls PySem.W PyProof.Rows
section
noncomputable section

variable {prog : Program} {w : World} {B V : View} {mu : Mu}
noncomputable def intsPV (ts : List Int) : PV := .list (ts.map PV.int)
noncomputable def tapeL (tss : List (List Int)) : List Int := tss.flatMap fun ts => 3 :: ts
theorem repInts : ∀ {vs : List Value} {ns : List Int}, RepL V vs (ns.map PV.int) → IntsAre vs ns := fun h => h.ints rfl
theorem tapeL_snoc (a : List (List Int)) (t : List Int) : tapeL (a ++ [t]) = tapeL a ++ [3] ++ t := by simp [tapeL]
abbrev taJ (tss : List (List Int)) (V1 : View) (mu : Mu) (i : Nat) (m' : Loc) (V' : View) (mu' : Mu) : Prop :=
  Le V1 V' ∧ mu' = mu ∧ ∃ ol ws n, LocSub [("octets", .ref ol)] m' ∧ V' ol = some (listO ws n) ∧ IntsAre ws (tapeL (tss.take i))
theorem tape_ok (G : Gb w B) {th : Addr} {tss : List (List Int)} (hr : Rep V (.ref th) (.list (tss.map intsPV))) (hb : ∀ ts ∈ tss, ∀ x ∈ ts, 0 ≤ x ∧ x < 256) (hz : ∀ k, (tapeL (tss.take k)).length ≤ 200) (hz2 : ∀ ts ∈ tss, ts.length ≤ 200) (hn : tss.length ≤ 100) :
    CallOk prog w B 1 (.ref 236) ⟨[.ref th], []⟩ V mu (fun v V' mu' => Le V V' ∧ mu' = mu ∧ ∃ tk, v = .bytes (byteArr (tapeL tss)) tk) := by
  obtain ⟨a, vs, n, e1, e2, rl⟩ := hr.list_inv
  cases e1
  refine enter G (by kernel_rfl!) (by kernel_rfl!) (by kernel_rfl!) (Binds.pure (binds := [("threes", .ref th)]) (by rfl)) (by rfl) fun C hC hX => ?_
  refine ts_cons ?_
  repeat walk_at "ev"
  refine tr_newList (by walk_at "sz") fun o0 V1 l1 e3 => ?_
  repeat walk_at "ev"
  refine iter_list hC.lv.hd (l1 _ _ e2) fun I o S ok st => ?_
  have hlen : vs.length = tss.length := by rw [rl.length, List.length_map]
  refine ts_forLoop hX ok st (taJ tss V1 mu) ⟨Le.refl _, rfl, o0, [], 0, ⟨rfl, trivial⟩, e3, .nil⟩ ?_ ?_
  · rintro i v o' m' V' mu' hi hv lV ⟨l2, rfl, ol, ws, n', hm, eo, hr⟩
    refine tr_weaken hm.sub ?_
    clear hm
    have hi' : i < tss.length := by omega
    obtain ⟨ts, hts⟩ : ∃ ts, tss[i]? = some ts := ⟨_, List.getElem?_eq_getElem hi'⟩
    obtain ⟨v', hv', rv⟩ := rl.get (i := i) (d := intsPV ts) (by simp [hts])
    rw [hv'] at hv; cases hv
    obtain ⟨a1, us, n1, rfl, e4, ru⟩ := rv.list_inv
    have hui := repInts ru
    have htake : tapeL (tss.take (i + 1)) = tapeL (tss.take i) ++ [3] ++ ts := by
      rw [List.take_succ, hts, ← tapeL_snoc]; rfl
    have hzi := hz i
    have hzj := hz2 ts (List.mem_of_getElem? hts)
    have hwl : ws.length ≤ 200 := by rw [hr.length]; exact hzi
    have hul : us.length ≤ 200 := by rw [hui.length]; exact hzj
    have hsl := sizeLine_eq
    repeat walk_at "ev"
    refine tr_newList (by walk_at "sz") fun o2 V2 l3 e5 => ?_
    refine op_addL (.inl (l3 _ _ eo)) (.inl e5) (by simp; omega) fun o3 V3 l4 e6 => ?_
    repeat walk_at "ev"
    have lA : Le V V3 := (((l1.trans l2).trans l3).trans l4)
    refine op_addL (.inl e6) (.inl (lA _ _ e4)) (by simp; omega) fun o4 V4 l5 e7 => ?_
    repeat walk_at "ev"
    refine ts_nil ?_
    have lB : Le V' V4 := (l3.trans l4).trans l5
    refine ⟨_, rfl, lB, l2.trans lB, rfl, o4, _, _, ⟨rfl, trivial⟩, e7, ?_⟩
    rw [htake]
    exact (hr.append (.cons 3 _ .nil)).append hui
  · rintro m' V' mu' lV ⟨l2, rfl, ol, ws, n', hm, eo, hr⟩
    rw [hlen, List.take_length] at hr
    refine ts_weaken hm ?_
    refine ts_nil ?_
    repeat walk_at "ev"
    refine tr_callT hC "bytes" (by kernel_rfl!) (n_bytes _) boot_bytes ?_
    repeat walk_at "ev"
    have hzn := hz tss.length
    rw [List.take_length] at hzn
    have hsl := sizeLine_eq
    refine c_bytesL (.inl eo) hr ?_ (by rw [hr.length]; omega) hC.lv.hd fun tk => ?_
    · intro x hx
      obtain ⟨ts, h1, h2⟩ := List.mem_flatMap.mp hx
      rcases List.mem_cons.mp h2 with rfl | h2
      · decide
      · exact hb ts h1 x h2
    · exact ⟨l1.trans l2, rfl, tk, rfl⟩

/-- items behind one another, each with its count before it -/
noncomputable def packed (bss : List (List UInt8)) : List UInt8 := bss.flatMap fun bs => bs.length.toUInt8 :: bs
noncomputable def offs (bss : List (List UInt8)) (j : Nat) : Nat := (packed (bss.take j)).length
theorem packed_at (bss : List (List UInt8)) (hl : ∀ bs ∈ bss, bs.length < 256) (j : Nat) (bs : List UInt8) (h : bss[j]? = some bs) :
    (packed bss)[offs bss j]? = some bs.length.toUInt8 ∧ ((packed bss).drop (offs bss j + 1)).take bs.length.toUInt8.toNat = bs ∧ offs bss j + 1 + bs.length.toUInt8.toNat = offs bss (j + 1) ∧ offs bss (j + 1) ≤ (packed bss).length := by
  have hlb := hl bs (List.mem_of_getElem? h)
  have e0 : bs.length.toUInt8.toNat = bs.length := by simp [Nat.toUInt8, UInt8.toNat_ofNat']; omega
  obtain ⟨hj, hbs⟩ := List.getElem?_eq_some_iff.mp h
  have e1 : bss = bss.take j ++ bs :: bss.drop (j + 1) := by
    rw [← hbs, ← List.drop_eq_getElem_cons hj, List.take_append_drop]
  have e2 : packed bss = packed (bss.take j) ++ (bs.length.toUInt8 :: bs) ++ packed (bss.drop (j + 1)) := by
    conv => lhs; rw [e1]
    simp [packed]
  have e3 : offs bss (j + 1) = offs bss j + 1 + bs.length := by
    unfold offs
    rw [List.take_succ, h]
    simp [packed]; omega
  have e4 : (packed (bss.take j)).length = offs bss j := rfl
  refine ⟨?_, ?_, by rw [e0, e3], ?_⟩
  · rw [e2, List.append_assoc, List.getElem?_append_right (by omega), e4, Nat.sub_self]; rfl
  · rw [e2, e0, List.append_assoc, List.drop_append, e4]
    have e5 : List.drop (offs bss j + 1) (packed (bss.take j)) = [] := List.drop_eq_nil_of_le (by omega)
    have e6 : offs bss j + 1 - offs bss j = 1 := by omega
    rw [e5, e6]
    simp
  · rw [e3, e2]
    simp [List.length_append, e4]; omega
theorem offs_le (bss : List (List UInt8)) (j : Nat) : offs bss j ≤ (packed bss).length := by
  have e : packed bss = packed (bss.take j) ++ packed (bss.drop j) := by
    unfold packed; rw [← List.flatMap_append, List.take_append_drop]
  rw [e, List.length_append]
  exact Nat.le_add_right _ _
abbrev itJ (bss : List (List UInt8)) (il tape atl : Addr) (V3 : View) (ps' : Array Value) (mu : Mu) (k : Nat) (m : Loc) (V : View) (mu' : Mu) : Prop :=
  ∃ j, k = bss.length - j ∧ j ≤ bss.length ∧ Le V3 V ∧ LocSub [("items", .ref il), ("tape", .ref tape), ("at", .ref atl)] m ∧
    ∃ ws n2 t' n', mu' = (il, listO ws n2) :: (203, tabObj ps') :: (atl, listO [.int (offs bss j : Int) t'] n') :: mu ∧ RepL V ws ((bss.take j).map fun bs => PV.bytes bs.toArray)
abbrev itQ (bss : List (List UInt8)) (V : View) (mu : Mu) (v : Value) (V' : View) (mu' : Mu) : Prop :=
  Le V V' ∧ (∃ ps', mu' = (203, tabObj ps') :: mu ∧ TabOk nestPos rdQ V' ps') ∧
      ∃ a il ta te n vs n', v = .ref a ∧ V' a = some (tupO [.ref il, .ref ta, .int ((packed bss).length : Int) te] n) ∧ V' il = some (listO vs n') ∧ RepL V' vs (bss.map fun bs => PV.bytes bs.toArray) ∧ ∃ ot nt tk, V' ta = some ot ∧ ot.cls = .type "tuple" ∧ ot.data = .seq #[.str endW tk] nt
theorem items_ok (G : Gb w B) {bss : List (List UInt8)} {t : Tok} {ps : Array Value} (hl : ∀ bs ∈ bss, bs.length < 256) (hn : bss.length < 20) (hz : (packed bss).length ≤ 1000) (ht : TabOk nestPos rdQ V ps) :
    CallOk prog w B 4 (.ref 243) ⟨[.bytes (packed bss).toArray t], []⟩ V ((203, tabObj ps) :: mu) (itQ bss V mu) := by
  refine enter2 G (by kernel_rfl!) (by kernel_rfl!) (by kernel_rfl!) (Binds.pure (binds := [("octets", .bytes (packed bss).toArray t)]) (by rfl)) (by rfl) fun C hC hX hfe hAe => ?_
  have hsl := sizeLine_eq
  refine ts_cons ?_
  repeat walk_at "ev"
  refine tr_newListMu (by walk_at "sz") fun atl => ?_
  repeat walk_at "ev"
  refine tr_callG hC 208 (by kernel_rfl!) (g_law_stream _) (k_law_stream _) ?_
  repeat walk_at "ev"
  refine tr_perm perm_bac ?_
  refine tr_call (stream_ok hC.gb ht) (hC.lv.le (by decide)) hC.fr ?_
  rintro v V3 mu3 ⟨l3, ⟨ps', rfl, ht3⟩, tape, rfl, hT⟩
  repeat walk_at "ev"
  refine tr_newListMu (by walk_at "sz") fun il => ?_
  repeat walk_at "ev"
  refine ts_While hX (itJ bss il tape atl V3 ps' mu) (bss.length - 0)
    ⟨0, rfl, Nat.zero_le _, Le.refl _, ⟨rfl, rfl, rfl, trivial⟩, [], 0, _, 0, rfl, .nil⟩ ?_
  rintro k m V4 mu4 ⟨j, rfl, hj, l4, hm, ws, n2, t', n', rfl, hr⟩
  refine tr_weaken hm.sub ?_
  clear hm
  have hwl : ws.length = j := by rw [hr.length]; simp; omega
  have hT4 := hT.mono l4
  repeat walk_at "ev"
  refine tr_callB hC "len" (by kernel_rfl!) (n_len _) b_len ?_
  repeat walk_at "ev"
  refine c_len (by walk_at "known") (by omega) fun tl => ?_
  repeat walk_at "ev"
  rw [hwl]
  refine ⟨fun hlt => ?_, fun hlt => absurd (of_decide_eq_false hlt) (by omega)⟩
  refine ts_cons ?_
  have hpl : (packed bss).toArray.size ≤ 5000 := by simp; omega
  have hoff : offs bss j ≤ (packed bss).toArray.size := by
    have := offs_le bss j
    simp; omega
  refine ts_TryVE hC hX (PX := fun x m' V' mu' => x = endW ∧ Le V4 V' ∧ offs bss j = (packed bss).length ∧ m' = ([("items", .ref il), ("tape", .ref tape), ("at", .ref atl)] : Loc) ∧ ∃ t' n', mu' = (il, listO ws n2) :: (203, tabObj ps') :: (atl, listO [.int (offs bss j : Int) t'] n') :: mu) hfe hAe (by kernel_rfl!) (n_ValueError _) (by kernel_rfl!) ?_ ?_
  · have hC' : Fm { C with X := fun e s => ∃ x m' V' mu', FlyC C m' e x V' mu' s ∧ (x = endW ∧ Le V4 V' ∧ offs bss j = (packed bss).length ∧ m' = ([("items", .ref il), ("tape", .ref tape), ("at", .ref atl)] : Loc) ∧ ∃ t' n', mu' = (il, listO ws n2) :: (203, tabObj ps') :: (atl, listO [.int (offs bss j : Int) t'] n') :: mu) } (fdAt 243).scope 3 := ⟨hC.scp, hC.fn, hC.gl, hC.bi, hC.gb, hC.lv, hC.fr⟩
    refine ts_cons ?_
    repeat walk_at "ev"
    refine tr_callG hC' 150 (by kernel_rfl!) (g_read_bytes1 _) (k_read_bytes1 _) ?_
    repeat walk_at "ev"
    refine tr_callX (bytes1_ok (i := offs bss j) (pre := [(il, listO ws n2), (203, tabObj ps')]) (post := mu) hC.gb hT4 hpl hoff ?_) (hC.lv.le (by decide)) hC'.fr ?_ ?_
    · intro b hb
      have hjl : j < bss.length := by
        rcases Nat.lt_or_eq_of_le hj with h | h
        · exact h
        · exfalso
          subst h
          have e : offs bss bss.length = (packed bss).length := by unfold offs; rw [List.take_length]
          rw [e, List.getElem?_eq_none (by simp)] at hb
          cases hb
      obtain ⟨h1, h2, h3, h4⟩ := packed_at bss hl j bss[j] (List.getElem?_eq_getElem hjl)
      rw [List.toList_toArray, h1] at hb
      cases hb
      rw [List.size_toArray, h3]; exact h4
    · rintro v V5 mu5 ⟨l5, b, tb, t2, n3, hb, rfl, rfl⟩
      have hjl : j < bss.length := by
        rcases Nat.lt_or_eq_of_le hj with h | h
        · exact h
        · exfalso
          subst h
          have e : offs bss bss.length = (packed bss).length := by unfold offs; rw [List.take_length]
          rw [e, List.getElem?_eq_none (by simp)] at hb
          cases hb
      obtain ⟨h1, h2, h3, h4⟩ := packed_at bss hl j bss[j] (List.getElem?_eq_getElem hjl)
      rw [List.toList_toArray, h1] at hb
      cases hb
      rw [List.toList_toArray, h2, h3]
      repeat walk_at "ev"
      refine ts_nil ?_
      refine ts_cx hX ?_
      repeat walk_at "ev"
      refine tr_mList PySem.slot_list_append PySem.type_list_append ?_
      repeat walk_at "ev"
      refine ⟨_, _, _, rfl, .inr (.head _), ?_⟩
      repeat walk_at "ev"
      refine tr_callB hC "isinstance" (by kernel_rfl!) (n_isinstance _) boot_isinstance ?_
      repeat walk_at "ev"
      refine tr_blt hC (by kernel_rfl!) (n_bytes _) boot_bytes ?_
      repeat walk_at "ev"
      refine c_isiBB ?_
      repeat walk_at "ev"
      refine onT ?_
      repeat walk_at "ev"
      refine c_append (vs := ws) (n := n2) (v := .bytes bss[j].toArray tb) (mu' := fun n' => (il, listO (ws ++ [.bytes bss[j].toArray tb]) n') :: (203, tabObj ps') :: (atl, listO [.int ((offs bss (j + 1) : Nat) : Int) t2] n3) :: mu) (fun _ => .head) (by omega) fun n4 => ?_
      refine ts_nil ?_
      refine ⟨bss.length - (j + 1), by omega, j + 1, rfl, hjl, l4.trans l5, ⟨rfl, rfl, rfl, trivial⟩, _, n4, t2, n3, rfl, ?_⟩
      have e1 : bss.take (j + 1) = bss.take j ++ [bss[j]] := by rw [List.take_succ, List.getElem?_eq_getElem hjl]; rfl
      rw [e1, List.map_append]
      exact (hr.mono l5).append (.cons (.bytes _ _) .nil)
    · intro e x V' mu' s' hf ⟨rfl, l5, hi, t2, n3, hmu⟩
      exact ⟨_, _, V', mu', ⟨hf.1, hf.2⟩, rfl, l5, by simpa using hi, rfl, t2, n3, hmu⟩
  · rintro x m' V' mu' V'' ea ta ⟨rfl, l5, hoff2, rfl, t2, n3, rfl⟩ l6 hex
    have hkk := hC.kind
    have hjn : j = bss.length := by
      rcases Nat.lt_or_eq_of_le hj with h | h
      · exfalso
        obtain ⟨h1, h2, h3, h4⟩ := packed_at bss hl j bss[j] (List.getElem?_eq_getElem h)
        omega
      · exact h
    refine ts_freeze fun V7 l7 e7 => ?_
    refine ts_perm perm_bac ?_
    refine ts_freeze fun V8 l8 e8 => ?_
    have hex8 := hex
    obtain ⟨oe, vs, ot, nn, tk, q1, q2, q3, q4, q5, q6, q7⟩ := hex
    have l78 : Le V'' V8 := l7.trans l8
    refine ts_cons (ts_Return ?_)
    refine tr_Tuple ?_
    refine tr_args (tr_localK hkk (hC.kindOf (by kernel_rfl!)) rfl ?_)
    refine tr_args (tr_AttrName (tr_localK hkk (hC.kindOf (by kernel_rfl!)) rfl ?_))
    refine tr_excArgs (x := endW) ⟨oe, vs, ot, nn, tk, l78 _ _ q1, q2, q3, q4, l78 _ _ q5, q6, q7⟩ ?_
    refine tr_args (tr_Subscript (tr_localK hkk (hC.kindOf (by kernel_rfl!)) rfl ?_))
    refine tr_int fun t9 => ?_
    refine sub_list (.inl e8) (Int.le_refl 0) (by decide) rfl ?_
    refine tr_args_nil ?_
    refine tr_newTuple (by walk_at "sz") fun a V9 l9 e9 => ?_
    have hlen : (bss.take j).map (fun bs => PV.bytes bs.toArray) = bss.map fun bs => PV.bytes bs.toArray := by rw [hjn, List.take_length]
    rw [hlen] at hr
    have lAll : Le V4 V9 := (l5.trans l6).trans (l78.trans l9)
    refine ⟨(l3.trans l4).trans lAll, ⟨ps', rfl, (ht3.mono l4).mono lAll⟩, a, il, ta, t2, 0, ws, n2, rfl, by rw [e9, hoff2], (l8.trans l9) _ _ e7, hr.mono lAll, ot, nn, tk, (l78.trans l9) _ _ q5, q6, q7⟩
end
end

end
section
open PySem PySem.Calls PySem.W PyProof.Rows
section
noncomputable section

variable {prog : Program} {w : World} {B V : View} {mu : Mu}
noncomputable def natI (l : List Nat) : List Int := l.map (fun n : Nat => (n : Int))
noncomputable def pairT (st : List Int) (kept : List Nat) (i : Nat) : Option (Nat × Nat) :=
  if st.getD (kept.getD i 0) 0 = 1 ∧ st.getD (kept.getD ((i + 1) % kept.length) 0) 0 = -1 then some (kept.getD i 0, kept.getD ((i + 1) % kept.length) 0) else none
noncomputable def pairF (st : List Int) (kept : List Nat) : Option (Nat × Nat) := (List.range kept.length).findSome? (pairT st kept)
noncomputable def pairL : Option (Nat × Nat) → List Nat
  | none => []
  | some (a, b) => [a, b]
theorem ints_get {vs : List Value} {ns : List Nat} (h : IntsAre vs (natI ns)) {i : Nat} (hi : i < ns.length) : ∃ t, vs[i]? = some (.int (ns.getD i 0 : Int) t) := by
  have := h.get i (ns.getD i 0 : Int) (by simp [natI, hi])
  exact this
theorem ints_getI {vs : List Value} {ns : List Int} (h : IntsAre vs ns) {i : Nat} (hi : i < ns.length) : ∃ t, vs[i]? = some (.int (ns.getD i 0) t) := by
  have := h.get i (ns.getD i 0) (by simp [hi])
  exact this
theorem natI_len (l : List Nat) : (natI l).length = l.length := by simp [natI]

theorem find_first {γ : Type} (f : Nat → Option γ) {n i : Nat} {r : γ} (hi : i < n) (hno : ∀ j, j < i → f j = none) (hr : f i = some r) : (List.range n).findSome? f = some r := by
  have e : List.range n = List.range i ++ i :: (List.range (n - i - 1)).map (fun x => i + 1 + x) := by
    rw [show n = i + (1 + (n - i - 1)) by omega, List.range_add, List.range_add]
    simp [Function.comp_def, Nat.add_assoc]
  rw [e, List.findSome?_append]
  have h0 : (List.range i).findSome? f = none := by
    rw [List.findSome?_eq_none_iff]
    intro j hj
    exact hno j (List.mem_range.mp hj)
  rw [h0]
  simp [hr]
abbrev paJ (sl kl : Addr) (st : List Int) (kept : List Nat) (V1 : View) (mu : Mu) (i : Nat) (m' : Loc) (V' : View) (mu' : Mu) : Prop :=
  Le V1 V' ∧ mu' = mu ∧ LocSub [("kept", .ref kl), ("steps", .ref sl)] m' ∧ ∀ j, j < i → pairT st kept j = none
abbrev paQ (st : List Int) (kept : List Nat) (V : View) (mu : Mu) (v : Value) (V' : View) (mu' : Mu) : Prop :=
  Le V V' ∧ mu' = mu ∧ ∃ a us j, v = .ref a ∧ V' a = some (listO us j) ∧ IntsAre us (natI (pairL (pairF st kept)))
theorem pair_ok (G : Gb w B) {sl kl : Addr} {vs ws : List Value} {n k : Nat} {st : List Int} {kept : List Nat} (es : V sl = some (listO vs n)) (hs : IntsAre vs st) (ek : V kl = some (listO ws k)) (hk : IntsAre ws (natI kept)) (hp : ∀ p ∈ kept, p < st.length) (hz : kept.length ≤ 100) (hz2 : st.length ≤ 100) :
    CallOk prog w B 1 (.ref 257) ⟨[.ref sl, .ref kl], []⟩ V mu (paQ st kept V mu) := by
  refine enter G (by kernel_rfl!) (by kernel_rfl!) (by kernel_rfl!) (Binds.pure (binds := [("steps", .ref sl), ("kept", .ref kl)]) (by rfl)) (by rfl) fun C hC hX => ?_
  have hsl := sizeLine_eq
  have hwl : ws.length = kept.length := by rw [hk.length, natI_len]
  have hpg : ∀ i, i < kept.length → kept.getD i 0 < st.length := fun i hi => hp _ (by
    rw [List.getD_eq_getElem?_getD, List.getElem?_eq_getElem hi]; exact List.getElem_mem hi)
  refine ts_cons ?_
  repeat walk_at "ev"
  refine tr_callT hC "range" (by kernel_rfl!) (n_range _) (by kernel_rfl!) ?_
  repeat walk_at "ev"
  refine tr_callB hC "len" (by kernel_rfl!) (n_len _) b_len ?_
  repeat walk_at "ev"
  refine c_len (.inl ek) (by omega) fun tl => ?_
  repeat walk_at "ev"
  rw [hwl]
  refine c_range fun r V1 l1 er => ?_
  refine iter_range hC.lv.hd (by omega) er fun I o S ok st0 => ?_
  refine ts_forLoop hX ok st0 (paJ sl kl st kept V1 mu) ⟨Le.refl _, rfl, ⟨rfl, rfl, trivial⟩, fun j hj => absurd hj (Nat.not_lt_zero _)⟩ ?_ ?_
  · rintro i v o' m' V' mu' hi ⟨t, rfl⟩ lV ⟨l2, rfl, hm, hno⟩
    refine tr_weaken hm.sub ?_
    clear hm
    have l12 : Le V V' := l1.trans l2
    obtain ⟨t1, g1⟩ := ints_get hk hi
    have hmod : (i + 1) % kept.length < kept.length := Nat.mod_lt _ (by omega)
    obtain ⟨t2, g2⟩ := ints_get hk hmod
    obtain ⟨t3, g3⟩ := ints_getI hs (hpg i hi)
    obtain ⟨t4, g4⟩ := ints_getI hs (hpg _ hmod)
    have ek' := l12 _ _ ek
    have es' := l12 _ _ es
    have hf := hpg i hi
    have hf2 := hpg _ hmod
    repeat walk_at "ev"
    refine ts_AssignSwap (names := ["one", "two"]) (swapped_of hC (by kernel_rfl!)) ?_
    repeat walk_at "ev"
    refine sub_list (.inl ek') (by omega) (by omega) (by rw [Int.toNat_natCast]; exact g1) ?_
    repeat walk_at "ev"
    refine tr_callB hC "len" (by kernel_rfl!) (n_len _) b_len ?_
    repeat walk_at "ev"
    refine c_len (.inl ek') (by omega) fun tl2 => ?_
    repeat walk_at "ev"
    rw [hwl]
    refine op_mod (by omega) fun tm => ?_
    have em : ((i : Int) + 1).fmod (kept.length : Int) = (((i + 1) % kept.length : Nat) : Int) := by
      rw [Int.fmod_eq_emod_of_nonneg _ (by omega)]
      rfl
    rw [em]
    refine sub_list (.inl ek') (by omega) (by omega) (by rw [Int.toNat_natCast]; exact g2) ?_
    repeat walk_at "ev"
    refine tr_newTuple (by walk_at "sz") fun tu V2 l3 e3 => ?_
    refine tr_unpackT hC.lv.hd e3 rfl ?_
    refine tr_aio (tr_bindName ?_)
    repeat walk_at "ev"
    refine tr_aio (tr_bindName ?_)
    repeat walk_at "ev"
    refine tr_aio_nil ?_
    have ek2 := l3 _ _ ek'
    have es2 := l3 _ _ es'
    repeat walk_at "ev"
    refine sub_list (.inl es2) (by omega) (by omega) (by rw [Int.toNat_natCast]; exact g3) ?_
    repeat walk_at "ev"
    refine ⟨fun h1 => ?_, fun h1 => ?_⟩
    · repeat walk_at "ev"
      refine sub_list (.inl es2) (by omega) (by omega) (by rw [Int.toNat_natCast]; exact g4) ?_
      repeat walk_at "ev"
      have h1' := beq_iff_eq.mp h1
      refine ⟨fun h2 => ?_, fun h2 => ?_⟩
      · repeat walk_at "ev"
        have h2' := beq_iff_eq.mp h2
        refine ⟨fun _ => ?_, fun h => absurd h (by decide)⟩
        repeat walk_at "ev"
        refine tr_newList (by walk_at "sz") fun ra V3 l4 e4 => ?_
        have hpi : pairT st kept i = some (kept.getD i 0, kept.getD ((i + 1) % kept.length) 0) := if_pos ⟨h1', h2'⟩
        have hpf : pairF st kept = some (kept.getD i 0, kept.getD ((i + 1) % kept.length) 0) := by
          unfold pairF
          exact find_first (pairT st kept) hi hno hpi
        refine ⟨_, rfl, (l12.trans l3).trans l4, rfl, ra, _, _, rfl, e4, ?_⟩
        rw [hpf]
        exact .cons _ _ (.cons _ _ .nil)
      · refine ⟨fun h => absurd h (by decide), fun _ => ?_⟩
        have h2' := beq_eq_false_iff_ne.mp h2
        refine ts_nil ?_
        refine ts_nil ?_
        refine ⟨_, rfl, l3, l2.trans l3, rfl, ⟨rfl, rfl, trivial⟩, fun j hj => ?_⟩
        rcases Nat.lt_or_eq_of_le (Nat.lt_succ_iff.mp hj) with h | rfl
        · exact hno j h
        · exact if_neg fun q => h2' q.2
    · have h1' := beq_eq_false_iff_ne.mp h1
      refine ⟨fun h => absurd h (by decide), fun _ => ?_⟩
      refine ts_nil ?_
      refine ts_nil ?_
      refine ⟨_, rfl, l3, l2.trans l3, rfl, ⟨rfl, rfl, trivial⟩, fun j hj => ?_⟩
      rcases Nat.lt_or_eq_of_le (Nat.lt_succ_iff.mp hj) with h | rfl
      · exact hno j h
      · exact if_neg fun q => h1' q.1
  · rintro m' V' mu' lV ⟨l2, rfl, hm, hno⟩
    refine ts_weaken hm ?_
    refine ts_nil ?_
    repeat walk_at "ev"
    refine tr_newList (by walk_at "sz") fun ra V3 l4 e4 => ?_
    have hpf : pairF st kept = none := by
      unfold pairF
      rw [List.findSome?_eq_none_iff]
      intro j hj
      exact hno j (List.mem_range.mp hj)
    refine ⟨(l1.trans l2).trans l4, rfl, ra, _, _, rfl, e4, ?_⟩
    rw [hpf]
    exact .nil
end
end

end
section
open PySem PySem.Calls PySem.W PyProof.Rows
section
noncomputable section

variable {prog : Program} {w : World} {B V : View} {mu : Mu}
noncomputable def struckG (st : List Int) : Nat → List Nat → List (Nat × Nat) → List Nat × List (Nat × Nat)
  | 0, kept, pairs => (kept, pairs)
  | f + 1, kept, pairs => match pairF st kept with
    | none => (kept, pairs)
    | some (a, b) => struckG st f (kept.filter fun p => !(pairL (some (a, b))).contains p) (pairs ++ [(a, b)])
noncomputable def nz (st : List Int) (n : Nat) : List Nat := (List.range n).filter fun p => st.getD p 0 != 0
noncomputable def struckF (st : List Int) : List Nat × List (Nat × Nat) := struckG st (nz st st.length).length (nz st st.length) []
noncomputable def pairPV (p : Nat × Nat) : PV := .list [.int p.1, .int p.2]
theorem intsRep {V : View} : ∀ {vs : List Value} {ns : List Int}, IntsAre vs ns → RepL V vs (ns.map PV.int)
  | _, _, .nil => .nil
  | _, _, .cons n t h => .cons (.int n t) (intsRep h)
theorem nz_succ (st : List Int) (n : Nat) : nz st (n + 1) = nz st n ++ (if st.getD n 0 != 0 then [n] else []) := by
  unfold nz
  rw [List.range_succ, List.filter_append]
  congr 1
  simp [List.filter_cons]
theorem natI_append (a b : List Nat) : natI (a ++ b) = natI a ++ natI b := by simp [natI]

theorem struckG_none {st : List Int} {k : Nat} {kept : List Nat} {pairs : List (Nat × Nat)} (h : pairF st kept = none) : struckG st k kept pairs = (kept, pairs) := by
  cases k with
  | zero => rfl
  | succ k => unfold struckG; rw [h]
theorem pairF_mem {st : List Int} {kept : List Nat} {a b : Nat} (h : pairF st kept = some (a, b)) : a ∈ kept ∧ b ∈ kept := by
  unfold pairF at h
  obtain ⟨i, hi, e⟩ := List.exists_of_findSome?_eq_some h
  have hi' := List.mem_range.mp hi
  unfold pairT at e
  split at e
  · cases e
    have hm : (i + 1) % kept.length < kept.length := Nat.mod_lt _ (by omega)
    constructor
    · rw [List.getD_eq_getElem?_getD, List.getElem?_eq_getElem hi']; exact List.getElem_mem hi'
    · rw [List.getD_eq_getElem?_getD, List.getElem?_eq_getElem hm]; exact List.getElem_mem hm
  · cases e
theorem natI_contains (l : List Nat) (p : Nat) : (natI l).contains (p : Int) = l.contains p := by
  rw [Bool.eq_iff_iff]
  simp [natI]
  constructor
  · rintro ⟨a, h, e⟩
    have : a = p := by omega
    rw [← this]; exact h
  · intro h; exact ⟨p, h, rfl⟩
abbrev skQ (res : List Nat × List (Nat × Nat)) (V : View) (mu : Mu) (v : Value) (V' : View) (mu' : Mu) : Prop :=
  Le V V' ∧ mu' = mu ∧ ∃ a kl pl j ws us k1 k2, v = .ref a ∧ V' a = some (tupO [.ref kl, .ref pl] j) ∧ V' kl = some (listO ws k1) ∧ IntsAre ws (natI res.1) ∧ V' pl = some (listO us k2) ∧ RepL V' us (res.2.map pairPV)
abbrev skJ (st : List Int) (res : List Nat × List (Nat × Nat)) (pl : Addr) (c2 : Addr) (mu : Mu) (V5 : View) (k : Nat) (m : Loc) (V : View) (mu' : Mu) : Prop :=
  Le V5 V ∧ ∃ kept pairs kl ws k1 us k2 pa vp k3, kept.length ≤ k ∧ kept.length ≤ 100 ∧ pairs.length + kept.length ≤ 100 ∧ (∀ p ∈ kept, p < st.length) ∧ struckG st k kept pairs = res ∧ LocSub [("pairs", .ref pl), ("kept", .ref kl)] m ∧
          V kl = some (listO ws k1) ∧ IntsAre ws (natI kept) ∧ V pa = some (listO vp k3) ∧ IntsAre vp (natI (pairL (pairF st kept))) ∧
          mu' = (pl, listO us k2) :: (c2, cellO (.ref pa)) :: mu ∧ RepL V us (pairs.map pairPV)
theorem struck_ok (G : Gb w B) {sl : Addr} {vs : List Value} {n : Nat} {st : List Int} (es : V sl = some (listO vs n)) (hs : IntsAre vs st) (hz : st.length ≤ 100) :
    CallOk prog w B 2 (.ref 262) ⟨[.ref sl], []⟩ V mu (skQ (struckF st) V mu) := by
  refine enterC G (by kernel_rfl!) (by kernel_rfl!) (by kernel_rfl!) (Binds.pure (binds := [("steps", .ref sl)]) (by rfl)) fun C L hC hX hcells hcode hqual _ => ?_
  have hcl : C.env.cells = ([("pair", L + 2), ("steps", L + 1)] : List (Str × Addr)) := hcells.trans (by kernel_rfl!)
  have hmu : cellMu (L + 1) (fdAt 262).scope.names mu = (L + 2, cellN) :: (L + 1, cellN) :: mu := by kernel_rfl!
  have hsl := sizeLine_eq
  have hvl : vs.length = st.length := hs.length
  refine ⟨[], (L + 2, cellN) :: (L + 1, cellO (.ref sl)) :: mu, ?_, ?_⟩
  · rw [hmu]
    refine .cell (c := L + 1) (by kernel_rfl!) (by kernel_rfl!) (.tail .head) .nil
  · refine ts_perm perm_bac ?_
    refine ts_freeze fun V1 l1 e1 => ?_
    have es1 := l1 _ _ es
    have h1' : C.env.cells.lookup ("steps" : Str) = some (L + 1) := by rw [hcl]; rfl
    have h2' : C.env.cells.lookup ("pair" : Str) = some (L + 2) := by rw [hcl]; rfl
    refine ts_cons ?_
    refine ts_AssignComp hC (cl := [("steps", L + 1)]) (swaps_of hC (by kernel_rfl!)) (by kernel_rfl!) (by rw [hcl]; kernel_rfl!) (by rfl) (by rfl) ?_
    repeat walk_at "ev"
    refine tr_callT hC "range" (by kernel_rfl!) (n_range _) (by kernel_rfl!) ?_
    repeat walk_at "ev"
    refine tr_callB hC "len" (by kernel_rfl!) (n_len _) b_len ?_
    repeat walk_at "ev"
    refine c_len (.inl es1) (by omega) fun tl => ?_
    repeat walk_at "ev"
    rw [hvl]
    refine c_range fun r V2 l2 er => ?_
    refine iter_range hC.lv.hd (by omega) er fun I o S ok st0 => ?_
    refine comp_go hC ok st0 (by omega) (by rfl) rfl (fun i V' ys => Le V2 V' ∧ IntsAre ys (natI (nz st i))) ⟨Le.refl _, .nil⟩ ?_ ?_
    · rintro i v ys V' o' D d hi ⟨t, rfl⟩ lV ⟨l3, hy⟩ C' hC' hX' hcells' hp' hw' hB'
      have lA : Le V1 V' := l2.trans l3
      obtain ⟨t3, g3⟩ := ints_getI hs hi
      have h1c : C'.env.cells.lookup ("steps" : Str) = some (L + 1) := by rw [hcells']; rfl
      have e1' := lA _ _ e1
      have es' := lA _ _ es1
      refine tr_assign_Name ?_
      repeat walk_at "ev"
      refine tr_tests1 ?_
      repeat walk_at "ev"
      refine sub_list (.inl es') (by omega) (by omega) (by rw [Int.toNat_natCast]; exact g3) ?_
      repeat walk_at "ev"
      refine ⟨fun h => ?_, fun h => ?_⟩
      · repeat walk_at "ev"
        refine ⟨rfl, Le.refl _, l3, ?_⟩
        rw [nz_succ, if_pos h, natI_append]
        exact hy.append (.cons _ _ .nil)
      · refine ⟨rfl, Le.refl _, l3, ?_⟩
        rw [nz_succ, if_neg (by rw [h]; decide), List.append_nil, List.append_nil]
        exact hy
    · rintro kl V3 V4 ys k lV ⟨l3, hy⟩ l4 ek
      have l14 : Le V1 V4 := (l2.trans l3).trans l4
      clear l3 lV
      have hys : ys.length ≤ 100 := by
        rw [hy.length, natI_len]; unfold nz
        exact Nat.le_trans (List.length_filter_le _ _) (by simpa using hz)
      repeat walk_at "ev"
      refine tr_newListMu (by walk_at "sz") fun pl => ?_
      repeat walk_at "ev"
      have es4 := l14 _ _ es1
      have e14 := l14 _ _ e1
      have hnzp : ∀ p ∈ nz st st.length, p < st.length := fun p hp => List.mem_range.mp (List.mem_filter.mp hp).1
      refine tr_callG hC 257 (by kernel_rfl!) (g_law_pair _) (k_law_pair _) ?_
      repeat walk_at "ev"
      refine tr_call (pair_ok hC.gb es4 hs ek hy hnzp (by rw [← natI_len, ← hy.length]; exact hys) hz) (hC.lv.le (by decide)) hC.fr ?_
      rintro v V5 mu5 ⟨l5, rfl, pa, us, j, rfl, ep, hp⟩
      refine tr_stc1 hC (by kernel_rfl!) h2' (.tail .head) ?_
      have hstart : ∃ res, res = struckF st := ⟨_, rfl⟩
      obtain ⟨res, hres⟩ := hstart
      rw [← hres]
      repeat walk_at "ev"
      refine ts_While hX (skJ st res pl (L + 2) (mu) V5) (nz st st.length).length
        ⟨Le.refl _, nz st st.length, [], kl, ys, k, [], 0, pa, us, j, Nat.le_refl _, by rw [← natI_len, ← hy.length]; exact hys, by rw [← natI_len, ← hy.length]; simpa using hys, hnzp, hres.symm, ⟨rfl, rfl, trivial⟩, l5 _ _ ek, hy, ep, hp, rfl, .nil⟩ ?_
      rintro k m V6 mu6 ⟨l6, kept, pairs, kl, ws, k1, us, k2, pa, vp, k3, hkk, hk100, hpk, hkp, hG, hm, ek6, hw6, ep6, hvp, rfl, hus⟩
      refine tr_weaken hm.sub ?_
      clear hm
      have es6 := (l14.trans (l5.trans l6)) _ _ es1
      have e16 := (l14.trans (l5.trans l6)) _ _ e1
      have hul : us.length ≤ 100 := by rw [hus.length, List.length_map]; omega
      repeat walk_at "ev"
      refine tt_list (.inl ep6) (by
        rw [hvp.length, natI_len]; cases pairF st kept with
        | none => simp [pairL]
        | some q => simp [pairL]; omega) ?_
      cases hpf : pairF st kept with
      | none =>
        rw [hpf] at hvp
        have : vp = [] := by cases hvp; rfl
        subst this
        refine onF ?_
        rw [struckG_none hpf] at hG
        subst hG
        refine ts_nil ?_
        refine ts_freeze fun V7 l7 e7 => ?_
        refine ts_forget ?_
        repeat walk_at "ev"
        refine tr_newTuple (by walk_at "sz") fun a V8 l8 e8 => ?_
        exact ⟨l1.trans (l14.trans ((l5.trans l6).trans (l7.trans l8))), rfl, a, kl, pl, _, ws, us, k1, k2, rfl, e8, l8 _ _ (l7 _ _ ek6), hw6, l8 _ _ e7, (hus.mono l7).mono l8⟩
      | some q =>
        obtain ⟨a, b⟩ := q
        obtain ⟨hma, hmb⟩ := pairF_mem hpf
        rw [hpf] at hvp
        have hk1 : 1 ≤ k := by
          have : kept ≠ [] := fun e => by rw [e] at hma; cases hma
          have := List.length_pos_iff.mpr this
          omega
        have hne : vp.isEmpty = false := by
          cases vp with
          | nil => have := hvp.length; simp [natI, pairL] at this
          | cons _ _ => rfl
        rw [hne]
        refine onT ?_
        repeat walk_at "ev"
        refine tr_mList PySem.slot_list_append PySem.type_list_append ?_
        repeat walk_at "ev"
        refine ⟨_, _, _, rfl, by walk_at "known", ?_⟩
        refine tr_args (tr_cell hC (by kernel_rfl!) h2' (.inr (.tail _ (.head _))) ?_)
        refine tr_args_nil ?_
        refine c_append (vs := us) (n := k2) (v := .ref pa) (mu' := fun n' => (pl, listO (us ++ [.ref pa]) n') :: (L + 2, cellO (.ref pa)) :: mu) (fun _ => .head) (by omega) fun n4 => ?_
        refine ts_cons ?_
        refine ts_AssignComp hC (cl := [("pair", L + 2)]) (swaps_of hC (by kernel_rfl!)) (by kernel_rfl!) (by rw [hcl]; kernel_rfl!) (by rfl) (by rfl) ?_
        repeat walk_at "ev"
        refine iter_list hC.lv.hd ek6 fun I2 o2 S2 ok2 st2 => ?_
        have hwl : ws.length = kept.length := by rw [hw6.length, natI_len]
        refine comp_go hC ok2 st2 (by omega) (by rfl) rfl (fun i V' ys => Le V6 V' ∧ IntsAre ys (natI ((kept.take i).filter fun p => !(pairL (some (a, b))).contains p))) ⟨Le.refl _, .nil⟩ ?_ ?_
        · rintro i v ys V' o' D d hi hv lV ⟨l7, hy⟩ C' hC' hX' hcells' hp' hw' hB'
          have hi' : i < kept.length := by omega
          obtain ⟨t3, g3⟩ := ints_get hw6 hi'
          rw [g3] at hv; cases hv
          have h2c : C'.env.cells.lookup ("pair" : Str) = some (L + 2) := by rw [hcells']; rfl
          have ep' := l7 _ _ ep6
          have htk : (kept.take (i + 1)).filter (fun p => !(pairL (some (a, b))).contains p) = (kept.take i).filter (fun p => !(pairL (some (a, b))).contains p) ++ (if (!(pairL (some (a, b))).contains (kept.getD i 0)) = true then [kept.getD i 0] else []) := by
            rw [List.take_succ, List.getElem?_eq_getElem hi', List.filter_append]
            congr 1
            have : kept.getD i 0 = kept[i] := by simp [hi']
            rw [this]
            simp [List.filter_cons]
          refine tr_assign_Name ?_
          repeat walk_at "ev"
          refine tr_tests1 ?_
          repeat walk_at "ev"
          refine op_notInL (.inl ep') hvp ?_
          rw [natI_contains]
          repeat walk_at "ev"
          refine ⟨fun h => ?_, fun h => ?_⟩
          · repeat walk_at "ev"
            refine ⟨rfl, Le.refl _, l7, ?_⟩
            rw [htk, if_pos h, natI_append]
            exact hy.append (.cons _ _ .nil)
          · refine ⟨rfl, Le.refl _, l7, ?_⟩
            rw [htk, if_neg (by rw [h]; decide), List.append_nil, List.append_nil]
            exact hy
        · rintro kl2 V7 V8 ys2 k5 lV2 ⟨l7, hy2⟩ l8 ek8
          rw [hwl, List.take_length] at hy2
          have l68 : Le V6 V8 := l7.trans l8
          clear l7 lV2
          have es8 := l68 _ _ es6
          have e18 := l68 _ _ e16
          have hsub : ∀ p ∈ kept.filter (fun p => !(pairL (some (a, b))).contains p), p < st.length := fun p hp => hkp _ (List.mem_filter.mp hp).1
          have hlt : (kept.filter fun p => !(pairL (some (a, b))).contains p).length < kept.length := by
            rw [List.length_filter_lt_length_iff_exists]
            exact ⟨a, hma, by simp [pairL]⟩
          repeat walk_at "ev"
          refine tr_callG hC 257 (by kernel_rfl!) (g_law_pair _) (k_law_pair _) ?_
          repeat walk_at "ev"
          refine tr_call (pair_ok hC.gb es8 hs ek8 hy2 hsub (by omega) hz) (hC.lv.le (by decide)) hC.fr ?_
          rintro v V9 mu9 ⟨l9, rfl, pa2, us2, j2, rfl, ep2, hp2⟩
          refine tr_stc1 hC (by kernel_rfl!) h2' (.tail .head) ?_
          refine ts_nil ?_
          have l69 : Le V6 V9 := l68.trans l9
          refine ⟨k - 1, by omega, l6.trans l69, _, pairs ++ [(a, b)], kl2, ys2, k5, us ++ [.ref pa], n4, pa2, us2, j2, ?_, by omega, ?_, hsub, ?_, ⟨rfl, rfl, trivial⟩, l9 _ _ ek8, hy2, ep2, hp2, rfl, ?_⟩
          · omega
          · rw [List.length_append]; show pairs.length + 1 + _ ≤ 100; omega
          · rw [← hG]
            obtain ⟨k', rfl⟩ : ∃ k', k = k' + 1 := ⟨k - 1, by omega⟩
            show struckG st k' _ _ = struckG st (k' + 1) kept pairs
            conv => rhs; unfold struckG
            rw [hpf]
          · rw [List.map_append]
            refine (hus.mono l69).append (.cons ?_ .nil)
            exact .list (l69 _ _ ep6) (intsRep hvp)
end
end

end
section
open PySem PySem.Calls PySem.W PyProof.Rows
section
noncomputable section

variable {prog : Program} {w : World} {B V : View} {mu : Mu}
noncomputable def sortN (l : List Nat) : List Nat := l.mergeSort fun a b => decide (a ≤ b)
theorem sortN_perm (l : List Nat) : (sortN l).Perm l := List.mergeSort_perm ..
theorem sortN_sorted (l : List Nat) : (sortN l).Pairwise (· ≤ ·) := by
  have := List.pairwise_mergeSort (le := fun a b : Nat => decide (a ≤ b)) (fun a b c h1 h2 => decide_eq_true (Nat.le_trans (of_decide_eq_true h1) (of_decide_eq_true h2))) (fun a b => by simp; omega) l
  exact this.imp fun h => of_decide_eq_true h
theorem sorted_eq {ns : List Int} {l : List Nat} (hp : ns.Perm (natI l)) (hs : ns.Pairwise (· ≤ ·)) : ns = natI (sortN l) := by
  refine List.Perm.eq_of_pairwise (le := fun a b : Int => a ≤ b) (fun a b _ _ h1 h2 => by omega) hs ?_ ?_
  · unfold natI
    rw [List.pairwise_map]
    exact (sortN_sorted l).imp fun h => by omega
  · exact hp.trans ((sortN_perm l).symm.map _)
/-- a place as the turning tells it -/
noncomputable def rotN (n turn p : Nat) : Nat := (p + (n - turn)) % n
theorem rot_eq {n turn p : Nat} (ht : turn < n) : ((p : Int) - (turn : Int)).fmod (n : Int) = (rotN n turn p : Int) := by
  rw [Int.fmod_eq_emod_of_nonneg _ (by omega)]
  unfold rotN
  rw [Int.natCast_emod]
  have : ((p + (n - turn) : Nat) : Int) = (p : Int) - turn + n := by omega
  rw [this, Int.add_emod_right]
noncomputable def leftOf (st : List Int) (n turn : Nat) (kept : List Nat) : List Nat := (kept.filter fun p => st.getD p 0 == 1).map (rotN n turn)
noncomputable def partOf (n turn : Nat) (pairs : List (Nat × Nat)) : List Nat := (pairs.filter fun q => decide (rotN n turn q.2 < rotN n turn q.1)).map fun q => rotN n turn q.1
noncomputable def downOf (st : List Int) (kept : List Nat) : Nat := (kept.filter fun p => st.getD p 0 == -1).length
noncomputable def placesOf (st : List Int) (n turn rounds : Nat) (kept : List Nat) (pairs : List (Nat × Nat)) : List Nat :=
  (List.replicate (rounds - 1) (sortN (leftOf st n turn kept))).flatten ++ sortN (sortN (leftOf st n turn kept) ++ partOf n turn pairs)
noncomputable def piecesOf (st : List Int) (names : List Str) (turn rounds : Nat) (kept : List Nat) (pairs : List (Nat × Nat)) : List Str :=
  List.replicate (rounds * downOf st kept + (partOf st.length turn pairs).length) (".." : Str) ++ (placesOf st st.length turn rounds kept pairs).map fun p => names.getD ((turn + p) % st.length) ""

theorem flt_succ {γ : Type} (f : γ → Bool) (l : List γ) (i : Nat) (x : γ) (h : l[i]? = some x) : (l.take (i + 1)).filter f = (l.take i).filter f ++ (if f x = true then [x] else []) := by
  rw [List.take_succ, h, List.filter_append]
  congr 1
  simp [List.filter_cons]
theorem leftOf_len (st : List Int) (n turn : Nat) (kept : List Nat) : (leftOf st n turn kept).length ≤ kept.length := by
  unfold leftOf; rw [List.length_map]; exact List.length_filter_le _ _
theorem partOf_len (n turn : Nat) (pairs : List (Nat × Nat)) : (partOf n turn pairs).length ≤ pairs.length := by
  unfold partOf; rw [List.length_map]; exact List.length_filter_le _ _
theorem sortN_len (l : List Nat) : (sortN l).length = l.length := (sortN_perm l).length_eq
theorem ints_repl {vs : List Value} {ns : List Int} (h : IntsAre vs ns) : ∀ k : Nat, IntsAre (List.replicate k vs).flatten (List.replicate k ns).flatten
  | 0 => .nil
  | k + 1 => by
    rw [List.replicate_succ, List.flatten_cons, List.replicate_succ, List.flatten_cons]
    exact h.append (ints_repl h k)
theorem natI_repl (l : List Nat) (k : Nat) : natI (List.replicate k l).flatten = (List.replicate k (natI l)).flatten := by
  unfold natI
  rw [List.map_flatten, List.map_replicate]
theorem strs_repl {V : View} (x : Str) (t : Tok) : ∀ k : Nat, RepL V (List.replicate k [Value.str x t]).flatten ((List.replicate k x).map PV.str)
  | 0 => .nil
  | k + 1 => by
    rw [List.replicate_succ, List.flatten_cons, List.replicate_succ, List.map_cons]
    exact .cons (.str x t) (strs_repl x t k)
theorem flat_repl_len {γ : Type} (l : List γ) : ∀ k : Nat, (List.replicate k l).flatten.length = k * l.length
  | 0 => by simp
  | k + 1 => by
    rw [List.replicate_succ, List.flatten_cons, List.length_append, flat_repl_len l k, Nat.add_mul, Nat.one_mul, Nat.add_comm]
theorem sum_le20 : ∀ l : List Str, (∀ x ∈ l, x.length ≤ 20) → (l.map (·.length)).sum ≤ 20 * l.length
  | [], _ => by simp
  | x :: l, h => by
    have h1 := h x (List.mem_cons_self ..)
    have h2 := sum_le20 l fun y hy => h y (List.mem_cons_of_mem _ hy)
    simp only [List.map_cons, List.sum_cons, List.length_cons]
    omega
theorem names_get {names : List Str} {i : Nat} (h : i < names.length) : (names.map PV.str)[i]? = some (.str (names.getD i "")) := by
  rw [List.getElem?_map, List.getElem?_eq_getElem h, List.getD_eq_getElem?_getD, List.getElem?_eq_getElem h]; rfl
theorem due_ok (G : Gb w B) {sl nl a kl pl : Addr} {vs nvs ws us : List Value} {n n1 j k1 k2 turn rounds : Nat} {t1 t2 : Tok} {st : List Int} {names : List Str} {kept : List Nat} {pairs : List (Nat × Nat)} (es : V sl = some (listO vs n)) (hs : IntsAre vs st)
    (en : V nl = some (listO nvs n1)) (hn : RepL V nvs (names.map PV.str)) (hnl : names.length = st.length) (hnz : ∀ x ∈ names, x.length ≤ 20)
    (ea : V a = some (tupO [.ref kl, .ref pl] j)) (ek : V kl = some (listO ws k1)) (hk : IntsAre ws (natI kept)) (ep : V pl = some (listO us k2)) (hp : RepL V us (pairs.map pairPV))
    (hkp : ∀ p ∈ kept, p < st.length) (hkl : kept.length ≤ 20) (hpl : pairs.length ≤ 20) (ht : turn < st.length) (hr : rounds = 1 ∨ rounds = 3) (hz : st.length ≤ 20) :
    CallOk prog w B 1 (.ref 267) ⟨[.ref sl, .ref nl, .ref a, .int (turn : Int) t1, .int (rounds : Int) t2], []⟩ V mu (PoS (normJ (piecesOf st names turn rounds kept pairs)) V mu) := by
  refine enterC G (by kernel_rfl!) (by kernel_rfl!) (by kernel_rfl!) (Binds.pure (binds := [("steps", .ref sl), ("names", .ref nl), ("struck", .ref a), ("turn", .int (turn : Int) t1), ("rounds", .int (rounds : Int) t2)]) (by rfl)) fun C L hC hX hcells hcode hqual _ => ?_
  have hcl : C.env.cells = ([("count", L + 4), ("turn", L + 3), ("names", L + 2), ("steps", L + 1)] : List (Str × Addr)) := hcells.trans (by kernel_rfl!)
  have hmu : cellMu (L + 1) (fdAt 267).scope.names mu = (L + 4, cellN) :: (L + 3, cellN) :: (L + 2, cellN) :: (L + 1, cellN) :: mu := by kernel_rfl!
  have hsl := sizeLine_eq
  have hvl : vs.length = st.length := hs.length
  refine ⟨[("rounds", .int (rounds : Int) t2), ("struck", .ref a)], (L + 4, cellN) :: (L + 3, cellO (.int (turn : Int) t1)) :: (L + 2, cellO (.ref nl)) :: (L + 1, cellO (.ref sl)) :: mu, ?_, ?_⟩
  · rw [hmu]
    refine .cell (c := L + 1) (by kernel_rfl!) (by kernel_rfl!) (.tail (.tail (.tail .head))) ?_
    refine .cell (c := L + 2) (by kernel_rfl!) (by kernel_rfl!) (.tail (.tail .head)) ?_
    refine .loc (by kernel_rfl!) ?_
    refine .cell (c := L + 3) (by kernel_rfl!) (by kernel_rfl!) (.tail .head) ?_
    refine .loc (by kernel_rfl!) .nil
  · refine ts_perm (mu' := (L + 3, cellO (.int (turn : Int) t1)) :: (L + 2, cellO (.ref nl)) :: (L + 1, cellO (.ref sl)) :: (L + 4, cellN) :: mu) ((perm_bca (c := (L + 2, cellO (.ref nl)))).trans (List.Perm.cons _ (List.Perm.cons _ perm_bac))) ?_
    refine ts_freeze fun V1 l1 e3 => ?_
    refine ts_freeze fun V2 l2 e2 => ?_
    refine ts_freeze fun V3 l3 e1 => ?_
    have l03 : Le V V3 := (l1.trans l2).trans l3
    have e2' := l3 _ _ e2
    have e3' := (l2.trans l3) _ _ e3
    have g1 : C.env.cells.lookup ("steps" : Str) = some (L + 1) := by rw [hcl]; rfl
    have g2 : C.env.cells.lookup ("names" : Str) = some (L + 2) := by rw [hcl]; rfl
    have g3 : C.env.cells.lookup ("turn" : Str) = some (L + 3) := by rw [hcl]; rfl
    have g4 : C.env.cells.lookup ("count" : Str) = some (L + 4) := by rw [hcl]; rfl
    have es3 := l03 _ _ es
    have en3 := l03 _ _ en
    have ea3 := l03 _ _ ea
    have ek3 := l03 _ _ ek
    have ep3 := l03 _ _ ep
    have hn3 := hn.mono l03
    have hp3 := hp.mono l03
    refine ts_cons ?_
    repeat walk_at "ev"
    refine tr_asgT (n := 2) rfl ?_
    refine tr_unpackT hC.lv.hd ea3 rfl ?_
    refine tr_aio ?_
    repeat walk_at "ev"
    refine tr_aio ?_
    repeat walk_at "ev"
    refine tr_aio_nil ?_
    repeat walk_at "ev"
    refine tr_callB hC "len" (by kernel_rfl!) (n_len _) b_len ?_
    repeat walk_at "ev"
    refine c_len (.inl es3) (by omega) fun tl => ?_
    rw [hvl]
    refine tr_stc1 hC (by kernel_rfl!) g4 .head ?_
    refine ts_freeze fun V4 l4 e4 => ?_
    have es4 := l4 _ _ es3
    have en4 := l4 _ _ en3
    have ek4 := l4 _ _ ek3
    have ep4 := l4 _ _ ep3
    have hn4 := hn3.mono l4
    have hp4 := hp3.mono l4
    have e14 := l4 _ _ e1
    have e24 := l4 _ _ e2'
    have e34 := l4 _ _ e3'
    have hwl : ws.length = kept.length := by rw [hk.length, natI_len]
    have hul : us.length = pairs.length := by rw [hp.length, List.length_map]
    repeat walk_at "ev"
    refine tr_callB hC "sorted" (by kernel_rfl!) (n_sorted _) b_sorted ?_
    refine tr_args ?_
    refine tr_ListComp (cl := [("turn", L + 3), ("steps", L + 1), ("count", L + 4)]) (by rw [hcl]; kernel_rfl!) rfl (by rfl) ?_
    repeat walk_at "ev"
    refine iter_list hC.lv.hd ek4 fun I o S ok st0 => ?_
    refine comp_go hC ok st0 (by omega) (by rfl) rfl (fun i V' ys => Le V4 V' ∧ IntsAre ys (natI (leftOf st st.length turn (kept.take i)))) ⟨Le.refl _, .nil⟩ ?_ ?_
    · rintro i v ys V' o' D d hi hv lV ⟨l5, hy⟩ C' hC' hX' hcells' hp' hw' hB'
      have hi' : i < kept.length := by omega
      obtain ⟨tp, gp⟩ := ints_get hk hi'
      rw [gp] at hv; cases hv
      have hki : kept.getD i 0 < st.length := hkp _ (by rw [List.getD_eq_getElem?_getD, List.getElem?_eq_getElem hi']; exact List.getElem_mem hi')
      have hkg : kept[i]? = some (kept.getD i 0) := by simp [hi']
      obtain ⟨ts, gs⟩ := ints_getI hs hki
      have c1 : C'.env.cells.lookup ("steps" : Str) = some (L + 1) := by rw [hcells']; rfl
      have c3 : C'.env.cells.lookup ("turn" : Str) = some (L + 3) := by rw [hcells']; rfl
      have c4 : C'.env.cells.lookup ("count" : Str) = some (L + 4) := by rw [hcells']; rfl
      have es5 := l5 _ _ es4
      have e15 := l5 _ _ e14
      have e35 := l5 _ _ e34
      have e45 := l5 _ _ e4
      refine tr_assign_Name ?_
      repeat walk_at "ev"
      refine tr_tests1 ?_
      repeat walk_at "ev"
      refine sub_list (.inl es5) (by omega) (by omega) (by rw [Int.toNat_natCast]; exact gs) ?_
      repeat walk_at "ev"
      have hfl : leftOf st st.length turn (kept.take (i + 1)) = leftOf st st.length turn (kept.take i) ++ (if (st.getD (kept.getD i 0) 0 == 1) = true then [rotN st.length turn (kept.getD i 0)] else []) := by
        unfold leftOf
        rw [flt_succ _ _ _ _ hkg, List.map_append]
        split <;> rfl
      refine ⟨fun h => ?_, fun h => ?_⟩
      · repeat walk_at "ev"
        refine op_mod (by omega) fun _ => ?_
        rw [rot_eq ht]
        refine ⟨rfl, Le.refl _, l5, ?_⟩
        rw [hfl, if_pos h, natI_append]
        exact hy.append (.cons _ _ .nil)
      · refine ⟨rfl, Le.refl _, l5, ?_⟩
        rw [hfl, if_neg (by rw [h]; decide), List.append_nil, List.append_nil]
        exact hy
    · rintro lf V5 V6 ys k lV ⟨l5, hy⟩ l6 elf
      rw [hwl, List.take_length] at hy
      have l46 : Le V4 V6 := l5.trans l6
      clear lV
      have hyl : ys.length ≤ 20 := by rw [hy.length, natI_len]; exact Nat.le_trans (leftOf_len ..) hkl
      refine tr_args_nil ?_
      refine c_sorted (.inl elf) hy (by omega) fun la V7 lvs n7 ns' l7 ela hla hperm hpw => ?_
      have hns := sorted_eq hperm hpw
      subst hns
      have l47 := l46.trans l7
      repeat walk_at "ev"
      refine ts_AssignComp hC (cl := [("turn", L + 3), ("count", L + 4)]) (swaps_of hC (by kernel_rfl!)) (by kernel_rfl!) (by rw [hcl]; kernel_rfl!) (by rfl) (by rfl) ?_
      have ep7 := l47 _ _ ep4
      have hp7 := hp4.mono l47
      have e37 := l47 _ _ e34
      have e47 := l47 _ _ e4
      repeat walk_at "ev"
      refine iter_listT hC.lv.hd ep7 fun I2 o2 S2 ok2 st2 hS2 => ?_
      have hpr : ∀ (i : Nat) (v : Value), us[i]? = some v → ∃ (T : Addr) (x y : Nat) (j : Nat) (tx ty : Tok), v = .ref T ∧ pairs[i]? = some (x, y) ∧ V7 T = some (listO [.int (x : Int) tx, .int (y : Int) ty] j) := fun i v hv => by
        have hi' : i < pairs.length := by have := (List.getElem?_eq_some_iff.mp hv).1; omega
        obtain ⟨v', hv', rv⟩ := hp7.get (i := i) (d := pairPV pairs[i]) (by simp [hi'])
        rw [hv] at hv'; cases hv'
        obtain ⟨T, zs, j', rfl, eT, rz⟩ := rv.list_inv
        cases rz with
        | cons r1 rz => cases rz with
          | cons r2 rz => cases rz with
            | nil =>
              obtain ⟨tx, rfl⟩ := r1.int_inv
              obtain ⟨ty, rfl⟩ := r2.int_inv
              exact ⟨T, pairs[i].1, pairs[i].2, j', tx, ty, rfl, by simp [hi'], eT⟩
      refine comp_goT hC ok2 st2 (by omega) (by rfl) rfl (fun i V' ys => Le V7 V' ∧ IntsAre ys (natI (partOf st.length turn (pairs.take i)))) ⟨Le.refl _, .nil⟩ ?_ ?_ (go_list hS2 fun i v hv => by obtain ⟨T, x, y, j', tx, ty, h, _⟩ := hpr i v hv; exact ⟨T, h⟩)
      · rintro i v ys V' o' D d hi hv lV ⟨l8, hy8⟩ C' hC' hX' hcells' hp' hw' hB'
        obtain ⟨T, x, y, j', tx, ty, rfl, hxy, eT⟩ := hpr i v hv
        have c3 : C'.env.cells.lookup ("turn" : Str) = some (L + 3) := by rw [hcells']; rfl
        have c4 : C'.env.cells.lookup ("count" : Str) = some (L + 4) := by rw [hcells']; rfl
        have eT8 := l8 _ _ eT
        have e38 := l8 _ _ e37
        have e48 := l8 _ _ e47
        refine tr_asgT (n := 2) rfl ?_
        refine tr_unpackL hC'.lv.hd eT8 rfl ?_
        refine tr_aio ?_
        repeat walk_at "ev"
        refine tr_aio ?_
        repeat walk_at "ev"
        refine tr_aio_nil ?_
        refine tr_tests1 ?_
        repeat walk_at "ev"
        refine op_mod (by omega) fun _ => ?_
        repeat walk_at "ev"
        refine op_mod (by omega) fun _ => ?_
        rw [rot_eq ht, rot_eq ht]
        repeat walk_at "ev"
        have hfl : partOf st.length turn (pairs.take (i + 1)) = partOf st.length turn (pairs.take i) ++ (if decide (rotN st.length turn y < rotN st.length turn x) = true then [rotN st.length turn x] else []) := by
          unfold partOf
          rw [flt_succ _ _ _ _ hxy, List.map_append]
          dsimp only
          split <;> rfl
        refine ⟨fun h => ?_, fun h => ?_⟩
        · repeat walk_at "ev"
          refine op_mod (by omega) fun _ => ?_
          rw [rot_eq ht]
          refine ⟨rfl, Le.refl _, l8, ?_⟩
          have h' := of_decide_eq_true h
          rw [hfl, if_pos (decide_eq_true (by omega)), natI_append]
          exact hy8.append (.cons _ _ .nil)
        · refine ⟨rfl, Le.refl _, l8, ?_⟩
          have h' := of_decide_eq_false h
          rw [hfl, if_neg (by rw [decide_eq_false (by omega)]; decide), List.append_nil, List.append_nil]
          exact hy8
      · rintro pd V8 V9 pys k9 lV2 ⟨l8, hpy⟩ l9 epd
        rw [hul, List.take_length] at hpy
        have l79 : Le V7 V9 := l8.trans l9
        have l49 := l47.trans l79
        have hpyl : pys.length ≤ 20 := by rw [hpy.length, natI_len]; exact Nat.le_trans (partOf_len ..) hpl
        have ela9 := l79 _ _ ela
        have ek9 := l49 _ _ ek4
        have es9 := l49 _ _ es4
        have e19 := l49 _ _ e14
        have hlal : lvs.length ≤ 20 := by rw [hla.length, natI_len, sortN_len]; exact Nat.le_trans (leftOf_len ..) hkl
        repeat walk_at "ev"
        refine tr_callB hC "len" (by kernel_rfl!) (n_len _) b_len ?_
        refine tr_args ?_
        refine tr_ListComp (cl := [("steps", L + 1)]) (by rw [hcl]; kernel_rfl!) rfl (by rfl) ?_
        repeat walk_at "ev"
        refine iter_list hC.lv.hd ek9 fun I3 o3 S3 ok3 st3 => ?_
        refine comp_go hC ok3 st3 (by omega) (by rfl) rfl (fun i V' ys => Le V9 V' ∧ ys.length = downOf st (kept.take i)) ⟨Le.refl _, rfl⟩ ?_ ?_
        · rintro i v ys V' o' D d hi hv lV ⟨l10, hy10⟩ C' hC' hX' hcells' hp' hw' hB'
          have hi' : i < kept.length := by omega
          obtain ⟨tp, gp⟩ := ints_get hk hi'
          rw [gp] at hv; cases hv
          have hki : kept.getD i 0 < st.length := hkp _ (by rw [List.getD_eq_getElem?_getD, List.getElem?_eq_getElem hi']; exact List.getElem_mem hi')
          have hkg : kept[i]? = some (kept.getD i 0) := by simp [hi']
          obtain ⟨ts, gs⟩ := ints_getI hs hki
          have c1 : C'.env.cells.lookup ("steps" : Str) = some (L + 1) := by rw [hcells']; rfl
          have es10 := l10 _ _ es9
          have e110 := l10 _ _ e19
          refine tr_assign_Name ?_
          repeat walk_at "ev"
          refine tr_tests1 ?_
          repeat walk_at "ev"
          refine sub_list (.inl es10) (by omega) (by omega) (by rw [Int.toNat_natCast]; exact gs) ?_
          repeat walk_at "ev"
          have hfl : downOf st (kept.take (i + 1)) = downOf st (kept.take i) + (if (st.getD (kept.getD i 0) 0 == -1) = true then 1 else 0) := by
            unfold downOf
            rw [flt_succ _ _ _ _ hkg, List.length_append]
            split <;> rfl
          refine ⟨fun h => ?_, fun h => ?_⟩
          · repeat walk_at "ev"
            refine ⟨rfl, Le.refl _, l10, ?_⟩
            rw [hfl, if_pos h, List.length_append, hy10]; rfl
          · refine ⟨rfl, Le.refl _, l10, ?_⟩
            rw [hfl, if_neg (by rw [h]; decide), List.append_nil, hy10]; rfl
        · rintro dl V10 V11 dys k11 lV3 ⟨l10, hdy⟩ l11 edl
          rw [hwl, List.take_length] at hdy
          have l911 : Le V9 V11 := l10.trans l11
          have hdl : dys.length ≤ 20 := by rw [hdy]; unfold downOf; exact Nat.le_trans (List.length_filter_le _ _) hkl
          have epd11 := l911 _ _ epd
          have ela11 := l911 _ _ ela9
          refine tr_args_nil ?_
          refine c_len (.inl edl) (by omega) fun tl2 => ?_
          rw [hdy]
          refine op_mul (IntMulOk.of_left (by rcases hr with rfl | rfl <;> decide)) fun tm => ?_
          refine tr_callB hC "len" (by kernel_rfl!) (n_len _) b_len ?_
          repeat walk_at "ev"
          refine c_len (.inl epd11) (by omega) fun tl3 => ?_
          rw [hpy.length, natI_len]
          repeat walk_at "ev"
          have hdots : ((rounds : Int) * (downOf st kept : Int) + ((partOf st.length turn pairs).length : Int)) = ((rounds * downOf st kept + (partOf st.length turn pairs).length : Nat) : Int) := by push_cast; rfl
          have hround : ((rounds : Int) - 1) = ((rounds - 1 : Nat) : Int) := by rcases hr with rfl | rfl <;> rfl
          rw [hdots, hround]
          have hdn : downOf st kept ≤ 20 := by unfold downOf; exact Nat.le_trans (List.length_filter_le _ _) hkl
          have hpn : (partOf st.length turn pairs).length ≤ 20 := Nat.le_trans (partOf_len ..) hpl
          have hln : (leftOf st st.length turn kept).length ≤ 20 := Nat.le_trans (leftOf_len ..) hkl
          have hdz : rounds * downOf st kept + (partOf st.length turn pairs).length ≤ 80 := by
            rcases hr with rfl | rfl <;> omega
          have hr2 : rounds - 1 ≤ 2 := by rcases hr with rfl | rfl <;> omega
          refine op_mulL (.inl ela11) (by
            have : lvs.length * (rounds - 1) ≤ 20 * 2 := Nat.mul_le_mul hlal hr2
            omega) (by omega) fun m1 V12 l12 em1 => ?_
          have hm1 := ints_repl hla (rounds - 1)
          rw [← natI_repl] at hm1
          have hm1l := flat_repl_len lvs (rounds - 1)
          have hm1z : (List.replicate (rounds - 1) lvs).flatten.length ≤ 40 := by
            rw [hm1l]
            have : (rounds - 1) * lvs.length ≤ 2 * 20 := Nat.mul_le_mul hr2 hlal
            omega
          refine tr_callB hC "sorted" (by kernel_rfl!) (n_sorted _) b_sorted ?_
          repeat walk_at "ev"
          refine op_addL (.inl (l12 _ _ ela11)) (.inl (l12 _ _ epd11)) (by omega) fun m2 V13 l13 em2 => ?_
          have hm2 := hla.append hpy
          rw [← natI_append] at hm2
          repeat walk_at "ev"
          refine c_sorted (.inl em2) hm2 (by rw [List.length_append]; omega) fun m3 V14 svs n14 ns2 l14 em3 hm3 hperm2 hpw2 => ?_
          have hns2 := sorted_eq hperm2 hpw2
          subst hns2
          have hsvl : svs.length ≤ 40 := by rw [hm3.length, natI_len, sortN_len, List.length_append, sortN_len]; omega
          refine op_addL (.inl ((l13.trans l14) _ _ em1)) (.inl em3) (by omega) fun m4 V15 l15 em4 => ?_
          have hm4 := hm1.append hm3
          rw [← natI_append] at hm4
          have hm4l : ((List.replicate (rounds - 1) lvs).flatten ++ svs).length ≤ 80 := by rw [List.length_append]; omega
          generalize (List.replicate (rounds - 1) lvs).flatten ++ svs = pvs at em4 hm4 hm4l
          have hplaces : placesOf st st.length turn rounds kept pairs = (List.replicate (rounds - 1) (sortN (leftOf st st.length turn kept))).flatten ++ sortN (sortN (leftOf st st.length turn kept) ++ partOf st.length turn pairs) := rfl
          rw [← hplaces] at hm4
          have l1115 := ((l12.trans l13).trans l14).trans l15
          have l415 := (l49.trans l911).trans l1115
          have en15 := l415 _ _ en4
          have hn15 := hn4.mono l415
          have e215 := l415 _ _ e24
          have e315 := l415 _ _ e34
          have e415 := l415 _ _ e4
          have hnvl : nvs.length = st.length := by rw [hn15.length, List.length_map, hnl]
          repeat walk_at "ev"
          refine tr_newList (by walk_at "sz") fun q1 V16 l16 eq1 => ?_
          obtain ⟨tq, eq1⟩ : ∃ tq, V16 q1 = some (listO [Value.str ".." tq] 0) := ⟨_, eq1⟩
          repeat walk_at "ev"
          refine op_mulL (.inl eq1) (by simp; omega) (by omega) fun q2 V17 l17 eq2 => ?_
          refine tr_ListComp (cl := [("turn", L + 3), ("names", L + 2), ("count", L + 4)]) (by rw [hcl]; kernel_rfl!) rfl (by rfl) ?_
          have l1517 := l16.trans l17
          have em417 := l1517 _ _ em4
          have en17 := l1517 _ _ en15
          have e217 := l1517 _ _ e215
          have e317 := l1517 _ _ e315
          have e417 := l1517 _ _ e415
          have hn17 := hn15.mono l1517
          repeat walk_at "ev"
          refine iter_list hC.lv.hd em417 fun I4 o4 S4 ok4 st4 => ?_
          have hpvl : pvs.length = (placesOf st st.length turn rounds kept pairs).length := by rw [hm4.length, natI_len]
          obtain ⟨pls, hplaces0⟩ : ∃ pls, pls = placesOf st st.length turn rounds kept pairs := ⟨_, rfl⟩
          rw [← hplaces0] at hm4 hpvl
          refine comp_go hC ok4 st4 (by omega) (by rfl) rfl (fun i V' ys => Le V17 V' ∧ RepL V' ys (((pls.take i).map fun p => names.getD ((turn + p) % st.length) "").map PV.str)) ⟨Le.refl _, .nil⟩ ?_ ?_
          · rintro i v ys V' o' D d hi hv lV ⟨l18, hy18⟩ C' hC' hX' hcells' hp' hw' hB'
            have hi' : i < pls.length := by omega
            obtain ⟨tp, gp⟩ := ints_get hm4 hi'
            rw [gp] at hv; cases hv
            have hmod : (turn + pls.getD i 0) % st.length < st.length := Nat.mod_lt _ (by omega)
            have c2 : C'.env.cells.lookup ("names" : Str) = some (L + 2) := by rw [hcells']; rfl
            have c3 : C'.env.cells.lookup ("turn" : Str) = some (L + 3) := by rw [hcells']; rfl
            have c4 : C'.env.cells.lookup ("count" : Str) = some (L + 4) := by rw [hcells']; rfl
            have en18 := l18 _ _ en17
            have e218 := l18 _ _ e217
            have e318 := l18 _ _ e317
            have e418 := l18 _ _ e417
            have hn18 := hn17.mono l18
            obtain ⟨nv, gn, rn⟩ := hn18.get (i := (turn + pls.getD i 0) % st.length) (d := .str (names.getD ((turn + pls.getD i 0) % st.length) "")) (names_get (by rw [hnl]; exact hmod))
            refine tr_assign_Name ?_
            repeat walk_at "ev"
            refine tr_tests0 ?_
            refine onT ?_
            repeat walk_at "ev"
            refine op_mod (by omega) fun _ => ?_
            have em : ((turn : Int) + (pls.getD i 0 : Int)).fmod (st.length : Int) = (((turn + pls.getD i 0) % st.length : Nat) : Int) := by
              rw [Int.fmod_eq_emod_of_nonneg _ (by omega)]
              rfl
            rw [em]
            refine sub_list (.inl en18) (by omega) (by omega) (by rw [Int.toNat_natCast]; exact gn) ?_
            refine ⟨rfl, Le.refl _, l18, ?_⟩
            have hpg : pls[i]? = some (pls.getD i 0) := by simp [hi']
            rw [List.take_succ, hpg, List.map_append, List.map_append]
            exact hy18.append (.cons rn .nil)
          · rintro q3 V18 V19 zs k19 lV4 ⟨l18, hzs⟩ l19 eq3
            rw [hpvl, List.take_length] at hzs
            have hzsl : zs.length ≤ 80 := by rw [hzs.length, List.length_map, List.length_map]; omega
            have l1719 := l18.trans l19
            have hds := strs_repl (V := V19) ".." tq (rounds * downOf st kept + (partOf st.length turn pairs).length)
            refine op_addL (.inl (l1719 _ _ eq2)) (.inl eq3) (by rw [flat_repl_len]; simp; omega) fun q4 V20 l20 eq4 => ?_
            have hall := (hds.append (hzs.mono l19)).mono l20
            rw [← List.map_append] at hall
            have hpc : List.replicate (rounds * downOf st kept + (partOf st.length turn pairs).length) (".." : Str) ++ pls.map (fun p => names.getD ((turn + p) % st.length) "") = piecesOf st names turn rounds kept pairs := by
              unfold piecesOf; rw [← hplaces0]
            rw [hpc] at hall
            have hsmall : ∀ x ∈ piecesOf st names turn rounds kept pairs, x.length ≤ 20 := by
              intro x hx
              rw [← hpc] at hx
              rcases List.mem_append.mp hx with h | h
              · rw [List.eq_of_mem_replicate h]; decide
              · obtain ⟨p, _, rfl⟩ := List.mem_map.mp h
                by_cases hl : (turn + p) % st.length < names.length
                · rw [List.getD_eq_getElem?_getD, List.getElem?_eq_getElem hl]; exact hnz _ (List.getElem_mem hl)
                · rw [List.getD_eq_getElem?_getD, List.getElem?_eq_none (by omega)]; decide
            have hcount : (piecesOf st names turn rounds kept pairs).length ≤ 160 := by
              rw [← hpc, List.length_append, List.length_replicate, List.length_map]; omega
            have hsum := sum_le20 _ hsmall
            repeat walk_at "ev"
            refine tr_mStr F.slot_str_join F.type_str_join ?_
            repeat walk_at "ev"
            refine ⟨_, _, rfl, ?_⟩
            repeat walk_at "ev"
            refine c_join (.inl eq4) hall (by omega) (by walk_at "sz") fun tj => ?_
            have hjl : (Txt.join "/" (piecesOf st names turn rounds kept pairs)).length ≤ 1000000 := by
              unfold Txt.join
              rw [StrLaws.glued_eq_join]
              refine Nat.le_trans (StrLaws.join_length_le _ _) ?_
              have e1 : (Str.ofString "/").length = 1 := rfl
              rw [e1]; omega
            refine tt_str (Nat.le_trans hjl (Nat.le_of_ble_eq_true rfl)) ?_
            have lall : Le V V20 := (l03.trans l4).trans ((l415.trans l1517).trans (l1719.trans l20))
            unfold normJ
            refine ⟨fun h => ?_, fun h => ?_⟩
            · rw [if_neg (by simpa using h)]
              exact ⟨lall, rfl, _, rfl⟩
            · rw [if_pos (by simpa using h)]
              repeat walk_at "ev"
              exact ⟨lall, rfl, _, rfl⟩
end
end

end
section
open PySem PySem.Calls PySem.W PyProof.Rows
section
noncomputable section
/-! what the law builds, plainly -/
noncomputable def cellsF (nums : List Int) : List (Int × Str × Str) := (List.range nums.length).map fun p => cellF (nums.getD p 0) p
noncomputable def stepsF (nums : List Int) : List Int := (cellsF nums).map (·.1)
noncomputable def textsF (nums : List Int) : List Str := (cellsF nums).map (·.2.1)
noncomputable def namesF (nums : List Int) : List Str := (cellsF nums).map (·.2.2)
/-- a cell's four figures -/
noncomputable def cellD (n : Int) (p : Nat) : List Nat :=
  let sp := n.fdiv 5
  if n.fmod 5 = 4 then (if sp.fmod 2 = 0 then [62, 63, 62, 63] else [62, 63, 63, 63])
  else if 1 < n.fmod 5 then [62, 62, 63, 63]
  else
    let one := ((sp.fdiv 3).fmod 63).toNat
    let two := ((sp.fdiv 189).fmod 63).toNat
    if sp.fmod 3 = 0 then [one, p, two, 63]
    else if sp.fmod 3 = 1 then [p, one, 63, 63]
    else [62, 63, p, 63]
noncomputable def digsF (nums : List Int) : List (List Nat) := (List.range nums.length).map fun p => cellD (nums.getD p 0) p
noncomputable def oct3 (ds : List Nat) : List Int := [(val ds).fdiv 65536, ((val ds).fdiv 256).fmod 256, (val ds).fmod 256]
noncomputable def oct3B (ds : List Nat) : List UInt8 := (oct3 ds).map fun i => i.toNat.toUInt8
noncomputable def rowF (nums : List Int) : List UInt8 := (digsF nums).flatMap oct3B
noncomputable def rotL {γ : Type} (k : Nat) (l : List γ) : List γ := l.drop k ++ l.take k
noncomputable def toldF (nums : List Int) (turn : Nat) : Str := txt ((List.range (figs (3 * nums.length))).map (d64 ((rotL (3 * turn) (rowF nums)).map fun c => c.toNat)))
noncomputable def normF (x : Str) : Str := normJ (normL (Txt.split x "/"))
noncomputable def belowF (nums : List Int) : List Nat := (List.range nums.length).filter fun t => (stepsF nums).getD t 0 == 1 && (Txt.split (normF (toldF nums t)) "/").getD 0 "" == (namesF nums).getD t ""

structure LawFacts (nums : List Int) : Prop where
  txt : ∀ p, p < nums.length → (cellF (nums.getD p 0) p).2.1 = Mine.txt (cellD (nums.getD p 0) p)
  dig : ∀ p, p < nums.length → (∀ d ∈ cellD (nums.getD p 0) p, d < 64) ∧ (cellD (nums.getD p 0) p).length = 4
  name : ∀ x ∈ namesF nums, x.length ≤ 20
  told : ∀ t, t < nums.length → toldF nums t = Txt.join "" (rotL t (textsF nums))
  tlen : ∀ t, t < nums.length → (toldF nums t).length = 4 * nums.length
  thead : ∀ t, t < nums.length → ∃ c r, (toldF nums t).cps.toList = c :: r ∧ c ≠ 47
  tstart : ∀ t, t < nums.length → Txt.startswith (toldF nums t) "/" = false
  tend : ∀ t, t < nums.length → ∀ i < 2, Txt.endswith (pw (toldF nums t) i) "/" = true
  tpw : ∀ t, t < nums.length → ∃ c r, (pw (toldF nums t) 2).cps.toList = c :: r ∧ c ≠ 47
  below : ((belowF nums).length : Int) = max 0 (stepsF nums).sum
  once : ∀ t, t < nums.length → normF (toldF nums t) = normJ (piecesOf (stepsF nums) (namesF nums) t 1 (struckF (stepsF nums)).1 (struckF (stepsF nums)).2)
  thrice : ∀ t, t < nums.length → normF (pw (toldF nums t) 2) = normJ (piecesOf (stepsF nums) (namesF nums) t 3 (struckF (stepsF nums)).1 (struckF (stepsF nums)).2)
theorem cellsF_len (nums : List Int) : (cellsF nums).length = nums.length := by simp [cellsF]
theorem stepsF_len (nums : List Int) : (stepsF nums).length = nums.length := by simp [stepsF, cellsF]
theorem textsF_len (nums : List Int) : (textsF nums).length = nums.length := by simp [textsF, cellsF]
theorem namesF_len (nums : List Int) : (namesF nums).length = nums.length := by simp [namesF, cellsF]
theorem digsF_len (nums : List Int) : (digsF nums).length = nums.length := by simp [digsF]
end
end

end
section
open PySem PySem.Calls PySem.W PyProof.Rows
section
noncomputable section

theorem b_sum : bootBuiltins "sum" = some (.builtin "sum") := by kernel_rfl!
theorem b_min : bootBuiltins "min" = some (.builtin "min") := by kernel_rfl!
theorem b_max : bootBuiltins "max" = some (.builtin "max") := by kernel_rfl!
theorem b_range : bootBuiltins "range" = some (.type "range") := by kernel_rfl!
noncomputable def LB (k : Nat) : List Stmt := (bodyOf (fdAt 272)).drop k
noncomputable def lawCl (L : Addr) : List (Str × Addr) := [("normal", L + 8), ("struck", L + 7), ("row", L + 6), ("names", L + 5), ("texts", L + 4), ("steps", L + 3), ("numbers", L + 2), ("script", L + 1)]
section
variable {C : Cx} {V : View} {mu : Mu} {L sl : Addr} {vs : List Value} {ns : List Int}
variable {N Bk Ct : Loc → View → Mu → Prop} {R : Value → View → Mu → Prop}
theorem lawA (hC : Fm C (fdAt 272).scope 4) (hX : NoX C) (hcl : C.env.cells = lawCl L) (hL : ListV V sl vs) (hs : IntsAre vs ns) (hz : ns.length ≤ 63) (e1 : V (L + 1) = some (cellO (.ref sl)))
    (k : ∀ V' nl nvs nums j, Le V V' → V' (L + 2) = some (cellO (.ref nl)) → V' nl = some (listO nvs j) → IntsAre nvs nums → 8 ≤ nums.length → nums.length ≤ 10 → TrS C [] V' mu (execs (LB 2) C.env) N R Bk Ct) :
    TrS C [] V ((L + 2, cellN) :: mu) (execs (LB 0) C.env) N R Bk Ct := by
  have hsl := sizeLine_eq
  have hvl : vs.length = ns.length := hs.length
  have g1 : C.env.cells.lookup ("script" : Str) = some (L + 1) := by rw [hcl]; rfl
  have g2 : C.env.cells.lookup ("numbers" : Str) = some (L + 2) := by rw [hcl]; rfl
  refine ts_cons ?_
  repeat walk_at "ev"
  refine tr_newList (by walk_at "sz") fun ol V1 l1 eo => ?_
  obtain ⟨ow, how, eo⟩ : ∃ ow, IntsAre ow [935, 2, 3, 59521, 4, 10, 49530, 9] ∧ V1 ol = some (listO ow 0) := ⟨_, .cons _ _ (.cons _ _ (.cons _ _ (.cons _ _ (.cons _ _ (.cons _ _ (.cons _ _ (.cons _ _ .nil))))))), eo⟩
  have hol : ow.length = 8 := how.length
  repeat walk_at "ev"
  refine tr_ListComp (cl := [("script", L + 1)]) (by rw [hcl]; kernel_rfl!) rfl (by rfl) ?_
  refine tr_callT hC "range" (by kernel_rfl!) (n_range _) b_range ?_
  refine tr_args ?_
  refine tr_callB hC "min" (by kernel_rfl!) (n_min _) b_min ?_
  refine tr_args ?_
  refine tr_callB hC "len" (by kernel_rfl!) (n_len _) b_len ?_
  have hL1 := hL.mono l1
  have e11 := l1 _ _ e1
  repeat walk_at "ev"
  refine c_lenI hL1 (by omega) fun tl => ?_
  repeat walk_at "ev"
  refine c_min hC.lv.hd fun tm => ?_
  refine tr_args_nil ?_
  have emin : min (vs.length : Int) 10 = ((min ns.length 10 : Nat) : Int) := by rw [hvl]; omega
  rw [emin]
  refine c_range fun r V2 l2 er => ?_
  refine iter_range hC.lv.hd (by omega) er fun I o S ok st => ?_
  refine comp_go hC ok st (by omega) (by rfl) rfl (fun i V' ys => Le V2 V' ∧ ∃ ms, IntsAre ys ms ∧ ms.length = i) ⟨Le.refl _, [], .nil, rfl⟩ ?_ ?_
  · rintro i v ys V' o' D d hi ⟨tp, rfl⟩ lV ⟨l3, ms, hy, hml⟩ C' hC' hX' hcells' hp' hw' hB'
    have c1 : C'.env.cells.lookup ("script" : Str) = some (L + 1) := by rw [hcells']; rfl
    have e13 := (l2.trans l3) _ _ e11
    have hL3 := hL1.mono (l2.trans l3)
    refine tr_assign_Name ?_
    repeat walk_at "ev"
    refine tr_tests0 ?_
    refine onT ?_
    refine tr_callB hC' "sum" (by kernel_rfl!) (n_sum _) b_sum ?_
    repeat walk_at "ev"
    refine fun q V4 l4 eq => ?_
    refine sub_sliceI (hL3.mono l4) eq (.int _ _) .none (.int _ _) (by decide) (by omega) fun z V5 l5 ez => ?_
    repeat walk_at "ev"
    refine c_sum hC'.lv.hd (.inl ez) (hs.pick _ _ _) fun ts => ?_
    exact ⟨rfl, l4.trans l5, l3.trans (l4.trans l5), _, hy.append (.cons _ _ .nil), by rw [List.length_append, hml]; rfl⟩
  · rintro al V3 V4 ys j lV ⟨l3, ms, hy, hml⟩ l4 eal
    have l14 : Le V1 V4 := l2.trans (l3.trans l4)
    have hL4 := hL1.mono l14
    have e14 := l14 _ _ e11
    have eo4 := l14 _ _ eo
    repeat walk_at "ev"
    refine tr_callB hC "len" (by kernel_rfl!) (n_len _) b_len ?_
    repeat walk_at "ev"
    refine c_lenI hL4 (by omega) fun tl => ?_
    repeat walk_at "ev"
    refine fun q V5 l5 eq => ?_
    refine sub_sliceL (.inl (l5 _ _ eo4)) eq (.int _ _) .none .none (by decide) (by omega) fun z V6 l6 ez => ?_
    rw [pick_from] at ez
    have hd : IntsAre (ow.drop vs.length) (List.drop vs.length [935, 2, 3, 59521, 4, 10, 49530, 9]) := by
      have := how.pick (some (vs.length : Int)) none none
      have e := slice_ints_fromW how (x := (vs.length : Int)) (by omega)
      rw [pick_from] at e
      exact e
    have hyl : ys.length = min ns.length 10 := by rw [hy.length, hml]
    have hdl : (ow.drop vs.length).length = 8 - ns.length := by rw [List.length_drop, hol, hvl]
    refine op_addL (.inl ((l5.trans l6) _ _ eal)) (.inl ez) (by omega) fun nl V7 l7 en => ?_
    refine tr_stc1 hC (by kernel_rfl!) g2 .head ?_
    refine ts_freeze fun V8 l8 e2 => ?_
    have hnum := hy.append hd
    have hlen : (ms ++ List.drop vs.length [935, 2, 3, 59521, 4, 10, 49530, 9]).length = min ns.length 10 + (8 - ns.length) := by
      rw [← hnum.length, List.length_append, hyl, hdl]
    refine ts_weaken (m' := []) trivial ?_
    refine k V8 nl _ _ 0 (l1.trans (l14.trans (l5.trans (l6.trans (l7.trans l8))))) e2 (l8 _ _ en) hnum ?_ ?_
    · rw [hlen]; omega
    · rw [hlen]; omega
end
end
end

end
section
open PySem PySem.Calls PySem.W PyProof.Rows
section
noncomputable section

section
variable {C : Cx} {V : View} {mu : Mu} {L : Addr}
variable {N Bk Ct : Loc → View → Mu → Prop} {R : Value → View → Mu → Prop}
noncomputable def cellRow (c : Int × Str × Str) : PV := .list [.int c.1, .str c.2.1, .str c.2.2]
theorem lawB (hC : Fm C (fdAt 272).scope 4) (hX : NoX C) (hcl : C.env.cells = lawCl L) {nl : Addr} {nvs : List Value} {nums : List Int} {j : Nat} (e2 : V (L + 2) = some (cellO (.ref nl))) (en : V nl = some (listO nvs j)) (hn : IntsAre nvs nums) (hz : nums.length ≤ 10)
    (k : ∀ V' kl kvs j, Le V V' → V' kl = some (listO kvs j) → RepL V' kvs ((cellsF nums).map cellPV) → TrS C [("cells", .ref kl)] V' mu (execs (LB 3) C.env) N R Bk Ct) :
    TrS C [] V mu (execs (LB 2) C.env) N R Bk Ct := by
  have hsl := sizeLine_eq
  have hnl : nvs.length = nums.length := hn.length
  have g2 : C.env.cells.lookup ("numbers" : Str) = some (L + 2) := by rw [hcl]; rfl
  refine ts_cons ?_
  refine ts_AssignComp hC (cl := [("numbers", L + 2)]) (swaps_of hC (by kernel_rfl!)) (by kernel_rfl!) (by rw [hcl]; kernel_rfl!) (by rfl) (by rfl) ?_
  refine tr_callT hC "range" (by kernel_rfl!) (n_range _) b_range ?_
  refine tr_args ?_
  refine tr_callB hC "len" (by kernel_rfl!) (n_len _) b_len ?_
  repeat walk_at "ev"
  refine c_len (.inl en) (by omega) fun tl => ?_
  refine tr_args_nil ?_
  rw [hnl]
  refine c_range fun r V2 l2 er => ?_
  refine iter_range hC.lv.hd (by omega) er fun I o S ok st => ?_
  refine comp_go hC ok st (by omega) (by rfl) rfl (fun i V' ys => Le V2 V' ∧ RepL V' ys (((cellsF nums).take i).map cellPV)) ⟨Le.refl _, .nil⟩ ?_ ?_
  · rintro i v ys V' o' D d hi ⟨tp, rfl⟩ lV ⟨l3, hy⟩ C' hC' hX' hcells' hp' hw' hB'
    have c1 : C'.env.cells.lookup ("numbers" : Str) = some (L + 2) := by rw [hcells']; rfl
    have e23 := (l2.trans l3) _ _ e2
    have en3 := (l2.trans l3) _ _ en
    obtain ⟨tn, gn⟩ := ints_getI hn hi
    refine tr_assign_Name ?_
    repeat walk_at "ev"
    refine tr_tests0 ?_
    refine onT ?_
    refine tr_callG hC' 222 (by kernel_rfl!) (g_law_cell _) (k_law_cell _) ?_
    repeat walk_at "ev"
    refine sub_list (.inl en3) (by omega) (by omega) (by rw [Int.toNat_natCast]; exact gn) ?_
    repeat walk_at "ev"
    refine tr_call (cell_ok hC'.gb (by omega) (by omega)) (hC'.lv.le (by decide)) hC'.fr ?_
    rintro v V4 mu4 ⟨l4, rfl, hv⟩
    refine ⟨rfl, l4, l3.trans l4, ?_⟩
    have e : (cellsF nums).take (i + 1) = (cellsF nums).take i ++ [cellF (nums.getD i 0) i] := by
      rw [List.take_succ]
      congr 1
      unfold cellsF
      rw [List.getElem?_map, List.getElem?_range hi]; rfl
    rw [e, List.map_append]
    rw [Int.toNat_natCast] at hv
    exact (hy.mono l4).append (.cons hv .nil)
  · rintro kl V3 V4 ys j lV ⟨l3, hy⟩ l4 ek
    rw [List.take_of_length_le (by rw [cellsF_len]; omega)] at hy
    show TrS _ _ _ _ (execs _ _) _ _ _ _
    exact k V4 kl ys j (l2.trans (l3.trans l4)) ek (hy.mono l4)
end
end
end

end
section
open PySem PySem.Calls PySem.W PyProof.Rows
section
noncomputable section

section
variable {C : Cx} {V : View} {mu : Mu} {L : Addr}
variable {N Bk Ct : Loc → View → Mu → Prop} {R : Value → View → Mu → Prop}
theorem cell_get {kvs : List Value} {cs : List (Int × Str × Str)} (hk : RepL V kvs (cs.map cellPV)) (i : Nat) (v : Value) (hv : kvs[i]? = some v) :
    ∃ (T : Addr) (c : Int × Str × Str) (j : Nat) (t1 t2 t3 : Tok), v = .ref T ∧ cs[i]? = some c ∧ V T = some (listO [.int c.1 t1, .str c.2.1 t2, .str c.2.2 t3] j) := by
  have hi : i < cs.length := by have := (List.getElem?_eq_some_iff.mp hv).1; rw [hk.length, List.length_map] at this; exact this
  obtain ⟨v', hv', rv⟩ := hk.get (i := i) (d := cellPV cs[i]) (by simp [hi])
  rw [hv] at hv'; cases hv'
  obtain ⟨T, zs, j', rfl, eT, rz⟩ := rv.list_inv
  cases rz with
  | cons r1 rz => cases rz with
    | cons r2 rz => cases rz with
      | cons r3 rz => cases rz with
        | nil =>
          obtain ⟨t1, rfl⟩ := r1.int_inv
          obtain ⟨t2, rfl⟩ := r2.str_inv
          obtain ⟨t3, rfl⟩ := r3.str_inv
          exact ⟨T, cs[i], j', t1, t2, t3, rfl, by simp [hi], eT⟩
theorem take_map1 {α β : Type} {cs : List α} {i : Nat} {c : α} (f : α → β) (h : cs[i]? = some c) : (cs.take (i + 1)).map f = (cs.take i).map f ++ [f c] := by
  rw [List.take_succ, h, List.map_append]; rfl
theorem lawC1 (hC : Fm C (fdAt 272).scope 4) (hX : NoX C) (hcl : C.env.cells = lawCl L) {kl : Addr} {kvs : List Value} {j : Nat} {cs : List (Int × Str × Str)} (ek : V kl = some (listO kvs j)) (hk : RepL V kvs (cs.map cellPV)) (hz : cs.length ≤ 10)
    (k : ∀ V' sl svs j, Le V V' → V' (L + 3) = some (cellO (.ref sl)) → V' sl = some (listO svs j) → RepL V' svs (cs.map fun c => PV.int c.1) → TrS C [("cells", .ref kl)] V' mu (execs (LB 4) C.env) N R Bk Ct) :
    TrS C [("cells", .ref kl)] V ((L + 3, cellN) :: mu) (execs (LB 3) C.env) N R Bk Ct := by
  have hsl := sizeLine_eq
  have hkl : kvs.length = cs.length := by rw [hk.length, List.length_map]
  have g : C.env.cells.lookup ("steps" : Str) = some (L + 3) := by rw [hcl]; rfl
  refine ts_cons ?_
  refine ts_Assign ?_ (by exact swaps_of hC (by kernel_rfl!))
  refine tr_ListComp (cl := []) (by rw [hcl]; kernel_rfl!) rfl (by rfl) ?_
  repeat walk_at "ev"
  refine iter_listT hC.lv.hd ek fun I2 o2 S2 ok2 st2 hS2 => ?_
  refine comp_goT hC ok2 st2 (by omega) (by rfl) rfl (fun i V' ys => Le V V' ∧ RepL V' ys ((cs.take i).map fun c => PV.int c.1)) ⟨Le.refl _, .nil⟩ ?_ ?_ (go_list hS2 fun i v hv => by obtain ⟨T, _, _, _, _, _, h, _⟩ := cell_get hk i v hv; exact ⟨T, h⟩)
  · rintro i v ys V' o' D d hi hv lV ⟨l3, hy⟩ C' hC' hX' hcells' hp' hw' hB'
    obtain ⟨T, c, j', t1, t2, t3, rfl, hc, eT⟩ := cell_get hk i v hv
    have eT8 := l3 _ _ eT
    refine tr_asgT (n := 3) rfl ?_
    refine tr_unpackL hC'.lv.hd eT8 rfl ?_
    refine tr_aio ?_
    repeat walk_at "ev"
    refine tr_aio ?_
    repeat walk_at "ev"
    refine tr_aio ?_
    repeat walk_at "ev"
    refine tr_aio_nil ?_
    refine tr_tests0 ?_
    refine onT ?_
    repeat walk_at "ev"
    refine ⟨rfl, Le.refl _, l3, ?_⟩
    rw [take_map1 _ hc]
    exact hy.append (.cons (.int _ _) .nil)
  · rintro sl V3 V4 ys j lV ⟨l3, hy⟩ l4 es
    rw [List.take_of_length_le (by omega)] at hy
    refine tr_stc1 hC (by kernel_rfl!) g .head ?_
    refine ts_freeze fun V5 l5 e5 => ?_
    exact k V5 sl ys j (l3.trans (l4.trans l5)) e5 (l5 _ _ es) (hy.mono (l4.trans l5))
theorem lawC2 (hC : Fm C (fdAt 272).scope 4) (hX : NoX C) (hcl : C.env.cells = lawCl L) {kl : Addr} {kvs : List Value} {j : Nat} {cs : List (Int × Str × Str)} (ek : V kl = some (listO kvs j)) (hk : RepL V kvs (cs.map cellPV)) (hz : cs.length ≤ 10)
    (k : ∀ V' sl svs j, Le V V' → V' (L + 4) = some (cellO (.ref sl)) → V' sl = some (listO svs j) → RepL V' svs (cs.map fun c => PV.str c.2.1) → TrS C [("cells", .ref kl)] V' mu (execs (LB 5) C.env) N R Bk Ct) :
    TrS C [("cells", .ref kl)] V ((L + 4, cellN) :: mu) (execs (LB 4) C.env) N R Bk Ct := by
  have hsl := sizeLine_eq
  have hkl : kvs.length = cs.length := by rw [hk.length, List.length_map]
  have g : C.env.cells.lookup ("texts" : Str) = some (L + 4) := by rw [hcl]; rfl
  refine ts_cons ?_
  refine ts_Assign ?_ (by exact swaps_of hC (by kernel_rfl!))
  refine tr_ListComp (cl := []) (by rw [hcl]; kernel_rfl!) rfl (by rfl) ?_
  repeat walk_at "ev"
  refine iter_listT hC.lv.hd ek fun I2 o2 S2 ok2 st2 hS2 => ?_
  refine comp_goT hC ok2 st2 (by omega) (by rfl) rfl (fun i V' ys => Le V V' ∧ RepL V' ys ((cs.take i).map fun c => PV.str c.2.1)) ⟨Le.refl _, .nil⟩ ?_ ?_ (go_list hS2 fun i v hv => by obtain ⟨T, _, _, _, _, _, h, _⟩ := cell_get hk i v hv; exact ⟨T, h⟩)
  · rintro i v ys V' o' D d hi hv lV ⟨l3, hy⟩ C' hC' hX' hcells' hp' hw' hB'
    obtain ⟨T, c, j', t1, t2, t3, rfl, hc, eT⟩ := cell_get hk i v hv
    have eT8 := l3 _ _ eT
    refine tr_asgT (n := 3) rfl ?_
    refine tr_unpackL hC'.lv.hd eT8 rfl ?_
    refine tr_aio ?_
    repeat walk_at "ev"
    refine tr_aio ?_
    repeat walk_at "ev"
    refine tr_aio ?_
    repeat walk_at "ev"
    refine tr_aio_nil ?_
    refine tr_tests0 ?_
    refine onT ?_
    repeat walk_at "ev"
    refine ⟨rfl, Le.refl _, l3, ?_⟩
    rw [take_map1 _ hc]
    exact hy.append (.cons (.str _ _) .nil)
  · rintro sl V3 V4 ys j lV ⟨l3, hy⟩ l4 es
    rw [List.take_of_length_le (by omega)] at hy
    refine tr_stc1 hC (by kernel_rfl!) g .head ?_
    refine ts_freeze fun V5 l5 e5 => ?_
    exact k V5 sl ys j (l3.trans (l4.trans l5)) e5 (l5 _ _ es) (hy.mono (l4.trans l5))
theorem lawC3 (hC : Fm C (fdAt 272).scope 4) (hX : NoX C) (hcl : C.env.cells = lawCl L) {kl : Addr} {kvs : List Value} {j : Nat} {cs : List (Int × Str × Str)} (ek : V kl = some (listO kvs j)) (hk : RepL V kvs (cs.map cellPV)) (hz : cs.length ≤ 10)
    (k : ∀ V' sl svs j, Le V V' → V' (L + 5) = some (cellO (.ref sl)) → V' sl = some (listO svs j) → RepL V' svs (cs.map fun c => PV.str c.2.2) → TrS C [("cells", .ref kl)] V' mu (execs (LB 6) C.env) N R Bk Ct) :
    TrS C [("cells", .ref kl)] V ((L + 5, cellN) :: mu) (execs (LB 5) C.env) N R Bk Ct := by
  have hsl := sizeLine_eq
  have hkl : kvs.length = cs.length := by rw [hk.length, List.length_map]
  have g : C.env.cells.lookup ("names" : Str) = some (L + 5) := by rw [hcl]; rfl
  refine ts_cons ?_
  refine ts_Assign ?_ (by exact swaps_of hC (by kernel_rfl!))
  refine tr_ListComp (cl := []) (by rw [hcl]; kernel_rfl!) rfl (by rfl) ?_
  repeat walk_at "ev"
  refine iter_listT hC.lv.hd ek fun I2 o2 S2 ok2 st2 hS2 => ?_
  refine comp_goT hC ok2 st2 (by omega) (by rfl) rfl (fun i V' ys => Le V V' ∧ RepL V' ys ((cs.take i).map fun c => PV.str c.2.2)) ⟨Le.refl _, .nil⟩ ?_ ?_ (go_list hS2 fun i v hv => by obtain ⟨T, _, _, _, _, _, h, _⟩ := cell_get hk i v hv; exact ⟨T, h⟩)
  · rintro i v ys V' o' D d hi hv lV ⟨l3, hy⟩ C' hC' hX' hcells' hp' hw' hB'
    obtain ⟨T, c, j', t1, t2, t3, rfl, hc, eT⟩ := cell_get hk i v hv
    have eT8 := l3 _ _ eT
    refine tr_asgT (n := 3) rfl ?_
    refine tr_unpackL hC'.lv.hd eT8 rfl ?_
    refine tr_aio ?_
    repeat walk_at "ev"
    refine tr_aio ?_
    repeat walk_at "ev"
    refine tr_aio ?_
    repeat walk_at "ev"
    refine tr_aio_nil ?_
    refine tr_tests0 ?_
    refine onT ?_
    repeat walk_at "ev"
    refine ⟨rfl, Le.refl _, l3, ?_⟩
    rw [take_map1 _ hc]
    exact hy.append (.cons (.str _ _) .nil)
  · rintro sl V3 V4 ys j lV ⟨l3, hy⟩ l4 es
    rw [List.take_of_length_le (by omega)] at hy
    refine tr_stc1 hC (by kernel_rfl!) g .head ?_
    refine ts_freeze fun V5 l5 e5 => ?_
    exact k V5 sl ys j (l3.trans (l4.trans l5)) e5 (l5 _ _ es) (hy.mono (l4.trans l5))
end
end
end

end
section
open PySem PySem.Calls PySem.W PyProof.Rows
section
noncomputable section

section
variable {C : Cx} {V : View} {mu : Mu} {L : Addr}
variable {N Bk Ct : Loc → View → Mu → Prop} {R : Value → View → Mu → Prop}
theorem oct3_lt {ds : List Nat} (hd : ∀ d ∈ ds, d < 64) (hl : ds.length = 4) : ∀ x ∈ oct3 ds, 0 ≤ x ∧ x < 256 := by
  have h0 := val_nonneg ds hd
  have h1 := val_lt ds hd
  rw [hl] at h1
  intro x hx
  simp only [oct3, List.mem_cons, List.not_mem_nil, or_false] at hx
  rcases hx with rfl | rfl | rfl
  · rw [Int.fdiv_eq_ediv_of_nonneg _ (by decide)]; omega
  · rw [Int.fmod_eq_emod_of_nonneg _ (by decide)]; omega
  · rw [Int.fmod_eq_emod_of_nonneg _ (by decide)]; omega
theorem byteArr_oct3 (ds : List Nat) : byteArr (oct3 ds) = (oct3B ds).toArray := rfl
theorem oct3_len (ds : List Nat) : (oct3 ds).length = 3 := rfl
theorem oct3B_len (ds : List Nat) : (oct3B ds).length = 3 := rfl
theorem tape_len (digs : List (List Nat)) : (tapeL (digs.map oct3)).length = 4 * digs.length := by
  induction digs with
  | nil => rfl
  | cons d r ih =>
    have e : tapeL (List.map oct3 (d :: r)) = (3 :: oct3 d) ++ tapeL (r.map oct3) := by simp [tapeL]
    rw [e, List.length_append, ih, List.length_cons, oct3_len, List.length_cons]; omega
theorem packed_eq (digs : List (List Nat)) : byteArr (tapeL (digs.map oct3)) = (packed (digs.map oct3B)).toArray := by
  unfold byteArr
  congr 1
  induction digs with
  | nil => rfl
  | cons d r ih =>
    have e : tapeL (List.map oct3 (d :: r)) = (3 :: oct3 d) ++ tapeL (r.map oct3) := by simp [tapeL]
    have e2 : packed (List.map oct3B (d :: r)) = ((3 : UInt8) :: oct3B d) ++ packed (r.map oct3B) := by simp [packed, oct3B_len]
    rw [e, e2, List.map_append, ih]
    congr 1
theorem packed_len (digs : List (List Nat)) : (packed (digs.map oct3B)).length = 4 * digs.length := by
  have h := congrArg Array.size (packed_eq digs)
  rw [byteArr_size, tape_len] at h
  simpa using h.symm
theorem lawD1 (hC : Fm C (fdAt 272).scope 4) (hX : NoX C) (hcl : C.env.cells = lawCl L) {kl tl : Addr} {tvs : List Value} {j : Nat} {digs : List (List Nat)} (e4 : V (L + 4) = some (cellO (.ref tl))) (et : V tl = some (listO tvs j)) (ht : RepL V tvs ((digs.map txt).map PV.str))
    (hd : ∀ ds ∈ digs, (∀ d ∈ ds, d < 64) ∧ ds.length = 4) (hz : digs.length ≤ 10)
    (k : ∀ V' hl hvs j, Le V V' → V' hl = some (listO hvs j) → RepL V' hvs (digs.map octPV) → TrS C [("threes", .ref hl), ("cells", .ref kl)] V' mu (execs (LB 7) C.env) N R Bk Ct) :
    TrS C [("cells", .ref kl)] V mu (execs (LB 6) C.env) N R Bk Ct := by
  have hsl := sizeLine_eq
  have hvl : tvs.length = digs.length := by rw [ht.length, List.length_map, List.length_map]
  have g4 : C.env.cells.lookup ("texts" : Str) = some (L + 4) := by rw [hcl]; rfl
  refine ts_cons ?_
  refine ts_AssignComp hC (cl := []) (swaps_of hC (by kernel_rfl!)) (by kernel_rfl!) (by rw [hcl]; kernel_rfl!) (by rfl) (by rfl) ?_
  repeat walk_at "ev"
  refine iter_list hC.lv.hd et fun I o S ok st => ?_
  refine comp_go hC ok st (by omega) (by rfl) rfl (fun i V' ys => Le V V' ∧ RepL V' ys ((digs.take i).map octPV)) ⟨Le.refl _, .nil⟩ ?_ ?_
  · rintro i v ys V' o' D d hi hv lV ⟨l3, hy⟩ C' hC' hX' hcells' hp' hw' hB'
    have hi' : i < digs.length := by omega
    obtain ⟨v', hv', rv⟩ := ht.get (i := i) (d := .str (txt digs[i])) (by simp [hi'])
    rw [hv] at hv'; cases hv'
    obtain ⟨tk, rfl⟩ := rv.str_inv
    refine tr_assign_Name ?_
    repeat walk_at "ev"
    refine tr_tests0 ?_
    refine onT ?_
    refine tr_callG hC' 229 (by kernel_rfl!) (g_law_octets _) (k_law_octets _) ?_
    repeat walk_at "ev"
    have hdi := hd digs[i] (List.getElem_mem hi')
    refine tr_call (octets_ok hC'.gb hdi.1 hdi.2) (hC'.lv.le (by decide)) hC'.fr ?_
    rintro v V4 mu4 ⟨l4, rfl, hv⟩
    refine ⟨rfl, l4, l3.trans l4, ?_⟩
    rw [take_map1 (c := digs[i]) _ (by simp [hi'])]
    exact (hy.mono l4).append (.cons hv .nil)
  · rintro hl V3 V4 ys j lV ⟨l3, hy⟩ l4 ek
    rw [List.take_of_length_le (by omega)] at hy
    show TrS _ _ _ _ (execs _ _) _ _ _ _
    exact k V4 hl ys j (l3.trans l4) ek (hy.mono l4)
theorem lawD2 (hC : Fm C (fdAt 272).scope 4) (hX : NoX C) {kl hl : Addr} {hvs : List Value} {j : Nat} {digs : List (List Nat)} {ps : Array Value} (eh : V hl = some (listO hvs j)) (hh : RepL V hvs (digs.map octPV))
    (hd : ∀ ds ∈ digs, (∀ d ∈ ds, d < 64) ∧ ds.length = 4) (hz : digs.length ≤ 10) (hT : TabOk nestPos rdQ V ps)
    (k : ∀ V' il ivs j ps' ta ot nt tk te, Le V V' → TabOk nestPos rdQ V' ps' → V' il = some (listO ivs j) → RepL V' ivs ((digs.map fun ds => (oct3B ds).toArray).map PV.bytes) → V' ta = some ot → ot.cls = .type "tuple" → ot.data = .seq #[.str endW tk] nt →
      TrS C [("end", .int ((4 * digs.length : Nat) : Int) te), ("words", .ref ta), ("items", .ref il), ("threes", .ref hl), ("cells", .ref kl)] V' ((203, tabObj ps') :: mu) (execs (LB 8) C.env) N R Bk Ct) :
    TrS C [("threes", .ref hl), ("cells", .ref kl)] V ((203, tabObj ps) :: mu) (execs (LB 7) C.env) N R Bk Ct := by
  have hsl := sizeLine_eq
  refine ts_cons ?_
  refine ts_AssignT ?_
  refine tr_callG hC 243 (by kernel_rfl!) (g_law_items _) (k_law_items _) ?_
  refine tr_args ?_
  refine tr_callG hC 236 (by kernel_rfl!) (g_law_tape _) (k_law_tape _) ?_
  repeat walk_at "ev"
  have hrep : Rep V (.ref hl) (.list ((digs.map oct3).map intsPV)) := by
    refine .list eh ?_
    rw [List.map_map]
    exact hh
  refine tr_call (tape_ok hC.gb hrep ?_ ?_ ?_ ?_) (hC.lv.le (by decide)) hC.fr ?_
  · intro ts hts x hx
    obtain ⟨ds, hds, rfl⟩ := List.mem_map.mp hts
    exact oct3_lt (hd ds hds).1 (hd ds hds).2 x hx
  · intro q
    rw [← List.map_take, tape_len, List.length_take]; omega
  · intro ts hts
    obtain ⟨ds, hds, rfl⟩ := List.mem_map.mp hts
    rw [oct3_len]; decide
  · rw [List.length_map]; omega
  rintro v V1 mu1 ⟨l1, rfl, tk, rfl⟩
  refine tr_args_nil ?_
  rw [packed_eq]
  have hpl := packed_len digs
  refine tr_call (items_ok hC.gb ?_ ?_ ?_ (hT.mono l1)) (hC.lv.le (by decide)) hC.fr ?_
  · intro bs hbs
    obtain ⟨ds, hds, rfl⟩ := List.mem_map.mp hbs
    rw [oct3B_len]; decide
  · rw [List.length_map]; omega
  · omega
  rintro v V2 mu2 ⟨l2, ⟨ps', rfl, hT2⟩, a, il, ta, te, n, ivs, n', rfl, ea, ei, hi, ot, nt, tk2, eot, ec, ed⟩
  refine tr_asgT (n := 3) rfl ?_
  refine tr_unpackT hC.lv.hd ea rfl ?_
  refine tr_aio ?_
  repeat walk_at "ev"
  refine tr_aio ?_
  repeat walk_at "ev"
  refine tr_aio ?_
  repeat walk_at "ev"
  refine tr_aio_nil ?_
  rw [hpl]
  refine k V2 il ivs n' ps' ta ot nt tk2 te (l1.trans l2) hT2 ei ?_ eot ec ed
  rw [List.map_map]
  rw [List.map_map] at hi
  exact hi
theorem lawD3 (hC : Fm C (fdAt 272).scope 4) (hX : NoX C) {kl hl il ta : Addr} {kvs hvs ivs : List Value} {j j2 j3 : Nat} {digs : List (List Nat)} {tk te : Tok} {ot : Obj} {nt : Nat} (ekl : V kl = some (listO kvs j3)) (hkl : kvs.length = digs.length) (eh : V hl = some (listO hvs j)) (hh : RepL V hvs (digs.map octPV))
    (hd : ∀ ds ∈ digs, (∀ d ∈ ds, d < 64) ∧ ds.length = 4) (hz : digs.length ≤ 10) (ei : V il = some (listO ivs j2)) (hi : RepL V ivs ((digs.map fun ds => (oct3B ds).toArray).map PV.bytes)) (eot : V ta = some ot) (ec : ot.cls = .type "tuple") (ed : ot.data = .seq #[.str endW tk] nt)
    (k : ∀ V', Le V V' → TrS C [("end", .int ((4 * digs.length : Nat) : Int) te), ("words", .ref ta), ("items", .ref il), ("threes", .ref hl), ("cells", .ref kl)] V' mu (execs (LB 10) C.env) N R Bk Ct) :
    TrS C [("end", .int ((4 * digs.length : Nat) : Int) te), ("words", .ref ta), ("items", .ref il), ("threes", .ref hl), ("cells", .ref kl)] V mu (execs (LB 8) C.env) N R Bk Ct := by
  have hsl := sizeLine_eq
  have hvl : hvs.length = digs.length := by rw [hh.length, List.length_map]
  refine ts_cons ?_
  repeat walk_at "ev"
  refine tr_ListComp (cl := []) (by kernel_rfl!) rfl (by rfl) ?_
  repeat walk_at "ev"
  refine iter_list hC.lv.hd eh fun I o S ok st => ?_
  refine comp_go hC ok st (by omega) (by rfl) rfl (fun i V' ys => Le V V' ∧ RepL V' ys (((digs.take i).map fun ds => (oct3B ds).toArray).map PV.bytes)) ⟨Le.refl _, .nil⟩ ?_ ?_
  · rintro i v ys V' o' D d hi hv lV ⟨l3, hy⟩ C' hC' hX' hcells' hp' hw' hB'
    have hi' : i < digs.length := by omega
    obtain ⟨v', hv', rv⟩ := hh.get (i := i) (d := octPV digs[i]) (by simp [hi'])
    rw [hv] at hv'; cases hv'
    obtain ⟨a, us, n1, rfl, e4, ru⟩ := rv.list_inv
    have hui : IntsAre us (oct3 digs[i]) := repInts ru
    have hdi := hd digs[i] (List.getElem_mem hi')
    refine tr_assign_Name ?_
    repeat walk_at "ev"
    refine tr_tests0 ?_
    refine onT ?_
    refine tr_callT hC' "bytes" (by kernel_rfl!) (n_bytes _) boot_bytes ?_
    repeat walk_at "ev"
    refine c_bytesL (.inl (l3 _ _ e4)) hui (oct3_lt hdi.1 hdi.2) (by rw [hui.length, oct3_len]; omega) hC'.lv.hd fun tk => ?_
    refine ⟨rfl, Le.refl _, l3, ?_⟩
    rw [take_map1 (c := digs[i]) _ (by simp [hi']), List.map_append]
    exact hy.append (.cons (.bytes _ _) .nil)
  · rintro cl V3 V4 ys j lV ⟨l3, hy⟩ l4 ecl
    rw [List.take_of_length_le (by omega)] at hy
    have l04 : Le V V4 := l3.trans l4
    refine op_neBytes (.inl (l04 _ _ ei)) (.inl ecl) (hi.mono l04) (hy.mono l4) hC.lv.units ?_
    repeat walk_at "ev"
    refine onF ?_
    repeat walk_at "ev"
    refine tr_callB hC "len" (by kernel_rfl!) (n_len _) b_len ?_
    have ek4 := l04 _ _ ekl
    repeat walk_at "ev"
    refine c_len (.inl ek4) (by omega) fun tl => ?_
    refine op_mul (IntMulOk.of_left (by decide)) fun tm => ?_
    repeat walk_at "ev"
    have e : (((4 * digs.length : Nat) : Int) != 4 * (kvs.length : Int)) = false := by
      rw [hkl]
      rw [bne_eq_false_iff_eq]; push_cast; rfl
    rw [e]
    refine onF ?_
    repeat walk_at "ev"
    refine onF ?_
    refine ts_nil ?_
    repeat walk_at "ev"
    refine tr_newTuple (by walk_at "sz") fun a V5 l5 e5 => ?_
    refine op_neTup1 ((l04.trans l5) _ _ eot) ec ed e5 hC.lv.units ?_
    repeat walk_at "ev"
    refine onF ?_
    refine ts_nil ?_
    exact k V5 (l04.trans l5)
end
end
end

end
section
open PySem PySem.Calls PySem.W PyProof.Rows
section
noncomputable section

section
variable {C : Cx} {V : View} {mu : Mu} {L : Addr} {m : Loc}
variable {N Bk Ct : Loc → View → Mu → Prop} {R : Value → View → Mu → Prop}
theorem bytesI_back (b : Array UInt8) : (bytesI b).map (fun n => n.toNat.toUInt8) = b.toList := by
  unfold bytesI
  rw [List.map_map]
  refine (List.map_congr_left fun c _ => ?_).trans (List.map_id _)
  show (c.toNat : Int).toNat.toUInt8 = c
  rw [Int.toNat_natCast]
  exact UInt8.ofNat_toNat
theorem bytesI_row (bss : List (List UInt8)) : byteArr ((bss.map fun bs => bs.toArray).flatMap bytesI) = (bss.flatMap id).toArray := by
  unfold byteArr
  congr 1
  induction bss with
  | nil => rfl
  | cons b r ih =>
    rw [List.map_cons, List.flatMap_cons, List.map_append, ih, bytesI_back, List.flatMap_cons]; rfl
theorem bytesI_lt (bss : List (Array UInt8)) : ∀ n ∈ bss.flatMap bytesI, 0 ≤ n ∧ n < 256 := by
  intro n hn
  obtain ⟨b, _, hb⟩ := List.mem_flatMap.mp hn
  obtain ⟨c, _, rfl⟩ := List.mem_map.mp hb
  have := c.toNat_lt
  omega
theorem row_len (digs : List (List Nat)) : (digs.flatMap oct3B).length = 3 * digs.length := by
  induction digs with
  | nil => rfl
  | cons d r ih => rw [List.flatMap_cons, List.length_append, ih, oct3B_len, List.length_cons]; omega
theorem rowI_len (digs : List (List Nat)) : ((digs.map fun ds => (oct3B ds).toArray).flatMap bytesI).length = 3 * digs.length := by
  induction digs with
  | nil => rfl
  | cons d r ih =>
    rw [List.map_cons, List.flatMap_cons, List.length_append, ih, List.length_cons]
    unfold bytesI
    rw [List.length_map, List.toList_toArray, oct3B_len]; omega
theorem lawE1 (hC : Fm C (fdAt 272).scope 4) (hX : NoX C) (hcl : C.env.cells = lawCl L) {il : Addr} {ivs : List Value} {j : Nat} {digs : List (List Nat)} {m0 : Loc} (hm : m0.lookup ("items" : Str) = some (Value.ref il)) (hz : digs.length ≤ 10)
    (ei : V il = some (listO ivs j)) (hi : RepL V ivs ((digs.map fun ds => (oct3B ds).toArray).map PV.bytes))
    (k : ∀ V' tk, Le V V' → V' (L + 6) = some (cellO (.bytes (digs.flatMap oct3B).toArray tk)) → TrS C m0 V' mu (execs (LB 11) C.env) N R Bk Ct) :
    TrS C m0 V ((L + 6, cellN) :: mu) (execs (LB 10) C.env) N R Bk Ct := by
  have hsl := sizeLine_eq
  have g6 : C.env.cells.lookup ("row" : Str) = some (L + 6) := by rw [hcl]; rfl
  refine ts_cons ?_
  refine ts_Assign ?_ (by exact swaps_of hC (by kernel_rfl!))
  refine tr_callT hC "bytes" (by kernel_rfl!) (n_bytes _) boot_bytes ?_
  refine tr_args ?_
  refine tr_ListComp (cl := []) (by kernel_rfl!) rfl (by rfl) ?_
  refine tr_local hC (by kernel_rfl!) hm ?_
  refine iter_list hC.lv.hd ei fun I o S ok st => ?_
  refine comp_goN hC ok st hi (by rw [rowI_len]; omega) (by rfl) rfl (fun _ _ => rfl) (fun _ _ => rfl) (fun _ _ => rfl) ?_ ?_ ?_
  · intro C' hC' m' V' mu' v
    refine tr_assign_Name ?_
    repeat walk_at "ev"
    exact ⟨rfl, rfl, rfl⟩
  · intro C' hC' m' V' mu' v
    refine tr_assign_Name ?_
    repeat walk_at "ev"
    exact ⟨rfl, rfl, rfl⟩
  · intro D V1 ys k1 l1 hy eD
    refine tr_args_nil ?_
    have hyl : ys.length = 3 * digs.length := by rw [hy.length, rowI_len]
    refine c_bytesL (.inl eD) hy (bytesI_lt _) (by omega) hC.lv.hd fun tk => ?_
    have e : (digs.map fun ds => (oct3B ds).toArray) = (digs.map oct3B).map fun bs => bs.toArray := by rw [List.map_map]; rfl
    have e2 : (digs.map oct3B).flatMap id = digs.flatMap oct3B := by rw [List.flatMap_map]; rfl
    rw [e, bytesI_row, e2]
    refine tr_stc1 hC (by kernel_rfl!) g6 .head ?_
    refine ts_freeze fun V5 l5 e5 => ?_
    exact k V5 tk (l1.trans l5) e5
theorem lawE2 (hC : Fm C (fdAt 272).scope 4) (hX : NoX C) (hcl : C.env.cells = lawCl L) {m0 : Loc} {sl : Addr} {svs : List Value} {j : Nat} {st : List Int} (e3 : V (L + 3) = some (cellO (.ref sl))) (es : V sl = some (listO svs j)) (hs : IntsAre svs st) (hz : st.length ≤ 100)
    (k : ∀ V' a kl pl n ws us k1 k2, Le V V' → V' (L + 7) = some (cellO (.ref a)) → V' a = some (tupO [.ref kl, .ref pl] n) → V' kl = some (listO ws k1) → IntsAre ws (natI (struckF st).1) → V' pl = some (listO us k2) → RepL V' us ((struckF st).2.map pairPV) →
      TrS C m0 V' mu (execs (LB 12) C.env) N R Bk Ct) :
    TrS C m0 V ((L + 7, cellN) :: mu) (execs (LB 11) C.env) N R Bk Ct := by
  have g7 : C.env.cells.lookup ("struck" : Str) = some (L + 7) := by rw [hcl]; rfl
  have g3 : C.env.cells.lookup ("steps" : Str) = some (L + 3) := by rw [hcl]; rfl
  refine ts_cons ?_
  refine ts_Assign ?_ (by exact swaps_of hC (by kernel_rfl!))
  refine tr_callG hC 262 (by kernel_rfl!) (g_law_struck _) (k_law_struck _) ?_
  repeat walk_at "ev"
  refine tr_call (struck_ok hC.gb es hs hz) (hC.lv.le (by decide)) hC.fr ?_
  rintro v V1 mu1 ⟨l1, rfl, a, kl, pl, n, ws, us, k1, k2, rfl, ea, ek, hk, ep, hp⟩
  refine tr_stc1 hC (by kernel_rfl!) g7 .head ?_
  refine ts_freeze fun V5 l5 e5 => ?_
  exact k V5 a kl pl n ws us k1 k2 (l1.trans l5) e5 (l5 _ _ ea) (l5 _ _ ek) hk (l5 _ _ ep) (hp.mono l5)
end
end
end

end
section
open PySem PySem.Calls PySem.W PyProof.Rows
section
noncomputable section

section
variable {C : Cx} {V : View} {mu : Mu} {L : Addr} {m : Loc}
variable {N Bk Ct : Loc → View → Mu → Prop} {R : Value → View → Mu → Prop}
noncomputable def toldG (row : List UInt8) (turn : Nat) : Str := txt ((List.range (figs row.length)).map (d64 ((rotL (3 * turn) row).map fun c => c.toNat)))
theorem rot_bytes (row : List UInt8) (i : Nat) : KBy.picked row.toArray (some (i : Int)) none ++ KBy.picked row.toArray none (some (i : Int)) = (rotL i row).toArray := by
  rw [← Array.toList_inj, Array.toList_append, bpick_from, bpick_upto]
  simp [rotL]
theorem rot_len {γ : Type} (k : Nat) (l : List γ) : (rotL k l).length = l.length := by
  unfold rotL
  rw [List.length_append, List.length_drop, List.length_take]; omega
theorem range_take {n i : Nat} (h : i < n) : (List.range n)[i]? = some i := List.getElem?_range h
theorem lawF1 (hC : Fm C (fdAt 272).scope 4) (hX : NoX C) (hcl : C.env.cells = lawCl L) {kl : Addr} {kvs : List Value} {j n : Nat} {ps : Array Value} {row : List UInt8} {tk : Tok} {m0 : Loc} (hm : m0.lookup ("cells" : Str) = some (Value.ref kl))
    (e6 : V (L + 6) = some (cellO (.bytes row.toArray tk))) (ek : V kl = some (listO kvs j)) (hkl : kvs.length = n) (hrow : row.length = 3 * n) (hz : n ≤ 10) (hn0 : n ≠ 0) (hT : TabOk nestPos rdQ V ps)
    (k : ∀ V' ps' tl tvs j, Le V V' → TabOk nestPos rdQ V' ps' → V' tl = some (listO tvs j) → RepL V' tvs (((List.range n).map (toldG row)).map PV.str) → TrS C (("told", .ref tl) :: m0) V' ((203, tabObj ps') :: mu) (execs (LB 13) C.env) N R Bk Ct) :
    TrS C m0 V ((203, tabObj ps) :: mu) (execs (LB 12) C.env) N R Bk Ct := by
  have hsl := sizeLine_eq
  refine ts_cons ?_
  refine ts_AssignComp hC (cl := [("row", L + 6)]) (swaps_of hC (by kernel_rfl!)) (by kernel_rfl!) (by rw [hcl]; kernel_rfl!) (by rfl) (by rfl) ?_
  refine tr_callT hC "range" (by kernel_rfl!) (n_range _) b_range ?_
  refine tr_args ?_
  refine tr_callB hC "len" (by kernel_rfl!) (n_len _) b_len ?_
  refine tr_args (tr_local hC (by kernel_rfl!) hm ?_)
  refine tr_args_nil ?_
  refine c_len (.inl ek) (by omega) fun tl => ?_
  refine tr_args_nil ?_
  rw [hkl]
  refine c_range fun r V2 l2 er => ?_
  refine iter_range hC.lv.hd (by omega) er fun I o S ok st => ?_
  refine comp_goM hC ok st (by omega) (by rfl) rfl (fun i V' mu' ys => Le V2 V' ∧ (∃ ps', mu' = (203, tabObj ps') :: mu ∧ TabOk nestPos rdQ V' ps') ∧ RepL V' ys (((List.range i).map (toldG row)).map PV.str)) ⟨Le.refl _, ⟨ps, rfl, hT.mono l2⟩, .nil⟩ ?_ ?_
  · rintro i v ys V' mu' o' D d hi ⟨tp, rfl⟩ lV ⟨l3, ⟨ps', rfl, hT3⟩, hy⟩ C' hC' hX' hcells' hp' hw' hB'
    have c6 : C'.env.cells.lookup ("row" : Str) = some (L + 6) := by rw [hcells']; rfl
    have e63 := (l2.trans l3) _ _ e6
    refine tr_assign_Name ?_
    repeat walk_at "ev"
    refine tr_tests0 ?_
    refine ⟨rfl, ?_⟩
    refine tr_callG hC' 250 (by kernel_rfl!) (g_law_written _) (k_law_written _) ?_
    repeat walk_at "ev"
    refine op_mul (IntMulOk.of_left (by decide)) fun tm => ?_
    repeat walk_at "ev"
    refine fun q V4 l4 eq => ?_
    have e3i : (3 : Int) * (i : Int) = ((3 * i : Nat) : Int) := by push_cast; rfl
    rw [e3i] at eq
    refine sub_sliceB eq (.int _ _) .none (by rw [List.size_toArray]; omega) fun tb1 => ?_
    have e64 := l4 _ _ e63
    repeat walk_at "ev"
    refine op_mul (IntMulOk.of_left (by decide)) fun tm2 => ?_
    rw [e3i]
    repeat walk_at "ev"
    refine fun q2 V5 l5 eq2 => ?_
    refine sub_sliceB eq2 .none (.int _ _) (by rw [List.size_toArray]; omega) fun tb2 => ?_
    refine op_addB (Nat.le_trans (Nat.add_le_add (KBc.size_picked_le ..) (KBc.size_picked_le ..)) (by rw [List.size_toArray]; omega)) fun tb => ?_
    rw [rot_bytes]
    repeat walk_at "ev"
    refine tr_perm (List.perm_middle (l₁ := [_, _])) ?_
    have hsz : (rotL (3 * i) row).toArray.size = 3 * n := by rw [List.size_toArray, rot_len, hrow]
    refine tr_call (written_ok hC'.gb (by omega) (by omega) (by omega) ((hT3.mono l4).mono l5)) (hC'.lv.le (by decide)) hC'.fr ?_
    rintro v V6 mu6 ⟨l6, ⟨ps'', rfl, hT6⟩, tkv, rfl⟩
    refine ⟨(l4.trans l5).trans l6, (203, tabObj ps'') :: mu, (List.perm_middle (l₁ := [_, _])).symm, l3.trans ((l4.trans l5).trans l6), ⟨ps'', rfl, hT6⟩, ?_⟩
    rw [List.range_succ, List.map_append, List.map_append]
    refine (hy.mono ((l4.trans l5).trans l6)).append (.cons ?_ .nil)
    rw [hsz, ← hrow]
    exact .str _ _
  · rintro tl V3 V4 mu' ys j lV ⟨l3, ⟨ps', rfl, hT3⟩, hy⟩ l4 et
    show TrS _ _ _ _ (execs _ _) _ _ _ _
    exact k V4 ps' tl ys j (l2.trans (l3.trans l4)) (hT3.mono l4) et (hy.mono l4)
theorem lawF2 (hC : Fm C (fdAt 272).scope 4) (hX : NoX C) (hcl : C.env.cells = lawCl L) {kl tl xl : Addr} {kvs tvs xvs : List Value} {j j2 j3 n : Nat} {xs : List Str} {tolds : List Str} {m0 : Loc} (hm : m0.lookup ("cells" : Str) = some (Value.ref kl)) (hm2 : m0.lookup ("told" : Str) = some (Value.ref tl))
    (e4 : V (L + 4) = some (cellO (.ref xl))) (ex : V xl = some (listO xvs j3)) (hx : RepL V xvs (xs.map PV.str)) (hxs : ∀ x ∈ xs, x.length ≤ 20) (hxl : xs.length = n) (ek : V kl = some (listO kvs j)) (hkl : kvs.length = n) (hz : n ≤ 10)
    (et : V tl = some (listO tvs j2)) (ht : RepL V tvs (tolds.map PV.str)) (hto : tolds = (List.range n).map fun t => Txt.join "" (rotL t xs))
    (k : ∀ V', Le V V' → TrS C m0 V' mu (execs (LB 14) C.env) N R Bk Ct) :
    TrS C m0 V mu (execs (LB 13) C.env) N R Bk Ct := by
  have hsl := sizeLine_eq
  refine ts_cons ?_
  refine ts_If ?_
  refine tr_isCompare ?_
  refine tr_local hC (by kernel_rfl!) hm2 ?_
  refine tr_ListComp (cl := [("texts", L + 4)]) (by rw [hcl]; kernel_rfl!) rfl (by rfl) ?_
  refine tr_callT hC "range" (by kernel_rfl!) (n_range _) b_range ?_
  refine tr_args ?_
  refine tr_callB hC "len" (by kernel_rfl!) (n_len _) b_len ?_
  refine tr_args (tr_local hC (by kernel_rfl!) hm ?_)
  refine tr_args_nil ?_
  refine c_len (.inl ek) (by omega) fun tl => ?_
  refine tr_args_nil ?_
  rw [hkl]
  refine c_range fun r V2 l2 er => ?_
  refine iter_range hC.lv.hd (by omega) er fun I o S ok st => ?_
  refine comp_go hC ok st (by omega) (by rfl) rfl (fun i V' ys => Le V2 V' ∧ RepL V' ys (((List.range i).map fun t => Txt.join "" (rotL t xs)).map PV.str)) ⟨Le.refl _, .nil⟩ ?_ ?_
  · rintro i v ys V' o' D d hi ⟨tp, rfl⟩ lV ⟨l3, hy⟩ C' hC' hX' hcells' hp' hw' hB'
    have c4 : C'.env.cells.lookup ("texts" : Str) = some (L + 4) := by rw [hcells']; rfl
    have e43 := (l2.trans l3) _ _ e4
    have ex3 := (l2.trans l3) _ _ ex
    have hx3 := hx.mono (l2.trans l3)
    have hxvl : xvs.length = n := by rw [hx.length, List.length_map, hxl]
    refine tr_assign_Name ?_
    repeat walk_at "ev"
    refine tr_tests0 ?_
    refine onT ?_
    refine tr_mStr F.slot_str_join F.type_str_join ?_
    repeat walk_at "ev"
    refine ⟨_, _, rfl, ?_⟩
    repeat walk_at "ev"
    refine fun q V4 l4 eq => ?_
    refine sub_sliceL (.inl (l4 _ _ ex3)) eq (.int _ _) .none .none (by decide) (by omega) fun z V5 l5 ez => ?_
    rw [pick_from] at ez
    have e45 := (l4.trans l5) _ _ e43
    have ex5 := (l4.trans l5) _ _ ex3
    repeat walk_at "ev"
    refine fun q2 V6 l6 eq2 => ?_
    refine sub_sliceL (.inl (l6 _ _ ex5)) eq2 .none (.int _ _) .none (by decide) (by omega) fun z2 V7 l7 ez2 => ?_
    rw [pick_upto] at ez2
    have hdt : (xvs.drop i ++ xvs.take i).length = n := by rw [List.length_append, List.length_drop, List.length_take]; omega
    rw [List.length_append] at hdt
    refine op_addL (.inl ((l6.trans l7) _ _ ez)) (.inl ez2) (by omega) fun z3 V8 l8 ez3 => ?_
    repeat walk_at "ev"
    have l38 : Le V' V8 := (l4.trans l5).trans ((l6.trans l7).trans l8)
    have hx8 := hx3.mono l38
    have hrx : RepL V8 (xvs.drop i ++ xvs.take i) ((rotL i xs).map PV.str) := by
      unfold rotL
      rw [List.map_append, List.map_drop, List.map_take]
      exact (hx8.drop i).append (hx8.take i)
    have hrl : (rotL i xs).length = n := by rw [rot_len, hxl]
    have hsum := sum_le20 (rotL i xs) (fun x hxm => hxs x (by
      unfold rotL at hxm
      rcases List.mem_append.mp hxm with h | h
      · exact List.mem_of_mem_drop h
      · exact List.mem_of_mem_take h))
    refine c_join (.inl ez3) hrx (by omega) (by walk_at "sz") fun tj => ?_
    refine ⟨rfl, l38, l3.trans l38, ?_⟩
    rw [List.range_succ, List.map_append, List.map_append]
    exact (hy.mono l38).append (.cons (.str _ _) .nil)
  · rintro cl V3 V4 ys j lV ⟨l3, hy⟩ l4 ecl
    have l04 : Le V V4 := l2.trans (l3.trans l4)
    refine op_neStrs (.inl (l04 _ _ et)) (.inl ecl) (ht.mono l04) (by rw [hto]; exact hy.mono l4) hC.lv.units ?_
    repeat walk_at "ev"
    refine onF ?_
    refine ts_nil ?_
    exact k V4 l04
end
end
end

end
section
open PySem PySem.Calls PySem.W PyProof.Rows
section
noncomputable section

section
variable {C : Cx} {V : View} {mu : Mu} {L : Addr} {m : Loc}
variable {N Bk Ct : Loc → View → Mu → Prop} {R : Value → View → Mu → Prop}
theorem lawG1 (hC : Fm C (fdAt 272).scope 4) (hX : NoX C) (hcl : C.env.cells = lawCl L) {tl : Addr} {tvs : List Value} {j2 : Nat} {tolds : List Str} {m0 : Loc} (hm2 : m0.lookup ("told" : Str) = some (Value.ref tl))
    (et : V tl = some (listO tvs j2)) (ht : RepL V tvs (tolds.map PV.str)) (hz : tolds.length ≤ 10) (hd : ∀ x ∈ tolds, (∃ c r, x.cps.toList = c :: r ∧ c ≠ 47) ∧ x.length ≤ 1000)
    (k : ∀ V' nl nvs j, Le V V' → V' (L + 8) = some (cellO (.ref nl)) → V' nl = some (listO nvs j) → RepL V' nvs ((tolds.map normF).map PV.str) → TrS C m0 V' mu (execs (LB 15) C.env) N R Bk Ct) :
    TrS C m0 V ((L + 8, cellN) :: mu) (execs (LB 14) C.env) N R Bk Ct := by
  have hsl := sizeLine_eq
  have g8 : C.env.cells.lookup ("normal" : Str) = some (L + 8) := by rw [hcl]; rfl
  have hvl : tvs.length = tolds.length := by rw [ht.length, List.length_map]
  refine ts_cons ?_
  refine ts_Assign ?_ (by exact swaps_of hC (by kernel_rfl!))
  refine tr_ListComp (cl := []) (by kernel_rfl!) rfl (by rfl) ?_
  refine tr_local hC (by kernel_rfl!) hm2 ?_
  refine iter_list hC.lv.hd et fun I o S ok st => ?_
  refine comp_go hC ok st (by omega) (by rfl) rfl (fun i V' ys => Le V V' ∧ RepL V' ys (((tolds.take i).map normF).map PV.str)) ⟨Le.refl _, .nil⟩ ?_ ?_
  · rintro i v ys V' o' D d hi hv lV ⟨l3, hy⟩ C' hC' hX' hcells' hp' hw' hB'
    have hi' : i < tolds.length := by omega
    obtain ⟨v', hv', rv⟩ := ht.get (i := i) (d := .str tolds[i]) (by simp [hi'])
    rw [hv] at hv'; cases hv'
    obtain ⟨tk, rfl⟩ := rv.str_inv
    obtain ⟨⟨c, r, hc, hc47⟩, hlen⟩ := hd tolds[i] (List.getElem_mem hi')
    refine tr_assign_Name ?_
    repeat walk_at "ev"
    refine tr_tests0 ?_
    refine onT ?_
    refine tr_callG hC' 129 (by kernel_rfl!) (g_normpath _) (k_normpath _) ?_
    repeat walk_at "ev"
    refine tr_call (normpath_ok hC'.gb hc hc47 hlen) (hC'.lv.le (by decide)) hC'.fr ?_
    rintro v V4 mu4 ⟨l4, rfl, tk4, rfl⟩
    refine ⟨rfl, l4, l3.trans l4, ?_⟩
    rw [take_map1 (c := tolds[i]) _ (by simp [hi']), List.map_append]
    exact (hy.mono l4).append (.cons (.str _ _) .nil)
  · rintro nl V3 V4 ys j lV ⟨l3, hy⟩ l4 en
    rw [List.take_of_length_le (by omega)] at hy
    refine tr_stc1 hC (by kernel_rfl!) g8 .head ?_
    refine ts_freeze fun V5 l5 e5 => ?_
    exact k V5 nl ys j (l3.trans (l4.trans l5)) e5 (l5 _ _ en) (hy.mono (l4.trans l5))
noncomputable def belowOf (st : List Int) (names normals : List Str) (n : Nat) : List Nat := (List.range n).filter fun t => st.getD t 0 == 1 && (Txt.split (normals.getD t "") "/").getD 0 "" == names.getD t ""
theorem lawG2 (hC : Fm C (fdAt 272).scope 4) (hX : NoX C) (hcl : C.env.cells = lawCl L) {kl sl nl fl : Addr} {kvs svs nvs fvs : List Value} {j j1 j2 j3 n : Nat} {st : List Int} {names normals : List Str} {m0 : Loc} (hm : m0.lookup ("cells" : Str) = some (Value.ref kl))
    (ek : V kl = some (listO kvs j)) (hkl : kvs.length = n) (hz : n ≤ 10)
    (e3 : V (L + 3) = some (cellO (.ref sl))) (es : V sl = some (listO svs j1)) (hs : IntsAre svs st) (hsl : st.length = n)
    (e5 : V (L + 5) = some (cellO (.ref nl))) (en : V nl = some (listO nvs j2)) (hn : RepL V nvs (names.map PV.str)) (hnl : names.length = n)
    (e8 : V (L + 8) = some (cellO (.ref fl))) (ef : V fl = some (listO fvs j3)) (hf : RepL V fvs (normals.map PV.str)) (hfl : normals.length = n) (hfz : ∀ x ∈ normals, x.length ≤ 1000000)
    (hbelow : ((belowOf st names normals n).length : Int) = max 0 st.sum)
    (k : ∀ V' bl, Le V V' → TrS C (("below", .ref bl) :: m0) V' mu (execs (LB 17) C.env) N R Bk Ct) :
    TrS C m0 V mu (execs (LB 15) C.env) N R Bk Ct := by
  have hsz := sizeLine_eq
  have g3 : C.env.cells.lookup ("steps" : Str) = some (L + 3) := by rw [hcl]; rfl
  refine ts_cons ?_
  refine ts_AssignComp hC (cl := [("steps", L + 3), ("normal", L + 8), ("names", L + 5)]) (swaps_of hC (by kernel_rfl!)) (by kernel_rfl!) (by rw [hcl]; kernel_rfl!) (by rfl) (by rfl) ?_
  refine tr_callT hC "range" (by kernel_rfl!) (n_range _) b_range ?_
  refine tr_args ?_
  refine tr_callB hC "len" (by kernel_rfl!) (n_len _) b_len ?_
  refine tr_args (tr_local hC (by kernel_rfl!) hm ?_)
  refine tr_args_nil ?_
  refine c_len (.inl ek) (by omega) fun tl => ?_
  refine tr_args_nil ?_
  rw [hkl]
  refine c_range fun r V2 l2 er => ?_
  refine iter_range hC.lv.hd (by omega) er fun I o S ok st0 => ?_
  refine comp_go hC ok st0 (by omega) (by rfl) rfl (fun i V' ys => Le V2 V' ∧ ys.length = (belowOf st names normals i).length) ⟨Le.refl _, rfl⟩ ?_ ?_
  · rintro i v ys V' o' D d hi ⟨tp, rfl⟩ lV ⟨l3, hy⟩ C' hC' hX' hcells' hp' hw' hB'
    have c3 : C'.env.cells.lookup ("steps" : Str) = some (L + 3) := by rw [hcells']; rfl
    have c5 : C'.env.cells.lookup ("names" : Str) = some (L + 5) := by rw [hcells']; rfl
    have c8 : C'.env.cells.lookup ("normal" : Str) = some (L + 8) := by rw [hcells']; rfl
    have l03 := l2.trans l3
    have e33 := l03 _ _ e3
    have e53 := l03 _ _ e5
    have e83 := l03 _ _ e8
    have es3 := l03 _ _ es
    have en3 := l03 _ _ en
    have ef3 := l03 _ _ ef
    have hn3 := hn.mono l03
    have hf3 := hf.mono l03
    have hb : belowOf st names normals (i + 1) = belowOf st names normals i ++ (if (st.getD i 0 == 1 && (Txt.split (normals.getD i "") "/").getD 0 "" == names.getD i "") = true then [i] else []) := by
      unfold belowOf
      rw [List.range_succ, List.filter_append]
      congr 1
      simp only [List.filter_cons, List.filter_nil]
    obtain ⟨ts, gs⟩ := ints_getI hs (i := i) (by omega)
    obtain ⟨nv, gn, rn⟩ := hn3.get (i := i) (d := .str (names.getD i "")) (names_get (by omega))
    obtain ⟨tn, rfl⟩ := rn.str_inv
    obtain ⟨fv, gf, rf⟩ := hf3.get (i := i) (d := .str (normals.getD i "")) (names_get (by omega))
    obtain ⟨tf, rfl⟩ := rf.str_inv
    have hfi : (normals.getD i "").length ≤ 1000000 := by
      have hl : i < normals.length := by omega
      rw [List.getD_eq_getElem?_getD, List.getElem?_eq_getElem hl]; exact hfz _ (List.getElem_mem hl)
    refine tr_assign_Name ?_
    repeat walk_at "ev"
    refine tr_tests1 ?_
    repeat walk_at "ev"
    refine sub_list (.inl es3) (by omega) (by omega) (by rw [Int.toNat_natCast]; exact gs) ?_
    repeat walk_at "ev"
    refine ⟨fun h => ?_, fun h => ?_⟩
    · repeat walk_at "ev"
      refine tr_mStr F.slot_str_split F.type_str_split ?_
      repeat walk_at "ev"
      refine sub_list (.inl ef3) (by omega) (by omega) (by rw [Int.toNat_natCast]; exact gf) ?_
      refine ⟨_, _, rfl, ?_⟩
      repeat walk_at "ev"
      refine c_split (by rfl) hfi fun a3 V4 cs l4 e4 r4 => ?_
      repeat walk_at "ev"
      have hpos := split_pos (normals.getD i "") "/"
      obtain ⟨hv, ghv, rhv⟩ := r4.get (i := 0) (d := .str ((Txt.split (normals.getD i "") "/").getD 0 "")) (names_get hpos)
      obtain ⟨th, rfl⟩ := rhv.str_inv
      refine sub_list (.inl e4) (Int.le_refl 0) (by decide) ghv ?_
      have e54 := l4 _ _ e53
      have en4 := l4 _ _ en3
      repeat walk_at "ev"
      refine sub_list (.inl en4) (by omega) (by omega) (by rw [Int.toNat_natCast]; exact gn) ?_
      repeat walk_at "ev"
      refine ⟨fun h2 => ?_, fun h2 => ?_⟩
      · repeat walk_at "ev"
        refine ⟨fun _ => ?_, fun h3 => (nomatch h3)⟩
        repeat walk_at "ev"
        refine ⟨rfl, l4, l3.trans l4, ?_⟩
        rw [hb, if_pos (by rw [h, h2]; rfl), List.length_append, List.length_append, hy]; rfl
      · refine ⟨fun h3 => (nomatch h3), fun _ => ⟨rfl, l4, l3.trans l4, ?_⟩⟩
        rw [hb, if_neg (by rw [h, h2]; decide), List.append_nil, List.append_nil, hy]
    · refine ⟨fun h3 => (nomatch h3), fun _ => ⟨rfl, Le.refl _, l3, ?_⟩⟩
      rw [hb, if_neg (by rw [h, Bool.false_and]; decide), List.append_nil, List.append_nil, hy]
  · rintro bl V3 V4 ys j lV ⟨l3, hy⟩ l4 eb
    have l04 : Le V V4 := l2.trans (l3.trans l4)
    have e34 := l04 _ _ e3
    have es4 := l04 _ _ es
    have hyl : ys.length ≤ 10 := by
      rw [hy]; unfold belowOf
      refine Nat.le_trans (List.length_filter_le _ _) ?_
      rw [List.length_range]; exact hz
    show TrS _ _ _ _ (execs _ _) _ _ _ _
    refine ts_cons ?_
    repeat walk_at "ev"
    refine tr_callB hC "len" (by kernel_rfl!) (n_len _) b_len ?_
    repeat walk_at "ev"
    refine c_len (.inl eb) (by omega) fun tl2 => ?_
    refine tr_callB hC "max" (by kernel_rfl!) (n_max _) b_max ?_
    repeat walk_at "ev"
    refine tr_callB hC "sum" (by kernel_rfl!) (n_sum _) b_sum ?_
    repeat walk_at "ev"
    refine c_sum hC.lv.hd (.inl es4) hs fun ts => ?_
    repeat walk_at "ev"
    refine c_max hC.lv.hd fun tm => ?_
    rw [hy, ← hbelow]
    repeat walk_at "ev"
    rw [bne_self_eq_false]
    refine onF ?_
    refine ts_nil ?_
    exact k V4 bl l04
end
end
end

end
section
open PySem PySem.Calls PySem.W PyProof.Rows
section
noncomputable section

section
variable {C : Cx} {V : View} {mu : Mu} {L : Addr} {m : Loc}
variable {N Bk Ct : Loc → View → Mu → Prop} {R : Value → View → Mu → Prop}
theorem lawH1 (hC : Fm C (fdAt 272).scope 4) (hX : NoX C) (hcl : C.env.cells = lawCl L) {kl sl nl fl a xl pl : Addr} {kvs svs nvs fvs ws us : List Value} {j j1 j2 j3 j4 k1 k2 n : Nat} {st : List Int} {names normals : List Str} {kept : List Nat} {pairs : List (Nat × Nat)} {m0 : Loc} (hm : m0.lookup ("cells" : Str) = some (Value.ref kl))
    (ek : V kl = some (listO kvs j)) (hkl : kvs.length = n) (hz : n ≤ 10)
    (e3 : V (L + 3) = some (cellO (.ref sl))) (es : V sl = some (listO svs j1)) (hs : IntsAre svs st) (hsl : st.length = n)
    (e5 : V (L + 5) = some (cellO (.ref nl))) (en : V nl = some (listO nvs j2)) (hn : RepL V nvs (names.map PV.str)) (hnl : names.length = n) (hnz : ∀ x ∈ names, x.length ≤ 20)
    (e7 : V (L + 7) = some (cellO (.ref a))) (ea : V a = some (tupO [.ref xl, .ref pl] j4)) (ex : V xl = some (listO ws k1)) (hx : IntsAre ws (natI kept)) (ep : V pl = some (listO us k2)) (hp : RepL V us (pairs.map pairPV))
    (hkp : ∀ p ∈ kept, p < st.length) (hkn : kept.length ≤ 20) (hpn : pairs.length ≤ 20)
    (e8 : V (L + 8) = some (cellO (.ref fl))) (ef : V fl = some (listO fvs j3)) (hf : RepL V fvs (normals.map PV.str))
    (honce : normals = (List.range n).map fun t => normJ (piecesOf st names t 1 kept pairs))
    (k : ∀ V', Le V V' → TrS C m0 V' mu (execs (LB 18) C.env) N R Bk Ct) :
    TrS C m0 V mu (execs (LB 17) C.env) N R Bk Ct := by
  have hsz := sizeLine_eq
  have g8 : C.env.cells.lookup ("normal" : Str) = some (L + 8) := by rw [hcl]; rfl
  refine ts_cons ?_
  refine ts_If ?_
  refine tr_isCompare ?_
  repeat walk_at "ev"
  refine tr_ListComp (cl := [("struck", L + 7), ("steps", L + 3), ("names", L + 5)]) (by rw [hcl]; kernel_rfl!) rfl (by rfl) ?_
  refine tr_callT hC "range" (by kernel_rfl!) (n_range _) b_range ?_
  refine tr_args ?_
  refine tr_callB hC "len" (by kernel_rfl!) (n_len _) b_len ?_
  refine tr_args (tr_local hC (by kernel_rfl!) hm ?_)
  refine tr_args_nil ?_
  refine c_len (.inl ek) (by omega) fun tl => ?_
  refine tr_args_nil ?_
  rw [hkl]
  refine c_range fun r V2 l2 er => ?_
  refine iter_range hC.lv.hd (by omega) er fun I o S ok st0 => ?_
  refine comp_go hC ok st0 (by omega) (by rfl) rfl (fun i V' ys => Le V2 V' ∧ RepL V' ys (((List.range i).map fun t => normJ (piecesOf st names t 1 kept pairs)).map PV.str)) ⟨Le.refl _, .nil⟩ ?_ ?_
  · rintro i v ys V' o' D d hi ⟨tp, rfl⟩ lV ⟨l3, hy⟩ C' hC' hX' hcells' hp' hw' hB'
    have c3 : C'.env.cells.lookup ("steps" : Str) = some (L + 3) := by rw [hcells']; rfl
    have c5 : C'.env.cells.lookup ("names" : Str) = some (L + 5) := by rw [hcells']; rfl
    have c7 : C'.env.cells.lookup ("struck" : Str) = some (L + 7) := by rw [hcells']; rfl
    have l03 := l2.trans l3
    have e33 := l03 _ _ e3
    have e53 := l03 _ _ e5
    have e73 := l03 _ _ e7
    refine tr_assign_Name ?_
    repeat walk_at "ev"
    refine tr_tests0 ?_
    refine onT ?_
    refine tr_callG hC' 267 (by kernel_rfl!) (g_law_due _) (k_law_due _) ?_
    repeat walk_at "ev"
    refine tr_call (due_ok (rounds := 1) (kept := kept) (pairs := pairs) hC'.gb (l03 _ _ es) hs (l03 _ _ en) (hn.mono l03) (by omega) hnz (l03 _ _ ea) (l03 _ _ ex) hx (l03 _ _ ep) (hp.mono l03) hkp hkn hpn (by omega) (.inl rfl) (by omega)) (hC'.lv.le (by decide)) hC'.fr ?_
    rintro v V4 mu4 ⟨l4, rfl, tk, rfl⟩
    refine ⟨rfl, l4, l3.trans l4, ?_⟩
    rw [List.range_succ, List.map_append, List.map_append]
    exact (hy.mono l4).append (.cons (.str _ _) .nil)
  · rintro cl V3 V4 ys j lV ⟨l3, hy⟩ l4 ecl
    have l04 : Le V V4 := l2.trans (l3.trans l4)
    refine op_neStrs (.inl (l04 _ _ ef)) (.inl ecl) (hf.mono l04) (by rw [honce]; exact hy.mono l4) hC.lv.units ?_
    repeat walk_at "ev"
    refine onF ?_
    refine ts_nil ?_
    exact k V4 l04
theorem lawH2 (hC : Fm C (fdAt 272).scope 4) (hX : NoX C) (hcl : C.env.cells = lawCl L) {ol kl tl sl nl a xl pl : Addr} {ovs kvs tvs svs nvs ws us : List Value} {j j1 j2 j3 j4 k1 k2 n : Nat} {os st : List Int} {names tolds : List Str} {kept : List Nat} {pairs : List (Nat × Nat)} {m0 : Loc} (hm : m0.lookup ("cells" : Str) = some (Value.ref kl)) (hm2 : m0.lookup ("told" : Str) = some (Value.ref tl))
    (ek : V kl = some (listO kvs j)) (hkl : kvs.length = n) (hz : n ≤ 10) (hn0 : n ≠ 0)
    (e1 : V (L + 1) = some (cellO (.ref ol))) (hL : ListV V ol ovs) (ho : IntsAre ovs os)
    (e3 : V (L + 3) = some (cellO (.ref sl))) (es : V sl = some (listO svs j1)) (hs : IntsAre svs st) (hsl : st.length = n)
    (e5 : V (L + 5) = some (cellO (.ref nl))) (en : V nl = some (listO nvs j2)) (hn : RepL V nvs (names.map PV.str)) (hnl : names.length = n) (hnz : ∀ x ∈ names, x.length ≤ 20)
    (e7 : V (L + 7) = some (cellO (.ref a))) (ea : V a = some (tupO [.ref xl, .ref pl] j4)) (ex : V xl = some (listO ws k1)) (hx : IntsAre ws (natI kept)) (ep : V pl = some (listO us k2)) (hp : RepL V us (pairs.map pairPV))
    (hkp : ∀ p ∈ kept, p < st.length) (hkn : kept.length ≤ 20) (hpn : pairs.length ≤ 20)
    (et : V tl = some (listO tvs j3)) (ht : RepL V tvs (tolds.map PV.str)) (htl : tolds.length = n)
    (hstart : ∀ x ∈ tolds, Txt.startswith x "/" = false) (hend : ∀ x ∈ tolds, ∀ i < 2, Txt.endswith (pw x i) "/" = true) (hlen : ∀ x ∈ tolds, x.length ≠ 0 ∧ x.length ≤ 300) (hpw : ∀ x ∈ tolds, ∃ c r, (pw x 2).cps.toList = c :: r ∧ c ≠ 47) (hpl : ∀ x ∈ tolds, (pw x 2).length ≤ 1000)
    (hthrice : ∀ t, t < n → normF (pw (tolds.getD t "") 2) = normJ (piecesOf st names t 3 kept pairs))
    (k : ∀ V', Le V V' → R (.bool true) V' mu) :
    TrS C m0 V mu (execs (LB 18) C.env) N R Bk Ct := by
  have hsz := sizeLine_eq
  have g1 : C.env.cells.lookup ("script" : Str) = some (L + 1) := by rw [hcl]; rfl
  have g3 : C.env.cells.lookup ("steps" : Str) = some (L + 3) := by rw [hcl]; rfl
  have g5 : C.env.cells.lookup ("names" : Str) = some (L + 5) := by rw [hcl]; rfl
  have g7 : C.env.cells.lookup ("struck" : Str) = some (L + 7) := by rw [hcl]; rfl
  refine ts_weaken (m' := [("cells", .ref kl), ("told", .ref tl)]) ⟨hm, hm2, trivial⟩ ?_
  refine ts_cons ?_
  refine ts_Assign ?_
  refine tr_BinOp ?_
  refine tr_callB hC "sum" (by kernel_rfl!) (n_sum _) b_sum ?_
  repeat walk_at "ev"
  refine c_sumI hC.lv.hd hL ho fun ts => ?_
  refine tr_callB hC "len" (by kernel_rfl!) (n_len _) b_len ?_
  refine tr_args (tr_local hC (by kernel_rfl!) rfl ?_)
  refine tr_args_nil ?_
  refine c_len (.inl ek) (by omega) fun tl2 => ?_
  rw [hkl]
  refine op_mod (by omega) fun tm => ?_
  obtain ⟨t, ht1, ht2⟩ : ∃ t : Nat, os.sum.fmod (n : Int) = (t : Int) ∧ t < n := by
    rw [Int.fmod_eq_emod_of_nonneg _ (by omega)]
    have h0 := Int.emod_nonneg os.sum (b := (n : Int)) (by omega)
    have h1 := Int.emod_lt_of_pos os.sum (b := (n : Int)) (by omega)
    exact ⟨(os.sum % (n : Int)).toNat, by omega, by omega⟩
  rw [ht1]
  obtain ⟨xv, gx, rx⟩ := ht.get (i := t) (d := .str (tolds.getD t "")) (names_get (by omega))
  obtain ⟨tx, rfl⟩ := rx.str_inv
  have hmem : tolds.getD t "" ∈ tolds := by
    have hl : t < tolds.length := by omega
    rw [List.getD_eq_getElem?_getD, List.getElem?_eq_getElem hl]; exact List.getElem_mem hl
  obtain ⟨c, r, hc, hc47⟩ := hpw _ hmem
  have hlx := hlen _ hmem
  have hst := hstart _ hmem
  have hen := hend _ hmem
  have hplx := hpl _ hmem
  have hth := hthrice t ht2
  generalize tolds.getD t "" = x at *
  refine tr_stl hC (by kernel_rfl!) ?_
  refine ts_cons ?_
  refine ts_Return ?_
  refine tr_Compare ?_
  refine tr_callG hC 129 (by kernel_rfl!) (g_normpath _) (k_normpath _) ?_
  refine tr_args ?_
  refine tr_callG hC 115 (by kernel_rfl!) (g_join _) (k_join _) ?_
  repeat walk_at "ev"
  refine sub_list (.inl et) (by omega) (by omega) (by rw [Int.toNat_natCast]; exact gx) ?_
  repeat walk_at "ev"
  refine sub_list (.inl et) (by omega) (by omega) (by rw [Int.toNat_natCast]; exact gx) ?_
  repeat walk_at "ev"
  refine sub_list (.inl et) (by omega) (by omega) (by rw [Int.toNat_natCast]; exact gx) ?_
  repeat walk_at "ev"
  refine tr_call (join_ok hC.gb hst hen hlx.1 (by omega)) (hC.lv.le (by decide)) hC.fr ?_
  rintro v V1 mu1 ⟨l1, rfl, tk1, rfl⟩
  repeat walk_at "ev"
  refine tr_call (normpath_ok hC.gb hc hc47 hplx) (hC.lv.le (by decide)) hC.fr ?_
  rintro v V2 mu2 ⟨l2, rfl, tk2, rfl⟩
  have l02 := l1.trans l2
  have e32 := l02 _ _ e3
  have e52 := l02 _ _ e5
  have e72 := l02 _ _ e7
  refine tr_callG hC 267 (by kernel_rfl!) (g_law_due _) (k_law_due _) ?_
  repeat walk_at "ev"
  refine tr_call (due_ok (rounds := 3) (kept := kept) (pairs := pairs) hC.gb (l02 _ _ es) hs (l02 _ _ en) (hn.mono l02) (by omega) hnz (l02 _ _ ea) (l02 _ _ ex) hx (l02 _ _ ep) (hp.mono l02) hkp hkn hpn (by omega) (.inr rfl) (by omega)) (hC.lv.le (by decide)) hC.fr ?_
  rintro v V3 mu3 ⟨l3, rfl, tk3, rfl⟩
  refine op_eqS ?_
  have e : (normJ (normL (Txt.split (pw x 2) "/")) == normJ (piecesOf st names t 3 kept pairs)) = true := by
    rw [← hth]; exact beq_self_eq_true _
  rw [e]
  exact k V3 (l02.trans l3)
end
end
end

end
section
open PySem PySem.Calls PySem.W PyProof.Rows
section
noncomputable section

variable {prog : Program} {w : World} {B V : View} {mu : Mu}
theorem struckG_facts (st : List Int) (n : Nat) : ∀ (f : Nat) (kept : List Nat) (pairs : List (Nat × Nat)), (∀ p ∈ kept, p < n) →
    (∀ p ∈ (struckG st f kept pairs).1, p < n) ∧ (struckG st f kept pairs).1.length ≤ kept.length ∧ (struckG st f kept pairs).2.length ≤ pairs.length + f
  | 0, kept, pairs, h => ⟨h, Nat.le_refl _, Nat.le_refl _⟩
  | f + 1, kept, pairs, h => by
    unfold struckG
    cases e : pairF st kept with
    | none => exact ⟨h, Nat.le_refl _, by show pairs.length ≤ _; omega⟩
    | some q =>
      obtain ⟨a, b⟩ := q
      obtain ⟨h1, h2, h3⟩ := struckG_facts st n f (kept.filter fun p => !(pairL (some (a, b))).contains p) (pairs ++ [(a, b)]) (fun p hp => h p (List.mem_filter.mp hp).1)
      refine ⟨h1, Nat.le_trans h2 (List.length_filter_le _ _), ?_⟩
      rw [List.length_append] at h3
      show List.length _ ≤ _
      refine Nat.le_trans h3 ?_
      show pairs.length + 1 + f ≤ _
      omega
theorem nz_facts (st : List Int) (n : Nat) : (∀ p ∈ nz st n, p < n) ∧ (nz st n).length ≤ n := by
  refine ⟨fun p hp => List.mem_range.mp (List.mem_filter.mp hp).1, ?_⟩
  unfold nz
  refine Nat.le_trans (List.length_filter_le _ _) ?_
  rw [List.length_range]; exact Nat.le_refl _
theorem struckF_facts (st : List Int) : (∀ p ∈ (struckF st).1, p < st.length) ∧ (struckF st).1.length ≤ st.length ∧ (struckF st).2.length ≤ st.length := by
  obtain ⟨n1, n2⟩ := nz_facts st st.length
  obtain ⟨h1, h2, h3⟩ := struckG_facts st st.length (nz st st.length).length (nz st st.length) [] n1
  refine ⟨h1, Nat.le_trans h2 n2, ?_⟩
  unfold struckF
  simp only [List.length_nil, Nat.zero_add] at h3
  exact Nat.le_trans h3 n2
theorem normF_len (x : Str) : (normF x).length ≤ x.length + 1 := by
  have h1 := normL_wgt (Txt.split x "/")
  have h2 := split_weight x "/" (by decide)
  have h3 : (Txt.join "/" (normL (Txt.split x "/"))).length ≤ wgt (normL (Txt.split x "/")) := by
    unfold Txt.join
    rw [StrLaws.glued_eq_join]
    refine Nat.le_trans (StrLaws.join_length_le _ _) ?_
    have e1 : (Str.ofString "/").length = 1 := rfl
    rw [e1]
    unfold wgt
    omega
  unfold normF normJ
  split
  · show 1 ≤ _; omega
  · unfold wgt at h1 h3
    omega
theorem pw_len (x : Str) : ∀ i, (pw x i).length = (i + 1) * x.length
  | 0 => by simp [pw]
  | i + 1 => by rw [pw, Str.length_append, pw_len x i, Nat.add_mul (i + 1) 1, Nat.one_mul]
theorem txt_len (ds : List Nat) : (txt ds).length = ds.length := by simp [txt, Str.length]
theorem law_ok (hF : ∀ nums : List Int, 8 ≤ nums.length → nums.length ≤ 10 → LawFacts nums) (G : Gb w B) {sl : Addr} {vs : List Value} {ns : List Int} {ps : Array Value} (hL : ListV V sl vs) (hs : IntsAre vs ns) (hz : ns.length ≤ 63) (hT : TabOk nestPos rdQ V ps) :
    CallOk prog w B 5 (.ref 272) ⟨[.ref sl], []⟩ V ((203, tabObj ps) :: mu) (fun v V' mu' => v = .bool true ∧ Le V V' ∧ ∃ ps', mu' = (203, tabObj ps') :: mu) := by
  refine enterC G (by kernel_rfl!) (by kernel_rfl!) (by kernel_rfl!) (Binds.pure (binds := [("script", .ref sl)]) (by rfl)) fun C L hC hX hcells hcode hqual _ => ?_
  have hcl : C.env.cells = lawCl L := hcells.trans (by kernel_rfl!)
  have hmu : cellMu (L + 1) (fdAt 272).scope.names ((203, tabObj ps) :: mu) = (L + 8, cellN) :: (L + 7, cellN) :: (L + 6, cellN) :: (L + 5, cellN) :: (L + 4, cellN) :: (L + 3, cellN) :: (L + 2, cellN) :: (L + 1, cellN) :: (203, tabObj ps) :: mu := by kernel_rfl!
  refine ⟨[], (L + 8, cellN) :: (L + 7, cellN) :: (L + 6, cellN) :: (L + 5, cellN) :: (L + 4, cellN) :: (L + 3, cellN) :: (L + 2, cellN) :: (L + 1, cellO (.ref sl)) :: (203, tabObj ps) :: mu, ?_, ?_⟩
  · rw [hmu]
    exact .cell (c := L + 1) (by kernel_rfl!) (by kernel_rfl!) (.tail (.tail (.tail (.tail (.tail (.tail (.tail .head))))))) .nil
  · refine ts_perm (mu' := [(L + 1, cellO (.ref sl)), (L + 2, cellN), (L + 3, cellN), (L + 4, cellN), (L + 5, cellN), (L + 6, cellN), (L + 7, cellN), (L + 8, cellN)] ++ ((203, tabObj ps) :: mu)) (List.Perm.append_right ((203, tabObj ps) :: mu) (List.reverse_perm [(L + 1, cellO (.ref sl)), (L + 2, cellN), (L + 3, cellN), (L + 4, cellN), (L + 5, cellN), (L + 6, cellN), (L + 7, cellN), (L + 8, cellN)])) ?_
    refine ts_freeze fun V1 l1 e1 => ?_
    show TrS C [] V1 ((L + 2, cellN) :: (L + 3, cellN) :: (L + 4, cellN) :: (L + 5, cellN) :: (L + 6, cellN) :: (L + 7, cellN) :: (L + 8, cellN) :: (203, tabObj ps) :: mu) (execs (LB 0) C.env) _ _ _ _
    refine lawA hC hX hcl (hL.mono l1) hs hz e1 fun V2 nl nvs nums j l2 e2 en hn h8 h10 => ?_
    have F := hF nums h8 h10
    refine lawB hC hX hcl e2 en hn h10 fun V3 kl kvs j3 l3 ek hk => ?_
    have hcz : (cellsF nums).length ≤ 10 := by rw [cellsF_len]; exact h10
    have hkl : kvs.length = nums.length := by rw [hk.length, List.length_map, cellsF_len]
    refine lawC1 hC hX hcl ek hk hcz fun V4 stl stvs j4 l4 e3 est hst => ?_
    have hsti : IntsAre stvs (stepsF nums) := by
      refine hst.ints ?_
      unfold stepsF
      rw [List.map_map]; rfl
    refine lawC2 hC hX hcl (l4 _ _ ek) (hk.mono l4) hcz fun V5 tl tvs j5 l5 e4 et ht => ?_
    have l35 := l4.trans l5
    have htx : textsF nums = (digsF nums).map txt := by
      unfold textsF cellsF digsF
      rw [List.map_map, List.map_map]
      refine List.map_congr_left fun p hp => ?_
      exact F.txt p (List.mem_range.mp hp)
    have htt : RepL V5 tvs ((textsF nums).map PV.str) := by
      unfold textsF
      rw [List.map_map]
      exact ht
    refine lawC3 hC hX hcl (l35 _ _ ek) (hk.mono l35) hcz fun V6 nml nmvs j6 l6 e5 enm hnm => ?_
    have hnn : RepL V6 nmvs ((namesF nums).map PV.str) := by
      unfold namesF
      rw [List.map_map]
      exact hnm
    have l36 := l35.trans l6
    have ek6 := l36 _ _ ek
    have hdg : ∀ ds ∈ digsF nums, (∀ d ∈ ds, d < 64) ∧ ds.length = 4 := by
      intro ds hds
      obtain ⟨p, hp, rfl⟩ := List.mem_map.mp hds
      exact F.dig p (List.mem_range.mp hp)
    have hdz : (digsF nums).length ≤ 10 := by rw [digsF_len]; exact h10
    have hdl := digsF_len nums
    refine lawD1 hC hX hcl (l6 _ _ e4) (l6 _ _ et) (by rw [← htx]; exact htt.mono l6) hdg hdz fun V7 hl hvs j7 l7 eh hh => ?_
    refine ts_perm (List.perm_middle (l₁ := [_, _, _])) ?_
    refine lawD2 hC hX eh hh hdg hdz (hT.mono (l1.trans (l2.trans (l3.trans (l36.trans l7))))) fun V8 il ivs j8 ps8 ta ot nt tk te l8 hT8 ei hi eot ec ed => ?_
    refine lawD3 hC hX ((l7.trans l8) _ _ ek6) (by rw [hkl, hdl]) (l8 _ _ eh) (hh.mono l8) hdg hdz ei hi eot ec ed fun V9 l9 => ?_
    refine ts_perm perm_bac ?_
    refine lawE1 hC hX hcl rfl hdz (l9 _ _ ei) (hi.mono l9) fun V10 tkr l10 e6 => ?_
    refine ts_perm perm_bac ?_
    have l410 : Le V4 V10 := l5.trans (l6.trans (l7.trans (l8.trans (l9.trans l10))))
    have hstl : (stepsF nums).length = nums.length := stepsF_len nums
    refine lawE2 hC hX hcl (l410 _ _ e3) (l410 _ _ est) hsti (by omega) fun V11 sa xl pl n11 ws us k1 k2 l11 e7 esa exl hxl epl hpl => ?_
    have l911 := l10.trans l11
    have l611 : Le V6 V11 := l7.trans (l8.trans (l9.trans l911))
    have hrow : ((digsF nums).flatMap oct3B).length = 3 * nums.length := by rw [row_len, hdl]
    refine lawF1 hC hX hcl rfl (l11 _ _ e6) (l611 _ _ ek6) hkl hrow h10 (by omega) (hT8.mono (l9.trans l911)) fun V12 ps12 tol tovs j12 l12 hT12 eto hto => ?_
    have hg : ∀ t, toldG ((digsF nums).flatMap oct3B) t = toldF nums t := by
      intro t
      unfold toldG toldF
      rw [hrow]; rfl
    have htm : (List.range nums.length).map (toldG ((digsF nums).flatMap oct3B)) = (List.range nums.length).map (toldF nums) := List.map_congr_left fun t _ => hg t
    rw [htm] at hto
    have hxs : ∀ x ∈ textsF nums, x.length ≤ 20 := by
      rw [htx]
      intro x hx
      obtain ⟨ds, hds, rfl⟩ := List.mem_map.mp hx
      rw [txt_len, (hdg ds hds).2]; decide
    have l512 : Le V5 V12 := l6.trans (l611.trans l12)
    refine lawF2 hC hX hcl rfl rfl (l512 _ _ e4) (l512 _ _ et) (htt.mono l512) hxs (textsF_len nums) ((l611.trans l12) _ _ ek6) hkl h10 eto hto (List.map_congr_left fun t ht => F.told t (List.mem_range.mp ht)) fun V13 l13 => ?_
    refine ts_perm perm_bac ?_
    have hmem : ∀ x ∈ (List.range nums.length).map (toldF nums), ∃ t, t < nums.length ∧ x = toldF nums t := by
      intro x hx
      obtain ⟨t, ht, rfl⟩ := List.mem_map.mp hx
      exact ⟨t, List.mem_range.mp ht, rfl⟩
    have htl : ((List.range nums.length).map (toldF nums)).length = nums.length := by rw [List.length_map, List.length_range]
    refine lawG1 hC hX hcl rfl (l13 _ _ eto) (hto.mono l13) (by omega) (fun x hx => by
      obtain ⟨t, ht, rfl⟩ := hmem x hx
      refine ⟨F.thead t ht, ?_⟩
      rw [F.tlen t ht]; omega) fun V14 fl fvs j14 l14 e8 efl hfl => ?_
    have l414 : Le V4 V14 := l410.trans (l11.trans (l12.trans (l13.trans l14)))
    have l614 : Le V6 V14 := l611.trans (l12.trans (l13.trans l14))
    have l1114 : Le V11 V14 := l12.trans (l13.trans l14)
    have hnl := namesF_len nums
    refine lawG2 hC hX hcl rfl (l614 _ _ ek6) hkl h10 (l414 _ _ e3) (l414 _ _ est) hsti hstl (l614 _ _ e5) (l614 _ _ enm) (hnn.mono l614) hnl e8 efl hfl (by rw [List.length_map, htl]) (fun x hx => by
      obtain ⟨y, hy, rfl⟩ := List.mem_map.mp hx
      obtain ⟨t, ht, rfl⟩ := hmem y hy
      refine Nat.le_trans (normF_len _) ?_
      rw [F.tlen t ht]; omega) ?_ fun V15 bl l15 => ?_
    · have e : belowOf (stepsF nums) (namesF nums) (((List.range nums.length).map (toldF nums)).map normF) nums.length = belowF nums := by
        unfold belowOf belowF
        refine List.filter_congr fun t ht => ?_
        have hlt := List.mem_range.mp ht
        have eg : (((List.range nums.length).map (toldF nums)).map normF).getD t "" = normF (toldF nums t) := by
          rw [List.getD_eq_getElem?_getD, List.getElem?_map, List.getElem?_map, List.getElem?_range hlt]; rfl
        rw [eg]
      rw [e]
      exact F.below
    obtain ⟨q1, q2, q3⟩ := struckF_facts (stepsF nums)
    have l1115 := l1114.trans l15
    have l415 := l414.trans l15
    have l615 := l614.trans l15
    refine lawH1 hC hX hcl rfl (l615 _ _ ek6) hkl h10 (l415 _ _ e3) (l415 _ _ est) hsti hstl (l615 _ _ e5) (l615 _ _ enm) (hnn.mono l615) hnl F.name (l1115 _ _ e7) (l1115 _ _ esa) (l1115 _ _ exl) hxl (l1115 _ _ epl) (hpl.mono l1115) q1 (by omega) (by omega) (l15 _ _ e8) (l15 _ _ efl) (hfl.mono l15) ?_ fun V16 l16 => ?_
    · rw [List.map_map]
      exact List.map_congr_left fun t ht => F.once t (List.mem_range.mp ht)
    have l416 := l415.trans l16
    have l616 := l615.trans l16
    have l1116 := l1115.trans l16
    have l1316 : Le V13 V16 := l14.trans (l15.trans l16)
    have l116 : Le V1 V16 := l2.trans (l3.trans (l4.trans l416))
    refine lawH2 hC hX hcl rfl rfl (l616 _ _ ek6) hkl h10 (by omega) (l116 _ _ e1) ((hL.mono l1).mono l116) hs (l416 _ _ e3) (l416 _ _ est) hsti hstl (l616 _ _ e5) (l616 _ _ enm) (hnn.mono l616) hnl F.name (l1116 _ _ e7) (l1116 _ _ esa) (l1116 _ _ exl) hxl (l1116 _ _ epl) (hpl.mono l1116) q1 (by omega) (by omega)
      ((l13.trans l1316) _ _ eto) (hto.mono (l13.trans l1316)) htl ?_ ?_ ?_ ?_ ?_ ?_ fun V17 l17 => ?_
    · intro x hx
      obtain ⟨t, ht, rfl⟩ := hmem x hx
      exact F.tstart t ht
    · intro x hx
      obtain ⟨t, ht, rfl⟩ := hmem x hx
      exact F.tend t ht
    · intro x hx
      obtain ⟨t, ht, rfl⟩ := hmem x hx
      rw [F.tlen t ht]; omega
    · intro x hx
      obtain ⟨t, ht, rfl⟩ := hmem x hx
      exact F.tpw t ht
    · intro x hx
      obtain ⟨t, ht, rfl⟩ := hmem x hx
      rw [pw_len, F.tlen t ht]; omega
    · intro t ht
      have eg : ((List.range nums.length).map (toldF nums)).getD t "" = toldF nums t := by
        rw [List.getD_eq_getElem?_getD, List.getElem?_map, List.getElem?_range ht]; rfl
      rw [eg]
      exact F.thrice t ht
    · exact ⟨rfl, l1.trans (l116.trans l17), ps12, rfl⟩
end
end

end
section
open PySem PySem.Calls PySem.W PyProof.Rows
section
noncomputable section
theorem K203 (P : Params) : (K P).lookup 203 = none := by kernel_rfl!
theorem g_law (P : Params) : gmap P "law" = some (.ref 272) := by kernel_rfl!
noncomputable def viewOf (h : Heap) : View := fun a => if a = 203 then none else h.get? a
theorem viewOf_ne {h : Heap} {a : Addr} (ha : a ≠ 203) : viewOf h a = h.get? a := if_neg ha
theorem viewOf_203 {h : Heap} : viewOf h 203 = none := if_pos rfl
theorem viewOf_get {h : Heap} {a : Addr} {o : Obj} (e : viewOf h a = some o) : h.get? a = some o := by
  by_cases q : a = 203
  · subst q; rw [viewOf_203] at e; cases e
  · rwa [viewOf_ne q] at e
theorem law_join {prog : Program} {p : Program} {loose : List Str} {mean : ExcName → Option Value} {w : World} {s₁ : Shared} {mg mb : Str → Option Value} {fa l : Addr} {vs : List Value} {ns : List Int}
    (hF : ∀ nums : List Int, 8 ≤ nums.length → nums.length ≤ 10 → LawFacts nums)
    (KX : (K w.params).In s₁.heap) (T : Top p loose mean mg mb s₁.heap) (hT : ∀ P, P ∈ [203] → s₁.heap.get? P = some (tabObj #[])) (hg : s₁.gens = #[])
    (hmg : mg "law" = some (.ref fa)) (hL : s₁.heap.IsList l vs.toArray) (hI : IntsAre vs ns) (hz : ¬ (63 : Int) < (ns.length : Int)) :
    codeAny (model prog w) callerA (.call (.ref fa) ⟨[.ref l], []⟩) (fun r s' => ∃ ps, r = .ok (.ret (.bool true)) ∧ (∀ b o, b ≠ 203 → s₁.heap.get? b = some o → s'.heap.get? b = some o) ∧ s'.heap.get? 203 = some (tabObj ps) ∧ s'.os = s₁.os ∧ s'.gens = #[]) s₁ := by
  have e203 := hT 203 (List.mem_singleton.mpr rfl)
  have kne : ∀ a o, (K w.params).lookup a = some o → a ≠ 203 := fun a o e q => by subst q; rw [K203] at e; cases e
  have hmap : mg = gmap w.params := by
    obtain ⟨o, es, ep, e1, e2, e3, e4⟩ := T.g
    have e5 : s₁.heap.get? mainGlobals = _ := KX _ _ (K3 w.params)
    rw [e1] at e5
    cases e5
    cases e2
    funext x
    rw [← e4 x]; rfl
  have G : Gb w (viewOf s₁.heap) := by
    refine ⟨fun a o e => by rw [viewOf_ne (kne a o e)]; exact KX _ _ e, ?_, ?_⟩
    · obtain ⟨o, es, ep, e1, e2, e3, e4⟩ := T.b
      exact ⟨o, es, ep, by rw [viewOf_ne (by decide)]; exact e1, e2, e3, fun x hx => by rw [e4 x]; exact T.builtins x hx⟩
    · obtain ⟨bm, ob, e1, e2, e3, e4, e5, e6⟩ := T.bmain
      refine ⟨bm, ob, by rw [← hmap]; exact e1, e2, fun q => ?_, ?_, e4, e5, e6⟩
      · subst q
        obtain ⟨o, es, ep, f1, f2, _⟩ := T.g
        rw [e3] at f1; cases f1
        rw [f2] at e6; cases e6
      · rw [viewOf_ne (fun q => ?_)]
        · exact e3
        · subst q
          rw [e203] at e3; cases e3
          cases e4
  have hfa : fa = 272 := by
    rw [hmap, g_law] at hmg
    cases hmg; rfl
  subst hfa
  have hlz : l ≠ 203 := fun q => by
    subst q
    obtain ⟨o, e1, e2, _⟩ := hL
    rw [e203] at e1; cases e1
    cases e2
  have hLV : ListV (viewOf s₁.heap) l vs := by
    obtain ⟨o, e1, e2, n, e3⟩ := hL
    exact ⟨o, n, by rw [viewOf_ne hlz]; exact e1, e2, e3⟩
  have H : Held (viewOf s₁.heap) (fun _ => none) (viewOf s₁.heap) [(203, tabObj #[])] s₁.heap := by
    refine ⟨Le.refl _, fun a o e => viewOf_get e, fun a o e => (nomatch e), fun q hq => ?_, fun a o e => (nomatch e), fun q hq => ?_, fun _ _ => rfl, by simp⟩
    · rw [List.mem_singleton] at hq; subst hq; exact e203
    · rw [List.mem_singleton] at hq; subst hq; exact viewOf_203
  have hfr : FrOk callerA (fun _ => none) := ⟨⟨[], rfl, fun env he => (nomatch he)⟩, fun a o e => (nomatch e)⟩
  have hlv : Lv 5 callerA := ⟨rfl, by decide +kernel, by decide +kernel⟩
  have h := law_ok (prog := prog) hF G hLV hI (by omega) (.inl rfl) callerA (fun _ => none) s₁.os s₁ hlv hfr H hg rfl
  refine codeAny_mono h fun r s' hr => ?_
  split at hr
  · obtain ⟨V', mu', H', hg', ho', rfl, le, ps', rfl⟩ := hr
    refine ⟨ps', rfl, fun b o hb e => ?_, H'.has _ (List.mem_cons_self ..), ho', hg'⟩
    exact H'.sub _ _ (le _ _ (by rw [viewOf_ne hb]; exact e))
  · exact hr.elim
theorem law_post {M : Model} {A : Around} {cd : Code} {s s₁ : Shared} {cw : ClaimW} {cl : Str → Option Addr} {mean : ExcName → Option Value} {args : List WData} (hT : TabsAt [(207, 203)] s₁.heap) (hr : ∀ x, cw.raises args x = false) (hp : cw.post args (.bool true) args = true)
    (h : codeAny M A cd (fun r s' => ∃ ps, r = .ok (.ret (.bool true)) ∧ (∀ b o, b ≠ 203 → s₁.heap.get? b = some o → s'.heap.get? b = some o) ∧ s'.heap.get? 203 = some (tabObj ps) ∧ s'.os = s₁.os ∧ s'.gens = #[]) s) : codeAny M A cd (GoodWG cw cl mean args s₁) s :=
  codeAny_mono h fun r s' ⟨ps, hres, hk, hP, hos, hg⟩ => by
    subst hres
    have q := hT _ (List.mem_singleton.mpr rfl)
    refine ⟨.inl ⟨.bool true, .bool true, [], rfl, hr, .bool true, hp, fun _ => ⟨.nil, fun a ha => (nomatch ha)⟩⟩, ⟨fun b o e => ?_, fun b o e => ?_⟩, hos, .of_eq hg⟩
    · by_cases hb : b = 203
      · subst hb
        have e2 := q.2
        rw [e] at e2
        have e3 := Option.some.inj e2
        subst e3
        exact .inr (.inl ⟨(q.1.tab q.2).isCodeTable, rfl, #[], ps, rfl, by rw [Array.empty_append]; exact hP⟩)
      · exact .inl (hk b o hb e)
    · by_cases hb : b = 203
      · subst hb; exact ⟨_, hP⟩
      · exact ⟨o, hk b o hb e⟩
end
end

end
end
end Mine
end
section
open PySem PySem.Calls PySem.W PyProof.Rows
namespace Mine
noncomputable section
/-- the path's stack, plainly: a name is its place, none is a step up -/
noncomputable def mst (st : List Int) (acc : List (Option Nat)) (i : Nat) : List (Option Nat) :=
  if st.getD i 0 = 1 then acc ++ [some i]
  else if st.getD i 0 = -1 then (if acc = [] ∨ acc.getLast? = some none then acc ++ [none] else acc.dropLast)
  else acc
noncomputable def runM (st : List Int) (acc : List (Option Nat)) (l : List Nat) : List (Option Nat) := l.foldl (mst st) acc
variable {st : List Int} {a b : Nat}
theorem mst_up (ha : st.getD a 0 = 1) (acc : List (Option Nat)) : mst st acc a = acc ++ [some a] := if_pos ha
theorem mst_cancel (ha : st.getD a 0 = 1) (hb : st.getD b 0 = -1) (acc : List (Option Nat)) : mst st (acc ++ [some a]) b = acc := by
  unfold mst
  rw [if_neg (by rw [hb]; decide), if_pos hb, if_neg (by simp), List.dropLast_concat]
theorem runM_append (acc : List (Option Nat)) (l k : List Nat) : runM st acc (l ++ k) = runM st (runM st acc l) k := List.foldl_append ..
theorem runM_cancel (ha : st.getD a 0 = 1) (hb : st.getD b 0 = -1) (acc : List (Option Nat)) (X Y : List Nat) : runM st acc (X ++ a :: b :: Y) = runM st acc (X ++ Y) := by
  rw [runM_append, runM_append]
  show runM st (mst st (mst st _ a) b) Y = _
  rw [mst_up ha, mst_cancel ha hb]
noncomputable def rep (r : Nat) (l : List Nat) : List Nat := (List.replicate r l).flatten
theorem rep_succ (r : Nat) (l : List Nat) : rep (r + 1) l = l ++ rep r l := by unfold rep; rw [List.replicate_succ, List.flatten_cons]
theorem rep_zero (l : List Nat) : rep 0 l = [] := rfl
theorem runM_rep_cancel (ha : st.getD a 0 = 1) (hb : st.getD b 0 = -1) (X Y : List Nat) : ∀ (r : Nat) (acc : List (Option Nat)), runM st acc (rep r (X ++ a :: b :: Y)) = runM st acc (rep r (X ++ Y))
  | 0, _ => rfl
  | r + 1, acc => by rw [rep_succ, rep_succ, runM_append acc (X ++ a :: b :: Y), runM_append acc (X ++ Y), runM_cancel ha hb, runM_rep_cancel ha hb X Y r]
theorem runM_wrap (ha : st.getD a 0 = 1) (hb : st.getD b 0 = -1) (Z : List Nat) : ∀ (r : Nat) (acc : List (Option Nat)), runM st acc (rep (r + 1) (b :: (Z ++ [a]))) = runM st (mst st acc b) (rep (r + 1) Z) ++ [some a]
  | 0, acc => by
    rw [rep_succ, rep_zero, List.append_nil, rep_succ, rep_zero, List.append_nil]
    show runM st (mst st acc b) (Z ++ [a]) = _
    rw [runM_append]
    exact mst_up ha _
  | r + 1, acc => by
    have e : runM st acc (b :: (Z ++ [a])) = runM st (mst st acc b) Z ++ [some a] := by
      show runM st (mst st acc b) (Z ++ [a]) = _
      rw [runM_append]
      exact mst_up ha _
    rw [rep_succ, runM_append, e, runM_wrap ha hb Z r, mst_cancel ha hb, rep_succ (r + 1) Z, runM_append]
theorem mst_none (hb : st.getD b 0 = -1) (k : Nat) : mst st (List.replicate k none) b = List.replicate (k + 1) none := by
  unfold mst
  rw [if_neg (by rw [hb]; decide), if_pos hb, if_pos (by cases k with | zero => exact .inl rfl | succ k => exact .inr (by rw [List.getLast?_replicate]; rfl)), List.replicate_succ']
theorem runM_ups : ∀ (l : List Nat) (acc : List (Option Nat)), (∀ i ∈ l, st.getD i 0 = 1) → runM st acc l = acc ++ l.map some
  | [], acc, _ => by simp [runM]
  | x :: l, acc, h => by
    show runM st (mst st acc x) l = _
    rw [mst_up (h x (List.mem_cons_self ..)), runM_ups l _ fun i hi => h i (List.mem_cons_of_mem _ hi), List.map_cons, List.append_assoc]; rfl
theorem runM_downs : ∀ (l : List Nat) (k : Nat), (∀ i ∈ l, st.getD i 0 = -1) → runM st (List.replicate k none) l = List.replicate (k + l.length) none
  | [], k, _ => rfl
  | x :: l, k, h => by
    show runM st (mst st _ x) l = _
    rw [mst_none (h x (List.mem_cons_self ..)), runM_downs l _ fun i hi => h i (List.mem_cons_of_mem _ hi), List.length_cons]
    congr 1; omega
theorem runM_skip : ∀ (l : List Nat) (acc : List (Option Nat)), (∀ i ∈ l, st.getD i 0 = 1 ∨ st.getD i 0 = -1 ∨ st.getD i 0 = 0) → runM st acc l = runM st acc (l.filter fun p => st.getD p 0 != 0)
  | [], acc, _ => rfl
  | x :: l, acc, h => by
    have ih := fun acc => runM_skip l acc fun i hi => h i (List.mem_cons_of_mem _ hi)
    rcases h x (List.mem_cons_self ..) with e | e | e
    · rw [List.filter_cons, if_pos (by rw [e]; decide)]; exact ih _
    · rw [List.filter_cons, if_pos (by rw [e]; decide)]; exact ih _
    · rw [List.filter_cons, if_neg (by rw [e]; decide)]
      show runM st (mst st acc x) l = _
      have : mst st acc x = acc := by unfold mst; rw [if_neg (by rw [e]; decide), if_neg (by rw [e]; decide)]
      rw [this]; exact ih _

/-- the order from the place t on -/
noncomputable def ordR (t : Nat) (l : List Nat) : List Nat := l.filter (fun p => decide (t ≤ p)) ++ l.filter (fun p => decide (p < t))
theorem sorted_split (t : Nat) : ∀ l : List Nat, l.Pairwise (· < ·) → l = l.filter (fun p => decide (p < t)) ++ l.filter (fun p => decide (t ≤ p))
  | [], _ => rfl
  | x :: l, h => by
    obtain ⟨h1, h2⟩ := List.pairwise_cons.mp h
    by_cases hx : x < t
    · rw [List.filter_cons, if_pos (decide_eq_true hx), List.filter_cons, if_neg (by simp; omega), List.cons_append, ← sorted_split t l h2]
    · have e1 : l.filter (fun p => decide (p < t)) = [] := List.filter_eq_nil_iff.mpr fun p hp => by have := h1 p hp; simp; omega
      have e2 : l.filter (fun p => decide (t ≤ p)) = l := List.filter_eq_self.mpr fun p hp => by have := h1 p hp; simp; omega
      rw [List.filter_cons, if_neg (by simp; omega), List.filter_cons, if_pos (by simp; omega), e1, e2]; rfl
theorem ordR_rot (t : Nat) {l : List Nat} (h : l.Pairwise (· < ·)) : ∃ c, c ≤ l.length ∧ ordR t l = l.drop c ++ l.take c := by
  have e := sorted_split t l h
  refine ⟨(l.filter (fun p => decide (p < t))).length, List.length_filter_le _ _, ?_⟩
  unfold ordR
  generalize l.filter (fun p => decide (p < t)) = P at *
  generalize l.filter (fun p => decide (t ≤ p)) = Q at *
  subst e
  simp
theorem rot_getD {l : List Nat} {c j : Nat} (hc : c ≤ l.length) (hj : j < l.length) : (l.drop c ++ l.take c).getD j 0 = l.getD ((j + c) % l.length) 0 := by
  rw [List.getD_eq_getElem?_getD, List.getD_eq_getElem?_getD]
  congr 1
  by_cases h : j + c < l.length
  · rw [Nat.mod_eq_of_lt h, List.getElem?_append_left (by rw [List.length_drop]; omega), List.getElem?_drop, Nat.add_comm]
  · have e : (j + c) % l.length = j + c - l.length := by
      rw [Nat.mod_eq_sub_mod (by omega), Nat.mod_eq_of_lt (by omega)]
    rw [e, List.getElem?_append_right (by rw [List.length_drop]; omega), List.getElem?_take_of_lt (by rw [List.length_drop]; omega), List.length_drop]
    congr 1; omega
theorem split_two {l : List Nat} {j : Nat} (h : j + 1 < l.length) : ∃ X Y, l = X ++ l.getD j 0 :: l.getD (j + 1) 0 :: Y := by
  refine ⟨l.take j, l.drop (j + 2), ?_⟩
  have e1 : l.getD j 0 = l[j] := by simp [show j < l.length by omega]
  have e2 : l.getD (j + 1) 0 = l[j + 1] := by simp [h]
  rw [e1, e2, ← List.drop_eq_getElem_cons h, ← List.drop_eq_getElem_cons (show j < l.length by omega), List.take_append_drop]
theorem split_ends {l : List Nat} (h : 2 ≤ l.length) : ∃ Z, l = l.getD 0 0 :: (Z ++ [l.getD (l.length - 1) 0]) := by
  cases l with
  | nil => simp at h
  | cons x r =>
    have hr : r ≠ [] := by intro e; subst e; simp at h
    refine ⟨r.dropLast, ?_⟩
    have e1 : (x :: r).getD ((x :: r).length - 1) 0 = r.getLast hr := by
      have hp := List.length_pos_iff.mpr hr
      rw [List.length_cons, Nat.add_sub_cancel, List.getD_eq_getElem?_getD, List.getElem?_eq_getElem (by simp)]
      rw [List.getLast_eq_getElem]
      show (x :: r)[r.length] = _
      rw [List.getElem_cons]
      simp [show r.length ≠ 0 by omega]
    rw [e1, List.dropLast_concat_getLast]; rfl
theorem pairF_at {kept : List Nat} (h : pairF st kept = some (a, b)) : ∃ i, i < kept.length ∧ kept.getD i 0 = a ∧ kept.getD ((i + 1) % kept.length) 0 = b ∧ st.getD a 0 = 1 ∧ st.getD b 0 = -1 := by
  unfold pairF at h
  obtain ⟨i, hi, e⟩ := List.exists_of_findSome?_eq_some h
  unfold pairT at e
  split at e
  · rename_i hc
    have e' := Option.some.inj e
    have ea := congrArg Prod.fst e'
    have eb := congrArg Prod.snd e'
    simp only at ea eb
    exact ⟨i, List.mem_range.mp hi, ea, eb, by rw [← ea]; exact hc.1, by rw [← eb]; exact hc.2⟩
  · cases e
/-- where the struck pair stands in the turned order -/
theorem pair_in_ord (t : Nat) {kept : List Nat} (hs : kept.Pairwise (· < ·)) (h : pairF st kept = some (a, b)) :
    st.getD a 0 = 1 ∧ st.getD b 0 = -1 ∧ ((∃ X Y, ordR t kept = X ++ a :: b :: Y) ∨ ∃ Z, ordR t kept = b :: (Z ++ [a])) := by
  obtain ⟨i, hi, ea, eb, ha, hb⟩ := pairF_at h
  refine ⟨ha, hb, ?_⟩
  obtain ⟨c, hc, e⟩ := ordR_rot t hs
  have hab : a ≠ b := fun q => by rw [q, hb] at ha; exact absurd ha (by decide)
  have hlen : (ordR t kept).length = kept.length := by rw [e, List.length_append, List.length_drop, List.length_take]; omega
  have hpos : 0 < kept.length := by omega
  generalize hj : (i + (kept.length - c)) % kept.length = j
  have hjl : j < kept.length := by rw [← hj]; exact Nat.mod_lt _ hpos
  have e1 : (j + c) % kept.length = i := by
    rw [← hj, Nat.mod_add_mod]
    have : i + (kept.length - c) + c = i + kept.length := by omega
    rw [this, Nat.add_mod_right, Nat.mod_eq_of_lt hi]
  have e2 : ((j + 1) % kept.length + c) % kept.length = (i + 1) % kept.length := by
    rw [Nat.mod_add_mod, ← e1, Nat.mod_add_mod]
    congr 1; omega
  have ga : (ordR t kept).getD j 0 = a := by rw [e, rot_getD hc hjl, e1, ea]
  have gb : (ordR t kept).getD ((j + 1) % kept.length) 0 = b := by rw [e, rot_getD hc (Nat.mod_lt _ hpos), e2, eb]
  by_cases hl : j + 1 < kept.length
  · rw [Nat.mod_eq_of_lt hl] at gb
    obtain ⟨X, Y, q⟩ := split_two (l := ordR t kept) (j := j) (by omega)
    rw [ga, gb] at q
    exact .inl ⟨X, Y, q⟩
  · have hj1 : j + 1 = kept.length := by omega
    rw [hj1, Nat.mod_self] at gb
    have h2 : 2 ≤ kept.length := by
      rcases Nat.lt_or_ge 1 kept.length with h | h
      · exact h
      · have : j = 0 := by omega
        rw [this, gb] at ga
        exact absurd ga.symm hab
    obtain ⟨Z, q⟩ := split_ends (l := ordR t kept) (by omega)
    rw [gb, show (ordR t kept).length - 1 = j by omega, ga] at q
    exact .inr ⟨Z, q⟩
end
end Mine

end
section
open PySem PySem.Calls PySem.W PyProof.Rows
namespace Mine
noncomputable section
variable {st : List Int} {a b t : Nat}
theorem pos_ge {n t p : Nat} (ht : t < n) (hp : p < n) (h : t ≤ p) : rotN n t p = p - t := by
  unfold rotN
  have e : p + (n - t) = (p - t) + n := by omega
  rw [e, Nat.add_mod_right, Nat.mod_eq_of_lt (by omega)]
theorem pos_lt {n t p : Nat} (ht : t < n) (h : p < t) : rotN n t p = p + n - t := by
  unfold rotN
  rw [Nat.mod_eq_of_lt (by omega)]; omega
theorem pos_back {n t p : Nat} (ht : t < n) (hp : p < n) : (t + rotN n t p) % n = p := by
  by_cases h : t ≤ p
  · rw [pos_ge ht hp h, show t + (p - t) = p by omega, Nat.mod_eq_of_lt hp]
  · rw [pos_lt ht (by omega), show t + (p + n - t) = p + n by omega, Nat.add_mod_right, Nat.mod_eq_of_lt hp]
theorem pos_self {n t : Nat} (ht : t < n) : rotN n t t = 0 := by rw [pos_ge ht ht (Nat.le_refl _)]; omega
noncomputable def posLt (n t : Nat) (x y : Nat) : Prop := rotN n t x < rotN n t y
theorem ord_pw {n t : Nat} (ht : t < n) {l : List Nat} (hs : l.Pairwise (· < ·)) (hl : ∀ p ∈ l, p < n) : (ordR t l).Pairwise (posLt n t) := by
  unfold ordR
  refine List.pairwise_append.mpr ⟨?_, ?_, ?_⟩
  · refine List.Pairwise.imp_of_mem ?_ (hs.filter _)
    intro x y hx hy h
    have h1 := List.mem_filter.mp hx
    have h2 := List.mem_filter.mp hy
    unfold posLt
    have := of_decide_eq_true h1.2
    have := of_decide_eq_true h2.2
    rw [pos_ge ht (hl _ h1.1) (by omega), pos_ge ht (hl _ h2.1) (by omega)]
    omega
  · refine List.Pairwise.imp_of_mem ?_ (hs.filter _)
    intro x y hx hy h
    have h1 := List.mem_filter.mp hx
    have h2 := List.mem_filter.mp hy
    unfold posLt
    have := of_decide_eq_true h1.2
    have := of_decide_eq_true h2.2
    rw [pos_lt ht (by omega), pos_lt ht (by omega)]
    omega
  · intro x hx y hy
    have h1 := List.mem_filter.mp hx
    have h2 := List.mem_filter.mp hy
    have h3 := of_decide_eq_true h1.2
    have h4 := of_decide_eq_true h2.2
    have h5 := hl _ h1.1
    unfold posLt
    rw [pos_ge ht h5 h3, pos_lt ht h4]
    omega
theorem ord_mem {p : Nat} {l : List Nat} : p ∈ ordR t l ↔ p ∈ l := by
  unfold ordR
  rw [List.mem_append, List.mem_filter, List.mem_filter]
  constructor
  · rintro (h | h) <;> exact h.1
  · intro h
    by_cases q : t ≤ p
    · exact .inl ⟨h, decide_eq_true q⟩
    · exact .inr ⟨h, decide_eq_true (by omega)⟩
theorem ord_perm {l : List Nat} (hs : l.Pairwise (· < ·)) : (ordR t l).Perm l := by
  have e := sorted_split t l hs
  conv => rhs; rw [e]
  exact List.perm_append_comm
theorem ord_filter (f : Nat → Bool) (l : List Nat) : ordR t (l.filter f) = (ordR t l).filter f := by
  unfold ordR
  rw [List.filter_append, List.filter_filter, List.filter_filter, List.filter_filter, List.filter_filter]
  congr 1 <;> exact List.filter_congr fun p _ => Bool.and_comm ..
noncomputable def tot (st : List Int) (l : List Nat) : Int := (l.map fun p => st.getD p 0).sum
theorem tot_append (l k : List Nat) : tot st (l ++ k) = tot st l + tot st k := by unfold tot; rw [List.map_append, List.sum_append]
theorem tot_cons (x : Nat) (k : List Nat) : tot st (x :: k) = st.getD x 0 + tot st k := by unfold tot; rw [List.map_cons, List.sum_cons]
structure SInv (st : List Int) (t : Nat) (all kept : List Nat) (pairs : List (Nat × Nat)) (us : List Nat) : Prop where
  sorted : kept.Pairwise (· < ·)
  lt : ∀ p ∈ kept, p < st.length
  nzz : ∀ p ∈ kept, st.getD p 0 = 1 ∨ st.getD p 0 = -1
  pw : (ordR t kept ++ us).Pairwise (posLt st.length t)
  part : partOf st.length t pairs = (us.map (rotN st.length t)).reverse
  ltU : ∀ u ∈ us, u < st.length
  run : ∀ r, runM st [] (rep (r + 1) (ordR t all)) = runM st (List.replicate us.length none) (rep (r + 1) (ordR t kept)) ++ us.map some
  head : t ∈ kept → st.getD t 0 = 1 → us = []
  sum : tot st (ordR t all) = tot st (ordR t kept)
theorem posLt_ne {n x y : Nat} (h : posLt n t x y) : x ≠ y := fun q => by subst q; exact Nat.lt_irrefl _ h
theorem strike_self {p : Nat} (h : p ≠ a ∧ p ≠ b) : (!(pairL (some (a, b))).contains p) = true := by
  simp [pairL, h.1, h.2]
theorem strike_a : (!(pairL (some (a, b))).contains a) = false := by simp [pairL]
theorem strike_b : (!(pairL (some (a, b))).contains b) = false := by simp [pairL]
theorem SInv.step {all kept : List Nat} {pairs : List (Nat × Nat)} {us : List Nat} (ht : t < st.length) (I : SInv st t all kept pairs us) (h : pairF st kept = some (a, b)) :
    ∃ us', SInv st t all (kept.filter fun p => !(pairL (some (a, b))).contains p) (pairs ++ [(a, b)]) us' := by
  obtain ⟨ha, hb, hcase⟩ := pair_in_ord t I.sorted h
  have hsub : ∀ p, p ∈ (kept.filter fun p => !(pairL (some (a, b))).contains p) → p ∈ kept := fun p hp => (List.mem_filter.mp hp).1
  have hpwR : (ordR t kept).Pairwise (posLt st.length t) := (List.pairwise_append.mp I.pw).1
  rcases hcase with ⟨X, Y, e⟩ | ⟨Z, e⟩
  · have hlt : posLt st.length t a b := by
      rw [e] at hpwR
      have := (List.pairwise_append.mp hpwR).2.1
      exact (List.pairwise_cons.mp this).1 b (List.mem_cons_self ..)
    have hR' : ordR t (kept.filter fun p => !(pairL (some (a, b))).contains p) = X ++ Y := by
      rw [ord_filter, e, List.filter_append, List.filter_cons, if_neg (by rw [strike_a]; decide), List.filter_cons, if_neg (by rw [strike_b]; decide)]
      rw [e] at hpwR
      obtain ⟨_, h2, h3⟩ := List.pairwise_append.mp hpwR
      obtain ⟨h4, h5⟩ := List.pairwise_cons.mp h2
      obtain ⟨h6, _⟩ := List.pairwise_cons.mp h5
      congr 1
      · exact List.filter_eq_self.mpr fun p hp => strike_self ⟨posLt_ne (h3 p hp a (List.mem_cons_self ..)), posLt_ne (h3 p hp b (List.mem_cons_of_mem _ (List.mem_cons_self ..)))⟩
      · exact List.filter_eq_self.mpr fun p hp => strike_self ⟨(posLt_ne (h4 p (List.mem_cons_of_mem _ hp))).symm, (posLt_ne (h6 p hp)).symm⟩
    refine ⟨us, I.sorted.filter _, fun p hp => I.lt p (hsub p hp), fun p hp => I.nzz p (hsub p hp), ?_, ?_, I.ltU, fun r => ?_, fun hm hu => I.head (hsub _ hm) hu, ?_⟩
    · rw [hR']
      refine I.pw.sublist (List.Sublist.append_right ?_ us)
      rw [e]
      exact List.Sublist.append_left (List.Sublist.trans (List.sublist_cons_self _ _) (List.sublist_cons_self _ _)) X
    · unfold partOf
      rw [List.filter_append, List.map_append, List.filter_cons, if_neg (by unfold posLt at hlt; simp; omega)]
      have := I.part
      unfold partOf at this
      rw [this]; simp
    · rw [I.run r, hR', e, runM_rep_cancel ha hb]
    · rw [I.sum, hR', e, tot_append, tot_cons, tot_cons, tot_append, ha, hb]; omega
  · have hpwR0 := hpwR
    rw [e] at hpwR
    obtain ⟨h1, h2⟩ := List.pairwise_cons.mp hpwR
    obtain ⟨_, _, h3⟩ := List.pairwise_append.mp h2
    have hlt : posLt st.length t b a := h1 a (List.mem_append_right _ (List.mem_singleton.mpr rfl))
    have hR' : ordR t (kept.filter fun p => !(pairL (some (a, b))).contains p) = Z := by
      rw [ord_filter, e, List.filter_cons, if_neg (by rw [strike_b]; decide), List.filter_append, List.filter_cons, if_neg (by rw [strike_a]; decide), List.filter_nil, List.append_nil]
      exact List.filter_eq_self.mpr fun p hp => strike_self ⟨posLt_ne (h3 p hp a (List.mem_singleton.mpr rfl)), (posLt_ne (h1 p (List.mem_append_left _ hp))).symm⟩
    have hak : a ∈ kept := ord_mem.mp (by rw [e]; exact List.mem_cons_of_mem _ (List.mem_append_right _ (List.mem_singleton.mpr rfl)))
    refine ⟨a :: us, I.sorted.filter _, fun p hp => I.lt p (hsub p hp), fun p hp => I.nzz p (hsub p hp), ?_, ?_, ?_, fun r => ?_, fun hm hu => ?_, ?_⟩
    · rw [hR']
      refine I.pw.sublist ?_
      rw [e]
      show List.Sublist (Z ++ a :: us) (b :: ((Z ++ [a]) ++ us))
      rw [List.append_assoc]
      exact List.sublist_cons_self _ _
    · unfold partOf
      rw [List.filter_append, List.map_append, List.filter_cons, if_pos (by unfold posLt at hlt; simp; omega)]
      have := I.part
      unfold partOf at this
      rw [this]; simp
    · intro u hu
      rcases List.mem_cons.mp hu with rfl | hu
      · exact I.lt _ hak
      · exact I.ltU u hu
    · rw [I.run r, hR', e, runM_wrap ha hb, mst_none hb, List.append_assoc]; rfl
    · exfalso
      have hm' := hsub _ hm
      have hmR : t ∈ ordR t kept := ord_mem.mpr hm'
      rw [e] at hmR
      rcases List.mem_cons.mp hmR with q | q
      · rw [q, hb] at hu; exact absurd hu (by decide)
      · have := h1 t q
        unfold posLt at this
        rw [pos_self ht] at this; omega
    · rw [I.sum, hR', e, tot_cons, tot_append, tot_cons, ha, hb]
      show _ + (_ + (1 + 0)) = _
      omega
theorem struckG_inv (ht : t < st.length) {all : List Nat} : ∀ (f : Nat) (kept : List Nat) (pairs : List (Nat × Nat)) (us : List Nat), SInv st t all kept pairs us → kept.length ≤ f →
    ∃ us', SInv st t all (struckG st f kept pairs).1 (struckG st f kept pairs).2 us' ∧ pairF st (struckG st f kept pairs).1 = none
  | 0, kept, pairs, us, I, hf => by
    have : kept = [] := List.eq_nil_of_length_eq_zero (by omega)
    subst this
    exact ⟨us, I, rfl⟩
  | f + 1, kept, pairs, us, I, hf => by
    unfold struckG
    cases e : pairF st kept with
    | none => exact ⟨us, I, e⟩
    | some q =>
      obtain ⟨a, b⟩ := q
      obtain ⟨us', I'⟩ := I.step ht e
      obtain ⟨hma, _⟩ := pairF_mem e
      have hlt : (kept.filter fun p => !(pairL (some (a, b))).contains p).length < kept.length := by
        rw [List.length_filter_lt_length_iff_exists]
        exact ⟨a, hma, by simp [pairL]⟩
      exact struckG_inv ht f _ _ us' I' (by omega)
theorem nz_sorted (st : List Int) (n : Nat) : (nz st n).Pairwise (· < ·) := List.Pairwise.filter _ List.pairwise_lt_range
theorem sinv0 (ht : t < st.length) (h3 : ∀ p < st.length, st.getD p 0 = 1 ∨ st.getD p 0 = -1 ∨ st.getD p 0 = 0) : SInv st t (nz st st.length) (nz st st.length) [] [] := by
  have hl : ∀ p ∈ nz st st.length, p < st.length := fun p hp => List.mem_range.mp (List.mem_filter.mp hp).1
  refine ⟨nz_sorted _ _, hl, fun p hp => ?_, ?_, rfl, fun u hu => (nomatch hu), fun r => ?_, fun _ _ => rfl, rfl⟩
  · have h0 := (List.mem_filter.mp hp).2
    rcases h3 p (hl p hp) with h | h | h
    · exact .inl h
    · exact .inr h
    · rw [h] at h0; exact absurd h0 (by decide)
  · rw [List.append_nil]; exact ord_pw ht (nz_sorted _ _) hl
  · rw [List.map_nil, List.append_nil]; rfl
theorem none_same {K : List Nat} (h : pairF st K = none) (hz : ∀ p ∈ K, st.getD p 0 = 1 ∨ st.getD p 0 = -1) : (∀ p ∈ K, st.getD p 0 = 1) ∨ ∀ p ∈ K, st.getD p 0 = -1 := by
  have hget : ∀ i, i < K.length → K.getD i 0 ∈ K := fun i hi => by rw [List.getD_eq_getElem?_getD, List.getElem?_eq_getElem hi]; exact List.getElem_mem hi
  by_cases hu : ∃ i, i < K.length ∧ st.getD (K.getD i 0) 0 = 1
  · obtain ⟨i, hi, hui⟩ := hu
    have hpos : 0 < K.length := by omega
    have all : ∀ m, st.getD (K.getD ((i + m) % K.length) 0) 0 = 1 := by
      intro m
      induction m with
      | zero => rw [Nat.add_zero, Nat.mod_eq_of_lt hi]; exact hui
      | succ m ih =>
        have hx : (i + m) % K.length < K.length := Nat.mod_lt _ hpos
        unfold pairF at h
        have hn := List.findSome?_eq_none_iff.mp h _ (List.mem_range.mpr hx)
        unfold pairT at hn
        split at hn
        · cases hn
        · rename_i hc
          have e : ((i + m) % K.length + 1) % K.length = (i + (m + 1)) % K.length := by rw [Nat.mod_add_mod]; rfl
          rw [e] at hc
          rcases hz _ (hget _ (Nat.mod_lt (i + (m + 1)) hpos)) with q | q
          · exact q
          · exact absurd ⟨ih, q⟩ hc
    refine .inl fun p hp => ?_
    obtain ⟨j, hj, rfl⟩ := List.getElem_of_mem hp
    have := all (j + K.length - i)
    have e : (i + (j + K.length - i)) % K.length = j := by
      rw [show i + (j + K.length - i) = j + K.length by omega, Nat.add_mod_right, Nat.mod_eq_of_lt hj]
    rw [e] at this
    simpa [hj] using this
  · refine .inr fun p hp => ?_
    obtain ⟨j, hj, rfl⟩ := List.getElem_of_mem hp
    rcases hz _ (List.getElem_mem hj) with q | q
    · exact absurd ⟨j, hj, by simpa [hj] using q⟩ hu
    · exact q
theorem sortN_eq {l m : List Nat} (hp : l.Perm m) (hs : m.Pairwise (· ≤ ·)) : sortN l = m :=
  List.Perm.eq_of_pairwise (le := fun a b : Nat => a ≤ b) (fun a b _ _ h1 h2 => by omega) (sortN_sorted l) hs ((sortN_perm l).trans hp)
theorem rep_len (l : List Nat) : ∀ r, (rep r l).length = r * l.length
  | 0 => by simp [rep]
  | r + 1 => by rw [rep_succ, List.length_append, rep_len l r, Nat.add_mul]; omega
theorem rep_mem {l : List Nat} {p : Nat} : ∀ {r : Nat}, p ∈ rep r l → p ∈ l
  | 0, h => nomatch h
  | r + 1, h => by
    rw [rep_succ] at h
    rcases List.mem_append.mp h with q | q
    · exact q
    · exact rep_mem q
theorem rep_snoc (l : List Nat) : ∀ r, rep (r + 1) l = rep r l ++ l
  | 0 => by rw [rep_succ, rep_zero, List.append_nil, List.nil_append]
  | r + 1 => by rw [rep_succ, rep_snoc l r, ← List.append_assoc, ← rep_succ, rep_snoc l r]
/-- what the stack holds behind r + 1 rounds -/
theorem machine (ht : t < st.length) (h3 : ∀ p < st.length, st.getD p 0 = 1 ∨ st.getD p 0 = -1 ∨ st.getD p 0 = 0) (r : Nat) :
    runM st [] (rep (r + 1) (ordR t (nz st st.length))) = List.replicate ((r + 1) * downOf st (struckF st).1 + (partOf st.length t (struckF st).2).length) none ++
      (placesOf st st.length t (r + 1) (struckF st).1 (struckF st).2).map fun p => some ((t + p) % st.length) := by
  obtain ⟨us, I, hn⟩ := struckG_inv ht (nz st st.length).length (nz st st.length) [] [] (sinv0 ht h3) (Nat.le_refl _)
  change SInv st t _ (struckF st).1 (struckF st).2 us at I
  change pairF st (struckF st).1 = none at hn
  generalize (struckF st).1 = K at *
  generalize (struckF st).2 = pairs at *
  have hpl : (partOf st.length t pairs).length = us.length := by rw [I.part, List.length_reverse, List.length_map]
  have hpp : (partOf st.length t pairs).Perm (us.map (rotN st.length t)) := by rw [I.part]; exact List.reverse_perm _
  have hpwm : ((ordR t K ++ us).map (rotN st.length t)).Pairwise (· ≤ ·) := by
    rw [List.pairwise_map]
    exact I.pw.imp fun h => Nat.le_of_lt h
  have hpr := ord_perm (t := t) I.sorted
  have hback : ∀ l : List Nat, (∀ p ∈ l, p < st.length) → (l.map (rotN st.length t)).map (fun p => some ((t + p) % st.length)) = l.map some := by
    intro l hl
    rw [List.map_map]
    exact List.map_congr_left fun p hp => congrArg some (pos_back ht (hl p hp))
  rw [I.run r, hpl]
  rcases none_same hn I.nzz with hu | hd
  · have hd0 : downOf st K = 0 := by
      unfold downOf
      rw [List.length_eq_zero_iff, List.filter_eq_nil_iff]
      intro p hp; rw [hu p hp]; decide
    have hleft : leftOf st st.length t K = K.map (rotN st.length t) := by
      unfold leftOf
      rw [List.filter_eq_self.mpr fun p hp => by rw [hu p hp]; decide]
    have hsl : sortN (leftOf st st.length t K) = (ordR t K).map (rotN st.length t) := by
      rw [hleft]
      refine sortN_eq (hpr.symm.map _) ?_
      rw [List.map_append] at hpwm
      exact (List.pairwise_append.mp hpwm).1
    have hplaces : placesOf st st.length t (r + 1) K pairs = (rep r (ordR t K) ++ (ordR t K ++ us)).map (rotN st.length t) := by
      unfold placesOf
      rw [hsl, Nat.add_sub_cancel, List.map_append]
      congr 1
      · unfold rep
        rw [List.map_flatten, List.map_replicate]
      · refine sortN_eq ?_ hpwm
        rw [List.map_append]
        exact List.Perm.append_left _ hpp
    rw [hplaces, hback _ (fun p hp => ?_), hd0, Nat.mul_zero, Nat.zero_add, runM_ups _ _ (fun p hp => hu p (ord_mem.mp (rep_mem hp))), ← List.append_assoc, ← rep_snoc, List.map_append, List.append_assoc]
    rcases List.mem_append.mp hp with q | q
    · exact I.lt p (ord_mem.mp (rep_mem q))
    · rcases List.mem_append.mp q with q | q
      · exact I.lt p (ord_mem.mp q)
      · exact I.ltU p q
  · have hd0 : downOf st K = K.length := by
      unfold downOf
      rw [List.filter_eq_self.mpr fun p hp => by rw [hd p hp]; decide]
    have hleft : leftOf st st.length t K = [] := by
      unfold leftOf
      rw [List.filter_eq_nil_iff.mpr fun p hp => by rw [hd p hp]; decide]; rfl
    have hplaces : placesOf st st.length t (r + 1) K pairs = us.map (rotN st.length t) := by
      unfold placesOf
      have e0 : sortN ([] : List Nat) = [] := sortN_eq (List.Perm.refl _) .nil
      rw [hleft, e0]
      have e1 : (List.replicate (r + 1 - 1) ([] : List Nat)).flatten = [] := by
        rw [List.flatten_eq_nil_iff]; intro l hl; exact (List.mem_replicate.mp hl).2
      rw [e1, List.nil_append, List.nil_append]
      refine sortN_eq hpp ?_
      rw [List.map_append] at hpwm
      exact (List.pairwise_append.mp hpwm).2.1
    rw [hplaces, hback _ I.ltU, runM_downs _ _ (fun p hp => hd p (ord_mem.mp (rep_mem hp))), rep_len, hd0, hpr.length_eq, Nat.add_comm us.length]
end
end Mine

end
section
open PySem PySem.Calls PySem.W PyProof.Rows
namespace Mine
noncomputable section
variable {st : List Int} {a b t : Nat}
/-- the place t stands first behind its own turn only if it is kept -/
theorem first_kept (ht : t < st.length) (h3 : ∀ p < st.length, st.getD p 0 = 1 ∨ st.getD p 0 = -1 ∨ st.getD p 0 = 0) (hu : st.getD t 0 = 1) :
    (runM st [] (rep 1 (ordR t (nz st st.length)))).head? = some (some t) ↔ t ∈ (struckF st).1 := by
  obtain ⟨us, I, hn⟩ := struckG_inv ht (nz st st.length).length (nz st st.length) [] [] (sinv0 ht h3) (Nat.le_refl _)
  change SInv st t _ (struckF st).1 (struckF st).2 us at I
  change pairF st (struckF st).1 = none at hn
  generalize (struckF st).1 = K at *
  generalize (struckF st).2 = pairs at *
  rw [I.run 0]
  rcases none_same hn I.nzz with hk | hd
  · rw [runM_ups _ _ (fun p hp => hk p (ord_mem.mp (rep_mem hp))), rep_succ, rep_zero, List.append_nil]
    cases us with
    | nil =>
      rw [List.map_nil, List.append_nil]
      show (List.map some (ordR t K)).head? = _ ↔ _
      have hpw := I.pw
      rw [List.append_nil] at hpw
      rw [← ord_mem (t := t)]
      generalize ordR t K = Rr at *
      cases Rr with
      | nil => simp
      | cons x r =>
        rw [List.map_cons, List.head?_cons]
        constructor
        · intro h
          have : x = t := Option.some.inj (Option.some.inj h)
          subst this
          exact List.mem_cons_self ..
        · intro h
          rcases List.mem_cons.mp h with rfl | h
          · rfl
          · have := (List.pairwise_cons.mp hpw).1 t h
            unfold posLt at this
            rw [pos_self ht] at this; omega
    | cons u us =>
      constructor
      · intro h
        rw [List.length_cons, List.replicate_succ] at h
        have := Option.some.inj h
        cases this
      · intro h
        have := I.head h hu
        cases this
  · rw [runM_downs _ _ (fun p hp => hd p (ord_mem.mp (rep_mem hp)))]
    constructor
    · intro h
      exfalso
      cases us with
      | nil =>
        rw [List.map_nil, List.append_nil] at h
        rw [List.head?_replicate] at h
        split at h
        · cases h
        · cases Option.some.inj h
      | cons u us =>
        rw [List.length_cons, show us.length + 1 + (rep (0 + 1) (ordR t K)).length = (us.length + (rep (0 + 1) (ordR t K)).length) + 1 by omega, List.replicate_succ] at h
        cases Option.some.inj h
    · intro h
      have := hd t h
      rw [hu] at this; exact absurd this (by decide)
theorem tot_perm {l k : List Nat} (h : l.Perm k) : tot st l = tot st k := by
  unfold tot
  induction h with
  | nil => rfl
  | cons x _ ih => rw [List.map_cons, List.map_cons, List.sum_cons, List.sum_cons, ih]
  | swap x y l => simp only [List.map_cons, List.sum_cons]; omega
  | trans _ _ h1 h2 => exact h1.trans h2
theorem tot_const {l : List Nat} {c : Int} (h : ∀ p ∈ l, st.getD p 0 = c) : tot st l = c * l.length := by
  induction l with
  | nil => simp [tot]
  | cons x l ih =>
    rw [tot_cons, ih fun p hp => h p (List.mem_cons_of_mem _ hp), h x (List.mem_cons_self ..), List.length_cons]
    push_cast
    rw [Int.mul_add, Int.mul_one]; omega
theorem tot_filter (l : List Nat) : tot st (l.filter fun p => st.getD p 0 != 0) = tot st l := by
  induction l with
  | nil => rfl
  | cons x l ih =>
    rw [List.filter_cons, tot_cons]
    by_cases h : st.getD x 0 = 0
    · rw [if_neg (by rw [h]; decide), ih, h]; omega
    · rw [if_pos (by simpa using h), tot_cons, ih]
theorem tot_range (st : List Int) : tot st (List.range st.length) = st.sum := by
  unfold tot
  congr 1
  refine List.ext_getElem (by simp) fun i h1 h2 => ?_
  simp at h1
  simp [h1]
theorem kept_count (hn0 : 0 < st.length) (h3 : ∀ p < st.length, st.getD p 0 = 1 ∨ st.getD p 0 = -1 ∨ st.getD p 0 = 0) :
    (((List.range st.length).filter fun t => st.getD t 0 == 1 && decide (t ∈ (struckF st).1)).length : Int) = max 0 st.sum := by
  obtain ⟨us, I, hn⟩ := struckG_inv hn0 (nz st st.length).length (nz st st.length) [] [] (sinv0 hn0 h3) (Nat.le_refl _)
  change SInv st 0 _ (struckF st).1 (struckF st).2 us at I
  change pairF st (struckF st).1 = none at hn
  generalize (struckF st).1 = K at *
  have hsum : st.sum = tot st K := by
    rw [← tot_range, ← tot_filter (List.range st.length)]
    show tot st (nz st st.length) = _
    rw [← tot_perm (ord_perm (t := 0) (nz_sorted st st.length)), I.sum, tot_perm (ord_perm I.sorted)]
  have hperm : ((List.range st.length).filter fun t => decide (t ∈ K)) = K := by
    refine List.Perm.eq_of_pairwise (le := fun a b : Nat => a < b) (fun a b _ _ h1 h2 => absurd h1 (by omega)) (List.pairwise_lt_range.filter _) I.sorted ?_
    refine (List.perm_ext_iff_of_nodup ((List.pairwise_lt_range.filter _).imp fun h => Nat.ne_of_lt h) (I.sorted.imp fun h => Nat.ne_of_lt h)).mpr fun x => ?_
    rw [List.mem_filter, List.mem_range]
    exact ⟨fun h => of_decide_eq_true h.2, fun h => ⟨I.lt x h, decide_eq_true h⟩⟩
  have hf : ((List.range st.length).filter fun t => st.getD t 0 == 1 && decide (t ∈ K)) = K.filter fun t => st.getD t 0 == 1 := by
    rw [← List.filter_filter, hperm]
  rw [hf, hsum]
  rcases none_same hn I.nzz with hu | hd
  · rw [List.filter_eq_self.mpr fun p hp => by rw [hu p hp]; decide, tot_const hu]; omega
  · rw [List.filter_eq_nil_iff.mpr fun p hp => by rw [hd p hp]; decide, tot_const hd, List.length_nil]; omega
end
end Mine

end
section
open PySem PySem.Calls PySem.W PyProof.Rows
namespace Mine
noncomputable section
/-- the signs of a text -/
noncomputable def lst (x : Str) : List Nat := x.cps.toList
theorem lst_append (x y : Str) : lst (x ++ y) = lst x ++ lst y := by unfold lst; rw [Str.cps_append, Array.toList_append]
theorem lst_inj {x y : Str} (h : lst x = lst y) : x = y := Str.ext' (Array.toList_inj.mp h)
theorem lst_txt (ds : List Nat) : lst (txt ds) = ds.map fun d => sgn.cps.toList.getD d 0 := rfl
theorem lst_len (x : Str) : x.length = (lst x).length := by unfold lst Str.length; rw [Array.length_toList]
theorem slash_eq : ("/" : Str) = ⟨#[47]⟩ := by decide +kernel
theorem lst_slash : lst ("/" : Str) = [47] := by decide +kernel
theorem lst_empty : lst ("" : Str) = [] := by decide +kernel
theorem lst_dot : lst ("." : Str) = [46] := by decide +kernel
theorem lst_dots : lst (".." : Str) = [46, 46] := by decide +kernel
/-- rows of signs joined by a slash -/
noncomputable def jn : List (List Nat) → List Nat
  | [] => []
  | [a] => a
  | a :: b :: r => a ++ 47 :: jn (b :: r)
theorem lst_join : ∀ l : List Str, lst (Str.join "/" l) = jn (l.map lst)
  | [] => rfl
  | [x] => rfl
  | x :: y :: r => by
    show lst (x ++ "/" ++ Str.join "/" (y :: r)) = lst x ++ 47 :: jn ((y :: r).map lst)
    rw [lst_append, lst_append, lst_join (y :: r), lst_slash, List.append_assoc]; rfl
theorem cut_one : ∀ {a a' X X' : List Nat}, 47 ∉ a → 47 ∉ a' → a ++ 47 :: X = a' ++ 47 :: X' → a = a' ∧ X = X'
  | [], [], X, X', _, _, h => ⟨rfl, by simpa using h⟩
  | [], y :: a', X, X', _, h', h => by
    have := (List.cons.inj h).1
    exact absurd (List.mem_cons.mpr (.inl this)) h'
  | x :: a, [], X, X', h0, _, h => by
    have := (List.cons.inj h).1
    exact absurd (List.mem_cons.mpr (.inl this.symm)) h0
  | x :: a, y :: a', X, X', h0, h', h => by
    obtain ⟨h1, h2⟩ := List.cons.inj h
    obtain ⟨e1, e2⟩ := cut_one (fun q => h0 (List.mem_cons_of_mem _ q)) (fun q => h' (List.mem_cons_of_mem _ q)) h2
    exact ⟨by rw [h1, e1], e2⟩
theorem jn_inj : ∀ {l k : List (List Nat)}, l ≠ [] → k ≠ [] → (∀ a ∈ l, 47 ∉ a) → (∀ a ∈ k, 47 ∉ a) → jn l = jn k → l = k
  | [], _, h, _, _, _, _ => absurd rfl h
  | _, [], _, h, _, _, _ => absurd rfl h
  | [a], [b], _, _, _, _, h => by rw [show a = b from h]
  | [a], b :: c :: r, _, _, ha, _, h => by
    exfalso
    have h' : a = b ++ 47 :: jn (c :: r) := h
    exact ha a (List.mem_cons_self ..) (by rw [h']; exact List.mem_append_right _ (List.mem_cons_self ..))
  | a :: c :: r, [b], _, _, _, hb, h => by
    exfalso
    have h' : a ++ 47 :: jn (c :: r) = b := h
    exact hb b (List.mem_cons_self ..) (by rw [← h']; exact List.mem_append_right _ (List.mem_cons_self ..))
  | a :: c :: r, b :: d :: q, _, _, ha, hb, h => by
    obtain ⟨e1, e2⟩ := cut_one (ha a (List.mem_cons_self ..)) (hb b (List.mem_cons_self ..)) (show a ++ 47 :: jn (c :: r) = b ++ 47 :: jn (d :: q) from h)
    rw [e1, jn_inj (by simp) (by simp) (fun x hx => ha x (List.mem_cons_of_mem _ hx)) (fun x hx => hb x (List.mem_cons_of_mem _ hx)) e2]
theorem map_lst_inj : ∀ {l k : List Str}, l.map lst = k.map lst → l = k
  | [], [], _ => rfl
  | [], _ :: _, h => nomatch h
  | _ :: _, [], h => nomatch h
  | x :: l, y :: k, h => by
    obtain ⟨h1, h2⟩ := List.cons.inj h
    rw [lst_inj h1, map_lst_inj h2]
theorem split_uniq {x : Str} {ps : List Str} (hne : ps ≠ []) (hf : ∀ p ∈ ps, 47 ∉ lst p) (h : lst x = jn (ps.map lst)) : Txt.split x "/" = ps := by
  refine map_lst_inj (jn_inj ?_ ?_ ?_ ?_ ?_)
  · intro e
    have := split_pos x "/"
    rw [List.map_eq_nil_iff] at e
    rw [e] at this; simp at this
  · intro e; exact hne (List.map_eq_nil_iff.mp e)
  · intro a ha
    obtain ⟨p, hp, rfl⟩ := List.mem_map.mp ha
    rw [slash_eq] at hp
    exact StrLaws.split_free x 47 p hp
  · intro a ha
    obtain ⟨p, hp, rfl⟩ := List.mem_map.mp ha
    exact hf p hp
  · rw [← lst_join, ← h, StrLaws.join_split]
/-- pieces with a slash behind each -/
noncomputable def cat (ps : List Str) : List Nat := ps.flatMap fun p => lst p ++ [47]
theorem cat_append (a b : List Str) : cat (a ++ b) = cat a ++ cat b := List.flatMap_append
theorem jn_cat : ∀ ps : List Str, jn ((ps ++ [("" : Str)]).map lst) = cat ps
  | [] => lst_empty
  | [p] => by
    show lst p ++ 47 :: lst "" = _
    rw [lst_empty]
    show _ = (lst p ++ [47]) ++ []
    rw [List.append_nil]
  | p :: q :: r => by
    have ih := jn_cat (q :: r)
    show lst p ++ 47 :: jn (((q :: r) ++ [("" : Str)]).map lst) = (lst p ++ [47]) ++ cat (q :: r)
    rw [ih, List.append_assoc]; rfl
theorem split_cat {x : Str} {ps : List Str} (hf : ∀ p ∈ ps, 47 ∉ lst p) (h : lst x = cat ps) : Txt.split x "/" = ps ++ [("" : Str)] := by
  refine split_uniq (by simp) (fun p hp => ?_) (by rw [jn_cat]; exact h)
  rcases List.mem_append.mp hp with q | q
  · exact hf p q
  · rw [List.mem_singleton.mp q, lst_empty]; exact List.not_mem_nil
theorem normL_snoc (ps : List Str) : normL (ps ++ [("" : Str)]) = normL ps := by
  unfold normL
  rw [List.foldl_append]
  show stepN (List.foldl stepN [] ps) "" = _
  unfold stepN
  exact if_pos (Or.inl rfl)
theorem normF_cat {x : Str} {ps : List Str} (hf : ∀ p ∈ ps, 47 ∉ lst p) (h : lst x = cat ps) : normF x = normJ (normL ps) := by
  unfold normF
  rw [split_cat hf h, normL_snoc]
theorem starts_no {x : Str} {c : Nat} {r : List Nat} (h : lst x = c :: r) (hc : c ≠ 47) : Txt.startswith x "/" = false := by
  unfold Txt.startswith
  rw [Bool.and_eq_false_iff]
  refine .inr ?_
  rw [slash_eq]
  cases e : Builtin.Str.subAt x ⟨#[47]⟩ 0 with
  | false => rfl
  | true =>
    exfalso
    unfold Builtin.Str.subAt at e
    rw [StrLaws.beq_toList, beq_iff_eq] at e
    have h1 : x.cps.toList = c :: r := h
    rw [Array.toList_extract, h1] at e
    simp [Str.length] at e
    exact hc e
theorem ends_yes {x : Str} {r : List Nat} (h : lst x = r ++ [47]) : Txt.endswith x "/" = true := by
  have hl : x.length = r.length + 1 := by rw [lst_len, h, List.length_append]; rfl
  have hs : (⟨#[47]⟩ : Str).length = 1 := rfl
  unfold Txt.endswith
  rw [slash_eq, hs, hl, Bool.and_eq_true]
  refine ⟨decide_eq_true (by omega), ?_⟩
  unfold Builtin.Str.subAt
  rw [StrLaws.beq_toList, beq_iff_eq, Array.toList_extract, hs]
  have h1 : x.cps.toList = r ++ [47] := h
  rw [h1, List.extract_eq_drop_take]
  simp
end
end Mine

end
section
open PySem PySem.Calls PySem.W PyProof.Rows
namespace Mine
noncomputable section
variable {n : Int} {p : Nat}
noncomputable def sc (i : Nat) : Nat := sgn.cps.toList.getD i 0
theorem lst_sg (i : Nat) : lst (sg i) = [sc i] := rfl
theorem sc_free : ∀ i : Nat, i < 63 → sc i ≠ 47 := by unfold sc; decide +kernel
theorem sc_letter : ∀ p : Nat, p < 10 → sc p = 65 + p := by unfold sc; decide +kernel
theorem sc62 : sc 62 = 46 := by unfold sc; decide +kernel
theorem sc63 : sc 63 = 47 := by unfold sc; decide +kernel
/-- a cell's pieces -/
noncomputable def pcs (n : Int) (p : Nat) : List Str :=
  let sp := n.fdiv 5
  if n.fmod 5 = 4 then (if sp.fmod 2 = 0 then [".", "."] else [".", "", ""])
  else if 1 < n.fmod 5 then ["..", ""]
  else
    let one := sg ((sp.fdiv 3).fmod 63).toNat
    let two := sg ((sp.fdiv 189).fmod 63).toNat
    if sp.fmod 3 = 0 then [one ++ sg p ++ two]
    else if sp.fmod 3 = 1 then [sg p ++ one, ""]
    else [".", sg p]
theorem cell_cases (n : Int) (p : Nat) :
    (cellF n p = ((0, "././", "") : Int × Str × Str) ∧ cellD n p = [62, 63, 62, 63] ∧ pcs n p = ([".", "."] : List Str)) ∨
    (cellF n p = ((0, ".///", "") : Int × Str × Str) ∧ cellD n p = [62, 63, 63, 63] ∧ pcs n p = ([".", "", ""] : List Str)) ∨
    (cellF n p = ((-1, "..//", "..") : Int × Str × Str) ∧ cellD n p = [62, 62, 63, 63] ∧ pcs n p = (["..", ""] : List Str)) ∨
    (∃ o w : Nat, o < 63 ∧ w < 63 ∧ cellF n p = ((1, sg o ++ sg p ++ sg w ++ "/", sg o ++ sg p ++ sg w) : Int × Str × Str) ∧ cellD n p = [o, p, w, 63] ∧ pcs n p = ([sg o ++ sg p ++ sg w] : List Str)) ∨
    (∃ o : Nat, o < 63 ∧ cellF n p = ((1, sg p ++ sg o ++ "//", sg p ++ sg o) : Int × Str × Str) ∧ cellD n p = [p, o, 63, 63] ∧ pcs n p = ([sg p ++ sg o, ""] : List Str)) ∨
    (cellF n p = ((1, ("./" : Str) ++ sg p ++ "/", sg p) : Int × Str × Str) ∧ cellD n p = [62, 63, p, 63] ∧ pcs n p = ([".", sg p] : List Str)) := by
  have h1 : ((n.fdiv 5).fdiv 3).fmod 63 < 63 := fm_lt (by decide)
  have h2 : ((n.fdiv 5).fdiv 189).fmod 63 < 63 := fm_lt (by decide)
  unfold cellF cellD pcs
  dsimp only
  by_cases c1 : n.fmod 5 = 4
  · rw [if_pos c1, if_pos c1, if_pos c1]
    by_cases c2 : (n.fdiv 5).fmod 2 = 0
    · rw [if_pos c2, if_pos c2, if_pos c2]; exact .inl ⟨rfl, rfl, rfl⟩
    · rw [if_neg c2, if_neg c2, if_neg c2]; exact .inr (.inl ⟨rfl, rfl, rfl⟩)
  · rw [if_neg c1, if_neg c1, if_neg c1]
    by_cases c3 : 1 < n.fmod 5
    · rw [if_pos c3, if_pos c3, if_pos c3]; exact .inr (.inr (.inl ⟨rfl, rfl, rfl⟩))
    · rw [if_neg c3, if_neg c3, if_neg c3]
      by_cases c4 : (n.fdiv 5).fmod 3 = 0
      · rw [if_pos c4, if_pos c4, if_pos c4]
        exact .inr (.inr (.inr (.inl ⟨_, _, by omega, by omega, rfl, rfl, rfl⟩)))
      · rw [if_neg c4, if_neg c4, if_neg c4]
        by_cases c5 : (n.fdiv 5).fmod 3 = 1
        · rw [if_pos c5, if_pos c5, if_pos c5]
          exact .inr (.inr (.inr (.inr (.inl ⟨_, by omega, rfl, rfl, rfl⟩))))
        · rw [if_neg c5, if_neg c5, if_neg c5]
          exact .inr (.inr (.inr (.inr (.inr ⟨rfl, rfl, rfl⟩))))
/-- a good name: what a step down is called -/
noncomputable def good (x : Str) : Prop := x ≠ "" ∧ x ≠ "." ∧ x ≠ ".."
theorem good_of {x : Str} {c : Nat} (h : c ∈ lst x) (hc : c ≠ 46) : good x := by
  refine ⟨fun e => ?_, fun e => ?_, fun e => ?_⟩
  · rw [e, lst_empty] at h; cases h
  · rw [e, lst_dot] at h; simp at h; exact hc h
  · rw [e, lst_dots] at h; simp at h; exact hc h
theorem step_nil (acc : List Str) : stepN acc "" = acc := by unfold stepN; exact if_pos (Or.inl rfl)
theorem step_dot (acc : List Str) : stepN acc "." = acc := by unfold stepN; exact if_pos (Or.inr rfl)
theorem step_good {x : Str} (h : good x) (acc : List Str) : stepN acc x = acc ++ [x] := by
  unfold stepN
  rw [if_neg (fun q => q.elim h.1 h.2.1), if_pos (Or.inl h.2.2)]
structure CellOk (n : Int) (p : Nat) : Prop where
  dig : (∀ d ∈ cellD n p, d < 64) ∧ (cellD n p).length = 4
  txt : (cellF n p).2.1 = Mine.txt (cellD n p)
  free : ∀ x ∈ pcs n p, 47 ∉ lst x
  cat : lst (cellF n p).2.1 = Mine.cat (pcs n p)
  head : ∃ c r, lst (cellF n p).2.1 = c :: r ∧ c ≠ 47
  last : ∃ r, lst (cellF n p).2.1 = r ++ [47]
  nlen : (cellF n p).2.2.length ≤ 3
  step : ((cellF n p).1 = 0 ∧ ∀ acc, (pcs n p).foldl stepN acc = acc) ∨ ((cellF n p).1 = -1 ∧ ∀ acc, (pcs n p).foldl stepN acc = stepN acc "..") ∨
    ((cellF n p).1 = 1 ∧ good (cellF n p).2.2 ∧ 47 ∉ lst (cellF n p).2.2 ∧ ∀ acc, (pcs n p).foldl stepN acc = acc ++ [(cellF n p).2.2])
  place : (cellF n p).1 = 1 → (∃ o w, lst (cellF n p).2.2 = [o, 65 + p, w]) ∨ (∃ o, lst (cellF n p).2.2 = [65 + p, o]) ∨ lst (cellF n p).2.2 = [65 + p]
theorem map_txt (a b c d : Nat) : lst (txt [a, b, c, d]) = [sc a, sc b, sc c, sc d] := rfl
theorem cell_all (n : Int) {p : Nat} (hp : p < 10) : CellOk n p := by
  have hl := sc_letter p hp
  have hf := sc_free p (by omega)
  rcases cell_cases n p with ⟨e1, e2, e3⟩ | ⟨e1, e2, e3⟩ | ⟨e1, e2, e3⟩ | ⟨o, w, ho, hw, e1, e2, e3⟩ | ⟨o, ho, e1, e2, e3⟩ | ⟨e1, e2, e3⟩
  · refine ⟨?_, ?_, ?_, ?_, ?_, ?_, ?_, ?_, ?_⟩ <;> simp only [e1, e2, e3]
    · decide
    · decide +kernel
    · decide +kernel
    · decide +kernel
    · exact ⟨46, [47, 46, 47], by decide +kernel, by decide⟩
    · exact ⟨[46, 47, 46], by decide +kernel⟩
    · decide +kernel
    · refine .inl ⟨trivial, fun acc => ?_⟩
      show stepN (stepN acc ".") "." = acc
      rw [step_dot, step_dot]
    · intro h; exact absurd h (by decide)
  · refine ⟨?_, ?_, ?_, ?_, ?_, ?_, ?_, ?_, ?_⟩ <;> simp only [e1, e2, e3]
    · decide
    · decide +kernel
    · decide +kernel
    · decide +kernel
    · exact ⟨46, [47, 47, 47], by decide +kernel, by decide⟩
    · exact ⟨[46, 47, 47], by decide +kernel⟩
    · decide +kernel
    · refine .inl ⟨trivial, fun acc => ?_⟩
      show stepN (stepN (stepN acc ".") "") "" = acc
      rw [step_dot, step_nil, step_nil]
    · intro h; exact absurd h (by decide)
  · refine ⟨?_, ?_, ?_, ?_, ?_, ?_, ?_, ?_, ?_⟩ <;> simp only [e1, e2, e3]
    · decide
    · decide +kernel
    · decide +kernel
    · decide +kernel
    · exact ⟨46, [46, 47, 47], by decide +kernel, by decide⟩
    · exact ⟨[46, 46, 47], by decide +kernel⟩
    · decide +kernel
    · refine .inr (.inl ⟨trivial, fun acc => ?_⟩)
      show stepN (stepN acc "..") "" = _
      rw [step_nil]
    · intro h; exact absurd h (by decide)
  · have fo := sc_free o ho
    have fw := sc_free w hw
    have en : lst (sg o ++ sg p ++ sg w) = [sc o, sc p, sc w] := by rw [lst_append, lst_append]; rfl
    have et : lst (sg o ++ sg p ++ sg w ++ "/") = [sc o, sc p, sc w, 47] := by rw [lst_append, en, lst_slash]; rfl
    have hg : good (sg o ++ sg p ++ sg w) := good_of (c := sc p) (by rw [en]; simp) (by omega)
    have hfree : 47 ∉ lst (sg o ++ sg p ++ sg w) := by rw [en]; simp; omega
    refine ⟨?_, ?_, ?_, ?_, ?_, ?_, ?_, ?_, ?_⟩ <;> simp only [e1, e2, e3]
    · refine ⟨fun d hd => ?_, rfl⟩
      simp at hd; omega
    · exact lst_inj (by rw [et, map_txt, sc63])
    · intro x hx; rw [List.mem_singleton.mp hx]; exact hfree
    · rw [et]; show _ = (lst (sg o ++ sg p ++ sg w) ++ [47]) ++ []
      rw [en]; rfl
    · exact ⟨_, _, et, fo⟩
    · exact ⟨[sc o, sc p, sc w], et⟩
    · rw [lst_len, en]; simp
    · exact .inr (.inr ⟨trivial, hg, hfree, fun acc => step_good hg acc⟩)
    · intro _; exact .inl ⟨sc o, sc w, by rw [en, hl]⟩
  · have fo := sc_free o ho
    have en : lst (sg p ++ sg o) = [sc p, sc o] := by rw [lst_append]; rfl
    have ess : lst ("//" : Str) = [47, 47] := by decide +kernel
    have et : lst (sg p ++ sg o ++ "//") = [sc p, sc o, 47, 47] := by rw [lst_append, en, ess]; rfl
    have hg : good (sg p ++ sg o) := good_of (c := sc p) (by rw [en]; simp) (by omega)
    have hfree : 47 ∉ lst (sg p ++ sg o) := by rw [en]; simp; omega
    refine ⟨?_, ?_, ?_, ?_, ?_, ?_, ?_, ?_, ?_⟩ <;> simp only [e1, e2, e3]
    · refine ⟨fun d hd => ?_, rfl⟩
      simp at hd; omega
    · exact lst_inj (by rw [et, map_txt, sc63])
    · intro x hx
      rcases List.mem_cons.mp hx with rfl | hx
      · exact hfree
      · rw [List.mem_singleton.mp hx, lst_empty]; exact List.not_mem_nil
    · rw [et]; show _ = (lst (sg p ++ sg o) ++ [47]) ++ ((lst "" ++ [47]) ++ [])
      rw [en, lst_empty]; rfl
    · exact ⟨_, _, et, hf⟩
    · exact ⟨[sc p, sc o, 47], et⟩
    · rw [lst_len, en]; simp
    · refine .inr (.inr ⟨trivial, hg, hfree, fun acc => ?_⟩)
      show stepN (stepN acc (sg p ++ sg o)) "" = _
      rw [step_nil, step_good hg]
    · intro _; exact .inr (.inl ⟨sc o, by rw [en, hl]⟩)
  · have ess : lst ("./" : Str) = [46, 47] := by decide +kernel
    have et : lst (("./" : Str) ++ sg p ++ "/") = [46, 47, sc p, 47] := by rw [lst_append, lst_append, ess, lst_slash]; rfl
    have hg : good (sg p) := good_of (c := sc p) (by rw [lst_sg]; simp) (by omega)
    have hfree : 47 ∉ lst (sg p) := by rw [lst_sg]; simp; omega
    refine ⟨?_, ?_, ?_, ?_, ?_, ?_, ?_, ?_, ?_⟩ <;> simp only [e1, e2, e3]
    · refine ⟨fun d hd => ?_, rfl⟩
      simp at hd; omega
    · exact lst_inj (by rw [et, map_txt, sc62, sc63])
    · intro x hx
      rcases List.mem_cons.mp hx with rfl | hx
      · rw [lst_dot]; decide
      · rw [List.mem_singleton.mp hx]; exact hfree
    · rw [et]; show _ = (lst "." ++ [47]) ++ ((lst (sg p) ++ [47]) ++ [])
      rw [lst_dot]; rfl
    · exact ⟨_, _, et, by decide⟩
    · exact ⟨[46, 47, sc p], et⟩
    · rw [lst_len, lst_sg]; simp
    · refine .inr (.inr ⟨trivial, hg, hfree, fun acc => ?_⟩)
      show stepN (stepN acc ".") (sg p) = _
      rw [step_dot, step_good hg]
    · intro _; exact .inr (.inr (by rw [lst_sg, hl]))
/-- names of two places differ -/
theorem name_inj {n m : Int} {p q : Nat} (hp : p < 10) (hq : q < 10) (h1 : (cellF n p).1 = 1) (h2 : (cellF m q).1 = 1) (h : (cellF n p).2.2 = (cellF m q).2.2) : p = q := by
  have a := (cell_all n hp).place h1
  have b := (cell_all m hq).place h2
  rw [h] at a
  rcases a with ⟨o, w, a⟩ | ⟨o, a⟩ | a <;> rcases b with ⟨o', w', b⟩ | ⟨o', b⟩ | b <;> rw [a] at b <;> simp at b <;> omega
end
end Mine

end
section
open PySem PySem.Calls PySem.W PyProof.Rows
namespace Mine
noncomputable section
noncomputable def o3 (ds : List Nat) : List Nat := (oct3B ds).map fun c => c.toNat
theorem u8_back {x : Int} (h0 : 0 ≤ x) (h1 : x < 256) : x.toNat.toUInt8.toNat = x.toNat := by
  simp [Nat.toUInt8, UInt8.toNat_ofNat']; omega
theorem o3_eq {a b c e : Nat} (ha : a < 64) (hb : b < 64) (hc : c < 64) (he : e < 64) :
    o3 [a, b, c, e] = [(((a * 64 + b) * 64 + c) * 64 + e) / 65536, (((a * 64 + b) * 64 + c) * 64 + e) / 256 % 256, (((a * 64 + b) * 64 + c) * 64 + e) % 256] := by
  have hv : val [a, b, c, e] = (((((a * 64 + b) * 64 + c) * 64 + e : Nat)) : Int) := by
    show ((((0 : Int) * 64 + a) * 64 + b) * 64 + c) * 64 + e = _
    push_cast; omega
  unfold o3 oct3B oct3
  rw [hv]
  generalize hw : ((a * 64 + b) * 64 + c) * 64 + e = v
  have hlt : v < 16777216 := by omega
  rw [Int.fdiv_eq_ediv_of_nonneg _ (by decide), Int.fdiv_eq_ediv_of_nonneg _ (by decide), Int.fmod_eq_emod_of_nonneg _ (by decide), Int.fmod_eq_emod_of_nonneg _ (by decide)]
  simp only [List.map_cons, List.map_nil]
  rw [u8_back (by omega) (by omega), u8_back (by omega) (by omega), u8_back (by omega) (by omega)]
  have q1 : ((v : Int) / 65536).toNat = v / 65536 := by omega
  have q2 : ((v : Int) / 256 % 256).toNat = v / 256 % 256 := by omega
  have q3 : ((v : Int) % 256).toNat = v % 256 := by omega
  rw [q1, q2, q3]
theorem d64_shift (x y z k : Nat) (rest : List Nat) : d64 (x :: y :: z :: rest) (4 + k) = d64 rest k := by
  have e1 : (4 + k) / 4 * 3 = k / 4 * 3 + 3 := by omega
  have e2 : (4 + k) % 4 = k % 4 := by omega
  unfold d64
  dsimp only
  rw [e1, e2]
  rfl
theorem d64_all : ∀ l : List (List Nat), (∀ ds ∈ l, (∀ d ∈ ds, d < 64) ∧ ds.length = 4) → (List.range (4 * l.length)).map (d64 (l.flatMap o3)) = l.flatten
  | [], _ => rfl
  | ds :: r, h => by
    have ih := d64_all r fun x hx => h x (List.mem_cons_of_mem _ hx)
    obtain ⟨h1, h2⟩ := h ds (List.mem_cons_self ..)
    match ds, h2 with
    | [a, b, c, e], _ =>
    have ha := h1 a (by simp)
    have hb := h1 b (by simp)
    have hc := h1 c (by simp)
    have he := h1 e (by simp)
    rw [List.flatMap_cons, o3_eq ha hb hc he, List.length_cons, show 4 * (r.length + 1) = 4 + 4 * r.length by omega, List.range_add, List.map_append, List.map_map, List.flatten_cons]
    congr 1
    · generalize r.flatMap o3 = rest
      show [d64 _ 0, d64 _ 1, d64 _ 2, d64 _ 3] = _
      simp only [List.cons_append, List.nil_append]
      unfold d64
      simp
      omega
    · rw [← ih]
      refine List.map_congr_left fun k _ => ?_
      exact d64_shift ..
theorem drop_flat {α β : Type} (f : α → List β) (h : ∀ x, (f x).length = 3) : ∀ (t : Nat) (l : List α), (l.flatMap f).drop (3 * t) = (l.drop t).flatMap f
  | 0, l => rfl
  | t + 1, [] => by simp
  | t + 1, x :: l => by
    rw [List.flatMap_cons, show 3 * (t + 1) = (f x).length + 3 * t by rw [h]; omega, List.drop_length_add_append, drop_flat f h t l]; rfl
theorem take_flat {α β : Type} (f : α → List β) (h : ∀ x, (f x).length = 3) : ∀ (t : Nat) (l : List α), (l.flatMap f).take (3 * t) = (l.take t).flatMap f
  | 0, l => rfl
  | t + 1, [] => by simp
  | t + 1, x :: l => by
    rw [List.flatMap_cons, show 3 * (t + 1) = (f x).length + 3 * t by rw [h]; omega, List.take_length_add_append, take_flat f h t l]; rfl
theorem rot_flat (t : Nat) (digs : List (List Nat)) : (rotL (3 * t) (digs.flatMap oct3B)).map (fun c => c.toNat) = (rotL t digs).flatMap o3 := by
  unfold rotL
  rw [drop_flat _ oct3B_len, take_flat _ oct3B_len, ← List.flatMap_append, List.map_flatMap]; rfl
theorem rot_map {α β : Type} (f : α → β) (t : Nat) (l : List α) : rotL t (l.map f) = (rotL t l).map f := by
  unfold rotL; rw [List.map_append, List.map_drop, List.map_take]
theorem lst_join0 : ∀ l : List Str, lst (Str.join "" l) = (l.map lst).flatten
  | [] => rfl
  | [x] => by show lst x = (lst x) ++ []; rw [List.append_nil]
  | x :: y :: r => by
    show lst (x ++ "" ++ Str.join "" (y :: r)) = lst x ++ ((y :: r).map lst).flatten
    rw [lst_append, lst_append, lst_join0 (y :: r), lst_empty, List.append_nil]
theorem told_eq {nums : List Int} {t : Nat} (hd : ∀ ds ∈ digsF nums, (∀ d ∈ ds, d < 64) ∧ ds.length = 4) (htx : textsF nums = (digsF nums).map txt) : toldF nums t = Txt.join "" (rotL t (textsF nums)) := by
  have hlen : (rotL t (digsF nums)).length = nums.length := by
    unfold rotL; rw [List.length_append, List.length_drop, List.length_take, digsF_len]; omega
  have e4 : figs (3 * nums.length) = 4 * (rotL t (digsF nums)).length := by rw [hlen]; unfold figs; omega
  have hd' : ∀ ds ∈ rotL t (digsF nums), (∀ d ∈ ds, d < 64) ∧ ds.length = 4 := by
    intro ds h
    unfold rotL at h
    rcases List.mem_append.mp h with q | q
    · exact hd ds (List.mem_of_mem_drop q)
    · exact hd ds (List.mem_of_mem_take q)
  refine lst_inj ?_
  unfold toldF Txt.join rowF
  rw [StrLaws.glued_eq_join, lst_join0, rot_flat, e4, d64_all _ hd', htx, rot_map, lst_txt, List.map_flatten, List.map_map]
  rfl
end
end Mine

end
section
open PySem PySem.Calls PySem.W PyProof.Rows
namespace Mine
noncomputable section
variable {nums : List Int} {t : Nat}
noncomputable def cs (nums : List Int) (p : Nat) : Int × Str × Str := cellF (nums.getD p 0) p
noncomputable def pp (nums : List Int) (p : Nat) : List Str := pcs (nums.getD p 0) p
theorem cok (h10 : nums.length ≤ 10) {p : Nat} (hp : p < nums.length) : CellOk (nums.getD p 0) p := cell_all _ (by omega)
theorem steps_at {p : Nat} (hp : p < nums.length) : (stepsF nums).getD p 0 = (cs nums p).1 := by
  unfold stepsF cellsF cs
  rw [List.map_map, List.getD_eq_getElem?_getD, List.getElem?_map, List.getElem?_range hp]; rfl
theorem names_at {p : Nat} (hp : p < nums.length) : (namesF nums).getD p "" = (cs nums p).2.2 := by
  unfold namesF cellsF cs
  rw [List.map_map, List.getD_eq_getElem?_getD, List.getElem?_map, List.getElem?_range hp]; rfl
theorem texts_eq : textsF nums = (List.range nums.length).map fun p => (cs nums p).2.1 := by
  unfold textsF cellsF
  rw [List.map_map]; rfl
theorem steps3 (h10 : nums.length ≤ 10) : ∀ p < (stepsF nums).length, (stepsF nums).getD p 0 = 1 ∨ (stepsF nums).getD p 0 = -1 ∨ (stepsF nums).getD p 0 = 0 := by
  intro p hp
  rw [stepsF_len] at hp
  rw [steps_at hp]
  rcases (cok h10 hp).step with ⟨h, _⟩ | ⟨h, _⟩ | ⟨h, _⟩
  · exact .inr (.inr h)
  · exact .inr (.inl h)
  · exact .inl h
theorem ord_range {n : Nat} (ht : t ≤ n) : ordR t (List.range n) = rotL t (List.range n) := by
  have e : List.range n = List.range t ++ (List.range (n - t)).map (t + ·) := by
    rw [← List.range_add]; congr 1; omega
  have f1 : (List.range t).filter (fun p => decide (t ≤ p)) = [] := List.filter_eq_nil_iff.mpr fun p hp => by have := List.mem_range.mp hp; simp; omega
  have f2 : (List.range t).filter (fun p => decide (p < t)) = List.range t := List.filter_eq_self.mpr fun p hp => by have := List.mem_range.mp hp; simp; omega
  have f3 : ((List.range (n - t)).map (t + ·)).filter (fun p => decide (t ≤ p)) = (List.range (n - t)).map (t + ·) := List.filter_eq_self.mpr fun p hp => by obtain ⟨q, _, rfl⟩ := List.mem_map.mp hp; simp
  have f4 : ((List.range (n - t)).map (t + ·)).filter (fun p => decide (p < t)) = [] := List.filter_eq_nil_iff.mpr fun p hp => by obtain ⟨q, _, rfl⟩ := List.mem_map.mp hp; simp
  unfold ordR rotL
  rw [e, List.filter_append, List.filter_append, f1, f2, f3, f4]
  have hl : (List.range t).length = t := List.length_range
  rw [List.drop_append_of_le_length (by omega), List.take_append_of_le_length (by omega), List.drop_of_length_le (by omega), List.take_of_length_le (by omega)]
  simp
theorem cat_flat (l : List Nat) (f : Nat → List Str) : cat (l.flatMap f) = l.flatMap fun p => cat (f p) := by
  unfold cat; rw [List.flatMap_assoc]
theorem told_cat (h10 : nums.length ≤ 10) (ht : t < nums.length) (he : toldF nums t = Txt.join "" (rotL t (textsF nums))) : lst (toldF nums t) = cat ((ordR t (List.range nums.length)).flatMap (pp nums)) := by
  rw [he, cat_flat]
  unfold Txt.join
  rw [StrLaws.glued_eq_join, lst_join0, texts_eq, rot_map, List.map_map, ord_range (by omega), List.flatten_eq_flatMap, List.flatMap_map]
  have hm : ∀ p ∈ rotL t (List.range nums.length), p < nums.length := by
    intro p hp
    unfold rotL at hp
    rcases List.mem_append.mp hp with q | q
    · exact List.mem_range.mp (List.mem_of_mem_drop q)
    · exact List.mem_range.mp (List.mem_of_mem_take q)
  generalize rotL t (List.range nums.length) = l at hm
  induction l with
  | nil => rfl
  | cons p l ih =>
    rw [List.flatMap_cons, List.flatMap_cons, ih fun q hq => hm q (List.mem_cons_of_mem _ hq)]
    congr 1
    exact (cok h10 (hm p (List.mem_cons_self ..))).cat
theorem pw_cat {x : Str} {l : List Nat} {f : Nat → List Str} (h : lst x = cat (l.flatMap f)) : ∀ r, lst (pw x r) = cat ((rep (r + 1) l).flatMap f)
  | 0 => by rw [rep_succ, rep_zero, List.append_nil]; exact h
  | r + 1 => by rw [rep_snoc, List.flatMap_append, cat_append, ← pw_cat h r, ← h, ← lst_append]; rfl
/-- what stands on the stack, as texts -/
noncomputable def nm (names : List Str) : Option Nat → Str
  | none => ".."
  | some p => names.getD p ""
theorem dropLast_mem {γ : Type} {x : γ} {l : List γ} (h : x ∈ l.dropLast) : x ∈ l := List.dropLast_subset l h
theorem hom (h10 : nums.length ≤ 10) : ∀ (l : List Nat) (acc : List (Option Nat)), (∀ p ∈ l, p < nums.length) → (∀ p, some p ∈ acc → good (nm (namesF nums) (some p))) →
    (l.flatMap (pp nums)).foldl stepN (acc.map (nm (namesF nums))) = (runM (stepsF nums) acc l).map (nm (namesF nums))
  | [], acc, _, _ => rfl
  | p :: l, acc, hl, ha => by
    have hp := hl p (List.mem_cons_self ..)
    have ih := fun acc => hom h10 l acc fun q hq => hl q (List.mem_cons_of_mem _ hq)
    rw [List.flatMap_cons, List.foldl_append]
    show _ = (runM (stepsF nums) (mst (stepsF nums) acc p) l).map _
    have hst := steps_at hp
    rcases (cok h10 hp).step with ⟨h, hf⟩ | ⟨h, hf⟩ | ⟨h, hg, _, hf⟩
    · have e : mst (stepsF nums) acc p = acc := by
        unfold mst
        have h0 : (stepsF nums).getD p 0 = 0 := hst.trans h
        rw [h0, if_neg (by decide), if_neg (by decide)]
      rw [e]
      unfold pp
      rw [hf]
      exact ih acc ha
    · have h0 : (stepsF nums).getD p 0 = -1 := hst.trans h
      unfold pp
      rw [hf]
      have dd : ((".." : Str) = "" ∨ (".." : Str) = ".") → False := by decide
      by_cases hc : acc = [] ∨ acc.getLast? = some none
      · have e : mst (stepsF nums) acc p = acc ++ [none] := by
          unfold mst
          rw [h0, if_neg (by decide), if_pos rfl, if_pos hc]
        have e2 : stepN (acc.map (nm (namesF nums))) ".." = (acc ++ [none]).map (nm (namesF nums)) := by
          unfold stepN
          rw [if_neg dd, if_pos, List.map_append]
          · rfl
          · refine .inr ?_
            rcases hc with q | q
            · exact .inl (by rw [q]; rfl)
            · exact .inr (by rw [List.getLast?_map, q]; rfl)
        rw [e, e2]
        refine ih _ fun q hq => ?_
        rcases List.mem_append.mp hq with z | z
        · exact ha q z
        · cases List.mem_singleton.mp z
      · have e : mst (stepsF nums) acc p = acc.dropLast := by
          unfold mst
          rw [h0, if_neg (by decide), if_pos rfl, if_neg hc]
        have e2 : stepN (acc.map (nm (namesF nums))) ".." = acc.dropLast.map (nm (namesF nums)) := by
          unfold stepN
          rw [if_neg dd, if_neg, List.map_dropLast]
          rintro (q | q | q)
          · exact q rfl
          · exact hc (.inl (List.map_eq_nil_iff.mp q))
          · rw [List.getLast?_map] at q
            cases e3 : acc.getLast? with
            | none => rw [e3] at q; cases q
            | some o =>
              cases o with
              | none => exact hc (.inr e3)
              | some z =>
                rw [e3] at q
                exact (ha z (List.mem_of_getLast? e3)).2.2 (Option.some.inj q)
        rw [e, e2]
        exact ih _ fun q hq => ha q (dropLast_mem hq)
    · have h0 : (stepsF nums).getD p 0 = 1 := hst.trans h
      have hn : nm (namesF nums) (some p) = (cellF (nums.getD p 0) p).2.2 := names_at hp
      have e2 : acc.map (nm (namesF nums)) ++ [(cellF (nums.getD p 0) p).2.2] = (acc ++ [some p]).map (nm (namesF nums)) := by
        rw [List.map_append, ← hn]; rfl
      unfold pp
      rw [hf, mst_up h0, e2]
      refine ih _ fun q hq => ?_
      rcases List.mem_append.mp hq with z | z
      · exact ha q z
      · cases List.mem_singleton.mp z
        rw [hn]; exact hg
theorem rep_filter (f : Nat → Bool) (l : List Nat) : ∀ r, (rep r l).filter f = rep r (l.filter f)
  | 0 => rfl
  | r + 1 => by rw [rep_succ, rep_succ, List.filter_append, rep_filter f l r]
theorem ord_lt {n p : Nat} (h : p ∈ ordR t (List.range n)) : p < n := List.mem_range.mp (ord_mem.mp h)
/-- the stack of the turned cells is the law's pieces -/
theorem stack_eq (h10 : nums.length ≤ 10) (ht : t < nums.length) (r : Nat) : runM (stepsF nums) [] (rep (r + 1) (ordR t (List.range nums.length))) = runM (stepsF nums) [] (rep (r + 1) (ordR t (nz (stepsF nums) (stepsF nums).length))) := by
  have h3 := steps3 h10
  rw [runM_skip _ _ (fun p hp => h3 p (by rw [stepsF_len]; exact ord_lt (rep_mem hp))), rep_filter, ← ord_filter]
  unfold nz
  rw [stepsF_len]
theorem norm_eq (h10 : nums.length ≤ 10) (ht : t < nums.length) (he : toldF nums t = Txt.join "" (rotL t (textsF nums))) (r : Nat) :
    normF (pw (toldF nums t) r) = normJ ((runM (stepsF nums) [] (rep (r + 1) (ordR t (nz (stepsF nums) (stepsF nums).length)))).map (nm (namesF nums))) := by
  rw [normF_cat (ps := (rep (r + 1) (ordR t (List.range nums.length))).flatMap (pp nums)) ?_ (pw_cat (told_cat h10 ht he) r)]
  · unfold normL
    have := hom h10 (rep (r + 1) (ordR t (List.range nums.length))) [] (fun p hp => ord_lt (rep_mem hp)) (fun p hp => nomatch hp)
    rw [List.map_nil] at this
    rw [this, stack_eq h10 ht]
  · intro x hx
    obtain ⟨p, hp, hx⟩ := List.mem_flatMap.mp hx
    exact (cok h10 (ord_lt (rep_mem hp))).free x hx
theorem due_eq (h10 : nums.length ≤ 10) (ht : t < nums.length) (he : toldF nums t = Txt.join "" (rotL t (textsF nums))) (r : Nat) :
    normF (pw (toldF nums t) r) = normJ (piecesOf (stepsF nums) (namesF nums) t (r + 1) (struckF (stepsF nums)).1 (struckF (stepsF nums)).2) := by
  rw [norm_eq h10 ht he, machine (by rw [stepsF_len]; exact ht) (steps3 h10)]
  unfold piecesOf
  rw [List.map_append, List.map_replicate, List.map_map]
  rfl
theorem runM_mem {st : List Int} : ∀ (l : List Nat) (acc : List (Option Nat)) (p : Nat), some p ∈ runM st acc l → some p ∈ acc ∨ (p ∈ l ∧ st.getD p 0 = 1)
  | [], acc, p, h => .inl h
  | x :: l, acc, p, h => by
    rcases runM_mem l (mst st acc x) p h with q | ⟨q1, q2⟩
    · unfold mst at q
      split at q
      · rename_i hx
        rcases List.mem_append.mp q with z | z
        · exact .inl z
        · cases List.mem_singleton.mp z
          exact .inr ⟨List.mem_cons_self .., hx⟩
      · split at q
        · split at q
          · rcases List.mem_append.mp q with z | z
            · exact .inl z
            · cases List.mem_singleton.mp z
          · exact .inl (dropLast_mem q)
        · exact .inl q
    · exact .inr ⟨List.mem_cons_of_mem _ q1, q2⟩
theorem up_name (h10 : nums.length ≤ 10) {p : Nat} (hp : p < nums.length) (hu : (stepsF nums).getD p 0 = 1) : good ((namesF nums).getD p "") ∧ 47 ∉ lst ((namesF nums).getD p "") := by
  rw [names_at hp]
  have h1 : (cellF (nums.getD p 0) p).1 = 1 := (steps_at hp).symm.trans hu
  rcases (cok h10 hp).step with ⟨h, _⟩ | ⟨h, _⟩ | ⟨_, hg, hf, _⟩
  · rw [h] at h1; exact absurd h1 (by decide)
  · rw [h] at h1; exact absurd h1 (by decide)
  · exact ⟨hg, hf⟩
theorem below_at (h10 : nums.length ≤ 10) (ht : t < nums.length) (he : toldF nums t = Txt.join "" (rotL t (textsF nums))) (hu : (stepsF nums).getD t 0 = 1) :
    (Txt.split (normF (toldF nums t)) "/").getD 0 "" = (namesF nums).getD t "" ↔ t ∈ (struckF (stepsF nums)).1 := by
  have hts : t < (stepsF nums).length := by rw [stepsF_len]; exact ht
  rw [← first_kept hts (steps3 h10) hu]
  have hn := norm_eq h10 ht he 0
  change normF (toldF nums t) = _ at hn
  rw [hn]
  have hmem : ∀ p, some p ∈ runM (stepsF nums) [] (rep (0 + 1) (ordR t (nz (stepsF nums) (stepsF nums).length))) → p < nums.length ∧ (stepsF nums).getD p 0 = 1 := by
    intro p hp
    rcases runM_mem _ _ p hp with q | ⟨q1, q2⟩
    · cases q
    · have := List.mem_range.mp (List.mem_filter.mp (ord_mem.mp (rep_mem q1))).1
      rw [stepsF_len] at this
      exact ⟨this, q2⟩
  obtain ⟨hgt, _⟩ := up_name h10 ht hu
  generalize runM (stepsF nums) [] (rep (0 + 1) (ordR t (nz (stepsF nums) (stepsF nums).length))) = M at hmem
  cases M with
  | nil =>
    have e1 : normJ ([] : List Str) = "." := by unfold normJ; exact if_pos (by decide)
    have e2 : Txt.split ("." : Str) "/" = [("." : Str)] := split_uniq (by simp) (fun p hp => by rw [List.mem_singleton.mp hp, lst_dot]; decide) rfl
    rw [List.map_nil, e1, e2]
    constructor
    · intro h; exact absurd h.symm hgt.2.1
    · intro h; cases h
  | cons o M =>
    have hfree : ∀ x ∈ (o :: M).map (nm (namesF nums)), 47 ∉ lst x := by
      intro x hx
      obtain ⟨q, hq, rfl⟩ := List.mem_map.mp hx
      cases q with
      | none => show 47 ∉ lst (".." : Str); rw [lst_dots]; decide
      | some p => obtain ⟨h1, h2⟩ := hmem p hq; exact (up_name h10 h1 h2).2
    have hne : nm (namesF nums) o ≠ "" := by
      cases o with
      | none => show (".." : Str) ≠ ""; decide
      | some p => obtain ⟨h1, h2⟩ := hmem p (List.mem_cons_self ..); exact (up_name h10 h1 h2).1.1
    have hJ : Txt.join "/" ((o :: M).map (nm (namesF nums))) = Str.join "/" ((o :: M).map (nm (namesF nums))) := StrLaws.glued_eq_join ..
    have hlen : (Txt.join "/" ((o :: M).map (nm (namesF nums)))).length ≠ 0 := by
      intro q
      apply hne
      refine lst_inj ?_
      rw [hJ, lst_len, lst_join, List.map_cons, List.map_cons] at q
      rw [lst_empty]
      generalize lst (nm (namesF nums) o) = x at q
      generalize (M.map (nm (namesF nums))).map lst = k at q
      cases k with
      | nil => exact List.eq_nil_of_length_eq_zero q
      | cons y k =>
        have q' : (x ++ 47 :: jn (y :: k)).length = 0 := q
        simp at q'
    have e1 : normJ ((o :: M).map (nm (namesF nums))) = Str.join "/" ((o :: M).map (nm (namesF nums))) := by
      unfold normJ
      rw [if_neg hlen, hJ]
    rw [e1, split_uniq (by simp) hfree (lst_join _)]
    show nm (namesF nums) o = _ ↔ some o = some (some t)
    constructor
    · intro h
      cases o with
      | none => exact absurd h.symm hgt.2.2
      | some p =>
        obtain ⟨h1, h2⟩ := hmem p (List.mem_cons_self ..)
        have h' : (namesF nums).getD p "" = (namesF nums).getD t "" := h
        rw [names_at h1, names_at ht] at h'
        rw [steps_at h1] at h2
        rw [steps_at ht] at hu
        rw [name_inj (by omega) (by omega) h2 hu h']
    · intro h
      rw [Option.some.inj h]; rfl
theorem pw_head {x : Str} {c : Nat} {r : List Nat} (h : lst x = c :: r) : ∀ i, ∃ r', lst (pw x i) = c :: r'
  | 0 => ⟨r, h⟩
  | i + 1 => by
    obtain ⟨r', e⟩ := pw_head h i
    refine ⟨r' ++ lst x, ?_⟩
    show lst (pw x i ++ x) = _
    rw [lst_append, e]; rfl
theorem pw_last {x : Str} {r : List Nat} (h : lst x = r ++ [47]) : ∀ i, ∃ r', lst (pw x i) = r' ++ [47]
  | 0 => ⟨r, h⟩
  | i + 1 => by
    refine ⟨lst (pw x i) ++ r, ?_⟩
    show lst (pw x i ++ x) = _
    rw [lst_append, h, List.append_assoc]
theorem facts (h8 : 8 ≤ nums.length) (h10 : nums.length ≤ 10) : LawFacts nums := by
  have hdg : ∀ ds ∈ digsF nums, (∀ d ∈ ds, d < 64) ∧ ds.length = 4 := by
    intro ds hds
    obtain ⟨p, hp, rfl⟩ := List.mem_map.mp hds
    exact (cok h10 (List.mem_range.mp hp)).dig
  have htx : textsF nums = (digsF nums).map txt := by
    rw [texts_eq]
    unfold digsF
    rw [List.map_map]
    exact List.map_congr_left fun p hp => (cok h10 (List.mem_range.mp hp)).txt
  have htold : ∀ t, toldF nums t = Txt.join "" (rotL t (textsF nums)) := fun t => told_eq hdg htx
  have hends : ∀ t, t < nums.length → (∃ c r, lst (toldF nums t) = c :: r ∧ c ≠ 47) ∧ ∃ r, lst (toldF nums t) = r ++ [47] := by
    intro t ht
    have e := told_cat h10 ht (htold t)
    rw [cat_flat] at e
    have hmem : t ∈ ordR t (List.range nums.length) := ord_mem.mpr (List.mem_range.mpr ht)
    have hall : ∀ p ∈ ordR t (List.range nums.length), p < nums.length := fun p hp => ord_lt hp
    generalize ordR t (List.range nums.length) = l at e hmem hall
    constructor
    · cases l with
      | nil => cases hmem
      | cons p l =>
        obtain ⟨c, r, h1, h2⟩ := (cok h10 (hall p (List.mem_cons_self ..))).head
        rw [(cok h10 (hall p (List.mem_cons_self ..))).cat] at h1
        refine ⟨c, r ++ l.flatMap fun p => cat (pp nums p), ?_, h2⟩
        rw [e, List.flatMap_cons]
        unfold pp
        rw [h1]; rfl
    · obtain ⟨l', p, rfl⟩ : ∃ l' p, l = l' ++ [p] := ⟨_, _, (List.dropLast_concat_getLast (List.ne_nil_of_mem hmem)).symm⟩
      have hp := hall p (List.mem_append_right _ (List.mem_singleton.mpr rfl))
      obtain ⟨r, h1⟩ := (cok h10 hp).last
      rw [(cok h10 hp).cat] at h1
      refine ⟨(l'.flatMap fun p => cat (pp nums p)) ++ r, ?_⟩
      rw [e, List.flatMap_append, List.flatMap_cons, List.flatMap_nil, List.append_nil]
      unfold pp
      rw [h1, List.append_assoc]
  refine ⟨fun p hp => (cok h10 hp).txt, fun p hp => (cok h10 hp).dig, fun x hx => ?_, fun t _ => htold t, fun t _ => ?_, fun t ht => (hends t ht).1, fun t ht => ?_, fun t ht i _ => ?_, fun t ht => ?_, ?_, fun t ht => due_eq h10 ht (htold t) 0, fun t ht => due_eq h10 ht (htold t) 2⟩
  · unfold namesF cellsF at hx
    rw [List.map_map] at hx
    obtain ⟨p, hp, rfl⟩ := List.mem_map.mp hx
    exact Nat.le_trans (cok h10 (List.mem_range.mp hp)).nlen (by decide)
  · unfold toldF
    rw [lst_len, lst_txt, List.length_map, List.length_map, List.length_range]
    unfold figs; omega
  · obtain ⟨c, r, h1, h2⟩ := (hends t ht).1
    exact starts_no h1 h2
  · obtain ⟨r, h1⟩ := (hends t ht).2
    obtain ⟨r', h2⟩ := pw_last h1 i
    exact ends_yes h2
  · obtain ⟨c, r, h1, h2⟩ := (hends t ht).1
    obtain ⟨r', h3⟩ := pw_head h1 2
    exact ⟨c, r', h3, h2⟩
  · have hk := kept_count (st := stepsF nums) (by rw [stepsF_len]; omega) (steps3 h10)
    have e : belowF nums = (List.range (stepsF nums).length).filter fun t => (stepsF nums).getD t 0 == 1 && decide (t ∈ (struckF (stepsF nums)).1) := ?_
    · rw [e]; exact hk
    unfold belowF
    rw [stepsF_len]
    refine List.filter_congr fun t ht => ?_
    have ht' := List.mem_range.mp ht
    by_cases hu : (stepsF nums).getD t 0 = 1
    · rw [hu]
      have := below_at h10 ht' (htold t) hu
      rw [Bool.eq_iff_iff]
      simp only [beq_self_eq_true, Bool.true_and, beq_iff_eq, decide_eq_true_eq]
      exact this
    · have : ((stepsF nums).getD t 0 == 1) = false := beq_eq_false_iff_ne.mpr hu
      rw [this, Bool.false_and, Bool.false_and]
end
end Mine

end
open PySem PySem.Calls PySem.W PyProof.Rows
set_option maxRecDepth 100000 in
set_option maxHeartbeats 8000000 in
theorem PySem.Challenge.cw_qw0036_01_holds : PySem.Challenge.rw_qw0036_01.Holds :=
  Mine.hd (by
    k_fill
    intro w s₀ s₁ mg mb G Y fa o pm cd doc dV kV ho hd hcd hD hmg hg args vals as hpre hlay hrd hwl hlo
    have KX := km_in_of Y
    km_tabs Y
    refine Ground.open G ?_
    intro T B D TE TW
    km_lay T hmg ho hd cd
    wrow_args hpre hlay hrd hwl hlo
    all_goals (
      refine enter_call ?_
      refine Mine.law_post hT9 (fun _ => rfl) (by first | kernel_rfl | (with_unfolding_all rfl)) ?_
      exact Mine.law_join (fun nums h8 h10 => Mine.facts h8 h10) KX T hT8 hg hmg (by assumption) (by assumption) (by assumption)))
