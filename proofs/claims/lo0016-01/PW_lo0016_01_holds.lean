import PyProof.Rows.All
import Wide.All
import OpenK.AllK
import Wide.FinOn
import PySem.Challenge.RW_lo0016_01
set_option Elab.async false
section
open PySem PySem.W PyProof.Rows
set_option Elab.async false
namespace Mine
set_option maxRecDepth 100000
set_option maxHeartbeats 8000000
/-- the text without its three plain assignments -/
def vw : Program := { PySem.Challenge.pw_lo0016_01 with main := { PySem.Challenge.pw_lo0016_01.main with body := (PySem.Challenge.pw_lo0016_01.main.body.drop 1).take 5 ++ ((PySem.Challenge.pw_lo0016_01.main.body.drop 7).take 1 ++ PySem.Challenge.pw_lo0016_01.main.body.drop 9) } }
/-- two looks at where the top ends are one -/
theorem left_both {p q : Program} {loose : List Str} {Xt : Shared → Bool} {α : Type} {Yf : Shared → α} {Ya : World → α} {N : Nat} (a : LeftO p q loose Xt (fun _ => ()) (fun _ => ()) N)
    (b : ∀ w, (openEnds treeTable p w N).map Yf = some (Ya w)) : LeftO p q loose Xt Yf Ya N := fun w => by
  obtain ⟨s, e1, e2⟩ := Option.map_eq_some_iff.mp (a w)
  obtain ⟨s', e3, e4⟩ := Option.map_eq_some_iff.mp (b w)
  cases e1.symm.trans e3
  rw [e1]
  exact congrArg some (Prod.ext (Prod.mk.inj e2).1 e4)
theorem left_looks : LeftO PySem.Challenge.pw_lo0016_01 vw [Str.ofString "SAXException"] (fun s => xlAt vw [] s && recOk (RowW.records PySem.Challenge.rw_lo0016_01.row.toRowW) s) (fun _ => ()) (fun _ => ()) 4362 := fun w => by
  unfold openEnds topFrom fencedOpening
  first | rw [PySem.W.Fast.te14082659384304107361, PySem.W.Fast.te10274390034422433532, PySem.W.Fast.te14364793385576792824, PySem.W.Fast.te14289696077712309145, PySem.W.Fast.te5923862056798008813, PySem.W.Fast.te1435165496053646825, PySem.W.Fast.te4187177175401517315] | skip
  kernel_rfl
section
set_option hygiene false
local macro_rules | `(tactic| o_head $H) => `(tactic| (
  refine holds_open (q := vw) (loose := [Str.ofString "SAXException"]) (Xt := fun s => xlAt vw [] s && recOk (RowW.records PySem.Challenge.rw_lo0016_01.row.toRowW) s) (XP := XL vw []) (Yf := Hook.obs $H) (Ya := Hook.val $H) (YP := Hook.says $H) (N := 4362) ?hl (Hook.of $H) (Hook.keeps $H) (fun s e => xl_of s (Bool.and_eq_true_iff.mp e).1) XL.keeps (by rfl) (by rfl) (by rfl) (fun s e => recFacts_of (Bool.and_eq_true_iff.mp e).2) (by rfl) (by first | assumption | decide +kernel) (by decide +kernel) ⟨rfl, rfl, rfl, rfl, rfl, by decide +kernel⟩ ?hw ?hc
  (case hl =>
    refine left_both left_looks fun w => ?_
    show Option.map _ (openEnds treeTable PySem.Challenge.pw_lo0016_01 w 4362) = _
    unfold openEnds topFrom fencedOpening
    first | rw [PySem.W.Fast.te14082659384304107361, PySem.W.Fast.te10274390034422433532, PySem.W.Fast.te14364793385576792824, PySem.W.Fast.te14289696077712309145, PySem.W.Fast.te5923862056798008813, PySem.W.Fast.te1435165496053646825] | skip
    kernel_rfl)))
open_top hd for PySem.Challenge.rw_lo0016_01
end
end Mine
end
section
open PySem PySem.W PyProof.Rows
set_option Elab.async false
set_option linter.unusedVariables false
set_option maxRecDepth 100000
namespace Mine
noncomputable abbrev KF (w : World) : Frag := hd.heap_39 w.params
/-- an exception's object -/
abbrev excO (C : Addr) (d : Option Addr) (t : Addr) (tb : Value) : Obj :=
  { cls := .ref C, dict := d, data := .fields #[.ref t, tb, .none, .none, .bool false, .none] }
/-- a traceback at rest -/
def TbOk (h : Heap) (tb : Value) : Prop := tb = .none ∨ ∃ T ts, tb = .ref T ∧ h.get? T = some { cls := .type "traceback", data := .fields ts } ∧ ts[3]? = some .none ∧ (∃ v, ts[1]? = some v)
/-- how an object may turn while others work: not at all; a frame in its slots; an exception in its traceback -/
def Sm (H : Heap) (b : Addr) (o : Obj) (h' : Heap) : Prop :=
  h'.get? b = some o ∨ (H.objs.size ≤ b ∧ o.cls = .type "frame" ∧ ∃ sl, h'.get? b = some { o with slots := sl }) ∨
  (H.objs.size ≤ b ∧ ∃ C d t tb tb', o = excO C d t tb ∧ h'.get? b = some (excO C d t tb') ∧ TbOk h' tb')
structure Kp (H : Heap) (S : Addr → Prop) (h h' : Heap) : Prop where
  at_ : ∀ b o, h.get? b = some o → ¬ S b → Sm H b o h'
/-- no frame, no exception -/
def plainO (o : Obj) : Prop := o.cls ≠ .type "frame" ∧ ∀ C d t tb, o ≠ excO C d t tb
theorem Sm.plain {H h' : Heap} {b : Addr} {o : Obj} (x : Sm H b o h') (p : plainO o) : h'.get? b = some o := by
  rcases x with x | ⟨_, x, _⟩ | ⟨_, C, d, t, tb, _, x, _⟩
  · exact x
  · exact absurd x p.1
  · exact absurd x (p.2 _ _ _ _)
theorem Sm.low {H h' : Heap} {b : Addr} {o : Obj} (x : Sm H b o h') (p : b < H.objs.size) : h'.get? b = some o := by
  rcases x with x | ⟨q, _⟩ | ⟨q, _⟩
  · exact x
  · exact absurd q (Nat.not_le.mpr p)
  · exact absurd q (Nat.not_le.mpr p)
theorem Kp.plain {H h h' : Heap} {S : Addr → Prop} {b : Addr} {o : Obj} (k : Kp H S h h') (e : h.get? b = some o) (p : plainO o) (hS : ¬ S b) : h'.get? b = some o := (k.at_ b o e hS).plain p
theorem Kp.low {H h h' : Heap} {S : Addr → Prop} {b : Addr} {o : Obj} (k : Kp H S h h') (e : h.get? b = some o) (p : b < H.objs.size) (hS : ¬ S b) : h'.get? b = some o := (k.at_ b o e hS).low p
theorem plain_type {T : String} {d : Option Addr} {dt : Data} {sl : Array (Option Value)} (h : T ≠ "frame") : plainO ⟨.type T, d, dt, sl⟩ := ⟨(fun q => h (by cases q; rfl)), (fun C d t tb q => by cases q)⟩
theorem plain_tb {ts : Array Value} : plainO { cls := .type "traceback", data := .fields ts } := plain_type (by decide)
theorem TbOk.kp {H h h' : Heap} {S : Addr → Prop} {tb : Value} (x : TbOk h tb) (k : Kp H S h h') (hS : ∀ T, tb = .ref T → ¬ S T) : TbOk h' tb := by
  rcases x with x | ⟨T, ts, e, x, y⟩
  · exact .inl x
  · exact .inr ⟨T, ts, e, k.plain x plain_tb (hS T e), y⟩
theorem Kp.refl (H : Heap) (S : Addr → Prop) (h : Heap) : Kp H S h h := ⟨fun _ _ e _ => .inl e⟩
theorem Kp.of_keeps {H : Heap} {S : Addr → Prop} {h h' : Heap} (k : ∀ b o, h.get? b = some o → h'.get? b = some o) : Kp H S h h' := ⟨fun _ _ e _ => .inl (k _ _ e)⟩
theorem Kp.push {H : Heap} {S : Addr → Prop} {h : Heap} (o : Obj) : Kp H S h (h.push o) := .of_keeps (fun _ _ e => Heap.get?_push_of_some _ e)
theorem Kp.same {H : Heap} {h h' : Heap} {L : Addr} {S : Addr → Prop} (x : Heap.SameBut L h h') (hS : S L) : Kp H S h h' := ⟨fun b o e n => .inl ((x.2 b fun q => n (q ▸ hS)).trans e)⟩
theorem Kp.mono {H : Heap} {h h' : Heap} {S S' : Addr → Prop} (x : Kp H S h h') (q : ∀ b o, h.get? b = some o → S b → S' b) : Kp H S' h h' := ⟨fun b o e n => x.at_ b o e fun z => n (q b o e z)⟩
/-- the second may turn what the first may, and more -/
theorem Kp.trans {H : Heap} {h h₁ h₂ : Heap} {S : Addr → Prop} (x : Kp H S h h₁) (y : Kp H S h₁ h₂) (hS : ∀ b o, h₁.get? b = some o → S b → o.cls ≠ .type "traceback") : Kp H S h h₂ := by
  refine ⟨fun b o e n => ?_⟩
  rcases x.at_ b o e n with x1 | ⟨x1, x2, sl, x3⟩ | ⟨x1, C, d, t, tb, tb', x2, x3, x4⟩
  · exact y.at_ b o x1 n
  · rcases y.at_ b _ x3 n with y1 | ⟨_, _, sl', y3⟩ | ⟨_, C, d, t, tb, tb', y2, _⟩
    · exact .inr (.inl ⟨x1, x2, sl, y1⟩)
    · exact .inr (.inl ⟨x1, x2, sl', y3⟩)
    · exact absurd (congrArg Obj.cls y2) (by show o.cls ≠ .ref C; rw [x2]; intro q; cases q)
  · rcases y.at_ b _ x3 n with y1 | ⟨_, y2, _⟩ | ⟨_, C', d', t', tb1, tb2, y2, y3, y4⟩
    · refine .inr (.inr ⟨x1, C, d, t, tb, tb', x2, y1, ?_⟩)
      rcases x4 with x4 | ⟨T, ts, q, x4, x5⟩
      · exact .inl x4
      · exact .inr ⟨T, ts, q, y.plain x4 plain_tb fun z => hS T _ x4 z rfl, x5⟩
    · cases y2
    · have : C = C' ∧ d = d' ∧ t = t' := by
        simp only [excO, Obj.mk.injEq, Value.ref.injEq, Data.fields.injEq] at y2
        refine ⟨y2.1, y2.2.1, ?_⟩
        have z := congrArg (fun a : Array Value => a[0]?) y2.2.2.1
        simpa using z
      obtain ⟨rfl, rfl, rfl⟩ := this
      exact .inr (.inr ⟨x1, C, d, t, tb, tb2, x2, y3, y4⟩)
theorem Kp.ns {H h h' : Heap} {S : Addr → Prop} {a : Addr} {m : Str → Option Value} (k : Kp H S h h') (n : h.Ns a m) (hS : ¬ S a) : h'.Ns a m := by
  obtain ⟨o, es, ep, ho, hd, r⟩ := n
  rcases k.at_ a o ho hS with x | ⟨_, _, sl, x⟩ | ⟨_, C, d, t, tb, _, x, _⟩
  · exact ⟨o, es, ep, x, hd, r⟩
  · exact ⟨_, es, ep, x, hd, r⟩
  · subst x; cases hd
/-- the ground: what the top left, kept all along -/
structure Gr (w : World) (H : Heap) : Prop where
  X : (KF w).In H
  T : ∃ p loose mean mg mb, Top p loose mean mg mb H
section
variable {prog : Program} {w : World} {A : Around} {E : Value → Shared → Prop} {s : Shared} {H : Heap} {L a : Addr} {m : Str → Option Value} {cn : Str} {cs : Scope} {ccd : Value} {Q : Value → Shared → Prop}
theorem gl {M : Model} {x : Str} {pos : Pos} {v : Value} (G : Gr w H) (F : Fr H L s.heap m) (e : nsIn (KF w) mainGlobals x = some (some v)) (h : Q v s)
    (hk : cs.kind = .function := by rfl) (hx : (envOf cn cs L a ccd).kindOf x = some .globalImplicit := by rfl) (hd : (x == ("__debug__" : Str)) = false := by decide) :
    wpAny M A (eval (.Name x pos) (envOf cn cs L a ccd)) Q E s := by
  obtain ⟨p, l, me, mg, mb, T⟩ := G.T
  exact name_K F G.X (topRead_of T) e h hk hx hd
theorem bi {M : Model} {x : Str} {pos : Pos} {v : Value} (G : Gr w H) (F : Fr H L s.heap m) (e : nsIn (KF w) mainGlobals x = some none) (hv : bootBuiltins x = some v) (hn : x ≠ "__name__") (h : Q v s)
    (hk : cs.kind = .function := by rfl) (hx : (envOf cn cs L a ccd).kindOf x = some .globalImplicit := by rfl) (hd : (x == ("__debug__" : Str)) = false := by decide) :
    wpAny M A (eval (.Name x pos) (envOf cn cs L a ccd)) Q E s := by
  obtain ⟨p, l, me, mg, mb, T⟩ := G.T
  exact name_B F G.X (topRead_of T) e hv hn h hk hx hd
/-- the ground stands in h -/
structure Up (H h : Heap) : Prop where
  keep : ∀ b o, H.get? b = some o → h.get? b = some o
  size : H.objs.size ≤ h.objs.size
end
end Mine
end
section
open PySem PySem.W PyProof.Rows
set_option Elab.async false
set_option linter.unusedVariables false
set_option maxRecDepth 100000
namespace Mine
theorem putName_cls (n : Str) (hs : Int) (k v : Value) (o : Obj) : (Obj.putName n hs k v o).cls = o.cls := by
  obtain ⟨c, d, dt, sl⟩ := o
  rw [Obj.putName_eq]
  unfold Obj.putNameByArray
  cases dt with
  | dict es ep => dsimp only; cases es.findIdx? (·.key.isStr n) <;> rfl
  | _ => rfl
theorem putName_size (n : Str) (hs : Int) (k v : Value) {o : Obj} {es : Array DictEntry} {ep : Nat} (hd : o.data = .dict es ep) : ∃ es' ep', (Obj.putName n hs k v o).data = .dict es' ep' ∧ es'.size ≤ es.size + 1 := by
  obtain ⟨c, d, dt, sl⟩ := o
  subst hd
  rw [Obj.putName_eq]
  unfold Obj.putNameByArray
  dsimp only
  cases es.findIdx? (·.key.isStr n) with
  | none => exact ⟨_, _, rfl, by simp⟩
  | some i => exact ⟨_, _, rfl, by simp⟩
theorem putName_free (n : Str) (hs : Int) (k v : Value) {o : Obj} {es : Array DictEntry} {ep : Nat} (hd : o.data = .dict es ep) : (Obj.putName n hs k v o).isFreed = false := by
  obtain ⟨c, d, dt, sl⟩ := o
  subst hd
  rw [Obj.putName_eq]
  unfold Obj.putNameByArray
  dsimp only; cases es.findIdx? (·.key.isStr n) <;> rfl
theorem nsSet_own {M : Model} {A : Around} {E : Value → Shared → Prop} {s : Shared} {a : Addr} {m : Str → Option Value} {name : Str} {v : Value} {Q : Unit → Shared → Prop} (hn : s.heap.Ns a m)
    (h : ∀ h', h'.Ns a (fun x => if x = name then some v else m x) → Heap.SameBut a s.heap h' → (∀ o, s.heap.get? a = some o → ∃ o', h'.get? a = some o' ∧ o'.cls = o.cls ∧ ∀ es ep, o.data = .dict es ep → ∃ es' ep', o'.data = .dict es' ep' ∧ es'.size ≤ es.size + 1) → Q () { s with heap := h', toks := s.toks + 1 }) :
    wpAny M A (nsSet a name v) Q E s := fun Γ p _ => by
  have key := Sem.wp_nsSet M Γ (fun e _ s' => E e s') p s hn name v (fun _ _ s' => s'.heap.Ns a (fun x => if x = name then some v else m x) ∧ Heap.SameBut a s.heap s'.heap) (fun h' x y => ⟨x, y⟩)
  obtain ⟨o, es, ep, ho, hd, hk, hm⟩ := hn
  have hany : es.any (·.refKey) = false := by
    rw [Array.any_eq_false']; intro e he; obtain ⟨n, t, h⟩ := hk e he; simp [DictEntry.refKey, h]
  simp only [nsSet, strHash, Sem.wp_bind', Sem.wp_cmd_ask, Sem.wp_pure', Sem.wp_cmd_mkText] at key ⊢
  rw [Sem.wp_loadPart_of M Γ _ p { s with toks := s.toks + 1 } (o := o) _ ho] at key ⊢
  simp only [hd, aRefKeyMayBeTheName_eq, aRefKeyMayBeTheNameByArray, hany, Bool.and_false, Bool.false_eq_true, if_false, Sem.wp_cmd_updatePart] at key ⊢
  refine ⟨key.1, h _ key.2.1 key.2.2 fun o' ho' => ?_⟩
  obtain ⟨o2, _, _, ho2, _⟩ := key.2.1
  refine ⟨o2, ho2, ?_⟩
  rw [ho] at ho'; cases ho'
  have e := (Heap.get?_update_self _ ho (putName_free name _ _ v hd)).symm.trans ho2
  cases e
  exact ⟨putName_cls .., fun es ep q => putName_size name _ _ v q⟩
/-- the frame at work: h₀ the heap at the call's start, S what may turn besides, objs plain things that stand now -/
structure St (H : Heap) (S : Addr → Prop) (h₀ : Heap) (L : Addr) (h : Heap) (m : Str → Option Value) (objs : List (Addr × Obj)) : Prop where
  F : Fr H L h m
  k : Kp H (fun b => b = L ∨ S b) h₀ h
  out : h₀.get? L = none
  fr : ∃ o, h.get? L = some o ∧ o.cls = .type "frame"
  sx : ∀ b, S b → H.objs.size ≤ b ∧ ∃ o, h.get? b = some o ∧ o.cls ≠ .type "traceback" ∧ o.cls ≠ .type "frame"
  s0 : ∀ b, S b → ∀ o, h₀.get? b = some o → o.cls ≠ .type "frame"
  ob : ∀ p ∈ objs, h.get? p.1 = some p.2 ∧ p.1 ≠ L ∧ plainO p.2
section
variable {H h₀ h h' : Heap} {S : Addr → Prop} {L : Addr} {m : Str → Option Value} {objs : List (Addr × Obj)}
theorem Fr.kp {S : Addr → Prop} (F : Fr H L h m) (k : Kp H S h h') (hL : ¬ S L) (hS : ∀ b, b < H.objs.size → ¬ S b) : Fr H L h' m :=
  ⟨k.ns F.ns hL, fun b o e => k.low (F.keep b o e) (Heap.lt_size e) (hS b (Heap.lt_size e)), F.above⟩
theorem Fr.up (F : Fr H L h m) : Up H h := ⟨F.keep, Nat.le_trans F.above (Nat.le_of_lt F.ns.lt)⟩
theorem St.notTb (W : St H S h₀ L h m objs) (b : Addr) (o : Obj) (e : h.get? b = some o) (q : b = L ∨ S b) : o.cls ≠ .type "traceback" := by
  rcases q with q | q
  · obtain ⟨o', e', c'⟩ := W.fr
    subst q; rw [e] at e'; cases e'; rw [c']; intro z; exact absurd (Value.type.inj z) (by decide)
  · obtain ⟨_, o', e', c', _⟩ := W.sx b q
    rw [e] at e'; cases e'; exact c'
theorem St.ne {b : Addr} (W : St H S h₀ L h m objs) (q : S b) : b ≠ L := fun z => by
  obtain ⟨o, e, c⟩ := W.fr
  obtain ⟨_, o', e', _, c'⟩ := W.sx b q
  rw [z, e] at e'; cases e'; exact c' c
theorem Sm.frame {b : Addr} {o : Obj} (x : Sm H b o h') (c : o.cls = .type "frame") : ∃ sl, h'.get? b = some { o with slots := sl } := by
  rcases x with x | ⟨_, _, sl, x⟩ | ⟨_, C, d, t, tb, tb', x, _⟩
  · exact ⟨o.slots, x⟩
  · exact ⟨sl, x⟩
  · subst x; cases c
theorem Sm.cls {b : Addr} {o : Obj} (x : Sm H b o h') : ∃ o', h'.get? b = some o' ∧ o'.cls = o.cls := by
  rcases x with x | ⟨_, _, sl, x⟩ | ⟨_, C, d, t, tb, tb', x, y, _⟩
  · exact ⟨o, x, rfl⟩
  · exact ⟨_, x, rfl⟩
  · subst x; exact ⟨_, y, rfl⟩
/-- a call by contract: nothing of ours turns -/
theorem St.call (W : St H S h₀ L h m objs) (k : Kp H (fun _ => False) h h') : St H S h₀ L h' m objs := by
  refine ⟨Fr.kp W.F k id (fun _ _ => id), W.k.trans (k.mono fun _ _ _ z => z.elim) W.notTb, W.out, ?_, fun b q => ?_, W.s0, fun p hp => ?_⟩
  · obtain ⟨o, e, c⟩ := W.fr
    obtain ⟨sl, x⟩ := (k.at_ L o e id).frame c
    exact ⟨_, x, c⟩
  · obtain ⟨z, o, e, c1, c2⟩ := W.sx b q
    obtain ⟨o', e', c'⟩ := (k.at_ b o e id).cls
    exact ⟨z, o', e', c' ▸ c1, c' ▸ c2⟩
  · obtain ⟨a, b, c⟩ := W.ob p hp
    exact ⟨k.plain a c id, b, c⟩
/-- what may turn turns -/
theorem St.turn {objs' : List (Addr × Obj)} (W : St H S h₀ L h m objs) (k : Kp H S h h') (hs : ∀ b, S b → ∀ o, h.get? b = some o → ∃ o', h'.get? b = some o' ∧ o'.cls = o.cls) (ho : ∀ p ∈ objs', p ∈ objs ∧ ¬ S p.1) : St H S h₀ L h' m objs' := by
  have hL : ¬ S L := fun q => W.ne q rfl
  refine ⟨Fr.kp W.F k hL (fun b hb q => absurd (W.sx b q).1 (Nat.not_le.mpr hb)), W.k.trans (k.mono fun _ _ _ z => .inr z) W.notTb, W.out, ?_, fun b q => ?_, W.s0, fun p hp => ?_⟩
  · obtain ⟨o, e, c⟩ := W.fr
    obtain ⟨sl, x⟩ := (k.at_ L o e hL).frame c
    exact ⟨_, x, c⟩
  · obtain ⟨z, o, e, c1, c2⟩ := W.sx b q
    obtain ⟨o', e', c'⟩ := hs b q o e
    exact ⟨z, o', e', c' ▸ c1, c' ▸ c2⟩
  · obtain ⟨q1, q2⟩ := ho p hp
    obtain ⟨a, b, c⟩ := W.ob p q1
    exact ⟨k.plain a c q2, b, c⟩
theorem St.push (W : St H S h₀ L h m objs) (o : Obj) (p : plainO o) (hf : o.isFreed = false) : St H S h₀ L (h.push o) m ((h.objs.size, o) :: objs) := by
  have W' := W.call (h' := h.push o) (Kp.push o)
  refine ⟨W'.F, W'.k, W'.out, W'.fr, W'.sx, W'.s0, fun q hq => ?_⟩
  rcases List.mem_cons.mp hq with rfl | hq
  · exact ⟨Heap.get?_push_size _ hf, fun z => by have := W.F.ns.lt; rw [← z] at this; exact absurd this (Nat.lt_irrefl _), p⟩
  · exact W'.ob q hq
theorem St.drop {objs' : List (Addr × Obj)} (W : St H S h₀ L h m objs) (hs : ∀ p ∈ objs', p ∈ objs) : St H S h₀ L h m objs' := ⟨W.F, W.k, W.out, W.fr, W.sx, W.s0, fun p hp => W.ob p (hs p hp)⟩
theorem St.nf {b : Addr} {o : Obj} (W : St H S h₀ L h m objs) (e : h.get? b = some o) (p : o.cls ≠ .type "frame") : b ≠ L := fun z => by
  obtain ⟨o', e', c'⟩ := W.fr
  rw [← z, e] at e'; cases e'; exact p c'
theorem St.add {b : Addr} {o : Obj} (W : St H S h₀ L h m objs) (e : h.get? b = some o) (p : plainO o) : St H S h₀ L h m ((b, o) :: objs) := ⟨W.F, W.k, W.out, W.fr, W.sx, W.s0, fun q hq => by
  rcases List.mem_cons.mp hq with rfl | hq
  · exact ⟨e, W.nf e p.1, p⟩
  · exact W.ob q hq⟩
theorem TbOk.same {d : Addr} {tb : Value} (x : TbOk h tb) (k : Heap.SameBut d h h') (hT : ∀ o, h.get? d = some o → o.cls ≠ .type "traceback") : TbOk h' tb := by
  rcases x with x | ⟨T, ts, q, x, y⟩
  · exact .inl x
  · exact .inr ⟨T, ts, q, (k.2 T fun z => hT _ (z ▸ x) rfl).trans x, y⟩
theorem Sm.same {d b : Addr} {o : Obj} (x : Sm H b o h) (k : Heap.SameBut d h h') (hb : b ≠ d) (hT : ∀ o, h.get? d = some o → o.cls ≠ .type "traceback") : Sm H b o h' := by
  rcases x with x | ⟨x1, x2, sl, x3⟩ | ⟨x1, C, d', t, tb, tb', x2, x3, x4⟩
  · exact .inl ((k.2 b hb).trans x)
  · exact .inr (.inl ⟨x1, x2, sl, (k.2 b hb).trans x3⟩)
  · exact .inr (.inr ⟨x1, C, d', t, tb, tb', x2, (k.2 b hb).trans x3, x4.same k hT⟩)
/-- an own thing turns -/
theorem St.own {d : Addr} (W : St H S h₀ L h m objs) (k : Heap.SameBut d h h') (hd : h₀.get? d = none) (hH : H.objs.size ≤ d) (hT : ∀ o, h.get? d = some o → o.cls ≠ .type "traceback" ∧ o.cls ≠ .type "frame") (hS : ¬ S d) (ho : ∀ p ∈ objs, p.1 ≠ d) : St H S h₀ L h' m objs := by
  have hL : d ≠ L := fun z => by
    obtain ⟨o, e, c⟩ := W.fr
    exact (hT o (z ▸ e)).2 c
  refine ⟨⟨W.F.ns.sameBut k (Ne.symm hL), fun b o e => ?_, W.F.above⟩, ⟨fun b o e q => ?_⟩, W.out, ?_, fun b q => ?_, W.s0, fun p hp => ?_⟩
  · exact (k.2 b (Nat.ne_of_lt (Nat.lt_of_lt_of_le (Heap.lt_size e) hH))).trans (W.F.keep b o e)
  · exact (W.k.at_ b o e q).same k (fun z => by rw [z, hd] at e; cases e) fun o e => (hT o e).1
  · obtain ⟨o, e, c⟩ := W.fr
    exact ⟨o, (k.2 L (Ne.symm hL)).trans e, c⟩
  · obtain ⟨z, o, e, r⟩ := W.sx b q
    exact ⟨z, o, (k.2 b fun y => hS (y ▸ q)).trans e, r⟩
  · obtain ⟨a, b, c⟩ := W.ob p hp
    exact ⟨(k.2 _ (ho p hp)).trans a, b, c⟩
/-- what the frame's end hands to its caller -/
theorem St.done (W : St H S h₀ L h m objs) : Kp H S h₀ h := W.k.mono fun b o e q => by
  rcases q with q | q
  · subst q; rw [W.out] at e; cases e
  · exact q
theorem St.done0 (W : St H (fun _ => False) h₀ L h m objs) : Kp H (fun _ => False) h₀ h := W.done
theorem St.at {b : Addr} {o : Obj} (W : St H S h₀ L h m objs) (e : h₀.get? b = some o) (p : plainO o) (hS : ¬ S b) : h.get? b = some o := W.k.plain e p fun q => by
  rcases q with q | q
  · subst q; rw [W.out] at e; cases e
  · exact hS q
theorem St.has {b : Addr} {o : Obj} (W : St H S h₀ L h m objs) (hm : (b, o) ∈ objs) : h.get? b = some o := (W.ob _ hm).1
/-- the frame's start -/
theorem St.start {binds : List (Str × Value)} (hL : L = h₀.objs.size) (F : Fr H L h (fun y => binds.reverse.lookup y)) (fr : ∃ o, h.get? L = some o ∧ o.cls = .type "frame") (hk : ∀ b o, h₀.get? b = some o → h.get? b = some o)
    (sx : ∀ b, S b → H.objs.size ≤ b ∧ ∃ o, h₀.get? b = some o ∧ o.cls ≠ .type "traceback" ∧ o.cls ≠ .type "frame") : St H S h₀ L h (fun y => binds.reverse.lookup y) [] :=
  ⟨F, ⟨fun b o e _ => .inl (hk b o e)⟩, Heap.get?_none_of_le (hL ▸ Nat.le_refl _), fr, fun b q => let ⟨z, o, e, r⟩ := sx b q; ⟨z, o, hk b o e, r⟩, fun b q o e => let ⟨_, o', e', r⟩ := sx b q; by rw [e] at e'; cases e'; exact r.2, fun _ hp => nomatch hp⟩
end
section
variable {prog : Program} {w : World} {M : Model} {A : Around} {E : Value → Shared → Prop} {s : Shared} {H h₀ : Heap} {S : Addr → Prop} {L a : Addr} {m : Str → Option Value} {objs : List (Addr × Obj)} {cn : Str} {cs : Scope} {ccd : Value}
theorem r_store {x : Str} {v : Value} {Q : Unit → Shared → Prop} (W : St H S h₀ L s.heap m objs)
    (h : ∀ h', St H S h₀ L h' (fun y => if y = x then some v else m y) objs → Q () { s with heap := h', toks := s.toks + 1 })
    (hk : cs.kind = .function := by rfl) (hl : (envOf cn cs L a ccd).kindOf x = some .local := by rfl) :
    wpAny M A (storeName (envOf cn cs L a ccd) x v) Q E s := by
  rw [storeName_local hl (by show (cs.kind == .class || (cs.kind == .module && L != mainGlobals)) = false; rw [hk]; rfl)]
  refine nsSet_own W.F.ns fun h' hn hs hc => h h' ⟨W.F.set hn hs, W.k.trans (.same hs (.inl rfl)) W.notTb, W.out, ?_, fun b q => ?_, W.s0, fun p hp => ?_⟩
  · obtain ⟨o, e, c⟩ := W.fr
    obtain ⟨o', e', c', -⟩ := hc o e
    exact ⟨o', e', c'.trans c⟩
  · obtain ⟨z, o, e, r⟩ := W.sx b q
    exact ⟨z, o, (hs.2 _ (W.ne q)).trans e, r⟩
  · obtain ⟨a1, b1, c1⟩ := W.ob p hp
    exact ⟨(hs.2 _ b1).trans a1, b1, c1⟩
theorem r_list {vs : List Value} {Q : Value → Shared → Prop} (W : St H S h₀ L s.heap m objs)
    (h : ∀ b h', b = s.heap.objs.size → St H S h₀ L h' m ((b, { cls := .type "list", data := .seq vs.toArray }) :: objs) → Q (.ref b) { s with heap := h' }) (hsz : vs.length ≤ sizeLine := by size_fits) :
    wpAny M A (newList vs) Q E s := wpAny_newObj_type (h _ _ rfl (W.push _ (plain_type (by decide)) rfl)) (by show vs.toArray.size ≤ sizeLine; rw [List.size_toArray]; exact hsz)
theorem r_tuple {vs : List Value} {Q : Value → Shared → Prop} (W : St H S h₀ L s.heap m objs)
    (h : ∀ b h', b = s.heap.objs.size → St H S h₀ L h' m ((b, { cls := .type "tuple", data := .seq vs.toArray }) :: objs) → Q (.ref b) { s with heap := h' }) (hsz : vs.length ≤ sizeLine := by size_fits) :
    wpAny M A (newTuple vs) Q E s := wpAny_newObj_type (h _ _ rfl (W.push _ (plain_type (by decide)) rfl)) (by show vs.toArray.size ≤ sizeLine; rw [List.size_toArray]; exact hsz)
end
end Mine
end
section
open PySem PySem.W PyProof.Rows
set_option Elab.async false
set_option linter.unusedVariables false
set_option maxRecDepth 100000
namespace Mine
section
variable {prog : Program} {w : World} {M : Model} {A : Around} {E : Value → Shared → Prop} {s : Shared} {H h₀ : Heap}
/-- the new frame, its class told -/
theorem nfe {scope : Scope} {globals : Addr} {closure : List (Str × Addr)} {binds : List (Str × Value)} {qual : Str} {func : Option Addr} {code : Value} {builtins : Addr} {Q : Env → Shared → Prop}
    (hc : ∀ x ∈ scope.names, x.2 ≠ .cell) (hl : ∀ x ∈ binds, scope.names.lookup x.1 = some .local) (hk : scope.kind = .function)
    (hQ : ∀ h', h'.Ns s.heap.objs.size (fun x => binds.reverse.lookup x) → Heap.SameBut s.heap.objs.size (s.heap.push { cls := .type "frame", data := .dict #[] }) h' → (∃ o, h'.get? s.heap.objs.size = some o ∧ o.cls = .type "frame") →
      Q (newEnv scope s.heap.objs.size globals closure qual func code none builtins) { s with heap := h', toks := s.toks + binds.length }) :
    wpAny M A (newFunctionEnv scope globals closure binds qual func code none builtins) Q E s := by
  unfold newFunctionEnv
  simp only [Option.isSome_none, Bool.false_eq_true, if_false]
  refine wpAny_bind (wpAny_alloc ?_)
  rw [forIn_yield_id closure (fun x hx c => by
    obtain ⟨name, kind⟩ := x
    have : (kind == NameKind.cell) = false := by simpa using hc _ hx
    simp only [this, Bool.false_eq_true, if_false])]
  refine wpAny_bind (wpAny_pure (wpAny_bind ?_))
  let env : Env := { scope, locals := s.heap.objs.size, globals, cells := closure, qual, func, code, frame := some s.heap.objs.size, builtins }
  refine wpAny_forIn_list _ (fun rest _ s' => ∃ done h', binds = done ++ rest ∧ s' = { s with heap := h', toks := s.toks + done.length } ∧ h'.Ns s.heap.objs.size (fun x => done.reverse.lookup x) ∧
      Heap.SameBut s.heap.objs.size (s.heap.push { cls := .type "frame", data := .dict #[] }) h' ∧ ∃ o, h'.get? s.heap.objs.size = some o ∧ o.cls = .type "frame") _ ?_ ?_ binds _
      ⟨[], _, rfl, rfl, Heap.Ns.new .., Heap.SameBut.refl .., _, Heap.get?_push_size _ rfl, rfl⟩
  · rintro ⟨name, v⟩ rest _ s' ⟨done, h', hb, rfl, hns, hsb, o, ho, hoc⟩
    have hkd : env.kindOf name = some .local := hl (name, v) (by rw [hb]; simp)
    have hp : (env.scope.kind == .class || (env.scope.kind == .module && env.locals != env.globals)) = false := by
      show (scope.kind == .class || (scope.kind == .module && _)) = false
      rw [hk]; rfl
    show wpAny M A (do storeName env name v; pure PUnit.unit; pure (ForInStep.yield PUnit.unit)) _ _ _
    rw [storeName_local hkd hp]
    refine wpAny_bind (nsSet_own hns fun h2 n2 b2 c2 => wpAny_pure ⟨done ++ [(name, v)], h2, by simp [hb], ?_, ?_, hsb.trans b2, ?_⟩)
    · simp [Nat.add_assoc]
    · rw [lookup_reverse_snoc]; exact n2
    · obtain ⟨o', e', c', -⟩ := c2 o ho
      exact ⟨o', e', c'.trans hoc⟩
  · rintro _ s' ⟨done, h', hb, rfl, hns, hsb, hfr⟩
    rw [List.append_nil] at hb; subst hb
    exact wpAny_pure (hQ h' hns hsb hfr)
theorem enter {R : Result → Shared → Prop} {name qual : Str} {params : Arguments} {body : List Stmt} {scope : Scope} {dV kV doc pm cdv ct oc : Value} {an od : Option Addr} {osl : Array (Option Value)} {f : Addr} {args : Args} {binds : List (Str × Value)}
    (G : Gr w H) (U : Up H s.heap) (S : Addr → Prop) (sx : ∀ b, S b → H.objs.size ≤ b ∧ ∃ o, s.heap.get? b = some o ∧ o.cls ≠ .type "traceback" ∧ o.cls ≠ .type "frame")
    (ho : (KF w).lookup f = some ⟨oc, od, .func (fnOf name qual params body scope dV kV doc pm an cdv ct), osl⟩) (hcd : codeIn (KF w) cdv qual = true) (hroom : A.depth < recursionLimit)
    (hbind : BindsTo s (fnOf name qual params body scope dV kV doc pm an cdv ct) args binds) (hloc : ∀ y ∈ binds, scope.names.lookup y.1 = some .local)
    (h : ∀ L h₁, L = s.heap.objs.size → (∀ b o, s.heap.get? b = some o → h₁.get? b = some o) → St H S s.heap L h₁ (fun y => binds.reverse.lookup y) [] →
      wpAny (model prog w) (A.deeper (envOf qual scope L f cdv)) (execs body (envOf qual scope L f cdv))
        (fun fl s' => R (.ok (.ret (match fl with | .ret v => v | _ => .none))) s')
        (fun e s' => wpAny (model prog w) (A.deeper (envOf qual scope L f cdv)) (leaving (envOf qual scope L f cdv) e) (fun _ s'' => R (.error e) s'') (fun e' s'' => R (.error e') s'') s')
        { s with heap := h₁, toks := s.toks + binds.length })
    (hco : scope.isCoroutine = false := by rfl) (hgen : scope.isGenerator = false := by rfl) (hk : scope.kind = .function := by rfl)
    (hcell : ∀ x ∈ scope.names, x.2 ≠ .cell := by decide) : codeAny (model prog w) A (.call (.ref f) args) R s := by
  obtain ⟨p, l, me, mg, mb, T⟩ := G.T
  have X := G.X.keeps U.keep
  refine codeAny_call_function (fd := fnOf name qual params body scope dV kV doc pm an cdv ct) (body := body) hroom (X _ _ ho) rfl hco hgen rfl (codeRec_of X hcd) ?_
  refine hbind _ _ _ _ (nfe hcell hloc hk fun h₁ hns hsb hfr => ⟨?_, ?_⟩)
  · exact (T.nolimit.keeps U.keep).fresh _ hsb
  · have k₁ : ∀ b o, s.heap.get? b = some o → h₁.get? b = some o := fun b o e => hsb.extBut b o (Nat.ne_of_lt (Heap.lt_size e)) (Heap.get?_push_of_some _ e)
    show codeAny _ _ (.func body (envOf qual scope s.heap.objs.size f cdv)) _ _
    exact codeAny_func (h _ h₁ rfl k₁ (St.start rfl ⟨hns, fun b o e => k₁ b o (U.keep b o e), U.size⟩ hfr k₁ sx))
/-- the same, of a def that raises nothing -/
theorem enterF (binds : List (Str × Value)) {Q : Value → Shared → Prop} {name qual : Str} {params : Arguments} {body : List Stmt} {scope : Scope} {dV kV doc pm cdv ct oc : Value} {an od : Option Addr} {osl : Array (Option Value)} {f : Addr} {pos : List Value} {kw : List (Str × Value)}
    (G : Gr w H) (U : Up H s.heap) (S : Addr → Prop) (sx : ∀ b, S b → H.objs.size ≤ b ∧ ∃ o, s.heap.get? b = some o ∧ o.cls ≠ .type "traceback" ∧ o.cls ≠ .type "frame")
    (ho : (KF w).lookup f = some ⟨oc, od, .func (fnOf name qual params body scope dV kV doc pm an cdv ct), osl⟩) (hroom : A.depth < recursionLimit)
    (hcd : codeIn (KF w) cdv qual = true) (hbind : ∀ S, peek (KF w) S (bindArgs (fnOf name qual params body scope dV kV doc pm an cdv ct) ⟨pos, kw⟩) = some binds) (hloc : (binds.all fun x => decide (scope.names.lookup x.1 = some .local)) = true)
    (hco : scope.isCoroutine = false) (hgen : scope.isGenerator = false) (hk : scope.kind = .function) (hcell : (scope.names.all fun x => x.2 != .cell) = true)
    (h : ∀ L h₁, L = s.heap.objs.size → (∀ b o, s.heap.get? b = some o → h₁.get? b = some o) → St H S s.heap L h₁ (fun y => binds.reverse.lookup y) [] →
      wpAny (model prog w) (A.deeper (envOf qual scope L f cdv)) (execs body (envOf qual scope L f cdv))
        (fun fl s' => Q (match fl with | .ret v => v | _ => .none) s') (fun _ _ => False) { s with heap := h₁, toks := s.toks + binds.length }) :
    wpAny (model prog w) A (call (.ref f) pos kw) Q E s :=
  wpAny_call (enter G U S sx ho hcd hroom (kp_binds (G.X.keeps U.keep) hbind) (locs hloc) (fun L h₁ hL hk₁ W => wpAny_mono (h L h₁ hL hk₁ W) (fun _ _ z => z) fun _ _ z => z.elim) hco hgen hk (fun x hx => by simpa using List.all_eq_true.mp hcell x hx))
end
end Mine
end
section
open PySem PySem.W PyProof.Rows
open PySem.Builtin PySem.Builtin.ObjectAttr
set_option Elab.async false
set_option linter.unusedVariables false
set_option maxRecDepth 100000
namespace Mine
/-- a dict of few names -/
def DictAt (h : Heap) (d : Addr) (n : Nat) (m : Str → Option Value) : Prop := h.Ns d m ∧ ∃ o es ep, h.get? d = some o ∧ o.cls = .type "dict" ∧ o.data = .dict es ep ∧ es.size ≤ n
theorem DictAt.kp {H h h' : Heap} {S : Addr → Prop} {d : Addr} {n : Nat} {m : Str → Option Value} (x : DictAt h d n m) (k : Kp H S h h') (hS : ¬ S d) : DictAt h' d n m := by
  obtain ⟨n, o, es, ep, e, c, r⟩ := x
  refine ⟨k.ns n hS, o, es, ep, k.plain e ⟨fun q => ?_, fun C d t tb q => ?_⟩ hS, c, r⟩
  · rw [c] at q; exact absurd (Value.type.inj q) (by decide)
  · rw [q] at c; cases c
/-- the classes of the five kinds -/
def clsOf : Nat → Addr
  | 0 => 60
  | 1 => 127
  | 2 => 139
  | 3 => 151
  | _ => 115
theorem clsOf_cases (k : Nat) (P : Addr → Prop) (h0 : P 60) (h1 : P 127) (h2 : P 139) (h3 : P 151) (h4 : P 115) : P (clsOf k) := by
  match k with
  | 0 => exact h0
  | 1 => exact h1
  | 2 => exact h2
  | 3 => exact h3
  | _ + 4 => exact h4
/-- what the top says of an exception's class -/
structure ExC (w : World) (C : Addr) : Prop where
  ga : findIn (KF w) (.ref C) "__getattribute__" = some (some (.builtin "BaseException.__getattribute__"))
  gh : findIn (KF w) (.ref C) "__getattr__" = some none
  sa : findIn (KF w) (.ref C) "__setattr__" = some (some (.builtin "object.__setattr__"))
  base : mroIn (KF w) C (.type "BaseException") = some true
  obj : mroIn (KF w) C (.type "object") = some true
  exc : mroIn (KF w) C (.type "Exception") = some true
  cls : ∃ cd, clsIn (KF w) C = some cd ∧ cd.hasDict = true ∧ ∀ self, refuseLoop self "__setattr__" cd.mro = pure ()
theorem exC (w : World) (k : Nat) : ExC w (clsOf k) := by
  refine clsOf_cases k _ ?_ ?_ ?_ ?_ ?_ <;>
  exact ⟨by kernel_rfl, by kernel_rfl, by kernel_rfl, by kernel_rfl, by kernel_rfl, by kernel_rfl, _, rfl, rfl, fun self => by kernel_rfl⟩
section
variable {prog : Program} {w : World} {A : Around} {E : Value → Shared → Prop} {s : Shared} {C e : Addr} {ox : Obj}
/-- a thing of a class: its object, its class -/
structure Ins (h : Heap) (e : Addr) (ox : Obj) (C : Addr) : Prop where
  at_ : h.get? e = some ox
  cls : ox.cls = .ref C
  no : notCls ox = true
theorem Ins.type {M : Model} {h : Heap} (I : Ins h e ox C) : Looks M h (typeOf (.ref e)) (.ref C) := I.cls ▸ (Looks.ld I.at_).andThen .now
theorem Ins.inst {M : Model} {h : Heap} {b : Bool} {base : Value} (I : Ins h e ox C) (X : (KF w).In h) (hm : mroIn (KF w) C base = some b) : Looks M h (isInstance (.ref e) base) b := I.type.andThen (looks_mroIn X hm)
/-- the own dict's word -/
theorem Ins.own {M : Model} {h : Heap} {d : Addr} {m : Str → Option Value} {name : Str} (I : Ins h e ox C) (X : (KF w).In h) {cd : ClassData} (hc : clsIn (KF w) C = some cd) (hd : cd.hasDict = true) (od : ox.dict = some d) (hn : h.Ns d m) :
    Looks M h (inOwnDict name (.ref e)) (m name) := by
  intro A Q E s k q
  obtain ⟨hx, hcl, hn'⟩ := I
  obtain ⟨oc, odi, oda, osl⟩ := ox
  dsimp only at hcl od
  subst hcl od
  have L := looks_clsIn (M := M) X hc
  have body : wpAny M A (instanceDict e false) (fun a s' => wpAny M A (inDict name a) Q E s') E s := by
    unfold instanceDict
    refine wpAny_bind (wpAny_loadPart (k _ _ hx) ?_)
    dsimp only
    refine wpAny_bind (L A _ E s k ?_)
    rw [hd]
    refine wpAny_pure (a := some d) ?_
    exact wpAny_nsGet (hn.keeps k) q
  refine wpAny_bind (wpAny_bind (wpAny_loadPart (k _ _ hx) ?_))
  cases oda <;> first | exact body | cases hn'
theorem Ins.own0 {M : Model} {h : Heap} {name : Str} (I : Ins h e ox C) (X : (KF w).In h) {cd : ClassData} (hc : clsIn (KF w) C = some cd) (hd : cd.hasDict = true) (od : ox.dict = none) :
    Looks M h (inOwnDict name (.ref e)) none := by
  intro A Q E s k q
  obtain ⟨hx, hcl, hn'⟩ := I
  obtain ⟨oc, odi, oda, osl⟩ := ox
  dsimp only at hcl od
  subst hcl od
  have L := looks_clsIn (M := M) X hc
  have body : wpAny M A (instanceDict e false) (fun a s' => wpAny M A (inDict name a) Q E s') E s := by
    unfold instanceDict
    refine wpAny_bind (wpAny_loadPart (k _ _ hx) ?_)
    dsimp only
    refine wpAny_bind (L A _ E s k ?_)
    rw [hd]
    refine wpAny_pure (a := none) ?_
    exact wpAny_pure q
  refine wpAny_bind (wpAny_bind (wpAny_loadPart (k _ _ hx) ?_))
  cases oda <;> first | exact body | cases hn'
/-- reading at an exception, up to what the look finds -/
theorem get_exc0 {name : Str} {r : Found} {expr : Bool} {Q : Value → Shared → Prop} (X : (KF w).In s.heap) (Y : ExC w C) (I : Ins s.heap e ox C)
    (L3 : Looks (model prog w) s.heap (find (.ref e) (.ref C) name) r)
    (h : match r with
      | .value v => wpAny (model prog w) A (handedOut v) Q E { s with toks := s.toks + 1 }
      | .missing => wpAny (model prog w) A.in1 (noSuchAttribute (α := Fin) (.ref e) name) (fun _ _ => False) (fun e' s' => wpAny (model prog w) A (getattributeRaised (.ref e) (.str name s.toks) (.ref C) e' none true expr) Q E s') { s with toks := s.toks + 1 }
      | .bind g a => False) :
    wpAny (model prog w) A (getAttr (.ref e) name expr) Q E s := by
  obtain ⟨hh', g, dd, t, os⟩ := s
  have L0 := I.type (M := model prog w)
  have L1 := looks_findIn (M := model prog w) X Y.ga
  have L2 := looks_findIn (M := model prog w) X Y.gh
  have hx0 : (expr && onTheHeap (Value.builtin "BaseException.__getattribute__")) = false := by cases expr <;> rfl
  have hx2 : (Value.builtin "BaseException.__getattribute__" == Value.builtin "object.__getattribute__") = false := by decide +kernel
  have hx1 : (onTheHeap (Value.ref C) && Value.builtin "BaseException.__getattribute__" == Value.builtin "object.__getattribute__") = false := by rw [hx2]; rfl
  have hb := PySem.F.attr_Exception.ga.bind (.ref e)
  unfold getAttr getAttrBy
  refine wpAny_bind (wpAny_mkText (wpAny_holding (wpAny_bind (L0.at (wpAny_bind (L1.at ?_))))))
  dsimp only
  rw [hx1]
  unfold getAttrByItsOwn callGetattribute boundAndCalled hookBefore
  refine wpAny_bind (L2.at (wpAny_bind (wpAny_attempt (wpAny_holding ?_))))
  rw [hx0]
  dsimp only [Bool.false_eq_true, if_false]
  rw [hb]
  refine wpAny_bind (wpAny_pure (wpAny_call ?_))
  refine codeAny_call_builtin (id := "BaseException.__getattribute__") (by decide +kernel) F.entry_bexc_ga (@check_slot (model prog w) _ _ _ "BaseException.__getattribute__" "BaseException" "__getattribute__" (.ref e) _ [] _ (by decide +kernel) (by decide +kernel) (I.inst X Y.base) (F.args_bexc_ga (.ref e) _) ?_)
  unfold Builtin.«object.__getattribute__»
  refine wpAny_bind (wpAny_pure (wpAny_bind (wpAny_pure (wpAny_bind (L0.at (wpAny_bind (L3.at ?_)))))))
  cases r with
  | value v => exact wpAny_pure h
  | bind g a => exact h.elim
  | missing => exact wpAny_mono h (fun _ _ z => z.elim) fun _ _ z => z
/-- a field of an exception -/
theorem get_exc {d : Addr} {m : Str → Option Value} {name : Str} {v : Value} {expr : Bool} {Q : Value → Shared → Prop} (X : (KF w).In s.heap) (Y : ExC w C) (I : Ins s.heap e ox C) (od : ox.dict = some d) (hn : s.heap.Ns d m)
    (hf : findIn (KF w) (.ref C) name = some none) (hv : m name = some v) (hh : handedOut v = pure v) (h : Q v { s with toks := s.toks + 1 }) :
    wpAny (model prog w) A (getAttr (.ref e) name expr) Q E s := by
  obtain ⟨cd, hcd, hhd, -⟩ := Y.cls
  have L3 : Looks (model prog w) s.heap (find (.ref e) (.ref C) name) (.value v) :=
    (looks_findIn X hf).andThen (Looks.now.andThen (Looks.now.andThen ((I.own X hcd hhd od hn (name := name)).andThen (by rw [hv]; exact Looks.tag .now))))
  refine get_exc0 X Y I L3 ?_
  dsimp only
  rw [hh]
  exact wpAny_pure h
/-- a method of an exception's class -/
theorem meth_exc {f d : Addr} {m : Str → Option Value} {name : Str} {pl : Sem Bool} {Q : Value × List Value → Shared → Prop} (X : (KF w).In s.heap) (Y : ExC w C) (I : Ins s.heap e ox C) (od : ox.dict = some d) (hn : s.heap.Ns d m)
    (hf : findIn (KF w) (.ref C) name = some (some (.ref f))) (ht : typeIn (KF w) (.ref f) = some (.type "function")) (hs : m name = none) (h : Q (.ref f, [.ref e]) s) :
    wpAny (model prog w) A (getMethod (.ref e) name pl) Q E s := by
  have hcan : (Manifest.canonical "BaseException.__getattribute__" != "object.__getattribute__") = false := by decide +kernel
  unfold getMethod specialOf
  refine wpAny_bind (wpAny_bind (I.type.here ((looks_findIn X Y.ga).here ?_)))
  dsimp only
  rw [hcan, if_neg (by decide)]
  refine wpAny_bind (wpAny_bind (I.type.here ((looks_findIn X Y.gh).here ?_)))
  refine wpAny_bind (wpAny_bind (I.type.here ((looks_findIn X hf).here (wpAny_bind ((looks_typeIn X ht).here ?_)))))
  rw [if_neg (by decide +kernel)]
  refine wpAny_bind (wpAny_loadPart I.at_ ?_)
  rw [od]
  refine wpAny_bind (wpAny_nsGet hn ?_)
  rw [hs]
  exact wpAny_bind (wpAny_rule (wpAny_pure h))
/-- storing a field, up to the own dict -/
theorem set_exc0 {name : Str} {v : Value} {Q : Unit → Shared → Prop} (X : (KF w).In s.heap) (Y : ExC w C) (I : Ins s.heap e ox C) (hf : findIn (KF w) (.ref C) name = some none)
    (h : wpAny (model prog w) A.in1 (instanceDict e true) (fun r s₁ => match r with
      | some d => wpAny (model prog w) A.in1 (nsSet d name v) (fun _ s₂ => wpAny (model prog w) A.in1 (lookBehind d (some (.str name 0))) (fun _ s₃ => Q () s₃) (fun _ _ => False) s₂) (fun _ _ => False) s₁
      | none => False) (fun _ _ => False) { s with toks := s.toks + 1 }) :
    wpAny (model prog w) A (setAttr (.ref e) name v) Q E s := by
  have SF := PySem.F.store_object
  obtain ⟨cd, hcd, hhd, hrf⟩ := Y.cls
  refine wpAny_bind (wpAny_mkText (wpAny_bind (wpAny_bind (wpAny_bind (I.type _ _ _ _ (fun _ _ e => e) (looks_findIn X Y.sa _ _ _ _ (fun _ _ e => e) (wpAny_holding ?_)))))))
  rw [SF.slot.bind]
  refine wpAny_bind (wpAny_pure (wpAny_bind (wpAny_call ?_)))
  refine codeAny_call_builtin SF.slot.plain SF.entry (@check_slot (model prog w) _ _ _ "object.__setattr__" "object" "__setattr__" (.ref e) [.str name s.toks, v] [] _ SF.kind SF.split (I.inst X Y.obj) (SF.args (.ref e) (.str name s.toks) v) ?_)
  have hm : Looks (model prog w) s.heap (mroOf (.ref C)) cd.mro := (looks_clsIn X hcd).andThen .now
  show wpAny (model prog w) A.in1 (Builtin.«object.__setattr__» ⟨[.ref e, .str name s.toks, v], []⟩) _ _ _
  rw [osa_eq, refuse_eq]
  refine wpAny_bind (wpAny_bind (I.type.at (wpAny_bind (hm.at ?_))))
  rw [hrf]
  refine wpAny_pure (wpAny_bind (I.type.at (wpAny_bind ((looks_findIn X hf).at (wpAny_bind (wpAny_pure ?_))))))
  show wpAny (model prog w) A.in1 (storeInOwnDict (.ref e) (.ref C) (.str name s.toks) name v false) _ _ _
  unfold storeInOwnDict ownStreamTells ownDictForStores
  refine wpAny_bind (wpAny_pure ?_)
  refine wpAny_bind (wpAny_mono h (fun r s₁ z => ?_) (fun _ _ z => z.elim))
  cases r with
  | none => exact z.elim
  | some d =>
    refine wpAny_bind (wpAny_pure (wpAny_bind (wpAny_mono z (fun _ s₂ z2 => wpAny_bind (wpAny_mono z2 (fun _ s₃ z3 => ?_) fun _ _ q => q.elim)) fun _ _ q => q.elim)))
    exact wpAny_pure (wpAny_pure (wpAny_pure z3))
/-- storing into the own dict that stands -/
theorem set_exc {d : Addr} {n : Nat} {m : Str → Option Value} {name : Str} {v : Value} {Q : Unit → Shared → Prop} (X : (KF w).In s.heap) (Y : ExC w C) (I : Ins s.heap e ox C) (hf : findIn (KF w) (.ref C) name = some none)
    (od : ox.dict = some d) (hn : DictAt s.heap d n m) (hsz : n ≤ 1000)
    (h : ∀ h' tk, DictAt h' d (n + 1) (fun x => if x = name then some v else m x) → Heap.SameBut d s.heap h' → Q () { s with heap := h', toks := tk }) :
    wpAny (model prog w) A (setAttr (.ref e) name v) Q E s := by
  obtain ⟨cd, hcd, hhd, -⟩ := Y.cls
  refine set_exc0 X Y I hf ?_
  obtain ⟨hx, hcl, hn'⟩ := I
  obtain ⟨oc, odi, oda, osl⟩ := ox
  dsimp only at hcl od
  subst hcl od
  unfold instanceDict
  refine wpAny_bind (wpAny_loadPart hx ?_)
  dsimp only
  refine wpAny_bind ((looks_clsIn X hcd).at ?_)
  rw [hhd]
  refine wpAny_pure (a := some d) ?_
  obtain ⟨hns, o, es, ep, ho, hoc, hod, hos⟩ := hn
  refine nsSet_own hns fun h' n1 n2 n3 => ?_
  obtain ⟨o', e', c', z⟩ := n3 o ho
  obtain ⟨es', ep', hd', hs'⟩ := z es ep hod
  exact wpAny_lookBehind e' (by rw [hd']; exact pastItsLine_dict (by rw [sizeLine_eq]; omega)) (h _ _ ⟨n1, o', es', ep', e', c'.trans hoc, hd', by omega⟩ n2)
/-- the first store makes the dict -/
theorem set_exc_new {t : Addr} {tb : Value} {name : Str} {v : Value} {Q : Unit → Shared → Prop} (X : (KF w).In s.heap) (Y : ExC w C) (hx : s.heap.get? e = some (excO C none t tb)) (hf : findIn (KF w) (.ref C) name = some none)
    (h : ∀ h' tk d, d = s.heap.objs.size → DictAt h' d 1 (fun x => if x = name then some v else none) → h'.get? e = some (excO C (some d) t tb) → (∀ b o, b ≠ e → s.heap.get? b = some o → h'.get? b = some o) → Q () { s with heap := h', toks := tk }) :
    wpAny (model prog w) A (setAttr (.ref e) name v) Q E s := by
  obtain ⟨cd, hcd, hhd, -⟩ := Y.cls
  have I : Ins s.heap e (excO C none t tb) C := ⟨hx, rfl, rfl⟩
  refine set_exc0 X Y I hf ?_
  have ne : e ≠ s.heap.objs.size := Nat.ne_of_lt (Heap.lt_size hx)
  unfold instanceDict
  refine wpAny_bind (wpAny_loadPart hx ?_)
  dsimp only
  refine wpAny_bind ((looks_clsIn X hcd).at ?_)
  rw [hhd]
  refine wpAny_bind (wpAny_alloc (wpAny_bind (wpAny_update (Heap.get?_push_of_some _ hx) ?_)))
  refine wpAny_pure ?_
  have hu := Heap.get?_update_self (fun o : Obj => { o with dict := some s.heap.objs.size }) (Heap.get?_push_of_some { cls := .type "dict", data := .dict #[] } hx) rfl
  have hs : Heap.SameBut e (s.heap.push { cls := .type "dict", data := .dict #[] }) ((s.heap.push { cls := .type "dict", data := .dict #[] }).update e fun o => { o with dict := some s.heap.objs.size }) := Heap.SameBut.update ..
  have hd : ((s.heap.push { cls := .type "dict", data := .dict #[] }).update e fun o => { o with dict := some s.heap.objs.size }).get? s.heap.objs.size = some { cls := .type "dict", data := .dict #[] } := (hs.2 _ (Ne.symm ne)).trans (Heap.get?_push_size _ rfl)
  have hns : Heap.Ns ((s.heap.push { cls := .type "dict", data := .dict #[] }).update e fun o => { o with dict := some s.heap.objs.size }) s.heap.objs.size (fun _ => none) := (Heap.Ns.new ..).sameBut hs (Ne.symm ne)
  dsimp only
  refine nsSet_own hns fun h' n1 n2 n3 => ?_
  obtain ⟨o', e', c', z⟩ := n3 _ hd
  obtain ⟨es', ep', hd', hs'⟩ := z _ _ rfl
  refine wpAny_lookBehind e' (by rw [hd']; exact pastItsLine_dict (by rw [sizeLine_eq]; simp at hs'; omega)) (h _ _ _ rfl ⟨n1, o', es', ep', e', c', hd', by simpa using hs'⟩ ((n2.2 _ ne).trans hu) fun b o hb eb => ?_)
  exact (n2.2 b (Nat.ne_of_lt (Heap.lt_size eb))).trans ((hs.2 b hb).trans (Heap.get?_push_of_some _ eb))
end
end Mine
end
section
open PySem PySem.W PyProof.Rows PySem.Calls
open PySem.Builtin PySem.Builtin.ObjectAttr PySem.Builtin.BaseException
set_option Elab.async false
set_option linter.unusedVariables false
set_option maxRecDepth 100000
namespace Mine
section
variable {prog : Program} {w : World} {A : Around} {E : Value → Shared → Prop} {s : Shared} {C e : Addr} {ox : Obj}
theorem check_init {M : Model} {v : Value} {Q : Unit → Shared → Prop} (X : (KF w).In s.heap) (Y : ExC w C) (I : Ins s.heap e ox C) (h : Q () s) : wpAny M A (checkBuiltinCall "Exception.__init__" ⟨[.ref e, v], []⟩) Q E s := by
  have FB := PySem.F.excBase_Exception
  have hshort := FB.noStar
  simp only [checkBuiltinCall, FB.initKind, FB.initSplit, FB.initRow]
  refine wpAny_bind ((I.inst X Y.exc).here ?_)
  obtain ⟨hh', g, dd, t, os⟩ := s
  obtain ⟨hx, hcl, hno⟩ := I
  obtain ⟨cd, hcd, -, -⟩ := Y.cls
  have LC := looks_clsIn (M := M) X hcd
  dsimp only at hx
  repeat (first | (with_reducible refine wpAny_loadPart_at hx ?_; rw [hcl]) | with_reducible refine LC.at ?_ | wp_step)
  exact h
/-- Exception.__init__(self, v) -/
theorem init_base {d : Option Addr} {t : Addr} {tb v : Value} {Q : Value → Shared → Prop} (X : (KF w).In s.heap) (Y : ExC w C) (hx : s.heap.get? e = some (excO C d t tb))
    (h : ∀ h' t', h'.get? e = some (excO C d t' tb) → (∀ b o, b ≠ e → s.heap.get? b = some o → h'.get? b = some o) → Q .none { s with heap := h' }) :
    wpAny (model prog w) A (call (.builtin "Exception.__init__") [.ref e, v]) Q E s := by
  have FB := PySem.F.excBase_Exception
  have I : Ins s.heap e (excO C d t tb) C := ⟨hx, rfl, rfl⟩
  refine wpAny_call (codeAny_call_builtin (id := "Exception.__init__") FB.init.plain FB.initEntry (check_init X Y I ?_))
  show wpAny (model prog w) A.in1 (newTuple [v] >>= fun r => bexcPut (.ref e) 0 r >>= fun _ => ret .none) _ _ _
  have ne : e ≠ s.heap.objs.size := Nat.ne_of_lt (Heap.lt_size hx)
  refine wpAny_bind (wpAny_newObj_type ?_ (by show _ ≤ sizeLine; simp [sizeLine]))
  have hx' := Heap.get?_push_of_some { cls := .type "tuple", dict := none, data := .seq [v].toArray } hx
  unfold bexcPut
  refine wpAny_bind (wpAny_bind (wpAny_field hx' rfl rfl (wpAny_bind (wpAny_setField hx' rfl (by show 0 < 6; decide) ?_))))
  refine wpAny_letGo (wpAny_pure (h _ s.heap.objs.size ?_ ?_))
  · exact Heap.get?_update_self _ hx' rfl
  · intro b o hb eb
    exact (Heap.get?_update_other _ _ (Ne.symm hb)).trans (Heap.get?_push_of_some _ eb)
theorem opq : opaqueClassAbove (.type "Exception") = pure none := by kernel_rfl
/-- Exception.__init__, read -/
theorem meth_excinit {pl : Sem Bool} {Q : Value × List Value → Shared → Prop} (X : (KF w).In s.heap) (h : Q (.builtin "Exception.__init__", []) { s with toks := s.toks + 1 }) :
    wpAny (model prog w) A (getMethod (.type "Exception") "__init__" pl) Q E s := by
  have hl : typeLookup (.type "type") "__getattribute__" = pure (some (.builtin "type.__getattribute__")) := by rw [typeLookup_type, builtinLookup_eq_fast]; kernel_rfl
  have ht : typeOf (.type "Exception") = pure (.type "type") := by kernel_rfl
  unfold getMethod specialOf
  rw [ht]
  refine wpAny_bind (wpAny_bind (wpAny_pure ?_))
  rw [hl]
  refine wpAny_pure ?_
  dsimp only
  rw [if_pos canon_tga]
  refine wpAny_bind (wpAny_mono (Q := fun v s' => Q (v, []) s') ?_ (fun _ _ z => wpAny_pure z) fun _ _ z => z)
  refine cls_open X (.of_pure opq) (.of_pure ht) (by kernel_rfl) (.of_pure rfl) (by kernel_rfl) (r := .val (.builtin "Exception.__init__")) (by kernel_rfl) ?_
  refine wpAny_pure (handed_on (by kernel_rfl) h)
theorem callB {M : Model} {env : Env} {pos : Pos} {first : List Value} {id : String} {e : Expr} {rest : List Expr} {Q : Value → Shared → Prop}
    (h : wpAny M A (spliced (backTo pos (starEach (e :: rest) env))) (fun vs s₁ => wpAny M A (call (.builtin id) (first ++ vs)) Q E s₁) E s)
    (he : starEach (e :: rest) env = (false, eval e env) :: starEach rest env := by rfl) (hplain : (backTo pos (starEach rest env)).any (·.1) = false := by rfl) :
    wpAny M A (callWith pos (.builtin id) first (backTo pos (starEach (e :: rest) env)) []) Q E s := by
  rw [he] at h ⊢
  exact callWith_of (P := fun _ => True) (by show ((false || (backTo pos (starEach rest env)).any (·.1)) || false) = false; rw [hplain]; rfl) (fun h _ => ⟨.machine, .inr (.inl rfl), Looks.now⟩) (evalArgs_plain (wpAny_mono h (fun _ _ z => ⟨trivial, z⟩) fun _ _ z => z))
/-- a method's call -/
theorem CallM {M : Model} {env : Env} {o : Expr} {name : Str} {apos pos : Pos} {args : List Expr} {Q : Value → Shared → Prop}
    (h : wpAny M A (eval o env) (fun ov s₁ => ∀ pl, wpAny M A (getMethod ov name pl) (fun ff s₂ => wpAny M A (callWith pos ff.1 ff.2 (backTo pos (starEach args env)) []) Q E s₂) E s₁) E s)
    (hb : attributeBase o name env (eval o env) = eval o env := by rfl) (hf : methodCallForm (args.length + 0) (backTo pos (starEach args env)) [] = true := by rfl) (hl : (apos.endLine == pos.line) = true := by rfl) :
    wpAny M A (eval (.Call (.Attribute o name apos) args [] pos) env) Q E s := by
  rw [arm_eval_Call, hb]
  refine wpAny_bind (wpAny_mono h (fun ov s₁ z => ?_) fun _ _ z => z)
  refine wpAny_bind (wpAny_standAt ?_)
  show wpAny M A (methodCall o name apos pos env ov (args.length + 0) (backTo pos (starEach args env)) []) Q E s₁
  unfold methodCall calleeOf methodCallPos
  rw [hf, hl]
  refine wpAny_bind (wpAny_holding (wpAny_mono (z _) (fun ff s₂ y => ?_) fun _ _ z => z))
  exact wpAny_bind (wpAny_pure y)
end
end Mine
end
section
open PySem PySem.W PyProof.Rows PySem.Calls
open PySem.Builtin PySem.Builtin.ObjectAttr PySem.Builtin.BaseException
set_option Elab.async false
set_option linter.unusedVariables false
set_option maxRecDepth 100000
namespace Mine
/-- the frames on the stack -/
def FF (H h : Heap) (l : List Env) : Prop := ∀ env ∈ l, env.scope.kind ≠ .module ∧ ∃ L o es n, env.frame = some L ∧ H.objs.size ≤ L ∧ h.get? L = some o ∧ o.cls = .type "frame" ∧ o.data = .dict es n
theorem FF.kp {H h h' : Heap} {S : Addr → Prop} {l : List Env} (x : FF H h l) (k : Kp H S h h') (hS : ∀ b o, S b → h.get? b = some o → o.cls ≠ .type "frame") : FF H h' l := fun env he => by
  obtain ⟨hk, L, o, es, n, hf, hL, ho, hc, hd⟩ := x env he
  obtain ⟨sl, z⟩ := (k.at_ L o ho fun q => hS L o q ho hc).frame hc
  exact ⟨hk, L, _, es, n, hf, hL, z, hc, hd⟩
structure Gd (H : Heap) (A : Around) (h : Heap) (d u : Nat) : Prop where
  depth : A.depth + d < 1000
  units : A.units + u < 9900
  fr : ∃ l, A.frames = some l ∧ FF H h l
theorem Gd.kp {H h h' : Heap} {A : Around} {S : Addr → Prop} {d u : Nat} (g : Gd H A h d u) (k : Kp H S h h') (hS : ∀ b o, S b → h.get? b = some o → o.cls ≠ .type "frame") : Gd H A h' d u :=
  ⟨g.depth, g.units, let ⟨l, a, b⟩ := g.fr; ⟨l, a, b.kp k hS⟩⟩
theorem Gd.kp0 {H h h' : Heap} {A : Around} {d u : Nat} (g : Gd H A h d u) (k : Kp H (fun _ => False) h h') : Gd H A h' d u := g.kp k fun _ _ q => q.elim
theorem Gd.le {H h : Heap} {A : Around} {d u d' u' : Nat} (g : Gd H A h d u) (hd : d' ≤ d) (hu : u' ≤ u) : Gd H A h d' u' :=
  ⟨Nat.lt_of_le_of_lt (Nat.add_le_add_left hd _) g.depth, Nat.lt_of_le_of_lt (Nat.add_le_add_left hu _) g.units, g.fr⟩
theorem Gd.deeper {H h h₀ : Heap} {S : Addr → Prop} {A : Around} {d u : Nat} {L a : Addr} {m : Str → Option Value} {objs : List (Addr × Obj)} {cn : Str} {cs : Scope} {cd : Value} (g : Gd H A h₀ (d + 1) (u + 3)) (W : St H S h₀ L h m objs) (hk : cs.kind = .function) :
    Gd H (A.deeper (envOf cn cs L a cd)) h d u := by
  obtain ⟨g1, g2, l, g3, g4⟩ := g
  refine ⟨by show A.depth + 1 + d < 1000; omega, by show A.units + 3 + u < 9900; omega, envOf cn cs L a cd :: l, by show A.frames.map _ = _; rw [g3]; rfl, fun env he => ?_⟩
  rcases List.mem_cons.mp he with rfl | he
  · obtain ⟨o, ho, hc⟩ := W.fr
    obtain ⟨o', es, n, ho', hd, _⟩ := W.F.ns
    rw [ho] at ho'; cases ho'
    exact ⟨by show cs.kind ≠ _; rw [hk]; decide, L, o, es, n, rfl, W.F.above, ho, hc, hd⟩
  · obtain ⟨hk', L', o, es, n, hf, hL, ho, hc, hd⟩ := g4 env he
    by_cases hs : L' = L ∨ S L'
    · rcases hs with rfl | hs
      · rw [W.out] at ho; cases ho
      · exact absurd hc (W.s0 L' hs o ho)
    · obtain ⟨sl, z⟩ := (W.k.at_ L' o ho hs).frame hc
      exact ⟨hk', L', _, es, n, hf, hL, z, hc, hd⟩
theorem Gd.in1 {H h : Heap} {A : Around} {d u : Nat} (g : Gd H A h d (u + 1)) : Gd H A.in1 h d u := ⟨g.depth, by have := g.units; show A.units + 1 + u < 9900; omega, g.fr⟩
local macro_rules | `(tactic| ktr_unf) => `(tactic| ((case k6 => rfl); (case k7 => kernel_rfl); (case k9 => intro S; kernel_rfl); (case c5 => kernel_rfl); (case kB => kernel_rfl); (case c2 => exact rfl); (case c3 => exact rfl); (case c4 => exact rfl)))
section
variable {prog : Program} {w : World} {A : Around} {E : Value → Shared → Prop} {s : Shared} {H : Heap}
/-- SAXException.__init__ (29), the exception handed in -/
theorem init29 {C e t : Addr} {tb msg exc : Value} {pos : List Value} {kw : List (Str × Value)} {Q : Value → Shared → Prop} (hb : ∀ oc od fd sl, (KF w).lookup 29 = some ⟨oc, od, .func fd, sl⟩ → ∀ S, peek (KF w) S (bindArgs fd ⟨pos, kw⟩) = some ([("self", .ref e), ("msg", msg), ("exception", exc)] : List (Str × Value))) (G : Gr w H) (U : Up H s.heap) (Y : ExC w C) (f1 : findIn (KF w) (.ref C) "_msg" = some none) (f2 : findIn (KF w) (.ref C) "_exception" = some none)
    (hx : s.heap.get? e = some (excO C none t tb)) (he : H.objs.size ≤ e) (hd : A.depth < 900)
    (h : ∀ h' tk d t', DictAt h' d 2 (fun x => if x = "_exception" then some exc else if x = "_msg" then some msg else none) → h'.get? e = some (excO C (some d) t' tb) → s.heap.get? d = none → H.objs.size ≤ d → Kp H (· = e) s.heap h' → Q .none { s with heap := h', toks := tk }) :
    wpAny (model prog w) A (call (.ref 29) pos kw) Q E s := by
  refine' enterF [("self", .ref e), ("msg", msg), ("exception", exc)] G U (· = e) (fun b q => q ▸ ⟨he, _, hx, (by intro q; cases q), (by intro q; cases q)⟩) ?k6 (Nat.lt_of_lt_of_le hd (by decide)) ?k7 ?k9 ?kB ?c2 ?c3 ?c4 ?c5 ?_
  (case k6 => rfl); (case k7 => kernel_rfl); (case k9 => exact hb _ _ _ _ rfl); (case c5 => kernel_rfl); (case kB => kernel_rfl); (case c2 => exact rfl); (case c3 => exact rfl); (case c4 => exact rfl)
  intro L h₁ hL hk₁ W
  have X₁ := G.X.keeps W.F.keep
  have eL : e ≠ L := W.ne rfl
  have hx₁ := hk₁ e _ hx
  -- self._msg = msg
  refine wpAny_execs_cons (plainObj_wpAny_Assign_Attribute ?_)
  refine ld W.F (v := msg) (by kernel_rfl) ?_ rfl rfl (by kernel_rfl)
  refine ld W.F (v := .ref e) (by kernel_rfl) ?_ rfl rfl (by kernel_rfl)
  refine set_exc_new X₁ Y hx₁ f1 ?_
  intro h₂ tk₂ d hd₂ D₂ hx₂ k₂
  have W₂ : St H (· = e) s.heap L h₂ _ [] := W.turn (objs' := []) ⟨fun b o eb nb => .inl (k₂ b o nb eb)⟩ (fun b q o eb => by subst q; rw [hx₁] at eb; cases eb; exact ⟨_, hx₂, rfl⟩) (fun _ hp => nomatch hp)
  have X₂ := G.X.keeps W₂.F.keep
  have dH : H.objs.size ≤ d := by have := Fr.up W.F; rw [hd₂]; exact this.size
  have d0 : s.heap.get? d = none := by
    cases q : s.heap.get? d with
    | none => rfl
    | some o => have := Heap.lt_size (hk₁ d o q); rw [hd₂] at this; exact absurd this (Nat.lt_irrefl _)
  -- self._exception = exception
  refine wpAny_execs_cons (plainObj_wpAny_Assign_Attribute ?_)
  refine ld W₂.F (v := exc) (by kernel_rfl) ?_ rfl rfl (by kernel_rfl)
  refine ld W₂.F (v := .ref e) (by kernel_rfl) ?_ rfl rfl (by kernel_rfl)
  refine set_exc X₂ Y ⟨hx₂, rfl, rfl⟩ f2 rfl D₂ (by decide) ?_
  intro h₃ tk₃ D₃ k₃
  have de : d ≠ e := fun z => by
    obtain ⟨_, o, _, _, ho, hc, _⟩ := D₂
    rw [z, hx₂] at ho; cases ho; cases hc
  have W₃ : St H (· = e) s.heap L h₃ _ [] := W₂.own k₃ d0 dH (fun o ho => by
    obtain ⟨_, o', _, _, ho', hc, _⟩ := D₂
    rw [ho] at ho'; cases ho'; rw [hc]
    exact ⟨fun z => absurd (Value.type.inj z) (by decide), fun z => absurd (Value.type.inj z) (by decide)⟩) de (fun _ hp => nomatch hp)
  have hx₃ : h₃.get? e = some (excO C (some d) t tb) := (k₃.2 e (Ne.symm de)).trans hx₂
  have X₃ := G.X.keeps W₃.F.keep
  -- Exception.__init__(self, msg)
  refine wpAny_execs_cons (wpAny_Expr_any (CallM ?_))
  refine bi G W₃.F (v := .type "Exception") (by kernel_rfl) (by kernel_rfl) (by decide) ?_ rfl rfl (by kernel_rfl)
  intro pl
  refine meth_excinit X₃ (callB ?_)
  refine spliced_more ?_
  refine ld W₃.F (v := .ref e) (by kernel_rfl) ?_ rfl rfl (by kernel_rfl)
  refine spliced_more ?_
  refine ld W₃.F (v := msg) (by kernel_rfl) ?_ rfl rfl (by kernel_rfl)
  refine spliced_none ?_
  refine init_base X₃ Y hx₃ ?_
  intro h₄ t₄ hx₄ k₄
  refine wpAny_execs_nil ?_
  have W₄ : St H (· = e) s.heap L h₄ _ [] := W₃.turn (objs' := []) ⟨fun b o eb nb => .inl (k₄ b o nb eb)⟩ (fun b q o eb => by subst q; rw [hx₃] at eb; cases eb; exact ⟨_, hx₄, rfl⟩) (fun _ hp => nomatch hp)
  refine h _ _ d t₄ ?_ hx₄ d0 dH W₄.done
  exact D₃.kp (H := H) (S := (· = e)) ⟨fun b o eb nb => .inl (k₄ b o nb eb)⟩ de
end
end Mine
end
section
open PySem PySem.W PyProof.Rows PySem.Calls
open PySem.Builtin PySem.Builtin.ObjectAttr PySem.Builtin.BaseException
set_option Elab.async false
set_option linter.unusedVariables false
set_option maxRecDepth 100000
namespace Mine
local macro_rules | `(tactic| ktr_unf) => `(tactic| ((case k6 => rfl); (case k7 => kernel_rfl); (case k9 => intro S; kernel_rfl); (case c5 => kernel_rfl); (case kB => kernel_rfl); (case c2 => exact rfl); (case c3 => exact rfl); (case c4 => exact rfl)))
def m2 (msg exc : Value) : Str → Option Value := fun x => if x = "_exception" then some exc else if x = "_msg" then some msg else none
def m4 (msg exc loc sys col line : Value) : Str → Option Value := fun x => if x = "_linenum" then some line else if x = "_colnum" then some col else if x = "_systemId" then some sys else if x = "_locator" then some loc else if x = "_exception" then some exc else if x = "_msg" then some msg else none
abbrev selfSc : Scope := { kind := .function, names := [("self", .local)], isGenerator := false, isCoroutine := false, more := [] }
abbrev selfB (e : Addr) : List (Str × Value) := [("self", .ref e)]
/-- an error in the heap: its kind, its fields -/
def ErrAt (H h : Heap) (e : Addr) (k : Nat) (m : Str → Option Value) : Prop := ∃ d t tb, h.get? e = some (excO (clsOf k) (some d) t tb) ∧ DictAt h d 6 m ∧ TbOk h tb ∧ H.objs.size ≤ e ∧ H.objs.size ≤ d
theorem ErrAt.kp {H h h' : Heap} {e : Addr} {k : Nat} {m : Str → Option Value} (x : ErrAt H h e k m) (q : Kp H (fun _ => False) h h') : ErrAt H h' e k m := by
  obtain ⟨d, t, tb, x1, x2, x3, x4, x5⟩ := x
  have D := x2.kp q id
  rcases q.at_ e _ x1 id with y | ⟨_, y, _⟩ | ⟨_, C, d', t', tb1, tb', y1, y2, y3⟩
  · exact ⟨d, t, tb, y, D, x3.kp q fun _ _ => id, x4, x5⟩
  · cases y
  · have : clsOf k = C ∧ some d = d' := by
      simp only [excO, Obj.mk.injEq, Value.ref.injEq] at y1
      exact ⟨y1.1, y1.2.1⟩
    obtain ⟨rfl, rfl⟩ := this
    exact ⟨d, t', tb', y2, D, y3, x4, x5⟩
section
variable {prog : Program} {w : World} {A : Around} {E : Value → Shared → Prop} {s : Shared} {H : Heap}
/-- def f(self): return self.attr, at an exception -/
theorem getter {k : Nat} {m : Str → Option Value} {v : Value} {attr : Str} {p1 p2 p3 : Pos} {e : Addr} {Q : Value → Shared → Prop} {name qual : Str} {params : Arguments} {dV kV doc pm cdv ct oc : Value} {an od : Option Addr} {osl : Array (Option Value)} {f : Addr}
    (G : Gr w H) (U : Up H s.heap) (hd : A.depth < 900) (x : ErrAt H s.heap e k m) (hf : findIn (KF w) (.ref (clsOf k)) attr = some none) (hv : m attr = some v) (hh : handedOut v = pure v)
    (ho : (KF w).lookup f = some ⟨oc, od, .func (fnOf name qual params [.Return (some (.Attribute (.Name "self" p1) attr p2)) p3] selfSc dV kV doc pm an cdv ct), osl⟩)
    (hcd : codeIn (KF w) cdv qual = true) (hbind : ∀ S, peek (KF w) S (bindArgs (fnOf name qual params [.Return (some (.Attribute (.Name "self" p1) attr p2)) p3] selfSc dV kV doc pm an cdv ct) ⟨[.ref e], []⟩) = some (selfB e))
    (h : ∀ h' tk, Kp H (fun _ => False) s.heap h' → Q v { s with heap := h', toks := tk }) :
    wpAny (model prog w) A (call (.ref f) [.ref e]) Q E s := by
  refine enterF (selfB e) G U (fun _ => False) (fun _ q => q.elim) ho (Nat.lt_of_lt_of_le hd (by decide)) hcd hbind (by kernel_rfl) rfl rfl rfl (by kernel_rfl) ?_
  intro L h₁ hL hk₁ W
  obtain ⟨d, t, tb, x1, x2, x3, x4, x5⟩ := x
  refine wpAny_execs_cons (wpAny_Return_some (Attribute_Name_ ?_))
  refine ld W.F (v := .ref e) (by kernel_rfl) ?_ rfl rfl (by kernel_rfl)
  refine get_exc (G.X.keeps W.F.keep) (exC w k) ⟨hk₁ _ _ x1, rfl, rfl⟩ rfl (x2.1.keeps hk₁) hf hv hh ?_
  exact h _ _ W.done
theorem no_msg (w : World) (k : Nat) : findIn (KF w) (.ref (clsOf k)) "_msg" = some none := clsOf_cases k (fun C => findIn (KF w) (.ref C) "_msg" = some none) (by kernel_rfl) (by kernel_rfl) (by kernel_rfl) (by kernel_rfl) (by kernel_rfl)
theorem no_exception (w : World) (k : Nat) : findIn (KF w) (.ref (clsOf k)) "_exception" = some none := clsOf_cases k (fun C => findIn (KF w) (.ref C) "_exception" = some none) (by kernel_rfl) (by kernel_rfl) (by kernel_rfl) (by kernel_rfl) (by kernel_rfl)
theorem no_locator (w : World) (k : Nat) : findIn (KF w) (.ref (clsOf k)) "_locator" = some none := clsOf_cases k (fun C => findIn (KF w) (.ref C) "_locator" = some none) (by kernel_rfl) (by kernel_rfl) (by kernel_rfl) (by kernel_rfl) (by kernel_rfl)
theorem no_systemId (w : World) (k : Nat) : findIn (KF w) (.ref (clsOf k)) "_systemId" = some none := clsOf_cases k (fun C => findIn (KF w) (.ref C) "_systemId" = some none) (by kernel_rfl) (by kernel_rfl) (by kernel_rfl) (by kernel_rfl) (by kernel_rfl)
theorem no_colnum (w : World) (k : Nat) : findIn (KF w) (.ref (clsOf k)) "_colnum" = some none := clsOf_cases k (fun C => findIn (KF w) (.ref C) "_colnum" = some none) (by kernel_rfl) (by kernel_rfl) (by kernel_rfl) (by kernel_rfl) (by kernel_rfl)
theorem no_linenum (w : World) (k : Nat) : findIn (KF w) (.ref (clsOf k)) "_linenum" = some none := clsOf_cases k (fun C => findIn (KF w) (.ref C) "_linenum" = some none) (by kernel_rfl) (by kernel_rfl) (by kernel_rfl) (by kernel_rfl) (by kernel_rfl)
theorem get36 {k : Nat} {m : Str → Option Value} {v : Value} {e : Addr} {Q : Value → Shared → Prop} (G : Gr w H) (U : Up H s.heap) (hd : A.depth < 900) (x : ErrAt H s.heap e k m) (hv : m "_msg" = some v) (hh : handedOut v = pure v)
    (h : ∀ h' tk, Kp H (fun _ => False) s.heap h' → Q v { s with heap := h', toks := tk }) : wpAny (model prog w) A (call (.ref 36) [.ref e]) Q E s :=
  getter G U hd x (no_msg w k) hv hh rfl (by kernel_rfl) (fun S => by kernel_rfl) h
theorem get43 {k : Nat} {m : Str → Option Value} {v : Value} {e : Addr} {Q : Value → Shared → Prop} (G : Gr w H) (U : Up H s.heap) (hd : A.depth < 900) (x : ErrAt H s.heap e k m) (hv : m "_exception" = some v) (hh : handedOut v = pure v)
    (h : ∀ h' tk, Kp H (fun _ => False) s.heap h' → Q v { s with heap := h', toks := tk }) : wpAny (model prog w) A (call (.ref 43) [.ref e]) Q E s :=
  getter G U hd x (no_exception w k) hv hh rfl (by kernel_rfl) (fun S => by kernel_rfl) h
theorem get50 {k : Nat} {m : Str → Option Value} {v : Value} {e : Addr} {Q : Value → Shared → Prop} (G : Gr w H) (U : Up H s.heap) (hd : A.depth < 900) (x : ErrAt H s.heap e k m) (hv : m "_msg" = some v) (hh : handedOut v = pure v)
    (h : ∀ h' tk, Kp H (fun _ => False) s.heap h' → Q v { s with heap := h', toks := tk }) : wpAny (model prog w) A (call (.ref 50) [.ref e]) Q E s :=
  getter G U hd x (no_msg w k) hv hh rfl (by kernel_rfl) (fun S => by kernel_rfl) h
theorem get84 {k : Nat} {m : Str → Option Value} {v : Value} {e : Addr} {Q : Value → Shared → Prop} (G : Gr w H) (U : Up H s.heap) (hd : A.depth < 900) (x : ErrAt H s.heap e k m) (hv : m "_colnum" = some v) (hh : handedOut v = pure v)
    (h : ∀ h' tk, Kp H (fun _ => False) s.heap h' → Q v { s with heap := h', toks := tk }) : wpAny (model prog w) A (call (.ref 84) [.ref e]) Q E s :=
  getter G U hd x (no_colnum w k) hv hh rfl (by kernel_rfl) (fun S => by kernel_rfl) h
theorem get91 {k : Nat} {m : Str → Option Value} {v : Value} {e : Addr} {Q : Value → Shared → Prop} (G : Gr w H) (U : Up H s.heap) (hd : A.depth < 900) (x : ErrAt H s.heap e k m) (hv : m "_linenum" = some v) (hh : handedOut v = pure v)
    (h : ∀ h' tk, Kp H (fun _ => False) s.heap h' → Q v { s with heap := h', toks := tk }) : wpAny (model prog w) A (call (.ref 91) [.ref e]) Q E s :=
  getter G U hd x (no_linenum w k) hv hh rfl (by kernel_rfl) (fun S => by kernel_rfl) h
theorem get105 {k : Nat} {m : Str → Option Value} {v : Value} {e : Addr} {Q : Value → Shared → Prop} (G : Gr w H) (U : Up H s.heap) (hd : A.depth < 900) (x : ErrAt H s.heap e k m) (hv : m "_systemId" = some v) (hh : handedOut v = pure v)
    (h : ∀ h' tk, Kp H (fun _ => False) s.heap h' → Q v { s with heap := h', toks := tk }) : wpAny (model prog w) A (call (.ref 105) [.ref e]) Q E s :=
  getter G U hd x (no_systemId w k) hv hh rfl (by kernel_rfl) (fun S => by kernel_rfl) h
end
end Mine
end
section
open PySem PySem.W PyProof.Rows PySem.Calls
open PySem.Builtin PySem.Builtin.ObjectAttr PySem.Builtin.BaseException
set_option Elab.async false
set_option linter.unusedVariables false
set_option maxRecDepth 100000
namespace Mine
local macro_rules | `(tactic| ktr_unf) => `(tactic| ((case k6 => rfl); (case k7 => kernel_rfl); (case k9 => intro S; kernel_rfl); (case c5 => kernel_rfl); (case kB => kernel_rfl); (case c2 => exact rfl); (case c3 => exact rfl); (case c4 => exact rfl)))
abbrev KpN (H h h' : Heap) : Prop := Kp H (fun _ => False) h h'
theorem KpN.trans {H h h₁ h₂ : Heap} (x : KpN H h h₁) (y : KpN H h₁ h₂) : KpN H h h₂ := Kp.trans x y fun _ _ _ q => q.elim
theorem Up.kpN {H h h' : Heap} (U : Up H h) (k : KpN H h h') (L : ∃ b o, H.objs.size ≤ b ∧ h.get? b = some o) : Up H h' := ⟨fun b o e => k.low (U.keep b o e) (Heap.lt_size e) id, by
  obtain ⟨b, o, hb, e⟩ := L
  obtain ⟨o', e', _⟩ := (k.at_ b o e id).cls
  exact Nat.le_trans hb (Nat.le_of_lt (Heap.lt_size e'))⟩
/-- plain answers -/
inductive Dv where
  | n
  | i (k : Int)
  | s (x : Str)
def Dv.Is : Dv → Value → Prop
  | .n, v => v = .none
  | .i k, v => ∃ t, v = .int k t
  | .s x, v => ∃ t, v = .str x t
theorem Dv.handed {r : Dv} {v : Value} (h : r.Is v) : handedOut v = pure v := by
  cases r with
  | n => cases h; rfl
  | i k => obtain ⟨t, rfl⟩ := h; rfl
  | s x => obtain ⟨t, rfl⟩ := h; rfl
/-- v.name() answers r, now and as long as nothing of the state turns -/
def Ask (prog : Program) (w : World) (H h : Heap) (v : Value) (name : Str) (r : Dv) (d u : Nat) : Prop :=
  ∀ (A : Around) (E : Value → Shared → Prop) (s : Shared) (Q : Value → Shared → Prop) (pl : Sem Bool) (pos : Pos) (env : Env), Up H s.heap → KpN H h s.heap → Gd H A s.heap d u →
    (∀ h' tk v', r.Is v' → KpN H s.heap h' → Q v' { s with heap := h', toks := tk }) →
    wpAny (model prog w) A (getMethod v name pl) (fun ff s₂ => wpAny (model prog w) A (callWith pos ff.1 ff.2 (backTo pos (starEach [] env)) []) Q E s₂) E s
theorem Ask.kp {prog : Program} {w : World} {H h h' : Heap} {v : Value} {name : Str} {r : Dv} {d u : Nat} (x : Ask prog w H h v name r d u) (k : KpN H h h') : Ask prog w H h' v name r d u :=
  fun A E s Q pl pos env U k' g q => x A E s Q pl pos env U (k.trans k') g q
theorem Ask.le {prog : Program} {w : World} {H h : Heap} {v : Value} {name : Str} {r : Dv} {d u d' u' : Nat} (x : Ask prog w H h v name r d u) (hd : d ≤ d') (hu : u ≤ u') : Ask prog w H h v name r d' u' :=
  fun A E s Q pl pos env U k' g q => x A E s Q pl pos env U k' (g.le hd hu) q
section
variable {prog : Program} {w : World} {H h : Heap}
theorem ask_sys {e : Addr} {m : Str → Option Value} {v : Value} {r : Dv} (G : Gr w H) (x : ErrAt H h e 4 m) (hs : m "getSystemId" = none) (hv : m "_systemId" = some v) (hh : r.Is v) : Ask prog w H h (.ref e) "getSystemId" r 100 10 := by
  intro A E s Q pl pos env U k g q
  have y := x.kp k
  have X := G.X.keeps U.keep
  obtain ⟨d, t, tb, x1, x2, x3, x4, x5⟩ := id y
  refine meth_exc X (exC w 4) ⟨x1, rfl, rfl⟩ rfl x2.1 (f := 105) (by kernel_rfl) (by kernel_rfl) hs ?_
  refine callWith_K0 X (by kernel_rfl) ?_
  exact get105 G U (by have := g.depth; omega) y hv (Dv.handed hh) fun h' tk k' => q h' tk v hh k'
theorem ask_col {e : Addr} {m : Str → Option Value} {v : Value} {r : Dv} (G : Gr w H) (x : ErrAt H h e 4 m) (hs : m "getColumnNumber" = none) (hv : m "_colnum" = some v) (hh : r.Is v) : Ask prog w H h (.ref e) "getColumnNumber" r 100 10 := by
  intro A E s Q pl pos env U k g q
  have y := x.kp k
  have X := G.X.keeps U.keep
  obtain ⟨d, t, tb, x1, x2, x3, x4, x5⟩ := id y
  refine meth_exc X (exC w 4) ⟨x1, rfl, rfl⟩ rfl x2.1 (f := 84) (by kernel_rfl) (by kernel_rfl) hs ?_
  refine callWith_K0 X (by kernel_rfl) ?_
  exact get84 G U (by have := g.depth; omega) y hv (Dv.handed hh) fun h' tk k' => q h' tk v hh k'
theorem ask_line {e : Addr} {m : Str → Option Value} {v : Value} {r : Dv} (G : Gr w H) (x : ErrAt H h e 4 m) (hs : m "getLineNumber" = none) (hv : m "_linenum" = some v) (hh : r.Is v) : Ask prog w H h (.ref e) "getLineNumber" r 100 10 := by
  intro A E s Q pl pos env U k g q
  have y := x.kp k
  have X := G.X.keeps U.keep
  obtain ⟨d, t, tb, x1, x2, x3, x4, x5⟩ := id y
  refine meth_exc X (exC w 4) ⟨x1, rfl, rfl⟩ rfl x2.1 (f := 91) (by kernel_rfl) (by kernel_rfl) hs ?_
  refine callWith_K0 X (by kernel_rfl) ?_
  exact get91 G U (by have := g.depth; omega) y hv (Dv.handed hh) fun h' tk k' => q h' tk v hh k'
/-- the public identifier, through the locator -/
theorem ask_pub {e : Addr} {m : Str → Option Value} {loc : Value} {v : Dv} {d u : Nat} (G : Gr w H) (x : ErrAt H h e 4 m) (hs : m "getPublicId" = none) (hv : m "_locator" = some loc) (hh : handedOut loc = pure loc) (hL : Ask prog w H h loc "getPublicId" v d u) : Ask prog w H h (.ref e) "getPublicId" v (d + 1) (u + 3) := by
  intro A E s Q pl pos env U k g q
  have y := x.kp k
  have X := G.X.keeps U.keep
  obtain ⟨dd, t, tb, x1, x2, x3, x4, x5⟩ := id y
  refine meth_exc X (exC w 4) ⟨x1, rfl, rfl⟩ rfl x2.1 (f := 98) (by kernel_rfl) (by kernel_rfl) hs ?_
  refine callWith_K0 X (by kernel_rfl) ?_
  refine' enterF (selfB e) G U (fun _ => False) (fun _ q => q.elim) ?k6 (by have := g.depth; show _ < 1000; omega) ?k7 ?k9 ?kB ?c2 ?c3 ?c4 ?c5 ?_
  ktr_unf
  intro L h₁ hL₁ hk₁ W
  refine wpAny_execs_cons (wpAny_Return_some (CallM (Attribute_Name_ ?_)))
  refine ld W.F (v := .ref e) (by kernel_rfl) ?_ rfl rfl (by kernel_rfl)
  refine get_exc (G.X.keeps W.F.keep) (exC w 4) ⟨hk₁ _ _ x1, rfl, rfl⟩ rfl (x2.1.keeps hk₁) (by kernel_rfl) hv hh ?_
  intro pl'
  refine hL _ _ _ _ pl' _ _ (Fr.up W.F) (k.trans W.done) (g.deeper W rfl) ?_
  intro h₂ tk₂ v₂ i₂ k₂
  exact q _ _ v₂ i₂ (KpN.trans W.done k₂)
end
end Mine
end
section
open PySem PySem.W PyProof.Rows PySem.Calls
open PySem.Builtin PySem.Builtin.ObjectAttr PySem.Builtin.BaseException
set_option Elab.async false
set_option linter.unusedVariables false
set_option maxRecDepth 100000
namespace Mine
local macro_rules | `(tactic| ktr_unf) => `(tactic| ((case k6 => rfl); (case k7 => kernel_rfl); (case k9 => intro S; kernel_rfl); (case c5 => kernel_rfl); (case kB => kernel_rfl); (case c2 => exact rfl); (case c3 => exact rfl); (case c4 => exact rfl)))
/-- an error in the making -/
def ErrNew (H h₀ h : Heap) (e : Addr) (k n : Nat) (m : Str → Option Value) : Prop := ∃ d t tb, h.get? e = some (excO (clsOf k) (some d) t tb) ∧ DictAt h d n m ∧ TbOk h tb ∧ H.objs.size ≤ e ∧ H.objs.size ≤ d ∧ h₀.get? d = none
theorem ErrNew.kp {H h₀ h h' : Heap} {e : Addr} {k n : Nat} {m : Str → Option Value} (x : ErrNew H h₀ h e k n m) (q : KpN H h h') : ErrNew H h₀ h' e k n m := by
  obtain ⟨d, t, tb, x1, x2, x3, x4, x5, x6⟩ := x
  have D := x2.kp q id
  rcases q.at_ e _ x1 id with y | ⟨_, y, _⟩ | ⟨_, C, d', t', tb1, tb', y1, y2, y3⟩
  · exact ⟨d, t, tb, y, D, x3.kp q fun _ _ => id, x4, x5, x6⟩
  · cases y
  · have : clsOf k = C ∧ some d = d' := by
      simp only [excO, Obj.mk.injEq, Value.ref.injEq] at y1
      exact ⟨y1.1, y1.2.1⟩
    obtain ⟨rfl, rfl⟩ := this
    exact ⟨d, t', tb', y2, D, y3, x4, x5, x6⟩
theorem ErrNew.err {H h₀ h : Heap} {e : Addr} {k n : Nat} {m : Str → Option Value} (x : ErrNew H h₀ h e k n m) (hn : n ≤ 6) : ErrAt H h e k m := by
  obtain ⟨d, t, tb, x1, ⟨y1, o, es, ep, y2, y3, y4, y5⟩, x3, x4, x5, x6⟩ := x
  exact ⟨d, t, tb, x1, ⟨y1, o, es, ep, y2, y3, y4, Nat.le_trans y5 hn⟩, x3, x4, x5⟩
section
variable {prog : Program} {w : World} {A : Around} {E : Value → Shared → Prop} {s : Shared} {H h₀ : Heap} {L e : Addr} {k n : Nat} {m mm : Str → Option Value}
theorem set_new {name : Str} {v : Value} {Q : Unit → Shared → Prop} (G : Gr w H) (W : St H (· = e) h₀ L s.heap mm []) (x : ErrNew H h₀ s.heap e k n m) (hf : findIn (KF w) (.ref (clsOf k)) name = some none) (hn : n ≤ 1000)
    (h : ∀ h' tk, St H (· = e) h₀ L h' mm [] → ErrNew H h₀ h' e k (n + 1) (fun y => if y = name then some v else m y) → Q () { s with heap := h', toks := tk }) : wpAny (model prog w) A (setAttr (.ref e) name v) Q E s := by
  obtain ⟨d, t, tb, x1, x2, x3, x4, x5, x6⟩ := x
  refine set_exc (G.X.keeps W.F.keep) (exC w k) ⟨x1, rfl, rfl⟩ hf rfl x2 hn ?_
  intro h' tk D k'
  have hd : ∀ o, s.heap.get? d = some o → o.cls = .type "dict" := fun o ho => by
    obtain ⟨_, o', _, _, ho', hc, _⟩ := x2
    rw [ho] at ho'; cases ho'; exact hc
  have de : d ≠ e := fun z => by
    have := hd _ (by rw [z]; exact x1); cases this
  have hT : ∀ o, s.heap.get? d = some o → o.cls ≠ .type "traceback" ∧ o.cls ≠ .type "frame" := fun o ho => by
    rw [hd o ho]
    exact ⟨fun z => absurd (Value.type.inj z) (by decide), fun z => absurd (Value.type.inj z) (by decide)⟩
  exact h _ _ (W.own k' x6 x5 hT de (fun _ hp => nomatch hp)) ⟨d, t, tb, (k'.2 e (Ne.symm de)).trans x1, D, x3.same k' fun o ho => (hT o ho).1, x4, x5, x6⟩
theorem get_new {name : Str} {v : Value} {expr : Bool} {Q : Value → Shared → Prop} (G : Gr w H) (W : St H (· = e) h₀ L s.heap mm []) (x : ErrNew H h₀ s.heap e k n m) (hf : findIn (KF w) (.ref (clsOf k)) name = some none) (hv : m name = some v) (hh : handedOut v = pure v)
    (h : Q v { s with toks := s.toks + 1 }) : wpAny (model prog w) A (getAttr (.ref e) name expr) Q E s := by
  obtain ⟨d, t, tb, x1, x2, x3, x4, x5, x6⟩ := x
  exact get_exc (G.X.keeps W.F.keep) (exC w k) ⟨x1, rfl, rfl⟩ rfl x2.1 hf hv hh h
/-- nothing of the time before e has turned -/
theorem pre_kp {hp h h' : Heap} (x : KpN H hp h) (y : Kp H (· = e) h h') (he : hp.get? e = none) (hx : ∀ o, h.get? e = some o → o.cls ≠ .type "traceback") : KpN H hp h' :=
  (Kp.trans (x.mono fun _ _ _ q => q.elim) y (fun b o eb q => by subst q; exact hx o eb)).mono fun b o eb q => by subst q; rw [he] at eb; cases eb
/-- SAXException.__init__, read off the class -/
theorem meth_init60 {pl : Sem Bool} {Q : Value × List Value → Shared → Prop} (X : (KF w).In s.heap) (h : Q (.ref 29, []) { s with toks := s.toks + 1 }) : wpAny (model prog w) A (getMethod (.ref 60) "__init__" pl) Q E s :=
  method_cls X (by kernel_rfl) (cls_value X (mc := .type "type") (by kernel_rfl) (v := .ref 29) (by kernel_rfl) (by kernel_rfl) h)
/-- SAXParseException.__init__ (77) -/
theorem init77 {hp : Heap} {t : Addr} {msg exc loc : Value} {sys col line : Dv} {Q : Value → Shared → Prop} (G : Gr w H) (U : Up H s.heap) (g : Gd H A s.heap 110 30)
    (hx : s.heap.get? e = some (excO 115 none t .none)) (he : H.objs.size ≤ e) (kp : KpN H hp s.heap) (hpe : hp.get? e = none)
    (a1 : Ask prog w H hp loc "getSystemId" sys 100 10) (a2 : Ask prog w H hp loc "getColumnNumber" col 100 10) (a3 : Ask prog w H hp loc "getLineNumber" line 100 10) (hh : handedOut loc = pure loc)
    (h : ∀ h' tk sv cv lv, sys.Is sv → col.Is cv → line.Is lv → ErrAt H h' e 4 (m4 msg exc loc sv cv lv) → Kp H (· = e) s.heap h' → Q .none { s with heap := h', toks := tk }) :
    wpAny (model prog w) A (call (.ref 77) [.ref e, msg, exc, loc]) Q E s := by
  refine' enterF [("self", .ref e), ("msg", msg), ("exception", exc), ("locator", loc)] G U (· = e) (fun b q => q ▸ ⟨he, _, hx, (by intro q; cases q), (by intro q; cases q)⟩) ?k6 (by have := g.depth; show _ < 1000; omega) ?k7 ?k9 ?kB ?c2 ?c3 ?c4 ?c5 ?_
  ktr_unf
  intro L h₁ hL hk₁ W
  have X₁ := G.X.keeps W.F.keep
  have hx₁ := hk₁ e _ hx
  have nt : ∀ o, s.heap.get? e = some o → o.cls ≠ .type "traceback" := fun o ho => by rw [hx] at ho; cases ho; intro z; cases z
  -- SAXException.__init__(self, msg, exception)
  refine wpAny_execs_cons (wpAny_Expr_any (CallM ?_))
  refine gl G W.F (v := .ref 60) (by kernel_rfl) ?_ rfl rfl (by kernel_rfl)
  intro pl
  refine meth_init60 X₁ (callWith_K X₁ (by kernel_rfl) ?_)
  refine spliced_more ?_
  refine ld W.F (v := .ref e) (by kernel_rfl) ?_ rfl rfl (by kernel_rfl)
  refine spliced_more ?_
  refine ld W.F (v := msg) (by kernel_rfl) ?_ rfl rfl (by kernel_rfl)
  refine spliced_more ?_
  refine ld W.F (v := exc) (by kernel_rfl) ?_ rfl rfl (by kernel_rfl)
  refine spliced_none ⟨X₁, ?_⟩
  refine init29 (msg := msg) (exc := exc) (e := e) (fun _ _ _ _ q S => by cases q; kernel_rfl) G (Fr.up W.F) (exC w 4) (no_msg w 4) (no_exception w 4) hx₁ he (by have := g.depth; show A.depth + 1 < 900; omega) ?_
  intro h₂ tk₂ d₂ t₂ D₂ hx₂ hd₂ dH k₂
  have W₂ : St H (· = e) s.heap L h₂ _ [] := W.turn (objs' := []) k₂ (fun b q o eb => by subst q; rw [hx₁] at eb; cases eb; exact ⟨_, hx₂, rfl⟩) (fun _ hp => nomatch hp)
  have d0 : s.heap.get? d₂ = none := by
    cases q : s.heap.get? d₂ with
    | none => rfl
    | some o => have := hk₁ d₂ o q; rw [hd₂] at this; cases this
  have N₂ : ErrNew H s.heap h₂ e 4 2 (m2 msg exc) := ⟨d₂, t₂, .none, hx₂, D₂, .inl rfl, he, dH, d0⟩
  -- self._locator = locator
  refine wpAny_execs_cons (plainObj_wpAny_Assign_Attribute ?_)
  refine ld W₂.F (v := loc) (by kernel_rfl) ?_ rfl rfl (by kernel_rfl)
  refine ld W₂.F (v := .ref e) (by kernel_rfl) ?_ rfl rfl (by kernel_rfl)
  refine set_new G W₂ N₂ (no_locator w 4) (by decide) ?_
  intro h₃ tk₃ W₃ N₃
  -- self._systemId = self._locator.getSystemId()
  refine wpAny_execs_cons (plainObj_wpAny_Assign_Attribute (CallM (Attribute_Name_ ?_)))
  refine ld W₃.F (v := .ref e) (by kernel_rfl) ?_ rfl rfl (by kernel_rfl)
  refine get_new G W₃ N₃ (no_locator w 4) (v := loc) (by kernel_rfl) hh ?_
  intro pl
  refine a1 _ _ _ _ pl _ _ (Fr.up W₃.F) (pre_kp kp W₃.done hpe nt) ((g.le (d' := 100 + 1) (u' := 10 + 3) (by omega) (by omega)).deeper W₃ rfl) ?_
  intro h₄ tk₄ sv i₄ k₄
  have W₄ := W₃.call k₄
  have N₄ := N₃.kp k₄
  refine ld W₄.F (v := .ref e) (by kernel_rfl) ?_ rfl rfl (by kernel_rfl)
  refine set_new G W₄ N₄ (no_systemId w 4) (by decide) ?_
  intro h₅ tk₅ W₅ N₅
  -- self._colnum
  refine wpAny_execs_cons (plainObj_wpAny_Assign_Attribute (CallM (Attribute_Name_ ?_)))
  refine ld W₅.F (v := .ref e) (by kernel_rfl) ?_ rfl rfl (by kernel_rfl)
  refine get_new G W₅ N₅ (no_locator w 4) (v := loc) (by kernel_rfl) hh ?_
  intro pl
  refine a2 _ _ _ _ pl _ _ (Fr.up W₅.F) (pre_kp kp W₅.done hpe nt) ((g.le (d' := 100 + 1) (u' := 10 + 3) (by omega) (by omega)).deeper W₅ rfl) ?_
  intro h₆ tk₆ cv i₆ k₆
  have W₆ := W₅.call k₆
  have N₆ := N₅.kp k₆
  refine ld W₆.F (v := .ref e) (by kernel_rfl) ?_ rfl rfl (by kernel_rfl)
  refine set_new G W₆ N₆ (no_colnum w 4) (by decide) ?_
  intro h₇ tk₇ W₇ N₇
  -- self._linenum
  refine wpAny_execs_cons (plainObj_wpAny_Assign_Attribute (CallM (Attribute_Name_ ?_)))
  refine ld W₇.F (v := .ref e) (by kernel_rfl) ?_ rfl rfl (by kernel_rfl)
  refine get_new G W₇ N₇ (no_locator w 4) (v := loc) (by kernel_rfl) hh ?_
  intro pl
  refine a3 _ _ _ _ pl _ _ (Fr.up W₇.F) (pre_kp kp W₇.done hpe nt) ((g.le (d' := 100 + 1) (u' := 10 + 3) (by omega) (by omega)).deeper W₇ rfl) ?_
  intro h₈ tk₈ lv i₈ k₈
  have W₈ := W₇.call k₈
  have N₈ := N₇.kp k₈
  refine ld W₈.F (v := .ref e) (by kernel_rfl) ?_ rfl rfl (by kernel_rfl)
  refine set_new G W₈ N₈ (no_linenum w 4) (by decide) ?_
  intro h₉ tk₉ W₉ N₉
  refine wpAny_execs_nil ?_
  exact h _ _ sv cv lv i₄ i₆ i₈ (N₉.err (by decide)) W₉.done
end
end Mine
end
section
open PySem PySem.W PyProof.Rows PySem.Calls
open PySem.Builtin PySem.Builtin.ObjectAttr PySem.Builtin.BaseException
set_option Elab.async false
set_option linter.unusedVariables false
set_option maxRecDepth 100000
namespace Mine
/-- what the heap says of a class of ours -/
def ClsOk (h : Heap) (C : Addr) : Prop := ∃ nm q N bs bm hdct sn sub ab col dd k0 k1 k2 k3 k5, h.get? C = some (excClassObj nm q C N bs bm hdct sn sub ab col dd k0 k1 k2 k3 k5 "Exception.__new__") ∧
  (Value.ref C :: bm).contains (.type "Exception") = true ∧ (Value.ref C :: bm).contains (.type "AttributeError") = false ∧ (Value.ref C :: bm).contains (.type "NameError") = false
theorem clsOk {w : World} {h : Heap} (X : (KF w).In h) (k : Nat) : ClsOk h (clsOf k) :=
  clsOf_cases k (ClsOk h)
    ⟨_, _, _, _, _, _, _, _, _, _, _, _, _, _, _, _, X _ _ rfl, by decide +kernel, by decide +kernel, by decide +kernel⟩
    ⟨_, _, _, _, _, _, _, _, _, _, _, _, _, _, _, _, X _ _ rfl, by decide +kernel, by decide +kernel, by decide +kernel⟩
    ⟨_, _, _, _, _, _, _, _, _, _, _, _, _, _, _, _, X _ _ rfl, by decide +kernel, by decide +kernel, by decide +kernel⟩
    ⟨_, _, _, _, _, _, _, _, _, _, _, _, _, _, _, _, X _ _ rfl, by decide +kernel, by decide +kernel, by decide +kernel⟩
    ⟨_, _, _, _, _, _, _, _, _, _, _, _, _, _, _, _, X _ _ rfl, by decide +kernel, by decide +kernel, by decide +kernel⟩
section
variable {prog : Program} {w : World} {M : Model} {A : Around} {E : Value → Shared → Prop} {h : Heap} {g : Array GenState} {d : Drawn} {t : Nat} {os : OsState}
variable {nm q : Str} {C N : Addr} {bs bm : List Value} {hdct : Bool} {sn : List Str} {sub : List Value} {ab : Bool} {col : Option Bool} {dd : Option Addr} {k0 k1 k2 k3 k5 : Option Value}
theorem check_newX {rest : List Value} {kw : List (Str × Value)} {Q : Unit → Shared → Prop} (hC : h.get? C = some (excClassObj nm q C N bs bm hdct sn sub ab col dd k0 k1 k2 k3 k5 "Exception.__new__")) (hcont : (Value.ref C :: bm).contains (.type "Exception") = true)
    (hq : Q () ⟨h, g, d, t, os⟩) : wpAny M A (checkBuiltinCall "Exception.__new__" ⟨.ref C :: rest, kw⟩) Q E ⟨h, g, d, t, os⟩ := by
  have F := PySem.F.excBase_Exception
  have hstar := F.noStar
  simp only [checkBuiltinCall, F.newKind, F.newSplit, F.newRow]
  repeat (first | refine wpAny_loadPart_at hC ?_ | (refine wpAny_isSubtype_exc hC ?_; rw [hcont]) | refine wpAny_staticBase_exc hC ?_ | refine wpAny_madeBy_exc hC ?_ | simp only [bne_self_eq_false, Bool.false_eq_true, if_false] | wp_step)
  exact hq
theorem exc_newX {R : Result → Shared → Prop} {rest : List Value} {kw : List (Str × Value)} (hC : h.get? C = some (excClassObj nm q C N bs bm hdct sn sub ab col dd k0 k1 k2 k3 k5 "Exception.__new__"))
    (hcB : (Value.ref C :: bm).contains (.type "Exception") = true) (hcA : (Value.ref C :: bm).contains (.type "AttributeError") = false) (hcN : (Value.ref C :: bm).contains (.type "NameError") = false)
    (hq : R (.ok (.ret (.ref (h.objs.size + 1)))) ⟨(h.push { cls := .type "tuple", data := .seq rest.toArray }).push (excO C none h.objs.size .none), g, d, t, os⟩) (hrest : rest.length ≤ sizeLine) :
    codeAny (model prog w) A (.builtin "Exception.__new__" ⟨.ref C :: rest, kw⟩) R ⟨h, g, d, t, os⟩ := by
  have F := PySem.F.excBase_Exception
  have hends := F.ends
  refine codeAny_builtinAt F.entry ?_
  unfold Builtin.«BaseException.__new__»
  refine PySem.wpAt_bind ?_
  show PySem.wpAt _ _ _ (stack >>= _) _ _ _
  refine PySem.wpAt_bind (PySem.wpAt_stack fun p below => PySem.wpAt_of_wpAny ?_)
  wp_walk
  refine PySem.wpAt_of_wpAny ?_
  rw [F.owner]
  repeat (first | with_reducible refine wpAny_madeHere_exc F.canon hC ?_ | with_reducible refine wpAny_loadPart_at hC ?_ | (with_reducible refine wpAny_isSubtype_exc hC ?_; first | rw [hcB] | rw [hcA] | rw [hcN]) | wp_step)
  show R _ _
  rw [Heap.size_push]
  exact hq
theorem check_tcX {rest : List Value} {kw : List (Str × Value)} {Q : Unit → Shared → Prop} (hC : h.get? C = some (excClassObj nm q C N bs bm hdct sn sub ab col dd k0 k1 k2 k3 k5 "Exception.__new__"))
    (hq : Q () ⟨h, g, d, t, os⟩) : wpAny M A (checkBuiltinCall "type.__call__" ⟨.ref C :: rest, kw⟩) Q E ⟨h, g, d, t, os⟩ := by
  have f3 := tc_sub
  have hT : (⟨h, g, d, t, os⟩ : Shared).TypeIs (.ref C) "type" := ⟨_, hC, rfl⟩
  simp only [checkBuiltinCall, tc_kind, tc_split]
  repeat (any_goals (first | assumption | with_reducible refine wpAny_loadPart_at hC ?_ | with_reducible refine wpAny_onRaise ?_ | with_reducible refine wpAny_map ?_ | wp_step))
/-- a class of ours called: the new thing, then its __init__ -/
theorem ctor {k : Nat} {fI : Addr} {rest : List Value} {kw : List (Str × Value)} {Q : Value → Shared → Prop} {s : Shared} (X : (KF w).In s.heap) (hi : findIn (KF w) (.ref (clsOf k)) "__init__" = some (some (.ref fI))) (hf : typeIn (KF w) (.ref fI) = some (.type "function")) (hrest : rest.length ≤ 1000)
    (hq : ∀ h' e t', (∀ b o, s.heap.get? b = some o → h'.get? b = some o) → s.heap.get? e = none → s.heap.objs.size ≤ e → h'.get? e = some (excO (clsOf k) none t' .none) →
      wpAny (model prog w) (A.under (.builtin "type.__call__" ⟨.ref (clsOf k) :: rest, kw⟩)) (call (.ref fI) (.ref e :: rest) kw) (fun r s' => r = .none ∧ Q (.ref e) s') E { s with heap := h' }) :
    wpAny (model prog w) A (call (.ref (clsOf k)) rest kw) Q E s := by
  obtain ⟨h, g, d, t, os⟩ := s
  have F := PySem.F.excBase_Exception
  obtain ⟨nm, q, N, bs, bm, hdct, sn, sub, ab, col, dd, k0, k1, k2, k3, k5, hC, hcB, hcA, hcN⟩ := clsOk X k
  have hrest' : rest.length ≤ sizeLine := Nat.le_trans hrest (by rw [sizeLine_eq]; decide)
  have f1 := tc_lookup
  have f2 := tc_bind (.ref (clsOf k))
  have hT : (⟨h, g, d, t, os⟩ : Shared).TypeIs (.ref (clsOf k)) "type" := ⟨_, hC, rfl⟩
  refine wpAny_call (codeAny_of_tree ?_)
  show wpAny _ _ (callAny (.ref (clsOf k)) _) _ _ _
  repeat (any_goals (first | assumption | with_reducible refine wpAny_loadPart_at hC ?_ | wp_step))
  refine ⟨rfl, ?_⟩
  refine codeAny_call_builtin_at (Code.quiet_builtin _ (by decide +kernel)) entry_typeCall (check_tcX hC ?_)
  repeat (first | with_reducible refine wpAny_loadPart_at hC ?_ | with_reducible refine wpAny_madeBy_exc hC ?_ | wp_step)
  refine codeAny_call_builtin_code (Code.quiet_builtin _ F.quiet) (check_newX hC hcB ?_)
  refine exc_newX hC hcB hcA hcN ?_ hrest'
  show wpAny _ _ _ _ _ _
  have kp : ∀ b o, h.get? b = some o → ((h.push { cls := .type "tuple", data := .seq rest.toArray }).push (excO (clsOf k) none h.objs.size .none)).get? b = some o := fun b o e => Heap.get?_push_of_some _ (Heap.get?_push_of_some _ e)
  have X₁ := X.keeps kp
  have hC₁ := kp _ _ hC
  have hget : ((h.push { cls := .type "tuple", data := .seq rest.toArray }).push (excO (clsOf k) none h.objs.size .none)).get? (h.objs.size + 1) = some (excO (clsOf k) none h.objs.size .none) := by heap_get
  have I : Ins ((h.push { cls := .type "tuple", data := .seq rest.toArray }).push (excO (clsOf k) none h.objs.size .none)) (h.objs.size + 1) (excO (clsOf k) none h.objs.size .none) (clsOf k) := ⟨hget, rfl, rfl⟩
  have hcC : (Value.ref (clsOf k) :: bm).contains (.ref (clsOf k)) = true := by simp
  unfold isInstance
  refine wpAny_bind (wpAny_bind (I.type.at ?_))
  refine wpAny_isSubtype_exc hC₁ ?_
  rw [hcC]
  rw [if_neg (by decide)]
  refine wpAny_bind (wpAny_holding ?_)
  unfold callSpecial? specialOf
  refine wpAny_bind (wpAny_bind (I.type.at ((looks_findIn X₁ hi).at ?_)))
  refine wpAny_holding (wpAny_bind ((bind_fn X₁ _ hf).at ?_))
  refine wpAny_bind (wpAny_mono (hq _ (h.objs.size + 1) h.objs.size kp (Heap.get?_none_of_le (Nat.le_succ _)) (Nat.le_succ _) hget) (fun r s' z => ?_) fun _ _ z => z)
  obtain ⟨rfl, z⟩ := z
  refine wpAny_pure ?_
  dsimp only
  rw [if_neg (by decide)]
  exact wpAny_pure z
end
end Mine
end
section
open PySem PySem.W PyProof.Rows PySem.Calls
open PySem.Builtin PySem.Builtin.ObjectAttr PySem.Builtin.BaseException
set_option Elab.async false
set_option linter.unusedVariables false
set_option maxRecDepth 100000
namespace Mine
theorem tc_weight (C : Addr) (rest : List Value) (kw : List (Str × Value)) : (Code.builtin "type.__call__" ⟨.ref C :: rest, kw⟩).weight = 1 := by rfl
theorem Gd.make {H h : Heap} {A : Around} {d u : Nat} {C : Addr} {rest : List Value} {kw : List (Str × Value)} (g : Gd H A h (d + 1) (u + 4)) : Gd H (A.under (.builtin "type.__call__" ⟨.ref C :: rest, kw⟩)) h d u := by
  obtain ⟨g1, g2, l, g3, g4⟩ := g
  refine ⟨?_, ?_, l, ?_, g4⟩
  · show A.depth + Code.weight _ + d < 1000
    rw [tc_weight]; omega
  · show A.units + Code.cUnits _ + u < 9900
    have : (Code.builtin "type.__call__" ⟨.ref C :: rest, kw⟩).cUnits = 1 := rfl
    rw [this]
    omega
  · show pushEnvs (Code.builtin "type.__call__" ⟨.ref C :: rest, kw⟩).envs A.frames = some l
    rw [show (Code.builtin "type.__call__" ⟨.ref C :: rest, kw⟩).envs = [] from rfl]
    exact g3
section
variable {prog : Program} {w : World} {A : Around} {E : Value → Shared → Prop} {s : Shared} {H : Heap}
/-- SAXParseException(msg, exc, loc) -/
theorem mkParse {msg exc loc : Value} {sys col line : Dv} {Q : Value → Shared → Prop} (G : Gr w H) (U : Up H s.heap) (g : Gd H A s.heap 111 34)
    (a1 : Ask prog w H s.heap loc "getSystemId" sys 100 10) (a2 : Ask prog w H s.heap loc "getColumnNumber" col 100 10) (a3 : Ask prog w H s.heap loc "getLineNumber" line 100 10) (hh : handedOut loc = pure loc)
    (h : ∀ h' tk e sv cv lv, sys.Is sv → col.Is cv → line.Is lv → ErrAt H h' e 4 (m4 msg exc loc sv cv lv) → KpN H s.heap h' → s.heap.get? e = none → Q (.ref e) { s with heap := h', toks := tk }) :
    wpAny (model prog w) A (call (.ref 115) [msg, exc, loc]) Q E s := by
  refine ctor (k := 4) (G.X.keeps U.keep) (fI := 77) (by kernel_rfl) (by kernel_rfl) (by decide : 3 ≤ 1000) ?_
  intro h₁ e t k₁ he₀ hes hx
  have kk : KpN H s.heap h₁ := .of_keeps k₁
  have U₁ : Up H h₁ := ⟨fun b o q => k₁ b o (U.keep b o q), Nat.le_trans (Nat.le_trans U.size hes) (Nat.le_of_lt (Heap.lt_size hx))⟩
  refine init77 G U₁ ((g.kp0 kk).make) hx (Nat.le_trans U.size hes) kk he₀ a1 a2 a3 hh ?_
  intro h' tk sv cv lv i1 i2 i3 x k'
  exact ⟨rfl, h h' tk e sv cv lv i1 i2 i3 x (pre_kp kk k' he₀ fun o ho => by rw [hx] at ho; cases ho; intro z; cases z) he₀⟩
theorem clsInit (w : World) (k : Nat) (hk : k < 4) : findIn (KF w) (.ref (clsOf k)) "__init__" = some (some (.ref 29)) := by
  match k with
  | 0 => kernel_rfl
  | 1 => kernel_rfl
  | 2 => kernel_rfl
  | 3 => kernel_rfl
/-- the four other kinds -/
theorem mkOther {k : Nat} {msg exc : Value} {pos : List Value} {kw : List (Str × Value)} {Q : Value → Shared → Prop} (hk : k < 4) (hpos : pos.length ≤ 1000)
    (hb : ∀ e oc od fd sl, (KF w).lookup 29 = some ⟨oc, od, .func fd, sl⟩ → ∀ S, peek (KF w) S (bindArgs fd ⟨.ref e :: pos, kw⟩) = some ([("self", .ref e), ("msg", msg), ("exception", exc)] : List (Str × Value)))
    (G : Gr w H) (U : Up H s.heap) (hd : A.depth < 890)
    (h : ∀ h' tk e, ErrAt H h' e k (m2 msg exc) → KpN H s.heap h' → s.heap.get? e = none → Q (.ref e) { s with heap := h', toks := tk }) :
    wpAny (model prog w) A (call (.ref (clsOf k)) pos kw) Q E s := by
  refine ctor (G.X.keeps U.keep) (fI := 29) (clsInit w k hk) (by kernel_rfl) hpos ?_
  intro h₁ e t k₁ he₀ hes hx
  have kk : KpN H s.heap h₁ := .of_keeps k₁
  have U₁ : Up H h₁ := ⟨fun b o q => k₁ b o (U.keep b o q), Nat.le_trans (Nat.le_trans U.size hes) (Nat.le_of_lt (Heap.lt_size hx))⟩
  refine init29 (hb e) G U₁ (exC w k) (no_msg w k) (no_exception w k) hx (Nat.le_trans U.size hes) (by show A.depth + Code.weight _ < 900; rw [tc_weight]; omega) ?_
  intro h' tk d t' D hx' hd' dH k'
  refine ⟨rfl, h h' tk e (ErrNew.err (h₀ := h₁) (n := 2) ⟨d, t', .none, hx', D, .inl rfl, Nat.le_trans U.size hes, dH, hd'⟩ (by decide)) (pre_kp kk k' he₀ fun o ho => by rw [hx] at ho; cases ho; intro z; cases z) he₀⟩
end
end Mine
end
section
open PySem PySem.W PyProof.Rows PySem.Calls
open PySem.Builtin PySem.Builtin.ObjectAttr PySem.Builtin.BaseException
set_option Elab.async false
set_option linter.unusedVariables false
set_option maxRecDepth 100000
namespace Mine
local macro_rules | `(tactic| ktr_unf) => `(tactic| ((case k6 => rfl); (case k7 => kernel_rfl); (case k9 => intro S; kernel_rfl); (case c5 => kernel_rfl); (case kB => kernel_rfl); (case c2 => exact rfl); (case c3 => exact rfl); (case c4 => exact rfl)))
/-- a Locator with its own dict -/
structure LocAt (h : Heap) (x d : Addr) (n : Nat) (m : Str → Option Value) : Prop where
  at_ : h.get? x = some (instObj 191 d)
  dict : DictAt h d n m
theorem plain_inst {C d : Addr} : plainO (instObj C d) := ⟨(fun q => by cases q), (fun C d t tb q => by cases q)⟩
theorem LocAt.kp {H h h' : Heap} {x d : Addr} {n : Nat} {m : Str → Option Value} (y : LocAt h x d n m) (k : KpN H h h') : LocAt h' x d n m := ⟨k.plain y.at_ plain_inst id, y.dict.kp k id⟩
section
variable {prog : Program} {w : World} {A : Around} {E : Value → Shared → Prop} {s : Shared} {H : Heap} {x d : Addr} {n : Nat} {m : Str → Option Value}
theorem meth_loc {f : Addr} {name : Str} {pl : Sem Bool} {Q : Value × List Value → Shared → Prop} (X : (KF w).In s.heap) (y : LocAt s.heap x d n m)
    (hf : findIn (KF w) (.ref 191) name = some (some (.ref f))) (ht : typeIn (KF w) (.ref f) = some (.type "function")) (hs : m name = none) (h : Q (.ref f, [.ref x]) s) :
    wpAny (model prog w) A (getMethod (.ref x) name pl) Q E s := by
  have I : Ins s.heap x (instObj 191 d) 191 := ⟨y.at_, rfl, rfl⟩
  have hcan := PySem.F.canon_object_ga
  unfold getMethod specialOf
  refine wpAny_bind (wpAny_bind (I.type.here ((looks_findIn X (r := some (.builtin "object.__getattribute__")) (by kernel_rfl)).here ?_)))
  dsimp only
  rw [hcan, if_neg (by decide)]
  refine wpAny_bind (wpAny_bind (I.type.here ((looks_findIn X (r := none) (by kernel_rfl)).here ?_)))
  refine wpAny_bind (wpAny_bind (I.type.here ((looks_findIn X hf).here (wpAny_bind ((looks_typeIn X ht).here ?_)))))
  rw [if_neg (by decide +kernel)]
  refine wpAny_bind (wpAny_loadPart I.at_ ?_)
  refine wpAny_bind (wpAny_nsGet y.dict.1 ?_)
  rw [hs]
  exact wpAny_bind (wpAny_rule (wpAny_pure h))
/-- the class's def is hidden by its own -/
theorem meth_lam {f g : Addr} {name : Str} {pl : Sem Bool} {Q : Value × List Value → Shared → Prop} (X : (KF w).In s.heap) (y : LocAt s.heap x d n m)
    (hf : findIn (KF w) (.ref 191) name = some (some (.ref f))) (ht : typeIn (KF w) (.ref f) = some (.type "function")) (hgt : specialIn (KF w) (.ref f) "__get__" = some (some (.builtin "function.__get__"))) (htk : takesIn (KF w) (.ref f) = some false)
    (hs : m name = some (.ref g)) (h : Q (.ref g, []) { s with toks := s.toks + 1 }) :
    wpAny (model prog w) A (getMethod (.ref x) name pl) Q E s := by
  have I : Ins s.heap x (instObj 191 d) 191 := ⟨y.at_, rfl, rfl⟩
  obtain ⟨o, es, ep, ho, _⟩ := y.dict.2
  have IA : InstAt s.heap x (instObj 191 d) 191 (some o) := ⟨y.at_, rfl, rfl, ho⟩
  have hcan := PySem.F.canon_object_ga
  obtain ⟨cd, hcd, hhd⟩ : ∃ cd, clsIn (KF w) 191 = some cd ∧ cd.hasDict = true := ⟨_, rfl, rfl⟩
  unfold getMethod specialOf
  refine wpAny_bind (wpAny_bind (I.type.here ((looks_findIn X (r := some (.builtin "object.__getattribute__")) (by kernel_rfl)).here ?_)))
  dsimp only
  rw [hcan, if_neg (by decide)]
  refine wpAny_bind (wpAny_bind (I.type.here ((looks_findIn X (r := none) (by kernel_rfl)).here ?_)))
  refine wpAny_bind (wpAny_bind (I.type.here ((looks_findIn X hf).here (wpAny_bind ((looks_typeIn X ht).here ?_)))))
  rw [if_neg (by decide +kernel)]
  refine wpAny_bind (wpAny_loadPart I.at_ ?_)
  refine wpAny_bind (wpAny_nsGet y.dict.1 ?_)
  rw [hs]
  show wpAny _ _ (getAttr (.ref x) name >>= _) _ _ _
  refine wpAny_bind (get_open X IA (by kernel_rfl) ?_)
  have L3 : Looks (model prog w) s.heap (find (.ref x) (.ref 191) name) (.value (.ref g)) := by
    refine (looks_findIn X hf).andThen ((looks_specialIn X hgt).andThen (((looks_takesIn X htk).andThen .now : Looks _ _ (dataDescriptor? (some (.ref f)) (some (.builtin "function.__get__"))) none).andThen ?_))
    exact (I.own X hcd hhd rfl y.dict.1 (name := name)).andThen (by rw [hs]; exact Looks.tag .now)
  refine wpAny_bind (wpAny_pure (wpAny_bind (I.type.at (wpAny_bind (L3.at ?_)))))
  exact wpAny_pure (wpAny_pure (wpAny_pure h))
theorem plain_cls {o : Obj} {T : String} (hc : o.cls = .type T) (h : T ≠ "frame") : plainO o := ⟨fun q => h (by rw [hc] at q; exact Value.type.inj q), fun C d t tb q => by rw [q] at hc; cases hc⟩
/-- lambda: cell[i], made over the list c -/
def LamAt (h : Heap) (f : Addr) (i : Nat) (c : Addr) : Prop := ∃ qual pm c' ct ca oc co vs tq p1 p2 p3, h.get? f = some (kla_obj "<lambda>" qual { posonlyargs := [], args := [], vararg := none, kwonlyargs := [], kw_defaults := [], kwarg := none, defaults := [] } (.Subscript (.Name "cell" p1) (.Constant (.int (i : Int)) 0 p2) p3)
    { kind := .function, names := [("cell", .free)], isGenerator := false, isCoroutine := false, more := [] } [("cell", ca)] pm c' ct) ∧
  h.get? ca = some oc ∧ oc.cls = .type "cell" ∧ oc.data = .cell (some (.ref c)) ∧ h.get? c' = some co ∧ co.cls = .type "code" ∧ co.data = .fields vs ∧ vs[1]? = some (.str qual tq)
theorem LamAt.kp {h h' : Heap} {f c : Addr} {i : Nat} (y : LamAt h f i c) (k : KpN H h h') : LamAt h' f i c := by
  obtain ⟨qual, pm, c', ct, ca, oc, co, vs, tq, p1, p2, p3, y1, y2, y3, y4, y5, y6, y7, y8⟩ := y
  exact ⟨qual, pm, c', ct, ca, oc, co, vs, tq, p1, p2, p3, k.plain y1 (plain_type (by decide)) id, k.plain y2 (plain_cls y3 (by decide)) id, y3, y4, k.plain y5 (plain_cls y6 (by decide)) id, y6, y7, y8⟩
/-- a list of Python's, at rest -/
def LsAt (h : Heap) (c : Addr) (vs : List Value) : Prop := h.PlainList c vs.toArray
theorem LsAt.kp {h h' : Heap} {S : Addr → Prop} {c : Addr} {vs : List Value} (y : LsAt h c vs) (k : Kp H S h h') (hS : ¬ S c) : LsAt h' c vs := let ⟨n, e⟩ := y; ⟨n, k.plain e (plain_type (by decide)) hS⟩
theorem LsAt.is {h : Heap} {c : Addr} {vs : List Value} (y : LsAt h c vs) : h.IsList c vs.toArray := let ⟨n, e⟩ := y; ⟨_, e, rfl, n, rfl⟩
theorem r_item {value slice : Expr} {l : Addr} {vs : List Value} {k : Int} {u : Tok} {v : Value} {Q : Value → Shared → Prop}
    (hl : LsAt s.heap l vs) (h0 : 0 ≤ k) (hhi : k < 2 ^ 63) (hx : vs[k.toNat]? = some v) (h : Q v s)
    (hs : subscripted slice false (.ref l) (.int k u) = operate [.ref l, .int k u] (getItem (.ref l) (.int k u)) := by with_unfolding_all rfl) :
    wpAny (model prog w) A (subscriptTail value slice (.ref l) (.int k u)) Q E s :=
  tail_any hl.is.typeIs PySem.F.slot_list_getitem.lookup (wpAny_getItem_list hl.is h0 hhi (by simpa using hx) h) hs
theorem lam_call {f c : Addr} {i : Nat} {vs : List Value} {v : Value} {Q : Value → Shared → Prop} (G : Gr w H) (U : Up H s.heap) (hd : A.depth < 900) (y : LamAt s.heap f i c) (l : LsAt s.heap c vs) (hi : i < 1000) (hv : vs[i]? = some v)
    (h : ∀ h' tk, KpN H s.heap h' → Q v { s with heap := h', toks := tk }) : wpAny (model prog w) A (call (.ref f) []) Q E s := by
  obtain ⟨qual, pm, c', ct, ca, oc, co, ws, tq, p1, p2, p3, y1, y2, y3, y4, y5, y6, y7, y8⟩ := y
  obtain ⟨p, lo, me, mg, mb, T⟩ := G.T
  refine wpAny_call (kla_callFunE (Nat.lt_of_lt_of_le hd (by decide)) y1 rfl rfl rfl rfl ⟨c', co, ws, tq, rfl, y5, y7, y8⟩ ?_)
  show wpAny _ _ (pure [] : Sem (List (Str × Value))) _ _ _
  refine wpAny_pure (nfe (by intro x hx; simp at hx; subst hx; intro z; cases z) (fun _ hx => nomatch hx) rfl fun h₁ hns hsb hfr => ⟨(T.nolimit.keeps U.keep).fresh _ hsb, ?_⟩)
  have k₁ : ∀ b o, s.heap.get? b = some o → h₁.get? b = some o := fun b o e => hsb.extBut b o (Nat.ne_of_lt (Heap.lt_size e)) (Heap.get?_push_of_some _ e)
  refine kla_codeExpr ?_
  refine Subscript_ ?_
  refine wpAny_Name (wpAny_loadName_free (v := .ref c) rfl (by kernel_rfl) (c := ca) (by kernel_rfl) ⟨oc, k₁ _ _ y2, y4⟩ ?_) (by kernel_rfl)
  refine wpAny_Constant_int ?_
  have l₁ : LsAt h₁ c vs := let ⟨n, e⟩ := l; ⟨n, k₁ _ _ e⟩
  refine r_item l₁ (by omega) (by omega) (by simpa using hv) ?_
  exact h _ _ (.of_keeps k₁)
theorem ask_lam {h : Heap} {name : Str} {f fl c : Addr} {i : Nat} {vs : List Value} {v : Value} {r : Dv} (G : Gr w H) (y : LocAt h x d n m) (hs : m name = some (.ref fl)) (yl : LamAt h fl i c) (l : LsAt h c vs) (hi : i < 1000) (hv : vs[i]? = some v) (hr : r.Is v)
    (hf : findIn (KF w) (.ref 191) name = some (some (.ref f))) (ht : typeIn (KF w) (.ref f) = some (.type "function")) (hgt : specialIn (KF w) (.ref f) "__get__" = some (some (.builtin "function.__get__"))) (htk : takesIn (KF w) (.ref f) = some false) :
    Ask prog w H h (.ref x) name r 100 10 := by
  intro A E s Q pl pos env U k g q
  have X := G.X.keeps U.keep
  refine meth_lam X (y.kp k) hf ht hgt htk hs ?_
  have yl' := yl.kp k
  refine callWith_of (P := fun h => LamAt h fl i c) rfl (fun h z => ?_) (evalArgs_nil3 ⟨yl', ?_⟩)
  · obtain ⟨qual, pm, c', ct, ca, oc, co, ws, tq, p1, p2, p3, y1, _⟩ := z
    exact ⟨.frame, .inl rfl, (Looks.ld (part := none) y1).andThen .now⟩
  · exact lam_call G U (by have := g.depth; omega) yl' (l.kp k id) hi hv fun h' tk k' => q h' tk v hr k'
/-- def f(self): return None *or* return -1, at a Locator -/
theorem ask_loc0 {h : Heap} {name nm qual : Str} {params : Arguments} {dV kV doc pm cdv ct oc : Value} {an od : Option Addr} {osl : Array (Option Value)} {f : Addr} {r : Dv} {p3 : Pos} {ex : Expr} (G : Gr w H) (y : LocAt h x d n m) (hs : m name = none)
    (hf : findIn (KF w) (.ref 191) name = some (some (.ref f))) (ht : typeIn (KF w) (.ref f) = some (.type "function")) (hkp : keepIn (KF w) (.ref f) = true)
    (ho : (KF w).lookup f = some ⟨oc, od, .func (fnOf nm qual params [.Return (some ex) p3] selfSc dV kV doc pm an cdv ct), osl⟩)
    (hcd : codeIn (KF w) cdv qual = true) (hbind : ∀ S, peek (KF w) S (bindArgs (fnOf nm qual params [.Return (some ex) p3] selfSc dV kV doc pm an cdv ct) ⟨[.ref x], []⟩) = some (selfB x))
    (he : ∀ (A : Around) (s : Shared) (env : Env) (Q : Value → Shared → Prop), (∀ v tk, r.Is v → Q v { s with toks := tk }) → wpAny (model prog w) A (eval ex env) Q (fun _ _ => False) s) :
    Ask prog w H h (.ref x) name r 100 10 := by
  intro A E s Q pl pos env U k g q
  have X := G.X.keeps U.keep
  refine meth_loc X (y.kp k) hf ht hs ?_
  refine callWith_K0 X hkp ?_
  refine enterF (selfB x) G U (fun _ => False) (fun _ q => q.elim) ho (by have := g.depth; show _ < 1000; omega) hcd hbind (by kernel_rfl) rfl rfl rfl (by kernel_rfl) ?_
  intro L h₁ hL hk₁ W
  refine wpAny_execs_cons (wpAny_Return_some (he _ _ _ _ ?_))
  intro v tk hv
  exact q _ _ v hv W.done
theorem ask0_sys {h : Heap} (G : Gr w H) (y : LocAt h x d n m) (hs : m "getSystemId" = none) : Ask prog w H h (.ref x) "getSystemId" .n 100 10 :=
  ask_loc0 (f := 188) G y hs (by kernel_rfl) (by kernel_rfl) (by kernel_rfl) rfl (by kernel_rfl) (fun S => by kernel_rfl) fun A s env Q q => Constant_none (q _ _ rfl)
theorem ask0_pub {h : Heap} (G : Gr w H) (y : LocAt h x d n m) (hs : m "getPublicId" = none) : Ask prog w H h (.ref x) "getPublicId" .n 100 10 :=
  ask_loc0 (f := 181) G y hs (by kernel_rfl) (by kernel_rfl) (by kernel_rfl) rfl (by kernel_rfl) (fun S => by kernel_rfl) fun A s env Q q => Constant_none (q _ _ rfl)
theorem ask0_line {h : Heap} (G : Gr w H) (y : LocAt h x d n m) (hs : m "getLineNumber" = none) : Ask prog w H h (.ref x) "getLineNumber" (.i (-1)) 100 10 :=
  ask_loc0 (f := 174) G y hs (by kernel_rfl) (by kernel_rfl) (by kernel_rfl) rfl (by kernel_rfl) (fun S => by kernel_rfl) fun A s env Q q => UnaryOp_ (wpAny_Constant_int (by
    refine neg_int ?_
    exact q _ _ ⟨_, rfl⟩))
theorem ask0_col {h : Heap} (G : Gr w H) (y : LocAt h x d n m) (hs : m "getColumnNumber" = none) : Ask prog w H h (.ref x) "getColumnNumber" (.i (-1)) 100 10 :=
  ask_loc0 (f := 167) G y hs (by kernel_rfl) (by kernel_rfl) (by kernel_rfl) rfl (by kernel_rfl) (fun S => by kernel_rfl) fun A s env Q q => UnaryOp_ (wpAny_Constant_int (by
    refine neg_int ?_
    exact q _ _ ⟨_, rfl⟩))
end
end Mine
end
section
open PySem PySem.W PyProof.Rows PySem.Calls
open PySem.Builtin PySem.Builtin.ObjectAttr PySem.Builtin.BaseException
set_option Elab.async false
set_option linter.unusedVariables false
set_option maxRecDepth 100000
namespace Mine
section
variable {prog : Program} {w : World} {M : Model} {A : Around} {E : Value → Shared → Prop} {hh : Heap} {gg : Array GenState} {dd : Drawn} {tt : Nat} {os : OsState} {H h₀ : Heap} {S : Addr → Prop} {L a : Addr} {m : Str → Option Value} {objs : List (Addr × Obj)} {cn : Str} {cs : Scope} {ccd : Value} {env : Env}
theorem e_str {x : Str} {k : Nat} {pos : Pos} {Q : Value → Shared → Prop} (h : ∀ t tk, Q (.str x t) ⟨hh, gg, dd, tk, os⟩) : wpAny M A (eval (.Constant (.str x) k pos) env) Q E ⟨hh, gg, dd, tt, os⟩ := Constant_str (h _ _)
theorem e_int {i : Int} {k : Nat} {pos : Pos} {Q : Value → Shared → Prop} (h : ∀ t tk, Q (.int i t) ⟨hh, gg, dd, tk, os⟩) : wpAny M A (eval (.Constant (.int i) k pos) env) Q E ⟨hh, gg, dd, tt, os⟩ := wpAny_Constant_int (h _ _)
theorem e_mod {x y : Int} {t u : Tok} {Q : Value → Shared → Prop} (hb : y ≠ 0) (h : ∀ t tk, Q (.int (x.fmod y) t) ⟨hh, gg, dd, tk, os⟩) : wpAny (model prog w) A (binaryOp .Mod (.int x t) (.int y u)) Q E ⟨hh, gg, dd, tt, os⟩ := mod_int' hb (h _ _)
theorem e_div {x y : Int} {t u : Tok} {Q : Value → Shared → Prop} (hb : y ≠ 0) (hs : y.natAbs < 1073741824) (h : ∀ t tk, Q (.int (x.fdiv y) t) ⟨hh, gg, dd, tk, os⟩) : wpAny (model prog w) A (binaryOp .FloorDiv (.int x t) (.int y u)) Q E ⟨hh, gg, dd, tt, os⟩ := floordiv_int hb (h _ _) (.inl (PyProof.noPylong_small hs))
theorem e_add {x y : Int} {t u : Tok} {Q : Value → Shared → Prop} (h : ∀ t tk, Q (.int (x + y) t) ⟨hh, gg, dd, tk, os⟩) : wpAny (model prog w) A (binaryOp .Add (.int x t) (.int y u)) Q E ⟨hh, gg, dd, tt, os⟩ := add_int (h _ _)
theorem e_sub {x y : Int} {t u : Tok} {Q : Value → Shared → Prop} (h : ∀ t tk, Q (.int (x - y) t) ⟨hh, gg, dd, tk, os⟩) : wpAny (model prog w) A (binaryOp .Sub (.int x t) (.int y u)) Q E ⟨hh, gg, dd, tt, os⟩ := sub_int (h _ _)
theorem e_adds {x y : Str} {t u : Tok} {Q : Value → Shared → Prop} (hsz : x.length + y.length ≤ 1000) (h : ∀ t' tk, Q (.str (x ++ y) t') ⟨hh, gg, dd, tk, os⟩) : wpAny (model prog w) A (binaryOp .Add (.str x t) (.str y u)) Q E ⟨hh, gg, dd, tt, os⟩ := add_str h (by rw [sizeLine_eq]; omega)
theorem e_store {x : Str} {v : Value} {Q : Unit → Shared → Prop} (W : St H S h₀ L hh m objs)
    (h : ∀ h' tk, St H S h₀ L h' (fun y => if y = x then some v else m y) objs → Q () ⟨h', gg, dd, tk, os⟩)
    (hk : cs.kind = .function := by rfl) (hl : (envOf cn cs L a ccd).kindOf x = some .local := by kernel_rfl) :
    wpAny M A (storeName (envOf cn cs L a ccd) x v) Q E ⟨hh, gg, dd, tt, os⟩ := r_store (s := ⟨hh, gg, dd, tt, os⟩) W (fun h' W' => h h' _ W') hk hl
theorem e_list {vs : List Value} {Q : Value → Shared → Prop} (W : St H S h₀ L hh m objs) (hsz : vs.length ≤ 100)
    (h : ∀ b h', b = hh.objs.size → St H S h₀ L h' m ((b, { cls := .type "list", data := .seq vs.toArray }) :: objs) → Q (.ref b) ⟨h', gg, dd, tt, os⟩) :
    wpAny M A (newList vs) Q E ⟨hh, gg, dd, tt, os⟩ := r_list (s := ⟨hh, gg, dd, tt, os⟩) W h (by rw [sizeLine_eq]; omega)
theorem e_tuple {vs : List Value} {Q : Value → Shared → Prop} (W : St H S h₀ L hh m objs) (hsz : vs.length ≤ 100)
    (h : ∀ b h', b = hh.objs.size → St H S h₀ L h' m ((b, { cls := .type "tuple", data := .seq vs.toArray }) :: objs) → Q (.ref b) ⟨h', gg, dd, tt, os⟩) :
    wpAny M A (newTuple vs) Q E ⟨hh, gg, dd, tt, os⟩ := r_tuple (s := ⟨hh, gg, dd, tt, os⟩) W h (by rw [sizeLine_eq]; omega)
theorem e_loc {x : Str} {pos : Pos} {v : Value} {Q : Value → Shared → Prop} (W : St H S h₀ L hh m objs) (hv : m x = some v) (h : Q v ⟨hh, gg, dd, tt, os⟩)
    (hk : cs.kind = .function := by rfl) (hl : (envOf cn cs L a ccd).kindOf x = some .local := by kernel_rfl) (hd : (x == ("__debug__" : Str)) = false := by kernel_rfl) :
    wpAny M A (eval (.Name x pos) (envOf cn cs L a ccd)) Q E ⟨hh, gg, dd, tt, os⟩ := ld (s := ⟨hh, gg, dd, tt, os⟩) W.F hv h hk hl hd
theorem e_gl {x : Str} {pos : Pos} {v : Value} {Q : Value → Shared → Prop} (G : Gr w H) (W : St H S h₀ L hh m objs) (e : nsIn (KF w) mainGlobals x = some (some v)) (h : Q v ⟨hh, gg, dd, tt, os⟩)
    (hk : cs.kind = .function := by rfl) (hx : (envOf cn cs L a ccd).kindOf x = some .globalImplicit := by kernel_rfl) (hd : (x == ("__debug__" : Str)) = false := by kernel_rfl) :
    wpAny M A (eval (.Name x pos) (envOf cn cs L a ccd)) Q E ⟨hh, gg, dd, tt, os⟩ := gl (s := ⟨hh, gg, dd, tt, os⟩) G W.F e h hk hx hd
theorem e_bi {x : Str} {pos : Pos} {v : Value} {Q : Value → Shared → Prop} (G : Gr w H) (W : St H S h₀ L hh m objs) (e : nsIn (KF w) mainGlobals x = some none) (hv : bootBuiltins x = some v) (hn : x ≠ "__name__") (h : Q v ⟨hh, gg, dd, tt, os⟩)
    (hk : cs.kind = .function := by rfl) (hx : (envOf cn cs L a ccd).kindOf x = some .globalImplicit := by kernel_rfl) (hd : (x == ("__debug__" : Str)) = false := by kernel_rfl) :
    wpAny M A (eval (.Name x pos) (envOf cn cs L a ccd)) Q E ⟨hh, gg, dd, tt, os⟩ := bi (s := ⟨hh, gg, dd, tt, os⟩) G W.F e hv hn h hk hx hd
theorem e_none {k : Nat} {pos : Pos} {Q : Value → Shared → Prop} (h : Q .none ⟨hh, gg, dd, tt, os⟩) : wpAny M A (eval (.Constant .none k pos) env) Q E ⟨hh, gg, dd, tt, os⟩ := Constant_none h
theorem e_item {value slice : Expr} {l : Addr} {vs : List Value} {k : Int} {u : Tok} {v : Value} {Q : Value → Shared → Prop}
    (hl : LsAt hh l vs) (h0 : 0 ≤ k) (hhi : k < 1000) (hx : vs[k.toNat]? = some v) (hs : subscripted slice false (.ref l) (.int k u) = operate [.ref l, .int k u] (getItem (.ref l) (.int k u))) (h : Q v ⟨hh, gg, dd, tt, os⟩) :
    wpAny (model prog w) A (subscriptTail value slice (.ref l) (.int k u)) Q E ⟨hh, gg, dd, tt, os⟩ := r_item (s := ⟨hh, gg, dd, tt, os⟩) hl h0 (by omega) hx h hs
theorem enterE (binds : List (Str × Value)) {Q : Value → Shared → Prop} {name qual : Str} {params : Arguments} {body : List Stmt} {scope : Scope} {dV kV doc pm cdv ct oc : Value} {an od : Option Addr} {osl : Array (Option Value)} {f : Addr} {pos : List Value} {kw : List (Str × Value)}
    (G : Gr w H) (U : Up H hh) (S : Addr → Prop) (sx : ∀ b, S b → H.objs.size ≤ b ∧ ∃ o, hh.get? b = some o ∧ o.cls ≠ .type "traceback" ∧ o.cls ≠ .type "frame")
    (ho : (KF w).lookup f = some ⟨oc, od, .func (fnOf name qual params body scope dV kV doc pm an cdv ct), osl⟩) (hroom : A.depth < 1000)
    (hcd : codeIn (KF w) cdv qual = true) (hbind : ∀ S, peek (KF w) S (bindArgs (fnOf name qual params body scope dV kV doc pm an cdv ct) ⟨pos, kw⟩) = some binds) (hloc : (binds.all fun x => decide (scope.names.lookup x.1 = some .local)) = true)
    (hco : scope.isCoroutine = false) (hgen : scope.isGenerator = false) (hk : scope.kind = .function) (hcell : (scope.names.all fun x => x.2 != .cell) = true)
    (h : ∀ L h₁ tk, L = hh.objs.size → (∀ b o, hh.get? b = some o → h₁.get? b = some o) → St H S hh L h₁ (fun y => binds.reverse.lookup y) [] →
      wpAny (model prog w) (A.deeper (envOf qual scope L f cdv)) (execs body (envOf qual scope L f cdv))
        (fun fl s' => Q (match fl with | .ret v => v | _ => .none) s') (fun _ _ => False) ⟨h₁, gg, dd, tk, os⟩) :
    wpAny (model prog w) A (call (.ref f) pos kw) Q E ⟨hh, gg, dd, tt, os⟩ :=
  enterF (s := ⟨hh, gg, dd, tt, os⟩) binds G U S sx ho hroom hcd hbind hloc hco hgen hk hcell (fun L h₁ hL hk₁ W => h L h₁ _ hL hk₁ W)
theorem e_assign {x : Str} {pos' : Pos} {value : Expr} {pos : Pos} {s : Shared} {Q : Flow → Shared → Prop} (hs : swapsWith value (some (.Name x pos')) pos.line env = pure false)
    (h : wpAny M A (eval value env) (fun v s₁ => wpAny M A (storeName env x v) (fun _ => Q .next) E s₁) E s) : wpAny M A (exec (.Assign [.Name x pos'] value pos) env) Q E s := wpAny_Assign_Name h hs
theorem e_neg {x : Int} {t : Tok} {Q : Value → Shared → Prop} (h : ∀ t tk, Q (.int (-x) t) ⟨hh, gg, dd, tk, os⟩) : wpAny (model prog w) A (unaryOp .USub (.int x t)) Q E ⟨hh, gg, dd, tt, os⟩ := neg_int (h _ _)
theorem e_eqi {x y : Int} {t u : Tok} {Q : Value → Shared → Prop} (h : Q (.bool (x == y)) ⟨hh, gg, dd, tt, os⟩) : wpAny (model prog w) A (compareOp .Eq (.int x t) (.int y u)) Q E ⟨hh, gg, dd, tt, os⟩ := eq_int h
theorem e_truthb {b : Bool} {s : Shared} {Q : Bool → Shared → Prop} (h : Q b s) : wpAny M A (truthy (.bool b)) Q E s := wpAny_truthy_bool h
theorem e_ifT {b : Bool} {P R : Prop} (hb : b = true) (h : P) : if b = true then P else R := by rw [if_pos hb]; exact h
theorem e_ifF {b : Bool} {P R : Prop} (hb : b = false) (h : R) : if b = true then P else R := by rw [if_neg (by rw [hb]; decide)]; exact h
end
end Mine
end
section
open PySem PySem.W PyProof.Rows PySem.Calls
open PySem.Builtin PySem.Builtin.ObjectAttr PySem.Builtin.BaseException
set_option Elab.async false
set_option linter.unusedVariables false
set_option maxRecDepth 100000
namespace Mine
local macro_rules | `(tactic| ktr_unf) => `(tactic| ((case k6 => rfl); (case k7 => kernel_rfl); (case k9 => intro S; kernel_rfl); (case c5 => kernel_rfl); (case kB => kernel_rfl); (case c2 => exact rfl); (case c3 => exact rfl); (case c4 => exact rfl)))
def sg (j : Nat) : Str := match j with
  | 0 => "" | 1 => "a" | 2 => "%s" | 3 => ":" | 4 => "?" | 5 => "\n" | 6 => "<" | _ => "b c"
theorem sg_len (j : Nat) : (sg j).length ≤ 3 := by
  match j with
  | 0 => decide +kernel
  | 1 => decide +kernel
  | 2 => decide +kernel
  | 3 => decide +kernel
  | 4 => decide +kernel
  | 5 => decide +kernel
  | 6 => decide +kernel
  | _ + 7 => exact (by decide +kernel : (sg 7).length ≤ 3)
def wordsOf (k : Int) : Str := sg (k.fmod 8).toNat ++ sg ((k.fdiv 8).fmod 8).toNat ++ sg ((k.fdiv 64).fmod 8).toNat
theorem words_len (k : Int) : (wordsOf k).length ≤ 9 := by
  unfold wordsOf
  rw [Str.length_append, Str.length_append]
  have := sg_len (k.fmod 8).toNat
  have := sg_len ((k.fdiv 8).fmod 8).toNat
  have := sg_len ((k.fdiv 64).fmod 8).toNat
  omega
theorem fmod8 (a : Int) : 0 ≤ a.fmod 8 ∧ a.fmod 8 < 8 := ⟨Int.fmod_nonneg_of_pos a (by decide), Int.fmod_lt_of_pos a (by decide)⟩
theorem sg_item (t0 t1 t2 t3 t4 t5 t6 t7 : Tok) {j : Nat} (hj : j < 8) : ∃ t, ([.str "" t0, .str "a" t1, .str "%s" t2, .str ":" t3, .str "?" t4, .str "\n" t5, .str "<" t6, .str "b c" t7] : List Value)[j]? = some (.str (sg j) t) := by
  match j with
  | 0 => exact ⟨_, rfl⟩
  | 1 => exact ⟨_, rfl⟩
  | 2 => exact ⟨_, rfl⟩
  | 3 => exact ⟨_, rfl⟩
  | 4 => exact ⟨_, rfl⟩
  | 5 => exact ⟨_, rfl⟩
  | 6 => exact ⟨_, rfl⟩
  | 7 => exact ⟨_, rfl⟩
section
variable {prog : Program} {w : World} {A : Around} {E : Value → Shared → Prop} {hh : Heap} {gg : Array GenState} {dd : Drawn} {tt : Nat} {os : OsState} {H : Heap}
set_option maxHeartbeats 4000000 in
theorem words209 {k : Int} {tk : Tok} {Q : Value → Shared → Prop} (G : Gr w H) (U : Up H hh) (hd : A.depth < 900)
    (h : ∀ h' tk' t, KpN H hh h' → Q (.str (wordsOf k) t) ⟨h', gg, dd, tk', os⟩) : wpAny (model prog w) A (call (.ref 209) [.int k tk]) Q E ⟨hh, gg, dd, tt, os⟩ := by
  refine' enterE [("number", .int k tk)] G U (fun _ => False) (fun _ q => q.elim) ?k6 ?kr ?k7 ?k9 ?kB ?c2 ?c3 ?c4 ?c5 ?_
  ktr_unf
  (case kr => omega)
  intro L h₁ tk₁ hL hk₁ W
  refine wpAny_execs_cons ?_
  refine wpAny_Assign_Name (hs := by kernel_rfl) ?_
  refine List_ ?_
  iterate 8 (refine spliced_more (he := by kernel_rfl) ?_; refine e_str ?_; intro _ _)
  refine spliced_none ?_
  refine e_list W (hsz := by show 8 ≤ 100; decide) ?_
  intro b h₂ hb W₂
  refine e_store W₂ ?_
  intro h₃ tk₃ W₃
  have lb : LsAt h₃ b _ := ⟨_, W₃.has (.head _)⟩
  refine wpAny_execs_cons ?_
  refine wpAny_Return_some ?_
  refine wpAny_BinOp ?_
  refine wpAny_BinOp ?_
  refine Subscript_ ?_
  refine e_loc W₃ (v := .ref b) (hv := by kernel_rfl) ?_
  refine wpAny_BinOp ?_
  refine e_loc W₃ (v := .int k tk) (hv := by kernel_rfl) ?_
  refine e_int ?_
  intro _ _
  refine e_mod (hb := by decide) ?_
  intro _ _
  obtain ⟨u1, e1⟩ := sg_item _ _ _ _ _ _ _ _ (j := (k.fmod 8).toNat) (by have := fmod8 k; omega)
  refine e_item (hl := lb) (h0 := (fmod8 _).1) (hhi := by have := fmod8 k; omega) (hx := e1) (hs := by kernel_rfl) ?_
  refine Subscript_ ?_
  refine e_loc W₃ (v := .ref b) (hv := by kernel_rfl) ?_
  refine wpAny_BinOp ?_
  refine wpAny_BinOp ?_
  refine e_loc W₃ (v := .int k tk) (hv := by kernel_rfl) ?_
  refine e_int ?_
  intro _ _
  refine e_div (hb := by decide) (hs := by decide) ?_
  intro _ _
  refine e_int ?_
  intro _ _
  refine e_mod (hb := by decide) ?_
  intro _ _
  obtain ⟨u2, e2⟩ := sg_item _ _ _ _ _ _ _ _ (j := ((k.fdiv 8).fmod 8).toNat) (by have := fmod8 (k.fdiv 8); omega)
  refine e_item (hl := lb) (h0 := (fmod8 _).1) (hhi := by have := fmod8 (k.fdiv 8); omega) (hx := e2) (hs := by kernel_rfl) ?_
  refine e_adds (hsz := by have := sg_len (k.fmod 8).toNat; have := sg_len ((k.fdiv 8).fmod 8).toNat; omega) ?_
  intro u3 tk3
  refine Subscript_ ?_
  refine e_loc W₃ (v := .ref b) (hv := by kernel_rfl) ?_
  refine wpAny_BinOp ?_
  refine wpAny_BinOp ?_
  refine e_loc W₃ (v := .int k tk) (hv := by kernel_rfl) ?_
  refine e_int ?_
  intro _ _
  refine e_div (hb := by decide) (hs := by decide) ?_
  intro _ _
  refine e_int ?_
  intro _ _
  refine e_mod (hb := by decide) ?_
  intro _ _
  obtain ⟨u4, e4⟩ := sg_item _ _ _ _ _ _ _ _ (j := ((k.fdiv 64).fmod 8).toNat) (by have := fmod8 (k.fdiv 64); omega)
  refine e_item (hl := lb) (h0 := (fmod8 _).1) (hhi := by have := fmod8 (k.fdiv 64); omega) (hx := e4) (hs := by kernel_rfl) ?_
  refine e_adds (hsz := by rw [Str.length_append]; have := sg_len (k.fmod 8).toNat; have := sg_len ((k.fdiv 8).fmod 8).toNat; have := sg_len ((k.fdiv 64).fmod 8).toNat; omega) ?_
  intro u5 tk5
  exact h _ _ _ W₃.done
end
end Mine
end
section
open PySem PySem.W PyProof.Rows PySem.Calls
open PySem.Builtin PySem.Builtin.ObjectAttr PySem.Builtin.BaseException
set_option Elab.async false
set_option linter.unusedVariables false
set_option maxRecDepth 100000
namespace Mine
section
variable {prog : Program} {w wv : World} {A : Around} {E : Value → Shared → Prop} {s : Shared} {C e : Addr} {ox : Obj}
theorem get_by {name : Str} {tk : Tok} {r : Found} {fill expr : Bool} {Q : Value → Shared → Prop} (X : (KF wv).In s.heap) (Y : ExC wv C) (I : Ins s.heap e ox C)
    (L3 : Looks (model prog w) s.heap (find (.ref e) (.ref C) name) r)
    (h : match r with
      | .value v => wpAny (model prog w) A (handedOut v) Q E s
      | .bind g a => wpAny (model prog w) A.in1 (bindTo g a (.ref e) (.ref C)) (fun fin s' => match fin with | .done (.ret v) => wpAny (model prog w) A (handedOut v) Q E s' | _ => False) (fun _ _ => False) s
      | .missing => wpAny (model prog w) A.in1 (noSuchAttribute (α := Fin) (.ref e) name) (fun _ _ => False) (fun e' s' => wpAny (model prog w) A (getattributeRaised (.ref e) (.str name tk) (.ref C) e' none fill expr) Q E s') s) :
    wpAny (model prog w) A (getAttrBy (.ref e) (.str name tk) fill expr) Q E s := by
  obtain ⟨hh', g, dd, t, os⟩ := s
  have L0 := I.type (M := model prog w)
  have L1 := looks_findIn (M := model prog w) X Y.ga
  have L2 := looks_findIn (M := model prog w) X Y.gh
  have hx0 : (expr && onTheHeap (Value.builtin "BaseException.__getattribute__")) = false := by cases expr <;> rfl
  have hx2 : (Value.builtin "BaseException.__getattribute__" == Value.builtin "object.__getattribute__") = false := by decide +kernel
  have hx1 : (onTheHeap (Value.ref C) && Value.builtin "BaseException.__getattribute__" == Value.builtin "object.__getattribute__") = false := by rw [hx2]; rfl
  have hb := PySem.F.attr_Exception.ga.bind (.ref e)
  unfold getAttrBy
  refine wpAny_holding (wpAny_bind (L0.at (wpAny_bind (L1.at ?_))))
  dsimp only
  rw [hx1]
  unfold getAttrByItsOwn callGetattribute boundAndCalled hookBefore
  refine wpAny_bind (L2.at (wpAny_bind (wpAny_attempt (wpAny_holding ?_))))
  rw [hx0]
  dsimp only [Bool.false_eq_true, if_false]
  rw [hb]
  refine wpAny_bind (wpAny_pure (wpAny_call ?_))
  refine codeAny_call_builtin (id := "BaseException.__getattribute__") (by decide +kernel) F.entry_bexc_ga (@check_slot (model prog w) _ _ _ "BaseException.__getattribute__" "BaseException" "__getattribute__" (.ref e) _ [] _ (by decide +kernel) (by decide +kernel) (I.inst X Y.base) (F.args_bexc_ga (.ref e) _) ?_)
  unfold Builtin.«object.__getattribute__»
  refine wpAny_bind (wpAny_pure (wpAny_bind (wpAny_pure (wpAny_bind (L0.at (wpAny_bind (L3.at ?_)))))))
  cases r with
  | value v => exact wpAny_pure h
  | bind g a => exact wpAny_mono h (fun fin s' z => by rcases fin with (_ | _ | _ | _) | _ <;> first | exact z | exact z.elim) fun _ _ z => z.elim
  | missing => exact wpAny_mono h (fun _ _ z => z.elim) fun _ _ z => z
theorem cls_word (w : World) (k : Nat) : findIn (KF w) (.ref (clsOf k)) "__class__" = some (some (.builtin "object.__class__")) :=
  clsOf_cases k (fun C => findIn (KF w) (.ref C) "__class__" = some (some (.builtin "object.__class__"))) (by kernel_rfl) (by kernel_rfl) (by kernel_rfl) (by kernel_rfl) (by kernel_rfl)
/-- the class of an exception, asked as isinstance asks it -/
theorem class_exc {k : Nat} {d t : Addr} {tb : Value} {o : Obj} {Q : Option Value → Shared → Prop} (X : (KF wv).In s.heap) (hx : s.heap.get? e = some (excO (clsOf k) (some d) t tb)) (hd : s.heap.get? d = some o)
    (h : Q (some (.ref (clsOf k))) { s with toks := s.toks + 1 }) : wpAny (model prog w) A (getAttr? (.ref e) "__class__") Q E s := by
  have I : Ins s.heap e (excO (clsOf k) (some d) t tb) (clsOf k) := ⟨hx, rfl, rfl⟩
  have IA : InstAt s.heap e (excO (clsOf k) (some d) t tb) (clsOf k) (some o) := ⟨hx, rfl, rfl, hd⟩
  obtain ⟨hh, gg, dd, tt, os⟩ := s
  have L3 : Looks (model prog w) hh (find (.ref e) (.ref (clsOf k)) "__class__") (.bind (.builtin "getset_descriptor.__get__") (.builtin "object.__class__")) :=
    (looks_findIn X (cls_word wv k)).andThen ((looks_specialIn X (v := .builtin "object.__class__") (r := some (.builtin "getset_descriptor.__get__")) (by kernel_rfl)).andThen
      (((looks_takesIn X (a := .builtin "object.__class__") (r := true) (by kernel_rfl)).andThen .now : Looks _ _ (dataDescriptor? (some (.builtin "object.__class__")) (some (.builtin "getset_descriptor.__get__"))) (some (.builtin "getset_descriptor.__get__", .builtin "object.__class__"))).andThen (Looks.tag .now)))
  unfold getAttr? getAttrBy?
  refine wpAny_bind (wpAny_mkText (wpAny_bind (wpAny_attempt ?_)))
  refine get_by (s := ⟨hh, gg, dd, tt + 1, os⟩) X (exC wv k) I L3 ?_
  show wpAny _ _ (bindTo _ _ _ _) _ _ _
  unfold bindTo
  refine wpAny_bind (wpAny_holding (wpAny_call (class_get (s := ⟨hh, gg, dd, tt + 1, os⟩) X IA (exC wv k).obj ?_)))
  exact wpAny_pure (wpAny_pure (wpAny_pure h))
end
end Mine
end
section
open PySem PySem.W PyProof.Rows PySem.Calls
open PySem.Builtin PySem.Builtin.ObjectAttr PySem.Builtin.BaseException
set_option Elab.async false
set_option linter.unusedVariables false
set_option maxRecDepth 100000
namespace Mine
local macro_rules | `(tactic| ktr_unf) => `(tactic| ((case k6 => rfl); (case k7 => kernel_rfl); (case k9 => intro S; kernel_rfl); (case c5 => kernel_rfl); (case kB => kernel_rfl); (case c2 => exact rfl); (case c3 => exact rfl); (case c4 => exact rfl)))
section
variable {prog : Program} {w wv : World} {A : Around} {E : Value → Shared → Prop} {s : Shared} {e : Addr}
theorem isType_cls {M : Model} {h : Heap} {C : Addr} {cd : ClassData} (X : (KF w).In h) (hc : clsIn (KF w) C = some cd) : Looks M h (isType (.ref C)) true := by
  unfold clsIn at hc
  split at hc
  · rename_i c' d' cd' sl' ho
    intro A' Q' E' s' k q
    unfold isType loadHead
    exact wpAny_bind (wpAny_loadPart (k _ _ (X _ _ ho)) (wpAny_pure q))
  · cases hc
theorem exc_nested {k j : Nat} {d t : Addr} {tb : Value} {o : Obj} {dep : Int} {tk : Tok} {Q : Fin → Shared → Prop} (X : (KF wv).In s.heap) (hx : s.heap.get? e = some (excO (clsOf k) (some d) t tb)) (hd : s.heap.get? d = some o)
    (hne : (Value.ref (clsOf k) == Value.ref (clsOf j)) = false) (hs : subIn (KF wv) (.ref (clsOf k)) (.ref (clsOf j)) = some false) (ht : typeIn (KF wv) (.ref (clsOf j)) = some (.type "type")) (h : Q (.done (.ret (.bool false))) { s with toks := s.toks + 1 }) :
    wpAny (model prog w) A (Builtin.«isinstance.nested» ⟨[.ref e, .ref (clsOf j), .int dep tk], []⟩) Q E s := by
  have I : Ins s.heap e (excO (clsOf k) (some d) t tb) (clsOf k) := ⟨hx, rfl, rfl⟩
  obtain ⟨cdk, hck, -⟩ := (exC wv k).cls
  obtain ⟨cdj, hcj, -⟩ := (exC wv j).cls
  have hisD := isType_cls (M := model prog w) X hck
  have his := isType_cls (M := model prog w) X hcj
  have hty := looks_typeIn (M := model prog w) X ht
  have hsub := looks_subIn (M := model prog w) X hs
  obtain ⟨h0, g, dr, tt, os⟩ := s
  have L0 := I.type (M := model prog w)
  have LI : Looks (model prog w) h0 (isInstance (.ref e) (.ref (clsOf j))) false := L0.andThen hsub
  unfold Builtin.«isinstance.nested»
  refine wpAny_bind (L0.at ?_)
  rw [if_neg (fun q => by rw [hne] at q; exact Bool.noConfusion q)]
  refine wpAny_bind (hty.at ?_)
  rw [if_pos (by decide)]
  k_delta "plainIsInstance"
  refine wpAny_bind (wpAny_bind (his.at ?_))
  simp only [Bool.not_true, Bool.false_eq_true, if_false]
  refine wpAny_bind (LI.at ?_)
  simp only [Bool.false_eq_true, if_false]
  refine wpAny_bind (class_exc X hx hd ?_)
  refine wpAny_bind (hisD.at ?_)
  simp only [Bool.not_true, Bool.false_eq_true, if_false]
  refine wpAny_bind (wpAny_rule ?_)
  refine hsub.at ?_
  first
    | exact wpAny_pure h
    | exact wpAny_pure (wpAny_pure h)
    | exact wpAny_bind (wpAny_pure (wpAny_pure h))
/-- is an error of kind k one of kind j -/
def isOf (k j : Nat) : Bool := j == 0 || k == j || (k == 3 && j == 2)
theorem isi_facts (w : World) : ∀ k j : Fin 5, if isOf k j = true then isIn (KF w) (.ref (clsOf k)) (clsOf j) = true else
    ((Value.ref (clsOf k) == Value.ref (clsOf j)) = false ∧ subIn (KF w) (.ref (clsOf k)) (.ref (clsOf j)) = some false ∧ typeIn (KF w) (.ref (clsOf j)) = some (.type "type")) := by
  have key : ∀ k j, (isOf k j = true → isIn (KF w) (.ref (clsOf k)) (clsOf j) = true) → (isOf k j = false → (Value.ref (clsOf k) == Value.ref (clsOf j)) = false ∧ subIn (KF w) (.ref (clsOf k)) (.ref (clsOf j)) = some false ∧ typeIn (KF w) (.ref (clsOf j)) = some (.type "type")) →
      if isOf k j = true then isIn (KF w) (.ref (clsOf k)) (clsOf j) = true else
    ((Value.ref (clsOf k) == Value.ref (clsOf j)) = false ∧ subIn (KF w) (.ref (clsOf k)) (.ref (clsOf j)) = some false ∧ typeIn (KF w) (.ref (clsOf j)) = some (.type "type")) := by
    intro k j a b
    cases q : isOf k j with
    | true => rw [if_pos rfl]; exact a q
    | false => rw [if_neg (by decide)]; exact b q
  intro k j
  refine key k j ?_ ?_
  · match k, j with
    | 0, 0 => exact fun _ => by kernel_rfl
    | 1, 0 => exact fun _ => by kernel_rfl
    | 2, 0 => exact fun _ => by kernel_rfl
    | 3, 0 => exact fun _ => by kernel_rfl
    | 4, 0 => exact fun _ => by kernel_rfl
    | 1, 1 => exact fun _ => by kernel_rfl
    | 2, 2 => exact fun _ => by kernel_rfl
    | 3, 2 => exact fun _ => by kernel_rfl
    | 3, 3 => exact fun _ => by kernel_rfl
    | 4, 4 => exact fun _ => by kernel_rfl
    | 0, 1 => exact fun q => by cases q
    | 0, 2 => exact fun q => by cases q
    | 0, 3 => exact fun q => by cases q
    | 0, 4 => exact fun q => by cases q
    | 1, 2 => exact fun q => by cases q
    | 1, 3 => exact fun q => by cases q
    | 1, 4 => exact fun q => by cases q
    | 2, 1 => exact fun q => by cases q
    | 2, 3 => exact fun q => by cases q
    | 2, 4 => exact fun q => by cases q
    | 3, 1 => exact fun q => by cases q
    | 3, 4 => exact fun q => by cases q
    | 4, 1 => exact fun q => by cases q
    | 4, 2 => exact fun q => by cases q
    | 4, 3 => exact fun q => by cases q
  · match k, j with
    | 0, 0 => exact fun q => by cases q
    | 1, 0 => exact fun q => by cases q
    | 2, 0 => exact fun q => by cases q
    | 3, 0 => exact fun q => by cases q
    | 4, 0 => exact fun q => by cases q
    | 1, 1 => exact fun q => by cases q
    | 2, 2 => exact fun q => by cases q
    | 3, 2 => exact fun q => by cases q
    | 3, 3 => exact fun q => by cases q
    | 4, 4 => exact fun q => by cases q
    | 0, 1 => exact fun _ => ⟨by decide +kernel, by kernel_rfl, by kernel_rfl⟩
    | 0, 2 => exact fun _ => ⟨by decide +kernel, by kernel_rfl, by kernel_rfl⟩
    | 0, 3 => exact fun _ => ⟨by decide +kernel, by kernel_rfl, by kernel_rfl⟩
    | 0, 4 => exact fun _ => ⟨by decide +kernel, by kernel_rfl, by kernel_rfl⟩
    | 1, 2 => exact fun _ => ⟨by decide +kernel, by kernel_rfl, by kernel_rfl⟩
    | 1, 3 => exact fun _ => ⟨by decide +kernel, by kernel_rfl, by kernel_rfl⟩
    | 1, 4 => exact fun _ => ⟨by decide +kernel, by kernel_rfl, by kernel_rfl⟩
    | 2, 1 => exact fun _ => ⟨by decide +kernel, by kernel_rfl, by kernel_rfl⟩
    | 2, 3 => exact fun _ => ⟨by decide +kernel, by kernel_rfl, by kernel_rfl⟩
    | 2, 4 => exact fun _ => ⟨by decide +kernel, by kernel_rfl, by kernel_rfl⟩
    | 3, 1 => exact fun _ => ⟨by decide +kernel, by kernel_rfl, by kernel_rfl⟩
    | 3, 4 => exact fun _ => ⟨by decide +kernel, by kernel_rfl, by kernel_rfl⟩
    | 4, 1 => exact fun _ => ⟨by decide +kernel, by kernel_rfl, by kernel_rfl⟩
    | 4, 2 => exact fun _ => ⟨by decide +kernel, by kernel_rfl, by kernel_rfl⟩
    | 4, 3 => exact fun _ => ⟨by decide +kernel, by kernel_rfl, by kernel_rfl⟩
end
section
variable {prog : Program} {w : World} {A : Around} {E : Value → Shared → Prop} {hh : Heap} {gg : Array GenState} {dd : Drawn} {tt : Nat} {os : OsState} {H : Heap} {e : Addr}
/-- isinstance(e, the class of kind j) -/
theorem isi_exc {k j : Nat} {m : Str → Option Value} {Q : Value → Shared → Prop} (hk : k < 5) (hj : j < 5) (G : Gr w H) (U : Up H hh) (x : ErrAt H hh e k m)
    (h : ∀ tk, Q (.bool (isOf k j)) ⟨hh, gg, dd, tk, os⟩) : wpAny (model prog w) A (call (.builtin "isinstance") [.ref e, .ref (clsOf j)]) Q E ⟨hh, gg, dd, tt, os⟩ := by
  have f := isi_facts w ⟨k, hk⟩ ⟨j, hj⟩
  have X := G.X.keeps U.keep
  obtain ⟨d, t, tb, x1, x2, x3, x4, x5⟩ := x
  obtain ⟨_, od, _, _, hod, _⟩ := x2
  dsimp only at f
  cases q : isOf k j with
  | true =>
    rw [if_pos q] at f
    refine isi_call (t := .ref (clsOf k)) X (fun M => Ins.type (ox := excO (clsOf k) (some d) t tb) ⟨x1, rfl, rfl⟩) f (by intro z; cases z) ?_
    have := h tt; rw [q] at this; exact this
  | false =>
    rw [if_neg (by rw [q]; decide)] at f
    obtain ⟨f1, f2, f3⟩ := f
    refine call_isinstance (S := fun _ R s => ((KF w).In s.heap ∧ s.heap.get? e = some (excO (clsOf k) (some d) t tb) ∧ s.heap.get? d = some od) ∧ R (.ok (.ret (.bool false))) { s with toks := s.toks + 1 })
      (fun _ _ _ _ _ hs => isinstance_outer (exc_nested hs.1.1 hs.1.2.1 hs.1.2.2 f1 f2 f3 hs.2) (by intro q; cases q)) ⟨⟨X, x1, hod⟩, ?_⟩
    have := h (tt + 1); rw [q] at this; exact this
end
end Mine
end
section
open PySem PySem.W PyProof.Rows PySem.Calls
open PySem.Builtin PySem.Builtin.ObjectAttr PySem.Builtin.BaseException
set_option Elab.async false
set_option linter.unusedVariables false
set_option maxRecDepth 100000
namespace Mine
local macro_rules | `(tactic| ktr_unf) => `(tactic| ((case k6 => rfl); (case k7 => kernel_rfl); (case k9 => intro S; kernel_rfl); (case c5 => kernel_rfl); (case kB => kernel_rfl); (case c2 => exact rfl); (case c3 => exact rfl); (case c4 => exact rfl)))
section
variable {prog : Program} {w : World} {A : Around} {E : Value → Shared → Prop} {hh : Heap} {gg : Array GenState} {dd : Drawn} {tt : Nat} {os : OsState} {H : Heap}
def ofVs (k : Nat) : List Value := [.bool (isOf k 0), .bool (isOf k 4), .bool (isOf k 1), .bool (isOf k 2), .bool (isOf k 3)]
set_option maxHeartbeats 4000000 in
theorem of230 {e : Addr} {k : Nat} {m : Str → Option Value} {Q : Value → Shared → Prop} (hk : k < 5) (G : Gr w H) (U : Up H hh) (x : ErrAt H hh e k m) (hd : A.depth < 900)
    (h : ∀ h' tk' b, KpN H hh h' → LsAt h' b (ofVs k) → Q (.ref b) ⟨h', gg, dd, tk', os⟩) : wpAny (model prog w) A (call (.ref 230) [.ref e]) Q E ⟨hh, gg, dd, tt, os⟩ := by
  refine' enterE [("error", .ref e)] G U (fun _ => False) (fun _ q => q.elim) ?k6 ?kr ?k7 ?k9 ?kB ?c2 ?c3 ?c4 ?c5 ?_
  ktr_unf
  (case kr => omega)
  intro L h₁ tk₁ hL hk₁ W
  have x₁ := x.kp (.of_keeps hk₁)
  refine wpAny_execs_cons ?_
  refine wpAny_Return_some ?_
  refine List_ ?_
  refine spliced_more (he := by kernel_rfl) ?_
  refine Call_ ?_
  refine e_bi G W (v := .builtin "isinstance") (e := by kernel_rfl) (hv := by kernel_rfl) (hn := by decide) ?_
  refine callB ?_
  refine spliced_more (he := by kernel_rfl) ?_
  refine e_loc W (v := .ref e) (hv := by kernel_rfl) ?_
  refine spliced_more (he := by kernel_rfl) ?_
  refine e_gl G W (v := .ref 60) (e := by kernel_rfl) ?_
  refine spliced_none ?_
  refine isi_exc (j := 0) hk (by decide) G (Fr.up W.F) x₁ ?_
  intro _
  refine spliced_more (he := by kernel_rfl) ?_
  refine Call_ ?_
  refine e_bi G W (v := .builtin "isinstance") (e := by kernel_rfl) (hv := by kernel_rfl) (hn := by decide) ?_
  refine callB ?_
  refine spliced_more (he := by kernel_rfl) ?_
  refine e_loc W (v := .ref e) (hv := by kernel_rfl) ?_
  refine spliced_more (he := by kernel_rfl) ?_
  refine e_gl G W (v := .ref 115) (e := by kernel_rfl) ?_
  refine spliced_none ?_
  refine isi_exc (j := 4) hk (by decide) G (Fr.up W.F) x₁ ?_
  intro _
  refine spliced_more (he := by kernel_rfl) ?_
  refine Call_ ?_
  refine e_bi G W (v := .builtin "isinstance") (e := by kernel_rfl) (hv := by kernel_rfl) (hn := by decide) ?_
  refine callB ?_
  refine spliced_more (he := by kernel_rfl) ?_
  refine e_loc W (v := .ref e) (hv := by kernel_rfl) ?_
  refine spliced_more (he := by kernel_rfl) ?_
  refine e_gl G W (v := .ref 127) (e := by kernel_rfl) ?_
  refine spliced_none ?_
  refine isi_exc (j := 1) hk (by decide) G (Fr.up W.F) x₁ ?_
  intro _
  refine spliced_more (he := by kernel_rfl) ?_
  refine Call_ ?_
  refine e_bi G W (v := .builtin "isinstance") (e := by kernel_rfl) (hv := by kernel_rfl) (hn := by decide) ?_
  refine callB ?_
  refine spliced_more (he := by kernel_rfl) ?_
  refine e_loc W (v := .ref e) (hv := by kernel_rfl) ?_
  refine spliced_more (he := by kernel_rfl) ?_
  refine e_gl G W (v := .ref 139) (e := by kernel_rfl) ?_
  refine spliced_none ?_
  refine isi_exc (j := 2) hk (by decide) G (Fr.up W.F) x₁ ?_
  intro _
  refine spliced_more (he := by kernel_rfl) ?_
  refine Call_ ?_
  refine e_bi G W (v := .builtin "isinstance") (e := by kernel_rfl) (hv := by kernel_rfl) (hn := by decide) ?_
  refine callB ?_
  refine spliced_more (he := by kernel_rfl) ?_
  refine e_loc W (v := .ref e) (hv := by kernel_rfl) ?_
  refine spliced_more (he := by kernel_rfl) ?_
  refine e_gl G W (v := .ref 151) (e := by kernel_rfl) ?_
  refine spliced_none ?_
  refine isi_exc (j := 3) hk (by decide) G (Fr.up W.F) x₁ ?_
  intro _
  refine spliced_none ?_
  refine e_list W (hsz := by show 5 ≤ 100; decide) ?_
  intro b h₂ hb W₂
  exact h _ _ b W₂.done ⟨_, W₂.has (.head _)⟩
end
end Mine
end
section
open PySem PySem.W PyProof.Rows PySem.Calls
open PySem.Builtin PySem.Builtin.ObjectAttr PySem.Builtin.BaseException
set_option Elab.async false
set_option linter.unusedVariables false
set_option maxRecDepth 100000
namespace Mine
local macro_rules | `(tactic| ktr_unf) => `(tactic| ((case k6 => rfl); (case k7 => kernel_rfl); (case k9 => intro S; kernel_rfl); (case c5 => kernel_rfl); (case kB => kernel_rfl); (case c2 => exact rfl); (case c3 => exact rfl); (case c4 => exact rfl)))
section
variable {prog : Program} {w : World} {A : Around} {E : Value → Shared → Prop} {hh : Heap} {gg : Array GenState} {dd : Drawn} {tt : Nat} {os : OsState} {H : Heap}
theorem e_isNone {M : Model} {v : Value} {s : Shared} {Q : Value → Shared → Prop} (hp : plainIs v .none = true) (h : Q (.bool (v == .none)) s) : wpAny M A (compareOp .Is v .none) Q E s :=
  wpAny_is_plain hp h
theorem e_isNotNone {M : Model} {v : Value} {s : Shared} {Q : Value → Shared → Prop} (hp : plainIs v .none = true) (h : Q (.bool (!(v == .none))) s) : wpAny M A (compareOp .IsNot v .none) Q E s :=
  wpAny_isNot_plain hp h
theorem bind2 (w : World) (msg exc : Value) (e : Addr) {oc od fd sl} (q : (KF w).lookup 29 = some ⟨oc, od, .func fd, sl⟩) (S : Setting) : peek (KF w) S (bindArgs fd ⟨[.ref e, msg, exc], []⟩) = some ([("self", .ref e), ("msg", msg), ("exception", exc)] : List (Str × Value)) := by cases q; kernel_rfl
theorem bind1 (w : World) (msg : Value) (e : Addr) {oc od fd sl} (q : (KF w).lookup 29 = some ⟨oc, od, .func fd, sl⟩) (S : Setting) : peek (KF w) S (bindArgs fd ⟨[.ref e, msg], []⟩) = some ([("self", .ref e), ("msg", msg), ("exception", .none)] : List (Str × Value)) := by cases q; kernel_rfl
theorem bindK (w : World) (msg exc : Value) (e : Addr) {oc od fd sl} (q : (KF w).lookup 29 = some ⟨oc, od, .func fd, sl⟩) (S : Setting) : peek (KF w) S (bindArgs fd ⟨[.ref e, msg], [("exception", exc)]⟩) = some ([("self", .ref e), ("msg", msg), ("exception", exc)] : List (Str × Value)) := by cases q; kernel_rfl
theorem mkPlain {k : Nat} {msg exc : Value} {Q : Value → Shared → Prop} (hk : k < 4) (G : Gr w H) (U : Up H hh) (hd : A.depth < 890)
    (h : ∀ h' tk e, ErrAt H h' e k (m2 msg exc) → KpN H hh h' → hh.get? e = none → Q (.ref e) ⟨h', gg, dd, tk, os⟩) :
    wpAny (model prog w) A (call (.ref (clsOf k)) [msg, exc]) Q E ⟨hh, gg, dd, tt, os⟩ :=
  mkOther (s := ⟨hh, gg, dd, tt, os⟩) hk (by decide : 2 ≤ 1000) (fun e _ _ _ _ q S => bind2 w msg exc e q S) G U hd h
theorem mkOne {msg : Value} {Q : Value → Shared → Prop} (G : Gr w H) (U : Up H hh) (hd : A.depth < 890)
    (h : ∀ h' tk e, ErrAt H h' e 0 (m2 msg .none) → KpN H hh h' → hh.get? e = none → Q (.ref e) ⟨h', gg, dd, tk, os⟩) :
    wpAny (model prog w) A (call (.ref (clsOf 0)) [msg]) Q E ⟨hh, gg, dd, tt, os⟩ :=
  mkOther (k := 0) (s := ⟨hh, gg, dd, tt, os⟩) (by decide) (by decide : 1 ≤ 1000) (fun e _ _ _ _ q S => bind1 w msg e q S) G U hd h
theorem mkKw {msg exc : Value} {Q : Value → Shared → Prop} (G : Gr w H) (U : Up H hh) (hd : A.depth < 890)
    (h : ∀ h' tk e, ErrAt H h' e 3 (m2 msg exc) → KpN H hh h' → hh.get? e = none → Q (.ref e) ⟨h', gg, dd, tk, os⟩) :
    wpAny (model prog w) A (call (.ref (clsOf 3)) [msg] [("exception", exc)]) Q E ⟨hh, gg, dd, tt, os⟩ :=
  mkOther (k := 3) (s := ⟨hh, gg, dd, tt, os⟩) (by decide) (by decide : 1 ≤ 1000) (fun e _ _ _ _ q S => bindK w msg exc e q S) G U hd h
theorem callKw {M : Model} {K : Frag} {env : Env} {pos : Pos} {f : Value} {first : List Value} {e : Expr} {rest : List Expr} {kws : List Keyword} {s : Shared} {Q : Value → Shared → Prop} (hk : keepIn K f = true)
    (h : wpAny M A (spliced (backTo pos (starEach (e :: rest) env))) (fun vs s₁ => wpAny M A (evalAll ((backToKw pos (keywordEach kws env)).map (·.2))) (fun ks s₂ => K.In s₂.heap ∧ wpAny M A (call f (first ++ vs) (((backToKw pos (keywordEach kws env)).filterMap (·.1)).zip ks)) Q E s₂) E s₁) E s)
    (he : starEach (e :: rest) env = (false, eval e env) :: starEach rest env) (hplain : (backTo pos (starEach rest env)).any (·.1) = false) (hall : (backToKw pos (keywordEach kws env)).all (·.1.isSome) = true) (hno : (backToKw pos (keywordEach kws env)).any (·.1.isNone) = false) :
    wpAny M A (callWith pos f first (backTo pos (starEach (e :: rest) env)) (backToKw pos (keywordEach kws env))) Q E s := by
  rw [he] at h ⊢
  exact callWith_of (by show ((false || (backTo pos (starEach rest env)).any (·.1)) || (backToKw pos (keywordEach kws env)).any (·.1.isNone)) = false; rw [hplain, hno]; rfl) (keeps_K hk) (evalArgs_kw hall h)
theorem fresh_in {h₁ h' : Heap} {e : Addr} (hk₁ : ∀ b o, hh.get? b = some o → h₁.get? b = some o) (z : h₁.get? e = none) : hh.get? e = none := by
    cases q : hh.get? e with
    | none => rfl
    | some o => rw [hk₁ _ _ q] at z; cases z
set_option maxHeartbeats 1000000 in
theorem made_00 {tk tk2 : Tok} {x : Str} {v : Value} {Q : Value → Shared → Prop} (G : Gr w H) (U : Up H hh) (hd : A.depth < 800)
    (h : ∀ h' tk' e, KpN H hh h' → ErrAt H h' e 0 (m2 (.str x tk2) .none) → hh.get? e = none → Q (.ref e) ⟨h', gg, dd, tk', os⟩) : wpAny (model prog w) A (call (.ref 216) [.int 0 tk, .str x tk2, .none]) Q E ⟨hh, gg, dd, tt, os⟩ := by
  refine' enterE [("kind", .int 0 tk), ("words", .str x tk2), ("cause", .none)] G U (fun _ => False) (fun _ q => q.elim) ?k6 ?kr ?k7 ?k9 ?kB ?c2 ?c3 ?c4 ?c5 ?_
  ktr_unf
  (case kr => omega)
  intro L h₁ tk₁ hL hk₁ W
  have X₁ := G.X.keeps W.F.keep
  refine wpAny_execs_cons ?_
  refine wpAny_If ?_
  refine isTrue_and ?_
  refine wpAny_isTrue_Compare1 (hm := by kernel_rfl) ?_
  refine e_loc W (v := .int 0 tk) (hv := by kernel_rfl) ?_
  refine e_int ?_
  intro _ _
  refine e_eqi ?_
  refine e_truthb ?_
  refine e_ifT (hb := by decide) ?_
  refine isTrue_and ?_
  refine wpAny_isTrue_Compare1 (hm := by kernel_rfl) ?_
  refine e_loc W (v := .none) (hv := by kernel_rfl) ?_
  refine e_none ?_
  refine e_isNone (hp := rfl) ?_
  refine e_truthb ?_
  refine e_ifT (hb := by decide) ?_
  refine isTrue_and_nil ?_
  refine e_ifT (hb := rfl) ?_
  refine wpAny_execs_cons ?_
  refine wpAny_Return_some ?_
  refine Call_ ?_
  refine e_gl G W (v := .ref 60) (e := by kernel_rfl) ?_
  refine callWith_K (K := KF w) (hk := by kernel_rfl) X₁ ?_
  refine spliced_more (he := by kernel_rfl) ?_
  refine e_loc W (v := .str x tk2) (hv := by kernel_rfl) ?_
  refine spliced_none ?_
  refine ⟨X₁, ?_⟩
  refine mkOne G (Fr.up W.F) (hd := by show A.depth + 1 < 890; omega) ?_
  intro h' tk' e a b c
  exact h _ _ e (KpN.trans W.done b) a (fresh_in (h' := h') hk₁ c)
set_option maxHeartbeats 1000000 in
theorem made_0 {tk tk2 : Tok} {x : Str} {v : Value} {Q : Value → Shared → Prop} (hp : plainIs v .none = true) (hv : (v == .none) = false) (G : Gr w H) (U : Up H hh) (hd : A.depth < 800)
    (h : ∀ h' tk' e, KpN H hh h' → ErrAt H h' e 0 (m2 (.str x tk2) v) → hh.get? e = none → Q (.ref e) ⟨h', gg, dd, tk', os⟩) : wpAny (model prog w) A (call (.ref 216) [.int 0 tk, .str x tk2, v]) Q E ⟨hh, gg, dd, tt, os⟩ := by
  refine' enterE [("kind", .int 0 tk), ("words", .str x tk2), ("cause", v)] G U (fun _ => False) (fun _ q => q.elim) ?k6 ?kr ?k7 ?k9 ?kB ?c2 ?c3 ?c4 ?c5 ?_
  ktr_unf
  (case kr => omega)
  intro L h₁ tk₁ hL hk₁ W
  have X₁ := G.X.keeps W.F.keep
  refine wpAny_execs_cons ?_
  refine wpAny_If ?_
  refine isTrue_and ?_
  refine wpAny_isTrue_Compare1 (hm := by kernel_rfl) ?_
  refine e_loc W (v := .int 0 tk) (hv := by kernel_rfl) ?_
  refine e_int ?_
  intro _ _
  refine e_eqi ?_
  refine e_truthb ?_
  refine e_ifT (hb := by decide) ?_
  refine isTrue_and ?_
  refine wpAny_isTrue_Compare1 (hm := by kernel_rfl) ?_
  refine e_loc W (v := v) (hv := by kernel_rfl) ?_
  refine e_none ?_
  refine e_isNone (hp := hp) ?_
  refine e_truthb ?_
  refine e_ifF (hb := hv) ?_
  refine e_ifF (hb := rfl) ?_
  refine wpAny_execs_nil ?_
  refine wpAny_execs_cons ?_
  refine wpAny_If ?_
  refine wpAny_isTrue_Compare1 (hm := by kernel_rfl) ?_
  refine e_loc W (v := .int 0 tk) (hv := by kernel_rfl) ?_
  refine e_int ?_
  intro _ _
  refine e_eqi ?_
  refine e_truthb ?_
  refine e_ifT (hb := by decide) ?_
  refine wpAny_execs_cons ?_
  refine wpAny_Return_some ?_
  refine Call_ ?_
  refine e_gl G W (v := .ref 60) (e := by kernel_rfl) ?_
  refine callWith_K (K := KF w) (hk := by kernel_rfl) X₁ ?_
  refine spliced_more (he := by kernel_rfl) ?_
  refine e_loc W (v := .str x tk2) (hv := by kernel_rfl) ?_
  refine spliced_more (he := by kernel_rfl) ?_
  refine e_loc W (v := v) (hv := by kernel_rfl) ?_
  refine spliced_none ?_
  refine ⟨X₁, ?_⟩
  refine mkPlain (k := 0) (by decide) G (Fr.up W.F) (hd := by show A.depth + 1 < 890; omega) ?_
  intro h' tk' e a b c
  exact h _ _ e (KpN.trans W.done b) a (fresh_in (h' := h') hk₁ c)
set_option maxHeartbeats 1000000 in
theorem made_1 {tk tk2 : Tok} {x : Str} {v : Value} {Q : Value → Shared → Prop} (G : Gr w H) (U : Up H hh) (hd : A.depth < 800)
    (h : ∀ h' tk' e, KpN H hh h' → ErrAt H h' e 1 (m2 (.str x tk2) v) → hh.get? e = none → Q (.ref e) ⟨h', gg, dd, tk', os⟩) : wpAny (model prog w) A (call (.ref 216) [.int 1 tk, .str x tk2, v]) Q E ⟨hh, gg, dd, tt, os⟩ := by
  refine' enterE [("kind", .int 1 tk), ("words", .str x tk2), ("cause", v)] G U (fun _ => False) (fun _ q => q.elim) ?k6 ?kr ?k7 ?k9 ?kB ?c2 ?c3 ?c4 ?c5 ?_
  ktr_unf
  (case kr => omega)
  intro L h₁ tk₁ hL hk₁ W
  have X₁ := G.X.keeps W.F.keep
  refine wpAny_execs_cons ?_
  refine wpAny_If ?_
  refine isTrue_and ?_
  refine wpAny_isTrue_Compare1 (hm := by kernel_rfl) ?_
  refine e_loc W (v := .int 1 tk) (hv := by kernel_rfl) ?_
  refine e_int ?_
  intro _ _
  refine e_eqi ?_
  refine e_truthb ?_
  refine e_ifF (hb := by decide) ?_
  refine e_ifF (hb := rfl) ?_
  refine wpAny_execs_nil ?_
  refine wpAny_execs_cons ?_
  refine wpAny_If ?_
  refine wpAny_isTrue_Compare1 (hm := by kernel_rfl) ?_
  refine e_loc W (v := .int 1 tk) (hv := by kernel_rfl) ?_
  refine e_int ?_
  intro _ _
  refine e_eqi ?_
  refine e_truthb ?_
  refine e_ifF (hb := by decide) ?_
  refine wpAny_execs_nil ?_
  refine wpAny_execs_cons ?_
  refine wpAny_If ?_
  refine wpAny_isTrue_Compare1 (hm := by kernel_rfl) ?_
  refine e_loc W (v := .int 1 tk) (hv := by kernel_rfl) ?_
  refine e_int ?_
  intro _ _
  refine e_eqi ?_
  refine e_truthb ?_
  refine e_ifT (hb := by decide) ?_
  refine wpAny_execs_cons ?_
  refine wpAny_Return_some ?_
  refine Call_ ?_
  refine e_gl G W (v := .ref 127) (e := by kernel_rfl) ?_
  refine callWith_K (K := KF w) (hk := by kernel_rfl) X₁ ?_
  refine spliced_more (he := by kernel_rfl) ?_
  refine e_loc W (v := .str x tk2) (hv := by kernel_rfl) ?_
  refine spliced_more (he := by kernel_rfl) ?_
  refine e_loc W (v := v) (hv := by kernel_rfl) ?_
  refine spliced_none ?_
  refine ⟨X₁, ?_⟩
  refine mkPlain (k := 1) (by decide) G (Fr.up W.F) (hd := by show A.depth + 1 < 890; omega) ?_
  intro h' tk' e a b c
  exact h _ _ e (KpN.trans W.done b) a (fresh_in (h' := h') hk₁ c)
set_option maxHeartbeats 1000000 in
theorem made_2 {tk tk2 : Tok} {x : Str} {v : Value} {Q : Value → Shared → Prop} (G : Gr w H) (U : Up H hh) (hd : A.depth < 800)
    (h : ∀ h' tk' e, KpN H hh h' → ErrAt H h' e 2 (m2 (.str x tk2) v) → hh.get? e = none → Q (.ref e) ⟨h', gg, dd, tk', os⟩) : wpAny (model prog w) A (call (.ref 216) [.int 2 tk, .str x tk2, v]) Q E ⟨hh, gg, dd, tt, os⟩ := by
  refine' enterE [("kind", .int 2 tk), ("words", .str x tk2), ("cause", v)] G U (fun _ => False) (fun _ q => q.elim) ?k6 ?kr ?k7 ?k9 ?kB ?c2 ?c3 ?c4 ?c5 ?_
  ktr_unf
  (case kr => omega)
  intro L h₁ tk₁ hL hk₁ W
  have X₁ := G.X.keeps W.F.keep
  refine wpAny_execs_cons ?_
  refine wpAny_If ?_
  refine isTrue_and ?_
  refine wpAny_isTrue_Compare1 (hm := by kernel_rfl) ?_
  refine e_loc W (v := .int 2 tk) (hv := by kernel_rfl) ?_
  refine e_int ?_
  intro _ _
  refine e_eqi ?_
  refine e_truthb ?_
  refine e_ifF (hb := by decide) ?_
  refine e_ifF (hb := rfl) ?_
  refine wpAny_execs_nil ?_
  refine wpAny_execs_cons ?_
  refine wpAny_If ?_
  refine wpAny_isTrue_Compare1 (hm := by kernel_rfl) ?_
  refine e_loc W (v := .int 2 tk) (hv := by kernel_rfl) ?_
  refine e_int ?_
  intro _ _
  refine e_eqi ?_
  refine e_truthb ?_
  refine e_ifF (hb := by decide) ?_
  refine wpAny_execs_nil ?_
  refine wpAny_execs_cons ?_
  refine wpAny_If ?_
  refine wpAny_isTrue_Compare1 (hm := by kernel_rfl) ?_
  refine e_loc W (v := .int 2 tk) (hv := by kernel_rfl) ?_
  refine e_int ?_
  intro _ _
  refine e_eqi ?_
  refine e_truthb ?_
  refine e_ifF (hb := by decide) ?_
  refine wpAny_execs_nil ?_
  refine wpAny_execs_cons ?_
  refine wpAny_If ?_
  refine wpAny_isTrue_Compare1 (hm := by kernel_rfl) ?_
  refine e_loc W (v := .int 2 tk) (hv := by kernel_rfl) ?_
  refine e_int ?_
  intro _ _
  refine e_eqi ?_
  refine e_truthb ?_
  refine e_ifT (hb := by decide) ?_
  refine wpAny_execs_cons ?_
  refine wpAny_Return_some ?_
  refine Call_ ?_
  refine e_gl G W (v := .ref 139) (e := by kernel_rfl) ?_
  refine callWith_K (K := KF w) (hk := by kernel_rfl) X₁ ?_
  refine spliced_more (he := by kernel_rfl) ?_
  refine e_loc W (v := .str x tk2) (hv := by kernel_rfl) ?_
  refine spliced_more (he := by kernel_rfl) ?_
  refine e_loc W (v := v) (hv := by kernel_rfl) ?_
  refine spliced_none ?_
  refine ⟨X₁, ?_⟩
  refine mkPlain (k := 2) (by decide) G (Fr.up W.F) (hd := by show A.depth + 1 < 890; omega) ?_
  intro h' tk' e a b c
  exact h _ _ e (KpN.trans W.done b) a (fresh_in (h' := h') hk₁ c)
set_option maxHeartbeats 1000000 in
theorem made_3 {tk tk2 : Tok} {x : Str} {v : Value} {Q : Value → Shared → Prop} (G : Gr w H) (U : Up H hh) (hd : A.depth < 800)
    (h : ∀ h' tk' e, KpN H hh h' → ErrAt H h' e 3 (m2 (.str x tk2) v) → hh.get? e = none → Q (.ref e) ⟨h', gg, dd, tk', os⟩) : wpAny (model prog w) A (call (.ref 216) [.int 3 tk, .str x tk2, v]) Q E ⟨hh, gg, dd, tt, os⟩ := by
  refine' enterE [("kind", .int 3 tk), ("words", .str x tk2), ("cause", v)] G U (fun _ => False) (fun _ q => q.elim) ?k6 ?kr ?k7 ?k9 ?kB ?c2 ?c3 ?c4 ?c5 ?_
  ktr_unf
  (case kr => omega)
  intro L h₁ tk₁ hL hk₁ W
  have X₁ := G.X.keeps W.F.keep
  refine wpAny_execs_cons ?_
  refine wpAny_If ?_
  refine isTrue_and ?_
  refine wpAny_isTrue_Compare1 (hm := by kernel_rfl) ?_
  refine e_loc W (v := .int 3 tk) (hv := by kernel_rfl) ?_
  refine e_int ?_
  intro _ _
  refine e_eqi ?_
  refine e_truthb ?_
  refine e_ifF (hb := by decide) ?_
  refine e_ifF (hb := rfl) ?_
  refine wpAny_execs_nil ?_
  refine wpAny_execs_cons ?_
  refine wpAny_If ?_
  refine wpAny_isTrue_Compare1 (hm := by kernel_rfl) ?_
  refine e_loc W (v := .int 3 tk) (hv := by kernel_rfl) ?_
  refine e_int ?_
  intro _ _
  refine e_eqi ?_
  refine e_truthb ?_
  refine e_ifF (hb := by decide) ?_
  refine wpAny_execs_nil ?_
  refine wpAny_execs_cons ?_
  refine wpAny_If ?_
  refine wpAny_isTrue_Compare1 (hm := by kernel_rfl) ?_
  refine e_loc W (v := .int 3 tk) (hv := by kernel_rfl) ?_
  refine e_int ?_
  intro _ _
  refine e_eqi ?_
  refine e_truthb ?_
  refine e_ifF (hb := by decide) ?_
  refine wpAny_execs_nil ?_
  refine wpAny_execs_cons ?_
  refine wpAny_If ?_
  refine wpAny_isTrue_Compare1 (hm := by kernel_rfl) ?_
  refine e_loc W (v := .int 3 tk) (hv := by kernel_rfl) ?_
  refine e_int ?_
  intro _ _
  refine e_eqi ?_
  refine e_truthb ?_
  refine e_ifF (hb := by decide) ?_
  refine wpAny_execs_nil ?_
  refine wpAny_execs_cons ?_
  refine wpAny_Return_some ?_
  refine wpAny_Call_Name_kw ?_
  refine e_gl G W (v := .ref 151) (e := by kernel_rfl) ?_
  refine callKw (K := KF w) (hk := by kernel_rfl) (he := by kernel_rfl) (hplain := by rfl) (hall := by rfl) (hno := by rfl) ?_
  refine spliced_more (he := by kernel_rfl) ?_
  refine e_loc W (v := .str x tk2) (hv := by kernel_rfl) ?_
  refine spliced_none ?_
  refine kws_cons ?_
  refine e_loc W (v := v) (hv := by kernel_rfl) ?_
  refine kws_nil ?_
  refine ⟨X₁, ?_⟩
  refine mkKw G (Fr.up W.F) (hd := by show A.depth + 1 < 890; omega) ?_
  intro h' tk' e a b c
  exact h _ _ e (KpN.trans W.done b) a (fresh_in (h' := h') hk₁ c)
/-- one of the four other kinds -/
theorem made216 {k : Nat} {tk tk2 : Tok} {x : Str} {v : Value} {Q : Value → Shared → Prop} (hp : plainIs v .none = true) (hk : k < 4) (G : Gr w H) (U : Up H hh) (hd : A.depth < 800)
    (h : ∀ h' tk' e, KpN H hh h' → ErrAt H h' e k (m2 (.str x tk2) v) → hh.get? e = none → Q (.ref e) ⟨h', gg, dd, tk', os⟩) : wpAny (model prog w) A (call (.ref 216) [.int (k : Int) tk, .str x tk2, v]) Q E ⟨hh, gg, dd, tt, os⟩ := by
  match k, hk with
  | 0, _ =>
    cases hv : v == Value.none with
    | true =>
      have hv' : v = .none := by simpa using hv
      subst hv'
      exact made_00 (v := .none) G U hd h
    | false => exact made_0 hp hv G U hd h
  | 1, _ => exact made_1 G U hd h
  | 2, _ => exact made_2 G U hd h
  | 3, _ => exact made_3 G U hd h
end
end Mine
end
section
open PySem PySem.W PyProof.Rows PySem.Calls
open PySem.Builtin PySem.Builtin.ObjectAttr PySem.Builtin.BaseException
set_option Elab.async false
set_option linter.unusedVariables false
set_option maxRecDepth 100000
namespace Mine
section
variable {H h₀ h h' : Heap} {S D : Addr → Prop} {L : Addr} {m : Str → Option Value} {objs objs' : List (Addr × Obj)}
/-- what is ours, or may turn, turns -/
theorem St.turns (W : St H S h₀ L h m objs) (k : Kp H D h h') (h0 : ∀ b, D b → h₀.get? b = none ∨ S b) (hT : ∀ b, D b → H.objs.size ≤ b ∧ ∀ o, h.get? b = some o → o.cls ≠ .type "traceback" ∧ o.cls ≠ .type "frame")
    (hs : ∀ b, D b → S b → ∀ o, h.get? b = some o → ∃ o', h'.get? b = some o' ∧ o'.cls = o.cls) (ho : ∀ p ∈ objs', p ∈ objs ∧ ¬ D p.1) : St H S h₀ L h' m objs' := by
  have hL : ¬ D L := fun z => by
    obtain ⟨o, e, c⟩ := W.fr
    exact ((hT L z).2 o e).2 c
  refine ⟨Fr.kp W.F k hL (fun b hb q => absurd (hT b q).1 (Nat.not_le.mpr hb)), ?_, W.out, ?_, fun b q => ?_, W.s0, fun p hp => ?_⟩
  · have a : Kp H (fun b => (b = L ∨ S b) ∨ D b) h₀ h := W.k.mono fun b o e q => .inl q
    have b : Kp H (fun b => (b = L ∨ S b) ∨ D b) h h' := k.mono fun b o e q => .inr q
    refine (a.trans b fun b o e q => ?_).mono fun b o e q => ?_
    · rcases q with q | q
      · exact W.notTb b o e q
      · exact ((hT b q).2 o e).1
    · rcases q with q | q
      · exact q
      · rcases h0 b q with z | z
        · rw [z] at e; cases e
        · exact .inr z
  · obtain ⟨o, e, c⟩ := W.fr
    obtain ⟨sl, x⟩ := (k.at_ L o e hL).frame c
    exact ⟨_, x, c⟩
  · obtain ⟨z, o, e, c1, c2⟩ := W.sx b q
    by_cases hb : D b
    · obtain ⟨o', e', c'⟩ := hs b hb q o e
      exact ⟨z, o', e', c' ▸ c1, c' ▸ c2⟩
    · obtain ⟨o', e', c'⟩ := (k.at_ b o e hb).cls
      exact ⟨z, o', e', c' ▸ c1, c' ▸ c2⟩
  · obtain ⟨q1, q2⟩ := ho p hp
    obtain ⟨a, b, c⟩ := W.ob p q1
    exact ⟨k.plain a c q2, b, c⟩
/-- all but frames and what a loop counts with -/
def Kx (h h' : Heap) : Prop := ∀ c oc, h.get? c = some oc → oc.cls ≠ .type "frame" → oc.cls ≠ .type "range_iterator" → oc.cls ≠ .type "list_iterator" → h'.get? c = some oc
theorem Kx.trans {h₁ : Heap} (x : Kx h h₁) (y : Kx h₁ h') : Kx h h' := fun c o e a b d => y c o (x c o e a b d) a b d
theorem Kx.but {d : Addr} (k : ∀ b o, b ≠ d → h.get? b = some o → h'.get? b = some o) (hd : ∀ o, h.get? d = some o → o.cls = .type "frame" ∨ o.cls = .type "range_iterator" ∨ o.cls = .type "list_iterator") : Kx h h' := fun c o e a b d' => by
  refine k c o (fun z => ?_) e
  subst z
  rcases hd o e with q | q | q
  · exact a q
  · exact b q
  · exact d' q
end
section
variable {prog : Program} {w : World} {A : Around} {E : Value → Shared → Prop} {hh : Heap} {gg : Array GenState} {dd : Drawn} {tt : Nat} {os : OsState} {H h₀ : Heap} {S : Addr → Prop} {L a : Addr} {m : Str → Option Value} {cn : Str} {cs : Scope} {ccd : Value}
theorem r_store2 {x : Str} {v : Value} {s : Shared} {M : Model} {objs : List (Addr × Obj)} {Q : Unit → Shared → Prop} (W : St H S h₀ L s.heap m objs)
    (h : ∀ h', St H S h₀ L h' (fun y => if y = x then some v else m y) objs → Heap.SameBut L s.heap h' → Q () { s with heap := h', toks := s.toks + 1 })
    (hk : cs.kind = .function) (hl : (envOf cn cs L a ccd).kindOf x = some .local) :
    wpAny M A (storeName (envOf cn cs L a ccd) x v) Q E s := by
  rw [storeName_local hl (by show (cs.kind == .class || (cs.kind == .module && L != mainGlobals)) = false; rw [hk]; rfl)]
  refine nsSet_own W.F.ns fun h' hn hs hc => h h' ⟨W.F.set hn hs, W.k.trans (.same hs (.inl rfl)) W.notTb, W.out, ?_, fun b q => ?_, W.s0, fun p hp => ?_⟩ hs
  · obtain ⟨o, e, c⟩ := W.fr
    obtain ⟨o', e', c', -⟩ := hc o e
    exact ⟨o', e', c'.trans c⟩
  · obtain ⟨z, o, e, r⟩ := W.sx b q
    exact ⟨z, o, (hs.2 _ (W.ne q)).trans e, r⟩
  · obtain ⟨a1, b1, c1⟩ := W.ob p hp
    exact ⟨(hs.2 _ b1).trans a1, b1, c1⟩
def LoopEnd (H : Heap) (S : Addr → Prop) (h₀ : Heap) (L : Addr) (ob : List (Addr × Obj)) (J : (Str → Option Value) → Heap → Prop) (gg : Array GenState) (dd : Drawn) (os : OsState) (Q : Flow → Shared → Prop) (f : Flow) (s₂ : Shared) : Prop :=
  match f with
  | .next => ∃ h₂ m₂ tk₂, s₂ = ⟨h₂, gg, dd, tk₂, os⟩ ∧ St H S h₀ L h₂ m₂ ob ∧ J m₂ h₂
  | .ret v => Q (.ret v) s₂
  | _ => False
theorem for_range {n : Nat} {c : Int} {x : Str} {px : Pos} {body : List Stmt} {I : Addr} {Q : Flow → Shared → Prop} (hA : A.handled = none) (hk : cs.kind = .function) (hl : (envOf cn cs L a ccd).kindOf x = some .local)
    (W : St H S h₀ L hh m []) (hit : IsRangeIter hh I c n 1) (hI0 : h₀.get? I = none) (hIH : H.objs.size ≤ I) (hIS : ¬ S I)
    (J : Nat → (Str → Option Value) → Heap → Prop) (stab : ∀ i m h h', J i m h → Kx h h' → J i m h') (h0 : J 0 m hh)
    (turn : ∀ i m₁ h₁ tk t ob, i < n → J i m₁ h₁ → (∀ p ∈ ob, p.2.cls = .type "range_iterator") → St H S h₀ L h₁ (fun y => if y = x then some (.int (c + i) t) else m₁ y) ob →
      wpAny (model prog w) A (execs body (envOf cn cs L a ccd)) (LoopEnd H S h₀ L ob (J (i + 1)) gg dd os Q) (fun _ _ => False) ⟨h₁, gg, dd, tk, os⟩)
    (done : ∀ h₁ m₁ tk, St H S h₀ L h₁ m₁ [] → J n m₁ h₁ → Q .next ⟨h₁, gg, dd, tk, os⟩) :
    codeAny (model prog w) A (.forLoop (.Name x px) (.ref I) body [] (envOf cn cs L a ccd)) (fun r s' => match r with | .ok f => Q f s' | .error e => cameBackBy (model prog w) A (envOf cn cs L a ccd) E e s') ⟨hh, gg, dd, tt, os⟩ := by
  have clsI : ∀ {h : Heap} {x y z : Int}, IsRangeIter h I x y z → ∀ o, h.get? I = some o → o.cls = .type "range_iterator" := fun q o e => by rw [q] at e; cases e; rfl
  have nt : ∀ o : Obj, o.cls = .type "range_iterator" → o.cls ≠ .type "traceback" ∧ o.cls ≠ .type "frame" := fun o e => by
    rw [e]; exact ⟨fun z => absurd (Value.type.inj z) (by decide), fun z => absurd (Value.type.inj z) (by decide)⟩
  refine codeAny_forLoop (fun k s' => ∃ h' tk m' i, s' = ⟨h', gg, dd, tk, os⟩ ∧ IsRangeIter h' I (c + (i : Nat)) ((n : Int) - (i : Nat)) 1 ∧ St H S h₀ L h' m' [] ∧ J i m' h' ∧ i ≤ n ∧ k = n + 1 - i) ?_ (n + 1)
    ⟨hh, tt, m, 0, rfl, by simpa using hit, W, h0, Nat.zero_le _, rfl⟩
  rintro k s' ⟨h', tk, m', i, rfl, hit', W', hJ, hi, rfl⟩
  by_cases hlt : i < n
  · refine wpAny_pyNext_range_item hit' (by omega) ?_
    intro h₁ hit₁ hs₁
    have W₁ : St H S h₀ L h₁ m' [] := W'.own hs₁ hI0 hIH (fun o e => nt o (clsI hit' o e)) hIS (fun _ hp => nomatch hp)
    have W₁' := W₁.add hit₁ (plain_type (by decide))
    refine wpAny_assign_Name ?_
    obtain ⟨oL, heL, hcL⟩ := W₁.fr
    refine r_store2 W₁' ?_ hk hl
    intro h₂ W₂ hs₂
    have hJ₂ : J i m' h₂ := stab _ _ _ _ hJ ((Kx.but (d := I) (fun b o q e => (hs₁.2 b q).trans e) fun o e => .inr (.inl (clsI hit' o e))).trans (Kx.but (d := L) (fun b o q e => (hs₂.2 b q).trans e) fun o e => .inl (by rw [heL] at e; cases e; exact hcL)))
    refine wpAny_mono (turn i m' h₂ _ _ [(I, _)] hlt hJ₂ (fun p hp => by rw [List.mem_singleton.mp hp]) W₂) (fun f s₃ z => ?_) fun _ _ z => z.elim
    cases f with
    | next =>
      obtain ⟨h₃, m₃, tk₃, rfl, W₃, hJ₃⟩ := z
      refine ⟨n + 1 - (i + 1), by omega, h₃, tk₃, m₃, i + 1, rfl, ?_, W₃.drop (fun _ hp => nomatch hp), hJ₃, hlt, rfl⟩
      have := (W₃.ob _ (.head _)).1
      have e1 : c + ((i + 1 : Nat) : Int) = c + (i : Int) + 1 := by push_cast; omega
      have e2 : (n : Int) - ((i + 1 : Nat) : Int) = (n : Int) - (i : Int) - 1 := by push_cast; omega
      rw [e1, e2]
      exact this
    | ret v => exact z
    | brk => exact z.elim
    | cont => exact z.elim
  · have hin : i = n := by omega
    subst hin
    refine wpAny_pyNext_range_end hA hit' (by omega) ?_
    intro h₁ he₁
    refine wpAny_execs_nil ?_
    have W₁ : St H S h₀ L h₁ m' [] := W'.turns (D := (· = I)) ⟨fun b o e q => .inl (he₁ b o q e)⟩ (fun b q => .inl (q ▸ hI0)) (fun b q => ⟨q ▸ hIH, fun o e => nt o (clsI hit' o (q ▸ e))⟩) (fun b q z => absurd (q ▸ z) hIS) (fun _ hp => nomatch hp)
    exact done h₁ m' _ W₁ (stab _ _ _ _ hJ (Kx.but (d := I) (fun b o q e => he₁ b o q e) fun o e => .inr (.inl (clsI hit' o e))))
end
end Mine
end
section
open PySem PySem.W PyProof.Rows PySem.Calls
open PySem.Builtin PySem.Builtin.ObjectAttr PySem.Builtin.BaseException
set_option Elab.async false
set_option linter.unusedVariables false
set_option maxRecDepth 100000
namespace Mine
local macro_rules | `(tactic| ktr_unf) => `(tactic| ((case k6 => rfl); (case k7 => kernel_rfl); (case k9 => intro S; kernel_rfl); (case c5 => kernel_rfl); (case kB => kernel_rfl); (case c2 => exact rfl); (case c3 => exact rfl); (case c4 => exact rfl)))
/-- what may stand among the things: None, a list, an error -/
def Th (h : Heap) (u : Value) : Prop := u = .none ∨ ∃ x o, u = .ref x ∧ h.get? x = some o ∧ (o.cls = .type "list" ∨ ∃ C, o.cls = .ref C)
theorem Th.kp {H h h' : Heap} {u : Value} (x : Th h u) (k : KpN H h h') : Th h' u := by
  rcases x with x | ⟨y, o, e, ho, c⟩
  · exact .inl x
  · obtain ⟨o', e', c'⟩ := (k.at_ y o ho id).cls
    exact .inr ⟨y, o', e, e', c' ▸ c⟩
theorem Th.kx {h h' : Heap} {u : Value} (x : Th h u) (k : Kx h h') : Th h' u := by
  rcases x with x | ⟨y, o, e, ho, c⟩
  · exact .inl x
  · refine .inr ⟨y, o, e, k y o ho ?_ ?_ ?_, c⟩ <;> (rcases c with c | ⟨C, c⟩ <;> rw [c] <;> intro z <;> first | exact absurd (Value.type.inj z) (by decide) | cases z)
theorem LsAt.kx {h h' : Heap} {c : Addr} {vs : List Value} (y : LsAt h c vs) (k : Kx h h') : LsAt h' c vs := let ⟨n, e⟩ := y; ⟨n, k _ _ e (fun z => absurd (Value.type.inj z) (by decide)) (fun z => absurd (Value.type.inj z) (by decide)) (fun z => absurd (Value.type.inj z) (by decide))⟩
section
variable {prog : Program} {w : World} {M : Model} {A : Around} {E : Value → Shared → Prop} {hh : Heap} {gg : Array GenState} {dd : Drawn} {tt : Nat} {os : OsState} {H h₀ : Heap} {S : Addr → Prop} {L a : Addr} {m : Str → Option Value} {objs : List (Addr × Obj)} {cn : Str} {cs : Scope} {ccd : Value} {env : Env}
theorem e_isTh {u v : Value} {s : Shared} {Q : Value → Shared → Prop} (hu : Th s.heap u) (hv : Th s.heap v) (h : Q (.bool (u == v)) s) : wpAny M A (compareOp .Is u v) Q E s := by
  rcases hu with rfl | ⟨x, ox, rfl, hx, cx⟩
  · rcases hv with rfl | ⟨y, oy, rfl, hy, cy⟩
    · exact wpAny_is_plain rfl h
    · exact wpAny_is_plain rfl h
  · rcases hv with rfl | ⟨y, oy, rfl, hy, cy⟩
    · exact wpAny_is_plain rfl h
    · by_cases q : x = y
      · subst q
        refine wpAny_is_ref_self ?_
        simpa using h
      · refine wpAny_is_ref_other q hx hy (by rcases cx with c | ⟨C, c⟩ <;> rw [c] <;> intro z <;> first | exact absurd (Value.type.inj z) (by decide) | cases z) ?_
        have : (Value.ref x == Value.ref y) = false := beq_eq_false_iff_ne.mpr fun z => q (Value.ref.inj z)
        rw [this] at h; exact h
theorem e_len {l : Addr} {vs : List Value} {Q : Value → Shared → Prop} (hl : LsAt hh l vs) (hsz : vs.length ≤ 1000) (h : ∀ t tk, Q (.int (vs.length : Int) t) ⟨hh, gg, dd, tk, os⟩) :
    wpAny (model prog w) A (call (.builtin "len") [.ref l]) Q E ⟨hh, gg, dd, tt, os⟩ := by
  refine call_len_list (s := ⟨hh, gg, dd, tt, os⟩) hl.is (by simp; omega) ?_
  have := h (tt + 1) (tt + 1 + 1)
  simpa using this
theorem callT {pos : Pos} {first : List Value} {T : String} {e : Expr} {rest : List Expr} {s : Shared} {Q : Value → Shared → Prop}
    (h : wpAny M A (spliced (backTo pos (starEach (e :: rest) env))) (fun vs s₁ => wpAny M A (call (.type T) (first ++ vs)) Q E s₁) E s)
    (he : starEach (e :: rest) env = (false, eval e env) :: starEach rest env := by rfl) (hplain : (backTo pos (starEach rest env)).any (·.1) = false := by rfl) :
    wpAny M A (callWith pos (.type T) first (backTo pos (starEach (e :: rest) env)) []) Q E s := by
  rw [he] at h ⊢
  exact PyProof.Rows.callWith_type (by show (false || (backTo pos (starEach rest env)).any (·.1)) = false; rw [hplain]; rfl) (evalArgs_plain h)
abbrev rangeO (a b : Int) (t u v : Tok) : Obj := { cls := .type "range", data := .fields #[.int a t, .int b u, .int 1 v] }
theorem e_range1 {n : Int} {t : Tok} {Q : Value → Shared → Prop} (W : St H S h₀ L hh m objs)
    (h : ∀ r h' tk t u v, St H S h₀ L h' m ((r, rangeO 0 n t u v) :: objs) → Q (.ref r) ⟨h', gg, dd, tk, os⟩) : wpAny (model prog w) A (call (.type "range") [.int n t]) Q E ⟨hh, gg, dd, tt, os⟩ :=
  call_range_1 (s := ⟨hh, gg, dd, tt, os⟩) (h _ _ _ _ _ _ (W.push _ (plain_type (by decide)) rfl))
theorem e_range2 {b n : Int} {t u : Tok} {Q : Value → Shared → Prop} (W : St H S h₀ L hh m objs)
    (h : ∀ r h' tk t u v, St H S h₀ L h' m ((r, rangeO b n t u v) :: objs) → Q (.ref r) ⟨h', gg, dd, tk, os⟩) : wpAny (model prog w) A (call (.type "range") [.int b t, .int n u]) Q E ⟨hh, gg, dd, tt, os⟩ :=
  call_range_2 (s := ⟨hh, gg, dd, tt, os⟩) (h _ _ _ _ _ _ (W.push _ (plain_type (by decide)) rfl))
theorem e_iterR {r : Addr} {b n : Int} {t u v : Tok} {Q : Value → Shared → Prop} (W : St H S h₀ L hh m ((r, rangeO b n t u v) :: objs)) (hb : 0 ≤ b) (hn : b ≤ n) (hn2 : n ≤ 1000)
    (h : ∀ I h', h₀.get? I = none → H.objs.size ≤ I → ¬ S I → IsRangeIter h' I b ((n - b).toNat : Int) 1 → St H S h₀ L h' m objs → Q (.ref I) ⟨h', gg, dd, tt, os⟩) : wpAny (model prog w) A (pyIter (.ref r)) Q E ⟨hh, gg, dd, tt, os⟩ := by
  refine wpAny_pyIter_range (s := ⟨hh, gg, dd, tt, os⟩) (W.ob _ (.head _)).1 (small_one (by omega) (by omega) (by omega) (by omega)) ?_
  refine h _ _ ?_ ?_ ?_ ?_ ((W.push _ (plain_type (by decide)) rfl).drop fun p hp => .tail _ (.tail _ hp))
  · cases q : h₀.get? hh.objs.size with
    | none => rfl
    | some o =>
      by_cases z : hh.objs.size = L ∨ S hh.objs.size
      · rcases z with z | z
        · have := W.F.ns.lt; rw [← z] at this; exact absurd this (Nat.lt_irrefl _)
        · obtain ⟨_, o', e', _⟩ := W.sx _ z
          exact absurd (Heap.lt_size e') (Nat.lt_irrefl _)
      · obtain ⟨o', e', _⟩ := (W.k.at_ _ o q z).cls
        exact absurd (Heap.lt_size e') (Nat.lt_irrefl _)
  · exact Nat.le_trans W.F.above (Nat.le_of_lt W.F.ns.lt)
  · intro z
    obtain ⟨_, o', e', _⟩ := W.sx _ z
    exact absurd (Heap.lt_size e') (Nat.lt_irrefl _)
  · have : Builtin.Range.rangeSize b n 1 = ((n - b).toNat : Int) := by rw [rangeSize_one]; split <;> omega
    rw [← this]
    exact Heap.get?_push_size _ rfl
set_option maxHeartbeats 2000000 in
theorem index244 {v : Value} {l : Addr} {vs : List Value} {c : Nat} {Q : Value → Shared → Prop} (G : Gr w H) (U : Up H hh) (hd : A.depth < 900) (hA : A.handled = none) (hl : LsAt hh l vs) (hT : ∀ u ∈ vs, Th hh u) (hn : vs.length ≤ 100)
    (hc : vs[c]? = some v) (hf : ∀ i, i < c → vs[i]? ≠ some v)
    (h : ∀ h' tk' t, KpN H hh h' → Q (.int (c : Int) t) ⟨h', gg, dd, tk', os⟩) : wpAny (model prog w) A (call (.ref 244) [v, .ref l]) Q E ⟨hh, gg, dd, tt, os⟩ := by
  have hcn : c < vs.length := (List.getElem?_eq_some_iff.mp hc).1
  refine' enterE [("thing", v), ("things", .ref l)] G U (fun _ => False) (fun _ q => q.elim) ?k6 ?kr ?k7 ?k9 ?kB ?c2 ?c3 ?c4 ?c5 ?_
  ktr_unf
  (case kr => omega)
  intro L h₁ tk₁ hL hk₁ W
  have l₁ : LsAt h₁ l vs := hl.kp (H := H) (S := fun _ => False) (.of_keeps hk₁) id
  have T₁ : ∀ u ∈ vs, Th h₁ u := fun u hu => (hT u hu).kp (H := H) (.of_keeps hk₁)
  refine wpAny_execs_cons ?_
  refine wpAny_For ?_
  refine Call_ ?_
  refine e_bi G W (v := .type "range") (e := by kernel_rfl) (hv := by kernel_rfl) (hn := by decide) ?_
  refine callT ?_
  refine spliced_more (he := by kernel_rfl) ?_
  refine Call_ ?_
  refine e_bi G W (v := .builtin "len") (e := by kernel_rfl) (hv := by kernel_rfl) (hn := by decide) ?_
  refine callB ?_
  refine spliced_more (he := by kernel_rfl) ?_
  refine e_loc W (v := .ref l) (hv := by kernel_rfl) ?_
  refine spliced_none ?_
  refine e_len l₁ (by omega) ?_
  intro _ _
  refine spliced_none ?_
  refine e_range1 W ?_
  intro r h₂ tk₂ t₂ u₂ v₂ W₂
  refine e_iterR W₂ (by omega) (by omega) (by omega) ?_
  intro I h₃ hI0 hIH hIS hit W₃
  have l₃ : LsAt h₃ l vs := hl.kp W₃.done id
  have T₃ : ∀ u ∈ vs, Th h₃ u := fun u hu => (hT u hu).kp W₃.done
  have e0 : ((vs.length : Int) - 0).toNat = vs.length := by simp
  rw [e0] at hit
  refine for_range (n := vs.length) hA rfl (by kernel_rfl) W₃ hit hI0 hIH hIS (fun i m h => m "thing" = some v ∧ m "things" = some (.ref l) ∧ LsAt h l vs ∧ (∀ u ∈ vs, Th h u) ∧ i ≤ c) ?_ ?_ ?_ ?_
  · rintro i m h h' ⟨a1, a2, a3, a4, a5⟩ k
    exact ⟨a1, a2, a3.kx k, fun u hu => (a4 u hu).kx k, a5⟩
  · exact ⟨by kernel_rfl, by kernel_rfl, l₃, T₃, Nat.zero_le _⟩
  · rintro i m₁ h₁ tk t ob hi ⟨a1, a2, a3, a4, a5⟩ hob W₁
    refine wpAny_execs_cons ?_
    refine wpAny_If ?_
    refine wpAny_isTrue_Compare1 (hm := by kernel_rfl) ?_
    refine Subscript_ ?_
    refine e_loc W₁ (v := .ref l) (hv := (if_neg (by decide +kernel)).trans a2) ?_
    refine e_loc W₁ (v := .int (0 + (i : Int)) t) (hv := if_pos rfl) ?_
    refine e_item (hl := a3) (h0 := by omega) (hhi := by omega) (hx := (by rw [show (0 + (i : Int)).toNat = i by omega]; exact List.getElem?_eq_getElem hi)) (hs := by kernel_rfl) ?_
    refine e_loc W₁ (v := v) (hv := (if_neg (by decide +kernel)).trans a1) ?_
    refine e_isTh (a4 _ (List.getElem_mem hi)) (a4 v (List.mem_of_getElem? hc)) ?_
    refine e_truthb ?_
    by_cases q : i = c
    · subst q
      have hv : vs[i] = v := by rw [List.getElem?_eq_getElem hi] at hc; exact Option.some.inj hc
      refine e_ifT (hb := by rw [hv]; exact beq_self_eq_true v) ?_
      refine wpAny_execs_cons ?_
      refine wpAny_Return_some ?_
      refine e_loc W₁ (v := .int (0 + (i : Int)) t) (hv := if_pos rfl) ?_
      rw [show (0 + (i : Int)) = (i : Int) by omega]
      exact h _ _ _ W₁.done
    · refine e_ifF (hb := beq_eq_false_iff_ne.mpr fun z => hf i (by omega) (by rw [List.getElem?_eq_getElem hi, z])) ?_
      refine wpAny_execs_nil ?_
      refine wpAny_execs_nil ?_
      exact ⟨_, _, _, rfl, W₁, (if_neg (by decide +kernel)).trans a1, (if_neg (by decide +kernel)).trans a2, a3, a4, by omega⟩
  · rintro h₁ m₁ tk W₁ ⟨a1, a2, a3, a4, a5⟩
    omega
end
end Mine
end
section
open PySem PySem.W PyProof.Rows PySem.Calls
open PySem.Builtin PySem.Builtin.ObjectAttr PySem.Builtin.BaseException
set_option Elab.async false
set_option linter.unusedVariables false
set_option maxRecDepth 100000
namespace Mine
theorem FF.fun {H h : Heap} : ∀ {l : List Env}, FF H h l → h.FunFrames H l
  | [], _ => trivial
  | env :: rest, x => by
    obtain ⟨hk, L, o, es, n, hf, hL, ho, hc, hd⟩ := x env (.head _)
    exact ⟨hk, ⟨L, o, hf, Heap.get?_none_of_le hL, ho, fun vs q => by rw [hd] at q; cases q⟩, FF.fun fun e he => x e (.tail _ he)⟩
theorem FF.slots {H h h' : Heap} {l : List Env} (x : FF H h l) (k : Heap.SlotsOnly (l.filterMap (·.frame)) h h') : KpN H h h' := by
  refine ⟨fun b o e _ => ?_⟩
  by_cases hb : b ∈ l.filterMap (·.frame)
  · obtain ⟨env, he, hf⟩ := List.mem_filterMap.mp hb
    obtain ⟨hk, L, o', es, n, hf', hL, ho, hc, hd⟩ := x env he
    rw [hf] at hf'; cases hf'
    rw [e] at ho; cases ho
    obtain ⟨sl, hs⟩ := k.2.2 b o e
    exact .inr (.inl ⟨hL, hc, sl, hs⟩)
  · exact .inl ((k.2.1 b hb).trans e)
theorem set_same {vs : Array Value} {i : Nat} {v : Value} (h : vs[i]? = some v) : vs.setIfInBounds i v = vs := by
  apply Array.ext_getElem?
  intro j
  rw [Array.getElem?_setIfInBounds]
  split
  · rename_i q; subst q
    split
    · exact h.symm
    · rename_i z; exact absurd (Array.getElem?_eq_some_iff.mp h).1 z
  · rfl
theorem upd_same {h : Heap} {a : Addr} {o : Obj} {vs : Array Value} {i : Nat} {v : Value} (ho : h.get? a = some o) (hd : o.data = .fields vs) (hv : vs[i]? = some v) (b : Addr) : (h.update a (Obj.mapFields (·.setIfInBounds i v))).get? b = h.get? b := by
  by_cases q : b = a
  · subst q
    have e : o.mapFields (·.setIfInBounds i v) = o := by
      obtain ⟨c, d, dt, sl⟩ := o
      dsimp only at hd
      subst hd
      show Obj.mk c d (.fields (vs.setIfInBounds i v)) sl = _
      rw [set_same hv]
    have := Heap.get?_update_self (Obj.mapFields (·.setIfInBounds i v)) ho (by rw [e]; exact Obj.isFreed_of_fields hd)
    rw [this, e, ho]
  · exact Heap.get?_update_other _ _ (Ne.symm q)
section
variable {M : Model} {A : Around} {E : Value → Shared → Prop} {H : Heap} {hh : Heap} {gg : Array GenState} {dd : Drawn} {tt : Nat} {os : OsState} {env : Env} {outer : List Env} {L e : Addr} {oe : Obj} {vs : Array Value} {head : Value}
/-- the flight is already at rest -/
theorem flight0 {Q : Unit → Shared → Prop} (he : hh.get? e = some oe) (hd : oe.data = .fields vs) (h1 : vs[1]? = some head) (hT : TbOk hh head)
    (h : ∀ h', (∀ b, h'.get? b = hh.get? b) → Q () ⟨h', gg, dd, tt, os⟩) : wpAny M A (setFlight (.ref e) none) Q E ⟨hh, gg, dd, tt, os⟩ := by
  unfold setFlight
  refine wpAny_bind (wpAny_field he hd h1 ?_)
  rcases hT with rfl | ⟨T, ts, rfl, x, y, z⟩
  · rw [if_neg (by decide)]
    exact wpAny_pure (h _ fun _ => rfl)
  · rw [if_pos (show (Value.ref T != Value.none) = true from by simp)]
    exact wpAny_setField x rfl (Array.getElem?_eq_some_iff.mp y).1 (h _ (upd_same x rfl y))
/-- the frame noted, then the flight at rest -/
theorem note_exc {Q : Unit → Shared → Prop} (hfr : A.frames = some (env :: outer)) (hF : FF H hh (env :: outer)) (hf : env.frame = some L) (he : hh.get? e = some oe) (hec : oe.cls ≠ .type "traceback") (hd : oe.data = .fields vs) (h1 : vs[1]? = some head) (hT : TbOk hh head)
    (h : ∀ h' T, h'.get? e = some (oe.mapFields (·.setIfInBounds 1 (.ref T))) → TbOk h' (.ref T) → Kp H (· = e) hh h' → Q () ⟨h', gg, dd, tt, os⟩) :
    wpAny M A (noteFrame (.ref e) env) (fun _ s₂ => wpAny M A (setFlight (.ref e) none) Q E s₂) E ⟨hh, gg, dd, tt, os⟩ := by
  have hsz := (Array.getElem?_eq_some_iff.mp h1).1
  have main : ∀ (h₁ : Heap) (hs : ∀ b, h₁.get? b = hh.get? b) (hadNext : Bool), wpAny M A (do let a ← frameOf env; let pl ← entryPlaceOf L hadNext; let b ← EntryCells.newEntry head a .none (rawInt L) .none pl; setField (.ref e) 1 b) (fun _ s' => wpAny M A (setFlight (.ref e) none) Q E s') E ⟨h₁, gg, dd, tt, os⟩ := by
    intro h₁ hs hadNext
    have hF₁ : FF H h₁ (env :: outer) := hF.kp (S := fun _ => False) (.of_keeps fun b o q => (hs b).trans q) (fun _ _ q => q.elim)
    refine wpAny_bind (wpAny_frameOf_fun hfr hF₁.fun hf fun h₂ hs₂ => ?_)
    have k₂ := hF₁.slots hs₂
    have he₂ : h₂.get? e = some oe := by
      refine (hs₂.2.1 e fun hm => ?_).trans ((hs e).trans he)
      obtain ⟨_, o, ho, hnf⟩ := hF₁.fun.mem hm
      rw [hs e, he] at ho; cases ho; exact hnf vs hd
    refine wpAny_bind (wpAny_entryPlaceOf fun pl hpl => ?_)
    unfold EntryCells.newEntry newFields
    refine wpAny_bind (wpAny_newObj_type ?_ (hpl.sizeOk5 _ _ _ _ _))
    have he₃ := Heap.get?_push_of_some (h := h₂) { cls := .type "traceback", dict := none, data := .fields ([head, .ref L, .none, rawInt L, .none] ++ (if pl.isEmpty then List.replicate 6 Value.none else pl)).toArray } he₂
    refine wpAny_setField he₃ hd hsz ?_
    have hTe : h₂.objs.size ≠ e := Nat.ne_of_gt (Heap.lt_size he₂)
    have hd₃ := Obj.data_mapFields hd (·.setIfInBounds 1 (Value.ref h₂.objs.size))
    have he₄ := Heap.get?_update_self (Obj.mapFields (·.setIfInBounds 1 (Value.ref h₂.objs.size))) he₃ (Obj.isFreed_of_fields hd₃)
    have hT₄ := (Heap.get?_update_other (h₂.push { cls := .type "traceback", dict := none, data := .fields ([head, .ref L, .none, rawInt L, .none] ++ (if pl.isEmpty then List.replicate 6 Value.none else pl)).toArray })
      (Obj.mapFields (·.setIfInBounds 1 (Value.ref h₂.objs.size))) (Ne.symm hTe)).trans (Heap.get?_push_size h₂ rfl)
    unfold setFlight
    refine wpAny_bind (wpAny_field he₄ hd₃ (x := .ref h₂.objs.size) (by simp [hsz]) ?_)
    rw [if_pos (show (Value.ref h₂.objs.size != Value.none) = true from by simp)]
    refine wpAny_setField hT₄ rfl (by simp only [List.size_toArray, List.length_append, List.length_cons, List.length_nil] <;> omega) (h _ h₂.objs.size ?_ ?_ ?_)
    · rw [Heap.get?_update_other _ _ hTe]; exact he₄
    · refine .inr ⟨_, _, rfl, Heap.get?_update_self _ hT₄ (Obj.isFreed_of_fields (Obj.data_mapFields rfl _)), ?_, .ref L, ?_⟩
      · first | (simp; done) | (rcases hpl with rfl | ⟨_, _, _, _, _, _, _, rfl⟩ <;> simp)
      · first | (simp; done) | (rcases hpl with rfl | ⟨_, _, _, _, _, _, _, rfl⟩ <;> simp)
    · refine ⟨fun b o eb nb => ?_⟩
      have sm := k₂.at_ b o ((hs b).trans eb) id
      have up : ∀ c oc, c ≠ e → h₂.get? c = some oc → (((h₂.push { cls := .type "traceback", dict := none, data := .fields ([head, .ref L, .none, rawInt L, .none] ++ (if pl.isEmpty then List.replicate 6 Value.none else pl)).toArray }).update e (Obj.mapFields (·.setIfInBounds 1 (Value.ref h₂.objs.size)))).update h₂.objs.size
        (Obj.mapFields (·.setIfInBounds 3 ((none : Option Addr).elim Value.none fun f => rawInt f)))).get? c = some oc := fun c oc hc q => by
        rw [Heap.get?_update_other _ _ (Nat.ne_of_gt (Heap.lt_size q)), Heap.get?_update_other _ _ (Ne.symm hc)]
        exact Heap.get?_push_of_some _ q
      rcases sm with x | ⟨x1, x2, sl, x3⟩ | ⟨x1, C, d, t, tb, tb', x2, x3, x4⟩
      · exact .inl (up b o nb x)
      · exact .inr (.inl ⟨x1, x2, sl, up b _ nb x3⟩)
      · refine .inr (.inr ⟨x1, C, d, t, tb, tb', x2, up b _ nb x3, ?_⟩)
        rcases x4 with x4 | ⟨T, ts, q, x4, x5⟩
        · exact .inl x4
        · exact .inr ⟨T, ts, q, up T _ (fun z => by rw [z, he₂] at x4; cases x4; exact hec rfl) x4, x5⟩
  unfold noteFrame
  simp only [hf]
  refine wpAny_bind (wpAny_field he hd h1 ?_)
  rcases hT with q | ⟨T, ts, q, x, y, z⟩
  · subst q
    rw [if_neg (by decide)]
    exact main hh (fun _ => rfl) _
  · subst q
    rw [if_pos (show (Value.ref T != Value.none) = true from by simp)]
    refine wpAny_bind (wpAny_field x rfl y ?_)
    rw [if_neg (show ¬ ((Value.none == rawInt L) = true) from by simp [rawInt])]
    refine wpAny_bind (wpAny_setField x rfl (Array.getElem?_eq_some_iff.mp y).1 ?_)
    exact main _ (upd_same x rfl y) _
end
end Mine
end
section
open PySem PySem.W PyProof.Rows PySem.Calls
open PySem.Builtin PySem.Builtin.ObjectAttr PySem.Builtin.BaseException
set_option Elab.async false
set_option linter.unusedVariables false
set_option maxRecDepth 100000
namespace Mine
local macro_rules | `(tactic| ktr_unf) => `(tactic| ((case k6 => rfl); (case k7 => kernel_rfl); (case k9 => intro S; kernel_rfl); (case c5 => kernel_rfl); (case kB => kernel_rfl); (case c2 => exact rfl); (case c3 => exact rfl); (case c4 => exact rfl)))
section
variable {prog : Program} {w : World} {A : Around} {E : Value → Shared → Prop} {hh : Heap} {gg : Array GenState} {dd : Drawn} {tt : Nat} {os : OsState} {H : Heap} {env : Env}
theorem isType_exc {M : Model} {h : Heap} {e C d t : Addr} {tb : Value} (hx : h.get? e = some (excO C (some d) t tb)) : Looks M h (isType (.ref e)) false := by
  intro A Q E s k q
  unfold isType loadHead
  exact wpAny_bind (wpAny_loadPart (k _ _ hx) (wpAny_pure q))
/-- raise error: an error of ours that stands -/
theorem raise_exc {M : Model} {k : Nat} {e d t : Addr} {tb : Value} {x : Expr} {pos : Pos} {Q : Flow → Shared → Prop} {s : Shared} (hA : A.handled = none)
    (h : wpAny M A (eval x env) (fun v s₁ => v = .ref e ∧ (KF w).In s₁.heap ∧ s₁.heap.get? e = some (excO (clsOf k) (some d) t tb) ∧ TbOk s₁.heap tb ∧ ∀ h', (∀ b, h'.get? b = s₁.heap.get? b) → E (.ref e) { s₁ with heap := h' }) E s) :
    wpAny M A (exec (.Raise (some x) none pos) env) Q E s := by
  rw [arm_exec_Raise]
  refine wpAny_bind (wpAny_standAt ?_)
  show wpAny M A (raiseStmt env (some (do let v ← eval x env; standAt pos; pure v)) none) Q E s
  unfold raiseStmt
  refine wpAny_bind (wpAny_bind (wpAny_mono h (fun v s₁ z => wpAny_bind (wpAny_standAt (wpAny_pure ?_))) fun _ _ z => z))
  obtain ⟨rfl, X, hx, hT, hE⟩ := z
  obtain ⟨hh, gg, dd, tt, os⟩ := s₁
  have I : Ins hh e (excO (clsOf k) (some d) t tb) (clsOf k) := ⟨hx, rfl, rfl⟩
  refine wpAny_bind (wpAny_pure ?_)
  refine wpAny_bind (wpAny_holding ?_)
  unfold excFromValue isExcClass
  refine wpAny_bind (wpAny_bind ((isType_exc hx).at ?_))
  rw [if_neg (by decide)]
  refine wpAny_pure ?_
  rw [if_neg (by decide)]
  refine wpAny_bind ((I.inst X (exC w k).base).at ?_)
  rw [if_pos rfl]
  refine wpAny_pure ?_
  dsimp only
  refine wpAny_bind ((isType_exc hx).at ?_)
  rw [if_neg (by decide)]
  unfold raisedInstance
  refine wpAny_bind (wpAny_bind (I.type.at ?_))
  refine wpAny_bind ((looks_typeIn X (t := Value.type "type") (clsOf_cases k (fun C => typeIn (KF w) (.ref C) = some (Value.type "type")) (by kernel_rfl) (by kernel_rfl) (by kernel_rfl) (by kernel_rfl) (by kernel_rfl))).at ?_)
  rw [if_pos (by decide)]
  refine wpAny_pure ?_
  refine wpAny_bind (flight0 hx rfl rfl hT ?_)
  intro h' hs
  exact wpAny_raiseNew_none hA (hE h' hs)
/-- an except clause that does not catch -/
theorem clause_no {cls c : Value} {e : Addr} {tx : Expr} {body : List Stmt} {pos : Pos} {rest : List ExceptHandler} {Q : Flow → Shared → Prop} (X : (KF w).In hh) (LT : Looks (model prog w) hh (typeOf (.ref e)) cls) (hx : exmOne (KF w) cls c = some false)
    (ht : ∀ (A : Around) (E : Value → Shared → Prop) (Q : Value → Shared → Prop), Q c ⟨hh, gg, dd, tt, os⟩ → wpAny (model prog w) A (eval tx env) Q E ⟨hh, gg, dd, tt, os⟩)
    (h : wpAny (model prog w) A (handleBy (.ref e) env rest) Q E ⟨hh, gg, dd, tt, os⟩) :
    wpAny (model prog w) A (handleBy (.ref e) env (.ExceptHandler (some tx) none body pos :: rest)) Q E ⟨hh, gg, dd, tt, os⟩ := by
  refine wpAny_handleBy_cons (codeAny_handlers_test (ht _ _ _ ?_)) (by intro q; cases q)
  exact (exm_one X LT hx).at h
theorem clause_yes {cls c : Value} {e : Addr} {oe : Obj} {vs : Array Value} {tb : Value} {tx : Expr} {b₀ : Stmt} {body : List Stmt} {pos : Pos} {rest : List ExceptHandler} {Q : Flow → Shared → Prop} (X : (KF w).In hh) (LT : Looks (model prog w) hh (typeOf (.ref e)) cls) (hx : exmOne (KF w) cls c = some true)
    (ht : ∀ (A : Around) (E : Value → Shared → Prop) (Q : Value → Shared → Prop), Q c ⟨hh, gg, dd, tt, os⟩ → wpAny (model prog w) A (eval tx env) Q E ⟨hh, gg, dd, tt, os⟩)
    (he : hh.get? e = some oe) (hd : oe.data = .fields vs) (h1 : vs[1]? = some tb) (hT : TbOk hh tb)
    (h : ∀ h', (∀ b, h'.get? b = hh.get? b) → wpAny (model prog w) (A.mark (some (.ref e))) (execs (b₀ :: body) env) Q (fun _ _ => False) ⟨h', gg, dd, tt, os⟩) :
    wpAny (model prog w) A (handleBy (.ref e) env (.ExceptHandler (some tx) none (b₀ :: body) pos :: rest)) Q E ⟨hh, gg, dd, tt, os⟩ := by
  refine wpAny_handleBy_cons (codeAny_handlers_test (ht _ _ _ ?_)) (by intro q; cases q)
  refine (exm_one X LT hx).at ?_
  refine codeAny_handlers_suite ?_
  refine flight0 he hd h1 hT ?_
  intro h' hs
  exact wpAny_mono (h h' hs) (fun _ _ z => z) fun _ _ z => z.elim
theorem note_St {M : Model} {h₀ : Heap} {S : Addr → Prop} {L a e : Addr} {m : Str → Option Value} {objs : List (Addr × Obj)} {cn : Str} {cs : Scope} {cd head : Value} {oe : Obj} {vs : Array Value} {dep u : Nat} {Q : Unit → Shared → Prop} (g : Gd H A h₀ (dep + 1) (u + 3)) (W : St H S h₀ L hh m objs) (hk : cs.kind = .function)
    (he : hh.get? e = some oe) (hec : oe.cls ≠ .type "traceback") (hd : oe.data = .fields vs) (h1 : vs[1]? = some head) (hT : TbOk hh head)
    (h : ∀ h' T, h'.get? e = some (oe.mapFields (·.setIfInBounds 1 (.ref T))) → TbOk h' (.ref T) → Kp H (· = e) hh h' → Q () ⟨h', gg, dd, tt, os⟩) :
    wpAny M (A.deeper (envOf cn cs L a cd)) (noteFrame (.ref e) (envOf cn cs L a cd)) (fun _ s₂ => wpAny M (A.deeper (envOf cn cs L a cd)) (setFlight (.ref e) none) Q E s₂) E ⟨hh, gg, dd, tt, os⟩ := by
  have g₁ := g.deeper (cn := cn) (a := a) (cd := cd) W hk
  obtain ⟨l, hfr, hF⟩ := g₁.fr
  obtain ⟨-, -, l0, hfr0, -⟩ := g
  have hl : l = envOf cn cs L a cd :: l0 := Option.some.inj (hfr.symm.trans (by show A.frames.map _ = _; rw [hfr0]; rfl))
  subst hl
  exact note_exc hfr hF rfl he hec hd h1 hT h
/-- noted: the error's traceback turns, no more -/
theorem Kp.noted {h h' : Heap} {e d t T : Addr} {k : Nat} {tb : Value} (K : Kp H (· = e) h h') (he : H.objs.size ≤ e) (hx : h.get? e = some (excO (clsOf k) (some d) t tb)) (hx' : h'.get? e = some (excO (clsOf k) (some d) t (.ref T))) (hT : TbOk h' (.ref T)) : KpN H h h' := by
  refine ⟨fun b o eb _ => ?_⟩
  by_cases q : b = e
  · subst q
    rw [hx] at eb; cases eb
    exact .inr (.inr ⟨he, _, _, _, _, _, rfl, hx', hT⟩)
  · exact K.at_ b o eb q
end
section
variable {prog : Program} {w : World} {A : Around} {E : Value → Shared → Prop} {hh : Heap} {gg : Array GenState} {dd : Drawn} {tt : Nat} {os : OsState} {H : Heap}
set_option maxHeartbeats 1000000 in
theorem kind_0 {e : Addr} {m : Str → Option Value} {Q : Value → Shared → Prop} (G : Gr w H) (U : Up H hh) (x : ErrAt H hh e 0 m) (g : Gd H A hh 100 100) (hA : A.handled = none)
    (h : ∀ h' tk' t, KpN H hh h' → Q (.int 0 t) ⟨h', gg, dd, tk', os⟩) : wpAny (model prog w) A (call (.ref 223) [.ref e]) Q E ⟨hh, gg, dd, tt, os⟩ := by
  have hd := g.depth
  refine' enterE [("error", .ref e)] G U (fun _ => False) (fun _ q => q.elim) ?k6 ?kr ?k7 ?k9 ?kB ?c2 ?c3 ?c4 ?c5 ?_
  ktr_unf
  (case kr => omega)
  intro L h₁ tk₁ hL hk₁ W
  have x₁ := x.kp (.of_keeps hk₁)
  obtain ⟨d, t, tb, x1, x2, x3, x4, x5⟩ := x₁
  refine wpAny_execs_cons ?_
  refine wpAny_Try_except ?_
  refine wpAny_execs_cons ?_
  refine raise_exc (w := w) (k := 0) (e := e) (d := d) (t := t) (tb := tb) (hA := hA) ?_
  refine e_loc W (v := .ref e) (hv := by kernel_rfl) ?_
  refine ⟨rfl, G.X.keeps W.F.keep, x1, x3, ?_⟩
  intro h₂ hs₂
  have k₂ : KpN H h₁ h₂ := .of_keeps fun b o q => (hs₂ b).trans q
  have W₂ := W.call k₂
  have y1 : h₂.get? e = _ := (hs₂ e).trans x1
  refine note_St g W₂ rfl y1 (hec := by intro z; cases z) rfl rfl (x3.kp k₂ fun _ _ => id) ?_
  intro h₃ T y₃ hT₃ k₃'
  have k₃ := Kp.noted k₃' x4 y1 y₃ hT₃
  have W₃ := W₂.call k₃
  have X₃ := G.X.keeps W₃.F.keep
  have LT : Looks (model prog w) h₃ (typeOf (.ref e)) (.ref (clsOf 0)) := Ins.type (ox := excO (clsOf 0) (some d) t (.ref T)) ⟨y₃, rfl, rfl⟩
  refine clause_no (c := .ref 115) X₃ LT (hx := by kernel_rfl) (ht := fun A E Q q => e_gl G W₃ (v := .ref 115) (e := by kernel_rfl) q) ?_
  refine clause_no (c := .ref 151) X₃ LT (hx := by kernel_rfl) (ht := fun A E Q q => e_gl G W₃ (v := .ref 151) (e := by kernel_rfl) q) ?_
  refine clause_no (c := .ref 139) X₃ LT (hx := by kernel_rfl) (ht := fun A E Q q => e_gl G W₃ (v := .ref 139) (e := by kernel_rfl) q) ?_
  refine clause_no (c := .ref 127) X₃ LT (hx := by kernel_rfl) (ht := fun A E Q q => e_gl G W₃ (v := .ref 127) (e := by kernel_rfl) q) ?_
  refine clause_yes (c := .ref 60) X₃ LT (hx := by kernel_rfl) (ht := fun A E Q q => e_gl G W₃ (v := .ref 60) (e := by kernel_rfl) q) y₃ rfl rfl hT₃ ?_
  intro h₄ hs₄
  have W₄ := W₃.call (h' := h₄) (.of_keeps fun b o q => (hs₄ b).trans q)
  refine wpAny_execs_cons ?_
  refine wpAny_Return_some ?_
  refine e_int ?_
  intro t₅ tk₅
  exact h _ _ _ W₄.done
set_option maxHeartbeats 1000000 in
theorem kind_1 {e : Addr} {m : Str → Option Value} {Q : Value → Shared → Prop} (G : Gr w H) (U : Up H hh) (x : ErrAt H hh e 1 m) (g : Gd H A hh 100 100) (hA : A.handled = none)
    (h : ∀ h' tk' t, KpN H hh h' → Q (.int 1 t) ⟨h', gg, dd, tk', os⟩) : wpAny (model prog w) A (call (.ref 223) [.ref e]) Q E ⟨hh, gg, dd, tt, os⟩ := by
  have hd := g.depth
  refine' enterE [("error", .ref e)] G U (fun _ => False) (fun _ q => q.elim) ?k6 ?kr ?k7 ?k9 ?kB ?c2 ?c3 ?c4 ?c5 ?_
  ktr_unf
  (case kr => omega)
  intro L h₁ tk₁ hL hk₁ W
  have x₁ := x.kp (.of_keeps hk₁)
  obtain ⟨d, t, tb, x1, x2, x3, x4, x5⟩ := x₁
  refine wpAny_execs_cons ?_
  refine wpAny_Try_except ?_
  refine wpAny_execs_cons ?_
  refine raise_exc (w := w) (k := 1) (e := e) (d := d) (t := t) (tb := tb) (hA := hA) ?_
  refine e_loc W (v := .ref e) (hv := by kernel_rfl) ?_
  refine ⟨rfl, G.X.keeps W.F.keep, x1, x3, ?_⟩
  intro h₂ hs₂
  have k₂ : KpN H h₁ h₂ := .of_keeps fun b o q => (hs₂ b).trans q
  have W₂ := W.call k₂
  have y1 : h₂.get? e = _ := (hs₂ e).trans x1
  refine note_St g W₂ rfl y1 (hec := by intro z; cases z) rfl rfl (x3.kp k₂ fun _ _ => id) ?_
  intro h₃ T y₃ hT₃ k₃'
  have k₃ := Kp.noted k₃' x4 y1 y₃ hT₃
  have W₃ := W₂.call k₃
  have X₃ := G.X.keeps W₃.F.keep
  have LT : Looks (model prog w) h₃ (typeOf (.ref e)) (.ref (clsOf 1)) := Ins.type (ox := excO (clsOf 1) (some d) t (.ref T)) ⟨y₃, rfl, rfl⟩
  refine clause_no (c := .ref 115) X₃ LT (hx := by kernel_rfl) (ht := fun A E Q q => e_gl G W₃ (v := .ref 115) (e := by kernel_rfl) q) ?_
  refine clause_no (c := .ref 151) X₃ LT (hx := by kernel_rfl) (ht := fun A E Q q => e_gl G W₃ (v := .ref 151) (e := by kernel_rfl) q) ?_
  refine clause_no (c := .ref 139) X₃ LT (hx := by kernel_rfl) (ht := fun A E Q q => e_gl G W₃ (v := .ref 139) (e := by kernel_rfl) q) ?_
  refine clause_yes (c := .ref 127) X₃ LT (hx := by kernel_rfl) (ht := fun A E Q q => e_gl G W₃ (v := .ref 127) (e := by kernel_rfl) q) y₃ rfl rfl hT₃ ?_
  intro h₄ hs₄
  have W₄ := W₃.call (h' := h₄) (.of_keeps fun b o q => (hs₄ b).trans q)
  refine wpAny_execs_cons ?_
  refine wpAny_Return_some ?_
  refine e_int ?_
  intro t₅ tk₅
  exact h _ _ _ W₄.done
set_option maxHeartbeats 1000000 in
theorem kind_2 {e : Addr} {m : Str → Option Value} {Q : Value → Shared → Prop} (G : Gr w H) (U : Up H hh) (x : ErrAt H hh e 2 m) (g : Gd H A hh 100 100) (hA : A.handled = none)
    (h : ∀ h' tk' t, KpN H hh h' → Q (.int 2 t) ⟨h', gg, dd, tk', os⟩) : wpAny (model prog w) A (call (.ref 223) [.ref e]) Q E ⟨hh, gg, dd, tt, os⟩ := by
  have hd := g.depth
  refine' enterE [("error", .ref e)] G U (fun _ => False) (fun _ q => q.elim) ?k6 ?kr ?k7 ?k9 ?kB ?c2 ?c3 ?c4 ?c5 ?_
  ktr_unf
  (case kr => omega)
  intro L h₁ tk₁ hL hk₁ W
  have x₁ := x.kp (.of_keeps hk₁)
  obtain ⟨d, t, tb, x1, x2, x3, x4, x5⟩ := x₁
  refine wpAny_execs_cons ?_
  refine wpAny_Try_except ?_
  refine wpAny_execs_cons ?_
  refine raise_exc (w := w) (k := 2) (e := e) (d := d) (t := t) (tb := tb) (hA := hA) ?_
  refine e_loc W (v := .ref e) (hv := by kernel_rfl) ?_
  refine ⟨rfl, G.X.keeps W.F.keep, x1, x3, ?_⟩
  intro h₂ hs₂
  have k₂ : KpN H h₁ h₂ := .of_keeps fun b o q => (hs₂ b).trans q
  have W₂ := W.call k₂
  have y1 : h₂.get? e = _ := (hs₂ e).trans x1
  refine note_St g W₂ rfl y1 (hec := by intro z; cases z) rfl rfl (x3.kp k₂ fun _ _ => id) ?_
  intro h₃ T y₃ hT₃ k₃'
  have k₃ := Kp.noted k₃' x4 y1 y₃ hT₃
  have W₃ := W₂.call k₃
  have X₃ := G.X.keeps W₃.F.keep
  have LT : Looks (model prog w) h₃ (typeOf (.ref e)) (.ref (clsOf 2)) := Ins.type (ox := excO (clsOf 2) (some d) t (.ref T)) ⟨y₃, rfl, rfl⟩
  refine clause_no (c := .ref 115) X₃ LT (hx := by kernel_rfl) (ht := fun A E Q q => e_gl G W₃ (v := .ref 115) (e := by kernel_rfl) q) ?_
  refine clause_no (c := .ref 151) X₃ LT (hx := by kernel_rfl) (ht := fun A E Q q => e_gl G W₃ (v := .ref 151) (e := by kernel_rfl) q) ?_
  refine clause_yes (c := .ref 139) X₃ LT (hx := by kernel_rfl) (ht := fun A E Q q => e_gl G W₃ (v := .ref 139) (e := by kernel_rfl) q) y₃ rfl rfl hT₃ ?_
  intro h₄ hs₄
  have W₄ := W₃.call (h' := h₄) (.of_keeps fun b o q => (hs₄ b).trans q)
  refine wpAny_execs_cons ?_
  refine wpAny_Return_some ?_
  refine e_int ?_
  intro t₅ tk₅
  exact h _ _ _ W₄.done
set_option maxHeartbeats 1000000 in
theorem kind_3 {e : Addr} {m : Str → Option Value} {Q : Value → Shared → Prop} (G : Gr w H) (U : Up H hh) (x : ErrAt H hh e 3 m) (g : Gd H A hh 100 100) (hA : A.handled = none)
    (h : ∀ h' tk' t, KpN H hh h' → Q (.int 3 t) ⟨h', gg, dd, tk', os⟩) : wpAny (model prog w) A (call (.ref 223) [.ref e]) Q E ⟨hh, gg, dd, tt, os⟩ := by
  have hd := g.depth
  refine' enterE [("error", .ref e)] G U (fun _ => False) (fun _ q => q.elim) ?k6 ?kr ?k7 ?k9 ?kB ?c2 ?c3 ?c4 ?c5 ?_
  ktr_unf
  (case kr => omega)
  intro L h₁ tk₁ hL hk₁ W
  have x₁ := x.kp (.of_keeps hk₁)
  obtain ⟨d, t, tb, x1, x2, x3, x4, x5⟩ := x₁
  refine wpAny_execs_cons ?_
  refine wpAny_Try_except ?_
  refine wpAny_execs_cons ?_
  refine raise_exc (w := w) (k := 3) (e := e) (d := d) (t := t) (tb := tb) (hA := hA) ?_
  refine e_loc W (v := .ref e) (hv := by kernel_rfl) ?_
  refine ⟨rfl, G.X.keeps W.F.keep, x1, x3, ?_⟩
  intro h₂ hs₂
  have k₂ : KpN H h₁ h₂ := .of_keeps fun b o q => (hs₂ b).trans q
  have W₂ := W.call k₂
  have y1 : h₂.get? e = _ := (hs₂ e).trans x1
  refine note_St g W₂ rfl y1 (hec := by intro z; cases z) rfl rfl (x3.kp k₂ fun _ _ => id) ?_
  intro h₃ T y₃ hT₃ k₃'
  have k₃ := Kp.noted k₃' x4 y1 y₃ hT₃
  have W₃ := W₂.call k₃
  have X₃ := G.X.keeps W₃.F.keep
  have LT : Looks (model prog w) h₃ (typeOf (.ref e)) (.ref (clsOf 3)) := Ins.type (ox := excO (clsOf 3) (some d) t (.ref T)) ⟨y₃, rfl, rfl⟩
  refine clause_no (c := .ref 115) X₃ LT (hx := by kernel_rfl) (ht := fun A E Q q => e_gl G W₃ (v := .ref 115) (e := by kernel_rfl) q) ?_
  refine clause_yes (c := .ref 151) X₃ LT (hx := by kernel_rfl) (ht := fun A E Q q => e_gl G W₃ (v := .ref 151) (e := by kernel_rfl) q) y₃ rfl rfl hT₃ ?_
  intro h₄ hs₄
  have W₄ := W₃.call (h' := h₄) (.of_keeps fun b o q => (hs₄ b).trans q)
  refine wpAny_execs_cons ?_
  refine wpAny_Return_some ?_
  refine e_int ?_
  intro t₅ tk₅
  exact h _ _ _ W₄.done
set_option maxHeartbeats 1000000 in
theorem kind_4 {e : Addr} {m : Str → Option Value} {Q : Value → Shared → Prop} (G : Gr w H) (U : Up H hh) (x : ErrAt H hh e 4 m) (g : Gd H A hh 100 100) (hA : A.handled = none)
    (h : ∀ h' tk' t, KpN H hh h' → Q (.int 4 t) ⟨h', gg, dd, tk', os⟩) : wpAny (model prog w) A (call (.ref 223) [.ref e]) Q E ⟨hh, gg, dd, tt, os⟩ := by
  have hd := g.depth
  refine' enterE [("error", .ref e)] G U (fun _ => False) (fun _ q => q.elim) ?k6 ?kr ?k7 ?k9 ?kB ?c2 ?c3 ?c4 ?c5 ?_
  ktr_unf
  (case kr => omega)
  intro L h₁ tk₁ hL hk₁ W
  have x₁ := x.kp (.of_keeps hk₁)
  obtain ⟨d, t, tb, x1, x2, x3, x4, x5⟩ := x₁
  refine wpAny_execs_cons ?_
  refine wpAny_Try_except ?_
  refine wpAny_execs_cons ?_
  refine raise_exc (w := w) (k := 4) (e := e) (d := d) (t := t) (tb := tb) (hA := hA) ?_
  refine e_loc W (v := .ref e) (hv := by kernel_rfl) ?_
  refine ⟨rfl, G.X.keeps W.F.keep, x1, x3, ?_⟩
  intro h₂ hs₂
  have k₂ : KpN H h₁ h₂ := .of_keeps fun b o q => (hs₂ b).trans q
  have W₂ := W.call k₂
  have y1 : h₂.get? e = _ := (hs₂ e).trans x1
  refine note_St g W₂ rfl y1 (hec := by intro z; cases z) rfl rfl (x3.kp k₂ fun _ _ => id) ?_
  intro h₃ T y₃ hT₃ k₃'
  have k₃ := Kp.noted k₃' x4 y1 y₃ hT₃
  have W₃ := W₂.call k₃
  have X₃ := G.X.keeps W₃.F.keep
  have LT : Looks (model prog w) h₃ (typeOf (.ref e)) (.ref (clsOf 4)) := Ins.type (ox := excO (clsOf 4) (some d) t (.ref T)) ⟨y₃, rfl, rfl⟩
  refine clause_yes (c := .ref 115) X₃ LT (hx := by kernel_rfl) (ht := fun A E Q q => e_gl G W₃ (v := .ref 115) (e := by kernel_rfl) q) y₃ rfl rfl hT₃ ?_
  intro h₄ hs₄
  have W₄ := W₃.call (h' := h₄) (.of_keeps fun b o q => (hs₄ b).trans q)
  refine wpAny_execs_cons ?_
  refine wpAny_Return_some ?_
  refine e_int ?_
  intro t₅ tk₅
  exact h _ _ _ W₄.done
/-- the kind, by the clause that catches -/
theorem kind223 {k : Nat} {e : Addr} {m : Str → Option Value} {Q : Value → Shared → Prop} (hk : k < 5) (G : Gr w H) (U : Up H hh) (x : ErrAt H hh e k m) (g : Gd H A hh 100 100) (hA : A.handled = none)
    (h : ∀ h' tk' t, KpN H hh h' → Q (.int (k : Int) t) ⟨h', gg, dd, tk', os⟩) : wpAny (model prog w) A (call (.ref 223) [.ref e]) Q E ⟨hh, gg, dd, tt, os⟩ := by
  have hk' : k = 0 ∨ k = 1 ∨ k = 2 ∨ k = 3 ∨ k = 4 := by omega
  rcases hk' with rfl | rfl | rfl | rfl | rfl
  · exact kind_0 G U x g hA h
  · exact kind_1 G U x g hA h
  · exact kind_2 G U x g hA h
  · exact kind_3 G U x g hA h
  · exact kind_4 G U x g hA h
end
end Mine
end
section
open PySem PySem.W PyProof.Rows PySem.Calls
open PySem.Builtin PySem.Builtin.ObjectAttr PySem.Builtin.BaseException
set_option Elab.async false
set_option linter.unusedVariables false
set_option maxRecDepth 100000
namespace Mine
theorem ae_notType : (Value.type "AttributeError" == Value.type "type") = false := by decide +kernel
theorem ae_canNew : (((Manifest.find? "AttributeError").bind (·.mro.findSome? fun (t : String) => (Manifest.find? t).bind fun b => if b.noNew then some true else if b.attrs.any (·.1 == "__new__") then some false else none)).getD false) = false := by decide +kernel
theorem ae_typeCall (rest : List Value) : checkTypeCall "AttributeError" ⟨rest, []⟩ = pure () := by kernel_rfl
theorem ae_mroFast : (fastBuiltinMro "AttributeError").map (·.isEmpty) = some false := by kernel_rfl
theorem ae_madeBy : Bind.madeBy (.type "AttributeError") = pure (some "Exception.__new__") := by kernel_rfl
theorem ae_newCheck (rest : List Value) : checkBuiltinCall "Exception.__new__" ⟨.type "AttributeError" :: rest, []⟩ = pure () := by kernel_rfl
theorem ae_subOwner : isSubtype (.type "AttributeError") (.type (String.dropRight "Exception.__new__" 8)) = pure true := by rw [isSubtype_type]; kernel_rfl
theorem ae_madeHere : Bind.madeHere "BaseException.__new__" (.type "AttributeError") = pure () := by kernel_rfl
theorem ae_self : isSubtype (.type "AttributeError") (.type "AttributeError") = pure true := by rw [isSubtype_type]; kernel_rfl
theorem ae_base : isSubtype (.type "AttributeError") (.type "BaseException") = pure true := by rw [isSubtype_type]; kernel_rfl
theorem ae_init : Slot "AttributeError" "__init__" "AttributeError.__init__" := .of (owner := "AttributeError") (n := "__init__") (by rw [typeLookup_type, builtinLookup_eq_fast]; kernel_rfl) (by decide +kernel) (by decide +kernel) (by decide +kernel)
    (by first | exact .inl (by decide +kernel) | exact .inr (by decide +kernel)) (by rw [isSubtype_type]; kernel_rfl)
theorem ae_initEntry : entryFor table "AttributeError.__init__" = some Builtin.«AttributeError.__init__» := entryFor_of_tree (by kernel_rfl)
theorem ae_argsOk (self v : Value) : argsOk "AttributeError.__init__" ⟨[self, v], []⟩ := by first | kernel_rfl | exact trivial | (unfold argsOk; kernel_rfl)
theorem ae_mro : ∃ l, mroOf (.type "AttributeError") = pure l ∧ l.isEmpty = false := by
  have h := ae_mroFast
  rw [mroOf_type]
  cases hm : fastBuiltinMro "AttributeError" with
  | none => rw [hm] at h; cases h
  | some l => rw [hm] at h; exact ⟨l, rfl, by simpa using h⟩
abbrev aeO (t : Addr) (tb : Value) (a b : Value) : Obj := { cls := .type "AttributeError", data := .fields #[.ref t, tb, .none, .none, .bool false, .none, a, b] }
section
variable {prog : Program} {w : World} {A : Around} {E : Value → Shared → Prop} {s : Shared}
theorem put_same {e : Addr} {o : Obj} {vs : Array Value} {i : Nat} {k : Int} {g : Array GenState} {d : Drawn} {t : Nat} {os : OsState} {h₂ : Heap} {M : Model} {Q : Unit → Shared → Prop} (he : h₂.get? e = some o) (hd : o.data = .fields vs) (hv : vs[i]? = some (rawInt k))
    (h : ∀ h', (∀ b, h'.get? b = h₂.get? b) → Q () ⟨h', g, d, t, os⟩) : wpAny M A (Builtin.Exceptions.excPut (.ref e) i (rawInt k)) Q E ⟨h₂, g, d, t, os⟩ := by
  unfold Builtin.Exceptions.excPut
  refine wpAny_bind (wpAny_field he hd hv ?_)
  refine wpAny_bind (wpAny_setField he hd (Array.getElem?_eq_some_iff.mp hv).1 ?_)
  exact wpAny_pure (h _ (upd_same he hd hv))
theorem ae_new {v : Value} {Q : Value → Shared → Prop}
    (h : Q (.ref (s.heap.push { cls := .type "tuple", data := .seq [v].toArray }).objs.size) { s with heap := (s.heap.push { cls := .type "tuple", data := .seq [v].toArray }).push (aeO s.heap.objs.size .none (rawInt 0) (rawInt 0)) }) :
    wpAny (model prog w) A (call (.builtin "Exception.__new__") [.type "AttributeError", v]) Q E s := by
  refine PyProof.Rows.call_builtin_at (by decide +kernel) PySem.F.excBase_Exception.entry (ae_newCheck [v]) ?_
  unfold Builtin.«BaseException.__new__»
  refine PyProof.Rows.wpAt_bind (PyProof.Rows.wpAt_owner rfl (by decide +kernel) (PyProof.Rows.wpAt_of_any ?_))
  dsimp only
  refine wpAny_bind (m := isType _) (wpAny_of_eq (a := true) rfl ?_)
  simp only [Bool.not_true, Bool.false_eq_true, if_false]
  refine wpAny_bind (wpAny_of_eq ae_subOwner ?_)
  simp only [Bool.not_true, Bool.false_eq_true, if_false]
  refine wpAny_bind (wpAny_of_eq ae_madeHere ?_)
  refine wpAny_bind (wpAny_of_eq (a := 2) ?own ?_)
  case own =>
    show (do
      if ← isSubtype (.type "AttributeError") (.type "AttributeError") then return 2
      if ← isSubtype (.type "AttributeError") (.type "NameError") then return 1
      return 0 : Sem Nat) = pure 2
    simp only [ae_self, pure_bind, if_true]
  unfold newTuple
  refine wpAny_bind (wpAny_newObj_type (wpAny_bind (wpAny_newObj_type (wpAny_pure ⟨_, rfl, ?_⟩) (by size_fits))) (by size_fits))
  first
    | exact h
    | simpa using h
theorem ae_initC {e t0 : Addr} {v : Value} {Q : Value → Shared → Prop} (he : s.heap.get? e = some (aeO t0 .none (rawInt 0) (rawInt 0)))
    (h : ∀ h' t', (∀ b o, b ≠ e → s.heap.get? b = some o → h'.get? b = some o) → h'.get? e = some (aeO t' .none (rawInt 0) (rawInt 0)) → h'.get? t' = some { cls := .type "tuple", data := .seq [v].toArray } → t' ≠ e → Q .none { s with heap := h' }) :
    wpAny (model prog w) A (call (.builtin "AttributeError.__init__") [.ref e, v]) Q E s := by
  have hT : s.TypeIs (.ref e) "AttributeError" := ⟨_, he, rfl⟩
  refine wpAny_call (codeAny_call_builtin ae_init.plain ae_initEntry (ae_init.check _ _ _ _ _ _ _ _ hT (ae_argsOk _ _) ?_))
  unfold Builtin.«AttributeError.__init__» Builtin.Exceptions.excInitWithMembers
  dsimp only
  unfold newTuple Builtin.Exceptions.excPut
  have he₁ := Heap.get?_push_of_some (h := s.heap) { cls := .type "tuple", data := .seq [v].toArray } he
  have hne : s.heap.objs.size ≠ e := Nat.ne_of_gt (Heap.lt_size he)
  refine wpAny_bind (wpAny_newObj_type ?_ (by size_fits))
  refine wpAny_bind (wpAny_bind (wpAny_field he₁ rfl rfl (wpAny_bind (wpAny_setField he₁ rfl (by show 0 < 8; decide) ?_))))
  refine wpAny_letGo ?_
  have he₂ := Heap.get?_update_self (Obj.mapFields (·.setIfInBounds 0 (Value.ref s.heap.objs.size))) he₁ rfl
  have ht₂ := (Heap.get?_update_other (s.heap.push { cls := .type "tuple", data := .seq [v].toArray }) (Obj.mapFields (·.setIfInBounds 0 (Value.ref s.heap.objs.size))) (Ne.symm hne)).trans (Heap.get?_push_size s.heap rfl)
  have k₂ : ∀ b o, b ≠ e → s.heap.get? b = some o → ((s.heap.push { cls := .type "tuple", data := .seq [v].toArray }).update e (Obj.mapFields (·.setIfInBounds 0 (Value.ref s.heap.objs.size)))).get? b = some o := fun b o hb q => (Heap.get?_update_other _ _ (Ne.symm hb)).trans (Heap.get?_push_of_some _ q)
  generalize (s.heap.push { cls := .type "tuple", data := .seq [v].toArray }).update e (Obj.mapFields (·.setIfInBounds 0 (Value.ref s.heap.objs.size))) = h₂ at he₂ ht₂ k₂
  refine wpAny_bind (wpAny_of_eq (a := [rawInt 0, rawInt 0]) (by rfl) ?_)
  unfold Builtin.Exceptions.excSetOwn
  dsimp only
  have hd₂ : h₂.get? e = some (aeO s.heap.objs.size .none (rawInt 0) (rawInt 0)) := he₂
  refine wpAny_bind (wpAny_bind (wpAny_fieldsOf hd₂ rfl ?_))
  have c8 : (#[Value.ref s.heap.objs.size, Value.none, Value.none, Value.none, Value.bool false, Value.none, rawInt 0, rawInt 0].size != 6 + [rawInt 0, rawInt 0].length) = false := by rfl
  rw [c8, if_neg Bool.false_ne_true]
  simp only [List.zipIdx_cons, List.zipIdx_nil, List.forIn_cons, List.forIn_nil]
  refine wpAny_bind (wpAny_bind (wpAny_bind (put_same hd₂ rfl (i := 6) (k := 0) rfl ?_)))
  intro h₃ hs₃
  refine wpAny_pure ?_
  dsimp only
  refine wpAny_bind (wpAny_bind (put_same ((hs₃ e).trans hd₂) rfl (i := 7) (k := 0) rfl ?_))
  intro h₄ hs₄
  refine wpAny_pure ?_
  dsimp only
  refine wpAny_pure (wpAny_pure (wpAny_pure ?_))
  exact (h h₄ s.heap.objs.size (fun b o hb q => (hs₄ b).trans ((hs₃ b).trans (k₂ b o hb q))) ((hs₄ e).trans ((hs₃ e).trans hd₂)) ((hs₄ _).trans ((hs₃ _).trans ht₂)) hne)
/-- AttributeError(v) -/
theorem ae_call {v : Value} {Q : Value → Shared → Prop}
    (h : ∀ h' e t', (∀ b o, s.heap.get? b = some o → h'.get? b = some o) → s.heap.get? e = none → s.heap.objs.size ≤ e → h'.get? e = some (aeO t' .none (rawInt 0) (rawInt 0)) → h'.get? t' = some { cls := .type "tuple", data := .seq [v].toArray } → Q (.ref e) { s with heap := h' }) :
    wpAny (model prog w) A (call (.type "AttributeError") [v]) Q E s := by
  refine wpAny_call (codeAny_of_tree ?_)
  show wpAny _ _ (callAny (.type "AttributeError") ⟨[v], []⟩) _ _ s
  simp only [callAny]
  refine wpAny_pure ⟨Code.quiet_builtin _ (by decide +kernel), codeAny_builtin PyProof.Rows.entry_type_call ?_⟩
  rw [Around.under_plain (weight_type_call "AttributeError" _ _) (by first | rfl | kernel_rfl | decide +kernel)]
  unfold Builtin.«type.__call__»
  dsimp only
  rw [if_neg (by rw [ae_notType]; exact Bool.false_ne_true), if_neg (by rw [ae_canNew]; exact Bool.false_ne_true)]
  obtain ⟨l, hl, hle⟩ := ae_mro
  refine wpAny_bind (wpAny_of_eq (ae_typeCall [v]) (wpAny_bind (wpAny_of_eq hl ?_)))
  rw [if_neg (by rw [hle]; exact Bool.false_ne_true)]
  refine wpAny_bind (wpAny_of_eq ae_madeBy ?_)
  dsimp only
  refine wpAny_bind (wpAny_pure (wpAny_bind (wpAny_holding (ae_new ?_))))
  refine wpAny_bind (wpAny_isInstance (T := "AttributeError") ⟨_, Heap.get?_push_size _ rfl, rfl⟩ ae_self ?_)
  simp only [Bool.not_true, Bool.false_eq_true, if_false]
  refine wpAny_bind (wpAny_holding (wpAny_callSpecial?_slot (name := Str.ofString "__init__") (T := "AttributeError") ⟨_, Heap.get?_push_size _ rfl, rfl⟩ ae_init (ae_initC (Heap.get?_push_size _ rfl) ?_)))
  intro h' t' k' e' x' n'
  dsimp only
  rw [if_neg (by simp)]
  refine wpAny_pure (h _ _ t' (fun b o hb => k' b o ?_ (Heap.get?_push_of_some _ (Heap.get?_push_of_some _ hb))) (Heap.get?_none_of_le (by simp)) (by simp) e' x')
  exact Nat.ne_of_lt (Nat.lt_of_lt_of_le (Heap.lt_size hb) (by simp))
end
end Mine
end
section
open PySem PySem.W PyProof.Rows PySem.Calls
open PySem.Builtin PySem.Builtin.ObjectAttr PySem.Builtin.BaseException
set_option Elab.async false
set_option linter.unusedVariables false
set_option maxRecDepth 100000
namespace Mine
local macro_rules | `(tactic| ktr_unf) => `(tactic| ((case k6 => rfl); (case k7 => kernel_rfl); (case k9 => intro S; kernel_rfl); (case c5 => kernel_rfl); (case kB => kernel_rfl); (case c2 => exact rfl); (case c3 => exact rfl); (case c4 => exact rfl)))
theorem ae_strSlot : Slot "AttributeError" "__str__" "AttributeError.__str__" := .of (owner := "AttributeError") (n := "__str__") (by rw [typeLookup_type, builtinLookup_eq_fast]; kernel_rfl) (by decide +kernel) (by decide +kernel) (by decide +kernel)
    (by first | exact .inl (by decide +kernel) | exact .inr (by decide +kernel)) (by rw [isSubtype_type]; kernel_rfl)
theorem ae_strEntry : entryFor table "AttributeError.__str__" = some Builtin.«BaseException.__str__» := entryFor_alias (id' := "BaseException.__str__") (by kernel_rfl) (by first | rfl | (unfold String.splitOn; simp +decide [String.splitOnAux])) (by decide +kernel) (by kernel_rfl)
theorem ae_strArgs (a : Value) : argsOk "AttributeError.__str__" ⟨[a], []⟩ := by unfold argsOk; kernel_rfl
section
variable {prog : Program} {w : World} {A : Around} {E : Value → Shared → Prop} {s : Shared} {e t0 : Addr}
theorem ae_strOf (hu : A.units < cLine) {m : Str} {tk : Tok} {Q : Value → Shared → Prop} (x : s.heap.ExcAt e "AttributeError" (.ref t0)) (ht : s.heap.TupAt t0 [.str m tk]) (hq : Q (.str m tk) s) :
    wpAny (model prog w) A (PySem.Builtin.Str.strOf (.ref e)) Q E s := by
  unfold PySem.Builtin.Str.strOf
  repeat (first | with_reducible refine wpAny_cRoomFor hu ?_ | with_reducible refine wpAny_callSpecial?_slot x.typeIs ae_strSlot (wpAny_call_entry ae_strSlot x.typeIs ae_strEntry (bexcStr_entry_one x ht ⟨_, rfl, ?_⟩) (ae_strArgs _)) | wp_step)
  exact hq
/-- str(an AttributeError of one text) -/
theorem ae_strCall (hu : A.units + 2 < cLine) {m : Str} {tk : Tok} {Q : Value → Shared → Prop} (x : s.heap.ExcAt e "AttributeError" (.ref t0)) (ht : s.heap.TupAt t0 [.str m tk]) (h : Q (.str m tk) s) :
    wpAny (model prog w) A (call (.type "str") [.ref e]) Q E s :=
  callType_new F.called_str (by decide) (F.typeCall_str_1 _) (F.newCall_str_1 _) (fun obj => F.args_object_init_2 obj _) F.entry_str_new
    (meets_str_new (S := fun A' R s' => A'.units + 1 < cLine ∧ s'.heap.ExcAt e "AttributeError" (.ref t0) ∧ s'.heap.TupAt t0 [.str m tk] ∧ R (.ok (.ret (.str m tk))) s')
      fun _ _ A' _ _ hq => ae_strOf (A := A'.in1) hq.1 hq.2.1 hq.2.2.1 hq.2.2.2)
    ⟨(show A.units + 1 + 1 < cLine from hu), x, ht, typeIs_str _ _ _, h⟩
end
/-- an AttributeError that has been raised -/
def AeAt (h : Heap) (x : Addr) (tb : Value) : Prop := ∃ t a b, h.get? x = some (aeO t tb a b) ∧ TbOk h tb
section
variable {prog : Program} {w : World} {A : Around} {E : Value → Shared → Prop} {hh : Heap} {gg : Array GenState} {dd : Drawn} {tt : Nat} {os : OsState} {H : Heap} {env : Env}
theorem enterR (binds : List (Str × Value)) {Q : Value → Shared → Prop} {name qual : Str} {params : Arguments} {body : List Stmt} {scope : Scope} {dV kV doc pm cdv ct oc : Value} {an od : Option Addr} {osl : Array (Option Value)} {f : Addr} {pos : List Value} {kw : List (Str × Value)}
    (G : Gr w H) (U : Up H hh) (S : Addr → Prop) (sx : ∀ b, S b → H.objs.size ≤ b ∧ ∃ o, hh.get? b = some o ∧ o.cls ≠ .type "traceback" ∧ o.cls ≠ .type "frame")
    (ho : (KF w).lookup f = some ⟨oc, od, .func (fnOf name qual params body scope dV kV doc pm an cdv ct), osl⟩) (hroom : A.depth < 1000)
    (hcd : codeIn (KF w) cdv qual = true) (hbind : ∀ S, peek (KF w) S (bindArgs (fnOf name qual params body scope dV kV doc pm an cdv ct) ⟨pos, kw⟩) = some binds) (hloc : (binds.all fun x => decide (scope.names.lookup x.1 = some .local)) = true)
    (hco : scope.isCoroutine = false) (hgen : scope.isGenerator = false) (hk : scope.kind = .function) (hcell : (scope.names.all fun x => x.2 != .cell) = true)
    (h : ∀ L h₁ tk, L = hh.objs.size → (∀ b o, hh.get? b = some o → h₁.get? b = some o) → St H S hh L h₁ (fun y => binds.reverse.lookup y) [] →
      wpAny (model prog w) (A.deeper (envOf qual scope L f cdv)) (execs body (envOf qual scope L f cdv))
        (fun fl s' => Q (match fl with | .ret v => v | _ => .none) s') (fun e s' => wpAny (model prog w) (A.deeper (envOf qual scope L f cdv)) (noteFrame e (envOf qual scope L f cdv)) (fun _ s₂ => wpAny (model prog w) (A.deeper (envOf qual scope L f cdv)) (setFlight e none) (fun _ s'' => E e s'') (fun e' s'' => E e' s'') s₂) (fun e' s'' => E e' s'') s') ⟨h₁, gg, dd, tk, os⟩) :
    wpAny (model prog w) A (call (.ref f) pos kw) Q E ⟨hh, gg, dd, tt, os⟩ :=
  wpAny_call (enter (s := ⟨hh, gg, dd, tt, os⟩) G U S sx ho hcd hroom (kp_binds (G.X.keeps U.keep) hbind) (locs hloc) (fun L h₁ hL hk₁ W => wpAny_mono (h L h₁ _ hL hk₁ W) (fun _ _ z => z) fun _ _ z => wpAny_bind z) hco hgen hk (fun x hx => by simpa using List.all_eq_true.mp hcell x hx))
/-- raise of a new AttributeError -/
theorem raise_ae {M : Model} {e t : Addr} {a b : Value} {x : Expr} {pos : Pos} {Q : Flow → Shared → Prop} {s : Shared} (hA : A.handled = none)
    (h : wpAny M A (eval x env) (fun v s₁ => ∃ e t a b, v = .ref e ∧ s₁.heap.get? e = some (aeO t .none a b) ∧ ∀ h', (∀ b, h'.get? b = s₁.heap.get? b) → E (.ref e) { s₁ with heap := h' }) E s) :
    wpAny M A (exec (.Raise (some x) none pos) env) Q E s := by
  rw [arm_exec_Raise]
  refine wpAny_bind (wpAny_standAt ?_)
  show wpAny M A (raiseStmt env (some (do let v ← eval x env; standAt pos; pure v)) none) Q E s
  unfold raiseStmt
  refine wpAny_bind (wpAny_bind (wpAny_mono h (fun v s₁ z => wpAny_bind (wpAny_standAt (wpAny_pure ?_))) fun _ _ z => z))
  obtain ⟨e, t, a, b, rfl, hx, hE⟩ := z
  obtain ⟨hh, gg, dd, tt, os⟩ := s₁
  have nt : Looks M hh (isType (.ref e)) false := by
    intro A Q E s k q
    unfold isType loadHead
    exact wpAny_bind (wpAny_loadPart (k _ _ hx) (wpAny_pure q))
  have ty : Looks M hh (typeOf (.ref e)) (.type "AttributeError") := (Looks.ld (part := none) hx).andThen .now
  refine wpAny_bind (wpAny_pure ?_)
  refine wpAny_bind (wpAny_holding ?_)
  unfold excFromValue isExcClass
  refine wpAny_bind (wpAny_bind (nt.at ?_))
  rw [if_neg (by decide)]
  refine wpAny_pure ?_
  rw [if_neg (by decide)]
  refine wpAny_bind ((ty.andThen (Looks.of_pure ae_base) : Looks M hh (isInstance (.ref e) (.type "BaseException")) true).at ?_)
  rw [if_pos rfl]
  refine wpAny_pure ?_
  dsimp only
  refine wpAny_bind (nt.at ?_)
  rw [if_neg (by decide)]
  unfold raisedInstance
  refine wpAny_bind (wpAny_bind (ty.at ?_))
  refine wpAny_bind ((Looks.of_pure (show typeOf (.type "AttributeError") = pure (.type "type") by kernel_rfl)).at ?_)
  rw [if_pos (by decide)]
  refine wpAny_pure ?_
  refine wpAny_bind (flight0 hx rfl rfl (.inl rfl) ?_)
  intro h' hs
  exact wpAny_raiseNew_none hA (hE h' hs)
theorem ae_turn {h h' : Heap} {x : Addr} {h₀ : Heap} {S : Addr → Prop} {L : Addr} {m : Str → Option Value} {objs : List (Addr × Obj)} (W : St H S h₀ L h m objs) (K : Kp H (· = x) h h') (hx : h₀.get? x = none) (hH : H.objs.size ≤ x) (hS : ¬ S x) (ho : ∀ o, h.get? x = some o → o.cls = .type "AttributeError") : St H S h₀ L h' m [] :=
  W.turns (D := (· = x)) K (fun b q => .inl (q ▸ hx)) (fun b q => ⟨q ▸ hH, fun o e => by
    rw [ho o (q ▸ e)]
    exact ⟨fun z => absurd (Value.type.inj z) (by decide), fun z => absurd (Value.type.inj z) (by decide)⟩⟩) (fun b q z => absurd (q ▸ z) hS) (fun _ hp => nomatch hp)
set_option maxHeartbeats 2000000 in
theorem get57 {e : Addr} {ix : Value} {Q : Value → Shared → Prop} (G : Gr w H) (U : Up H hh) (g : Gd H A hh 50 50) (hA : A.handled = none)
    (h : ∀ h' tk' x t tk T, KpN H hh h' → hh.get? x = none → H.objs.size ≤ x → h'.get? x = some (aeO t (.ref T) (rawInt 0) (rawInt 0)) → TbOk h' (.ref T) → h'.get? t = some { cls := .type "tuple", data := .seq [.str "__getitem__" tk].toArray } → E (.ref x) ⟨h', gg, dd, tk', os⟩) :
    wpAny (model prog w) A (call (.ref 57) [.ref e, ix]) Q E ⟨hh, gg, dd, tt, os⟩ := by
  have hd := g.depth
  refine' enterR [("self", .ref e), ("ix", ix)] G U (fun _ => False) (fun _ q => q.elim) ?k6 ?kr ?k7 ?k9 ?kB ?c2 ?c3 ?c4 ?c5 ?_
  ktr_unf
  (case kr => omega)
  intro L h₁ tk₁ hL hk₁ W
  refine wpAny_execs_cons ?_
  refine raise_ae (e := 0) (t := 0) (a := .none) (b := .none) (hA := hA) ?_
  refine Call_ ?_
  refine e_bi G W (v := .type "AttributeError") (e := by kernel_rfl) (hv := by kernel_rfl) (hn := by decide) ?_
  refine callT ?_
  refine spliced_more (he := by kernel_rfl) ?_
  refine e_str ?_
  intro tk tk₂
  refine spliced_none ?_
  refine ae_call ?_
  intro h₂ x t k₂ hx0 hxs hx₂ ht₂
  refine ⟨x, t, rawInt 0, rawInt 0, rfl, hx₂, ?_⟩
  intro h₃ hs₃
  have W₂ := W.call (.of_keeps k₂)
  have W₃ := W₂.call (h' := h₃) (.of_keeps fun b o q => (hs₃ b).trans q)
  have hx₃ := (hs₃ x).trans hx₂
  have ht₃ := (hs₃ t).trans ht₂
  have hxh : hh.get? x = none := fresh_in (h' := h₂) hk₁ hx0
  have hxH : H.objs.size ≤ x := Nat.le_trans (Fr.up W.F).size hxs
  refine note_St g W₃ rfl hx₃ (hec := fun z => absurd (Value.type.inj z) (by decide)) rfl rfl (.inl rfl) ?_
  intro h₄ T hx₄ hT₄ k₄
  have W₄ := ae_turn W₃ k₄ hxh hxH id (fun o q => by rw [hx₃] at q; cases q; rfl)
  have hne : t ≠ x := fun z => by rw [z, hx₂] at ht₂; exact absurd (congrArg Obj.cls (Option.some.inj ht₂)) fun q => absurd (Value.type.inj q) (by decide)
  refine h _ _ x t tk T W₄.done hxh hxH hx₄ hT₄ (k₄.plain ht₃ (plain_type (by decide)) hne)
end
end Mine
end
section
open PySem PySem.W PyProof.Rows PySem.Calls
open PySem.Builtin PySem.Builtin.ObjectAttr PySem.Builtin.BaseException
set_option Elab.async false
set_option linter.unusedVariables false
set_option maxRecDepth 100000
namespace Mine
local macro_rules | `(tactic| ktr_unf) => `(tactic| ((case k6 => rfl); (case k7 => kernel_rfl); (case k9 => intro S; kernel_rfl); (case c5 => kernel_rfl); (case kB => kernel_rfl); (case c2 => exact rfl); (case c3 => exact rfl); (case c4 => exact rfl)))
theorem St.gone {H h₀ h h' : Heap} {S : Addr → Prop} {L : Addr} {m : Str → Option Value} {objs : List (Addr × Obj)} (W : St H S h₀ L h m objs) (k : Heap.SameBut L h h') : Kp H S h₀ h' :=
  (W.k.trans (.same k (.inl rfl)) W.notTb).mono fun b o e q => by
    rcases q with q | q
    · subst q; rw [W.out] at e; cases e
    · exact q
theorem item57 (w : World) (k : Nat) : findIn (KF w) (.ref (clsOf k)) "__getitem__" = some (some (.ref 57)) :=
  clsOf_cases k (fun C => findIn (KF w) (.ref C) "__getitem__" = some (some (.ref 57))) (by kernel_rfl) (by kernel_rfl) (by kernel_rfl) (by kernel_rfl) (by kernel_rfl)
section
variable {prog : Program} {w : World} {A : Around} {E : Value → Shared → Prop} {hh : Heap} {gg : Array GenState} {dd : Drawn} {tt : Nat} {os : OsState} {H : Heap}
theorem e_sub57 {e : Addr} {k : Nat} {m : Str → Option Value} {L : Addr} {h₀ : Heap} {S : Addr → Prop} {mm : Str → Option Value} {objs : List (Addr × Obj)} {value slice : Expr} {i : Value} {Q : Value → Shared → Prop} (G : Gr w H) (W : St H S h₀ L hh mm objs) (x : ErrAt H hh e k m) (hsl : subscripted slice true (.ref e) i = runValue (.builtin "lifetime.subscript" ⟨[.ref e, i], []⟩))
    (h : wpAny (model prog w) A.in1 (call (.ref 57) [.ref e, i]) Q E ⟨hh, gg, dd, tt, os⟩) : wpAny (model prog w) A (subscriptTail value slice (.ref e) i) Q E ⟨hh, gg, dd, tt, os⟩ := by
  obtain ⟨d, t, tb, x1, x2, x3, x4, x5⟩ := x
  obtain ⟨_, od, _, _, hod, _⟩ := x2
  exact sub_K (s := ⟨hh, gg, dd, tt, os⟩) (h₀ := H) (K := KF w) (od := some od) W.F G.X ⟨x1, rfl, rfl, hod⟩ (item57 w k) (by kernel_rfl) (by kernel_rfl) h hsl
set_option maxHeartbeats 2000000 in
theorem part237 {e : Addr} {k : Nat} {m : Str → Option Value} {Q : Value → Shared → Prop} (G : Gr w H) (U : Up H hh) (x : ErrAt H hh e k m) (g : Gd H A hh 100 100) (hA : A.handled = none)
    (h : ∀ h' tk' t, KpN H hh h' → Q (.str "__getitem__" t) ⟨h', gg, dd, tk', os⟩) : wpAny (model prog w) A (call (.ref 237) [.ref e]) Q E ⟨hh, gg, dd, tt, os⟩ := by
  have hd := g.depth
  have hun := g.units
  refine' enterE [("error", .ref e)] G U (fun _ => False) (fun _ q => q.elim) ?k6 ?kr ?k7 ?k9 ?kB ?c2 ?c3 ?c4 ?c5 ?_
  ktr_unf
  (case kr => omega)
  intro L h₁ tk₁ hL hk₁ W
  have x₁ := x.kp (.of_keeps hk₁)
  refine wpAny_execs_cons ?_
  refine wpAny_Try_except ?_
  refine wpAny_execs_cons ?_
  refine wpAny_Return_some ?_
  refine List_ ?_
  refine spliced_more (he := by kernel_rfl) ?_
  refine Subscript_ ?_
  refine e_loc W (v := .ref e) (hv := by kernel_rfl) ?_
  refine e_int ?_
  intro _ _
  refine e_sub57 G W x₁ (hsl := by kernel_rfl) ?_
  refine get57 G (Fr.up W.F) (g := ((g.le (d' := 50 + 1) (u' := 51 + 3) (by omega) (by omega)).deeper W rfl).in1) (hA := hA) ?_
  intro h₂ tk₂ y t tk T k₂ hy0 hyH hy hT ht
  have W₂ := W.call k₂
  have hyh : hh.get? y = none := fresh_in (h' := h₂) hk₁ hy0
  refine note_St g W₂ rfl hy (hec := fun z => absurd (Value.type.inj z) (by decide)) rfl rfl hT ?_
  intro h₃ T₃ hy₃ hT₃ k₃
  have W₃ := ae_turn W₂ k₃ hyh hyH id (fun o q => by rw [hy] at q; cases q; rfl)
  have hne : t ≠ y := fun z => by rw [z, hy] at ht; exact absurd (congrArg Obj.cls (Option.some.inj ht)) fun q => absurd (Value.type.inj q) (by decide)
  have ht₃ := k₃.plain ht (plain_type (by decide)) hne
  refine wpAny_handleBy_builtin_as (X := "AttributeError") (T := "AttributeError") (b := true) (hexc := ae_base) (hnt := by rw [isSubtype_type]; kernel_rfl) (hsub := ae_self) ?_
  refine e_bi G W₃ (v := .type "AttributeError") (e := by kernel_rfl) (hv := by kernel_rfl) (hn := by decide) ?_
  refine ⟨rfl, ⟨_, hy₃, rfl⟩, ?_⟩
  rw [if_pos rfl]
  refine flight0 hy₃ rfl rfl hT₃ ?_
  intro h₄ hs₄
  have W₄ := W₃.call (h' := h₄) (.of_keeps fun b o q => (hs₄ b).trans q)
  have hy₄ := (hs₄ y).trans hy₃
  have ht₄ := (hs₄ t).trans ht₃
  have W₄' := (W₄.add ht₄ (plain_type (by decide))).add hy₄ (plain_type (by decide))
  refine e_store W₄' ?_
  intro h₅ tk₅ W₅
  refine wpAny_execs_cons ?_
  refine wpAny_Return_some ?_
  refine Call_ ?_
  refine e_bi G W₅ (v := .type "str") (e := by kernel_rfl) (hv := by kernel_rfl) (hn := by decide) ?_
  refine callT ?_
  refine spliced_more (he := by kernel_rfl) ?_
  refine e_loc W₅ (v := .ref y) (hv := by kernel_rfl) ?_
  refine spliced_none ?_
  refine ae_strCall (t0 := t) (m := "__getitem__") (tk := tk) (hu := by show A.units + 3 + 2 < 9900; omega) ⟨_, _, W₅.has (.head _), rfl, rfl, rfl⟩ ⟨_, _, W₅.has (.tail _ (.head _)), rfl, rfl⟩ ?_
  refine wpAny_nameGoes (m := _) (by kernel_rfl) W₅.F.ns (by rfl) ?_
  intro h₆ m₆ hn₆ hs₆
  exact h _ _ _ (W₅.gone hs₆)
end
end Mine
end
section
open PySem PySem.W PyProof.Rows PySem.Calls
open PySem.Builtin PySem.Builtin.ObjectAttr PySem.Builtin.BaseException
set_option Elab.async false
set_option linter.unusedVariables false
set_option maxRecDepth 100000
namespace Mine
section
variable {prog : Program} {w : World} {A : Around} {E : Value → Shared → Prop} {hh : Heap} {gg : Array GenState} {dd : Drawn} {tt : Nat} {os : OsState} {H : Heap}
theorem clsStr (w : World) (k : Nat) (hk : k < 4) : findIn (KF w) (.ref (clsOf k)) "__str__" = some (some (.ref 50)) := by
  match k with
  | 0 => kernel_rfl
  | 1 => kernel_rfl
  | 2 => kernel_rfl
  | 3 => kernel_rfl
/-- str(error) of the four other kinds -/
theorem str_other {e : Addr} {k : Nat} {m : Str → Option Value} {x : Str} {t : Tok} {Q : Value → Shared → Prop} (hk : k < 4) (G : Gr w H) (U : Up H hh) (y : ErrAt H hh e k m) (hm : m "_msg" = some (.str x t)) (g : Gd H A hh 100 100)
    (h : ∀ h' tk', KpN H hh h' → Q (.str x t) ⟨h', gg, dd, tk', os⟩) : wpAny (model prog w) A (call (.type "str") [.ref e]) Q E ⟨hh, gg, dd, tt, os⟩ := by
  have X := G.X.keeps U.keep
  have hd := g.depth
  have hu := g.units
  obtain ⟨d, tq, tb, x1, x2, x3, x4, x5⟩ := id y
  obtain ⟨_, od, _, _, hod, _⟩ := x2
  refine kso_call (s := ⟨hh, gg, dd, tt, os⟩) (K := KF w) (C := clsOf k) (f := 50) (od := some od) (ox := excO (clsOf k) (some d) tq tb) (hu := by show A.units + 1 + 1 < 9900; omega) X ⟨x1, rfl, rfl, hod⟩ (clsStr w k hk) (by kernel_rfl) ?_
  refine get50 (s := ⟨hh, gg, dd, tt, os⟩) G U (by show A.depth < 900; omega) y hm rfl ?_
  intro h' tk' k'
  exact h h' tk' k'
end
end Mine
end
section
open PySem PySem.W PyProof.Rows PySem.Calls
open PySem.Builtin PySem.Builtin.ObjectAttr PySem.Builtin.BaseException
set_option Elab.async false
set_option linter.unusedVariables false
set_option maxRecDepth 100000
namespace Mine
local macro_rules | `(tactic| ktr_unf) => `(tactic| ((case k6 => rfl); (case k7 => kernel_rfl); (case k9 => intro S; kernel_rfl); (case c5 => kernel_rfl); (case kB => kernel_rfl); (case c2 => exact rfl); (case c3 => exact rfl); (case c4 => exact rfl)))
/-- how a plain answer is shown -/
def Dv.show (lit : Str) : Dv → Str
  | .n => lit
  | .i k => Str.ofString (toString k)
  | .s x => x
def Dv.Ok : Dv → Prop
  | .n => True
  | .i k => k.natAbs < 1000 ∧ (Str.ofString (toString k)).length ≤ 10
  | .s x => x.length ≤ 100
theorem Dv.show_len {r : Dv} {lit : Str} (h : r.Ok) (hl : lit.length ≤ 100) : (r.show lit).length ≤ 100 := by
  cases r with
  | n => exact hl
  | i k => exact Nat.le_trans h.2 (by decide)
  | s x => exact h
def Shw (v : Value) (y : Str) : Prop := (∃ t, v = .str y t) ∨ ∃ n t, v = .int n t ∧ y = Str.ofString (toString n) ∧ n.natAbs < 1000
theorem log_small {n : Int} (h : n.natAbs < 1000) : n.natAbs.log2 < 1920 := by
  by_cases q : n.natAbs = 0
  · rw [q]; decide
  · exact (Nat.log2_lt q).mpr (Nat.lt_of_lt_of_le h (by decide +kernel))
section
variable {prog : Program} {w : World} {A : Around} {E : Value → Shared → Prop} {hh : Heap} {gg : Array GenState} {dd : Drawn} {tt : Nat} {os : OsState} {H h₀ : Heap} {S : Addr → Prop} {L a : Addr} {m : Str → Option Value} {objs : List (Addr × Obj)} {cn : Str} {cs : Scope} {ccd : Value} {env : Env}
theorem e_field {v : Value} {y : Str} {Q : Value → Shared → Prop} (hv : Shw v y) (hy : y.length ≤ 1000) (h : ∀ t tk, Q (.str y t) ⟨hh, gg, dd, tk, os⟩) :
    wpAny (model prog w) A (convS v) (fun r s₂ => wpAny (model prog w) A (formatField r Str.empty) Q E s₂) E ⟨hh, gg, dd, tt, os⟩ := by
  have hsz : y.length ≤ sizeLine := by rw [sizeLine_eq]; omega
  rcases hv with ⟨t, rfl⟩ | ⟨n, t, rfl, rfl, hn⟩
  · exact habitSame_str (s := ⟨hh, gg, dd, tt, os⟩) (fun t' tk => formatField_str (s := ⟨hh, gg, dd, tk, os⟩) (fun t'' tk' => h t'' tk') hsz) hsz
  · exact pyStrObj_int (s := ⟨hh, gg, dd, tt, os⟩) (log_small hn) (formatField_str (s := ⟨hh, gg, dd, tt + 1, os⟩) (fun t'' tk' => h t'' tk') hsz)
theorem e_joinF {value : Expr} {pos : Pos} {rest : List (Sem Value)} {out y : Str} {s : Shared} {Q : Value → Shared → Prop}
    (h : wpAny (model prog w) A (eval value env) (fun v s₁ => ∃ y, Shw v y ∧ y.length ≤ 1000 ∧ (out ++ y).length ≤ 5000 ∧ ∀ tk, wpAny (model prog w) A (joinParts (out ++ y) rest) Q E { s₁ with toks := tk }) E s) :
    wpAny (model prog w) A (joinParts out (eval (.FormattedValue value 115 none pos) env :: rest)) Q E s := by
  refine joinParts_cons (wpAny_FormattedValue_s (wpAny_mono h (fun v s₁ z => ?_) fun _ _ z => z))
  obtain ⟨y, h1, h2, h3, h4⟩ := z
  obtain ⟨hh, gg, dd, tt, os⟩ := s₁
  exact e_field h1 h2 fun t tk => ⟨by rw [sizeLine_eq]; omega, h4 tk⟩
theorem e_joinC {x : Str} {k : Nat} {pos : Pos} {rest : List (Sem Value)} {out : Str} {Q : Value → Shared → Prop} (hsz : (out ++ x).length ≤ 5000)
    (h : ∀ tk, wpAny (model prog w) A (joinParts (out ++ x) rest) Q E ⟨hh, gg, dd, tk, os⟩) :
    wpAny (model prog w) A (joinParts out (eval (.Constant (.str x) k pos) env :: rest)) Q E ⟨hh, gg, dd, tt, os⟩ :=
  joinParts_cons (e_str fun t tk => ⟨by rw [sizeLine_eq]; omega, h tk⟩)
theorem e_joinN {out : Str} {Q : Value → Shared → Prop} (hsz : out.length ≤ 5000) (h : ∀ t tk, Q (.str out t) ⟨hh, gg, dd, tk, os⟩) : wpAny (model prog w) A (joinParts out []) Q E ⟨hh, gg, dd, tt, os⟩ :=
  joinParts_nil (s := ⟨hh, gg, dd, tt, os⟩) (h _ _) (by rw [sizeLine_eq]; omega)
/-- if x is None: x = 'lit' -/
theorem if_none {x lit : Str} {v : Value} {r : Dv} {p1 p2 p3 p4 p5 p6 p7 : Pos} {k1 k2 : Nat} {Q : Flow → Shared → Prop} (W : St H S h₀ L hh m objs) (hm : m x = some v) (hr : r.Is v) (ho : r.Ok)
    (h : ∀ h' tk v', Shw v' (r.show lit) → St H S h₀ L h' (fun y => if y = x then some v' else m y) objs → Q .next ⟨h', gg, dd, tk, os⟩)
    (hk : cs.kind = .function) (hl : (envOf cn cs L a ccd).kindOf x = some .local) (hd : (x == ("__debug__" : Str)) = false) (hmk : behindInMarks .Is (.Constant .none k1 p2) = false) (hs : swapsWith (.Constant (.str lit) k2 p5) (some (.Name x p4)) p6.line (envOf cn cs L a ccd) = pure false) :
    wpAny (model prog w) A (exec (.If (.Compare (.Name x p1) [.Is] [.Constant .none k1 p2] p3) [.Assign [.Name x p4] (.Constant (.str lit) k2 p5) p6] [] p7) (envOf cn cs L a ccd)) Q E ⟨hh, gg, dd, tt, os⟩ := by
  refine wpAny_If ?_
  refine wpAny_isTrue_Compare1 (hm := hmk) ?_
  refine e_loc W (v := v) (hv := hm) ?_ hk hl hd
  refine e_none ?_
  have same : ∀ v', m x = some v' → (fun y => if y = x then some v' else m y) = m := fun v' q => by
    funext y
    by_cases z : y = x
    · rw [if_pos z, z, q]
    · rw [if_neg z]
  cases r with
  | n =>
    cases hr
    refine e_isNone (hp := rfl) ?_
    refine e_truthb ?_
    refine e_ifT (hb := rfl) ?_
    refine wpAny_execs_cons ?_
    refine wpAny_Assign_Name (hs := hs) ?_
    refine e_str ?_
    intro t tk
    refine e_store W ?_ hk hl
    intro h' tk' W'
    refine wpAny_execs_nil ?_
    exact h h' tk' _ (.inl ⟨t, rfl⟩) W'
  | i k =>
    obtain ⟨t, rfl⟩ := hr
    refine e_isNone (hp := rfl) ?_
    refine e_truthb ?_
    refine e_ifF (hb := rfl) ?_
    refine wpAny_execs_nil ?_
    exact h hh _ _ (.inr ⟨k, t, rfl, rfl, ho.1⟩) (by rw [same _ hm]; exact W)
  | s y =>
    obtain ⟨t, rfl⟩ := hr
    refine e_isNone (hp := rfl) ?_
    refine e_truthb ?_
    refine e_ifF (hb := rfl) ?_
    refine wpAny_execs_nil ?_
    exact h hh _ (.str y t) (.inl ⟨t, rfl⟩) (by rw [same _ hm]; exact W)
end
def textOf (sys line col : Dv) (x : Str) : Str := sys.show "<unknown>" ++ ":" ++ line.show "?" ++ ":" ++ col.show "?" ++ ": " ++ x
section
variable {prog : Program} {w : World} {A : Around} {E : Value → Shared → Prop} {hh : Heap} {gg : Array GenState} {dd : Drawn} {tt : Nat} {os : OsState} {H : Heap}
set_option maxHeartbeats 2000000 in
theorem str112 {e : Addr} {msg exc loc sv cv lv : Value} {sys col line : Dv} {x : Str} {t : Tok} {Q : Value → Shared → Prop} (G : Gr w H) (U : Up H hh) (y : ErrAt H hh e 4 (m4 (.str x t) exc loc sv cv lv))
    (hs : sys.Is sv) (hc : col.Is cv) (hl : line.Is lv) (os1 : sys.Ok) (oc1 : col.Ok) (ol1 : line.Ok) (hx : x.length ≤ 100) (g : Gd H A hh 110 110)
    (h : ∀ h' tk' t, KpN H hh h' → Q (.str (textOf sys line col x) t) ⟨h', gg, dd, tk', os⟩) : wpAny (model prog w) A (call (.ref 112) [.ref e]) Q E ⟨hh, gg, dd, tt, os⟩ := by
  have hd := g.depth
  refine' enterE [("self", .ref e)] G U (fun _ => False) (fun _ q => q.elim) ?k6 ?kr ?k7 ?k9 ?kB ?c2 ?c3 ?c4 ?c5 ?_
  ktr_unf
  (case kr => omega)
  intro L h₁ tk₁ hL hk₁ W
  have y₁ := y.kp (.of_keeps hk₁)
  -- sysid = self.getSystemId()
  refine wpAny_execs_cons ?_
  refine wpAny_Assign_Name (hs := by kernel_rfl) ?_
  refine CallM ?_
  refine e_loc W (v := .ref e) (hv := by kernel_rfl) ?_
  intro pl
  refine ask_sys (r := sys) G y₁ (by kernel_rfl) (v := sv) (by kernel_rfl) hs _ _ _ _ pl _ _ (Fr.up W.F) (Kp.refl _ _ _) ((g.le (d' := 100 + 1) (u' := 10 + 3) (by omega) (by omega)).deeper W rfl) ?_
  intro h₂ tk₂ v₂ i₂ k₂
  have W₂ := W.call k₂
  have y₂ := y₁.kp k₂
  refine e_store W₂ ?_
  intro h₃ tk₃ W₃
  have y₃ := y.kp W₃.done0
  refine wpAny_execs_cons ?_
  refine if_none (r := sys) W₃ (hm := if_pos rfl) i₂ os1 ?_ rfl (by kernel_rfl) (by kernel_rfl) (by kernel_rfl) (by kernel_rfl)
  intro h₄ tk₄ v₄ s₄ W₄
  have y₄ := y.kp W₄.done0
  -- linenum
  refine wpAny_execs_cons ?_
  refine wpAny_Assign_Name (hs := by kernel_rfl) ?_
  refine CallM ?_
  refine e_loc W₄ (v := .ref e) (hv := by kernel_rfl) ?_
  intro pl
  refine ask_line (r := line) G y₄ (by kernel_rfl) (v := lv) (by kernel_rfl) hl _ _ _ _ pl _ _ (Fr.up W₄.F) (Kp.refl _ _ _) ((g.le (d' := 100 + 1) (u' := 10 + 3) (by omega) (by omega)).deeper W₄ rfl) ?_
  intro h₅ tk₅ v₅ i₅ k₅
  have W₅ := W₄.call k₅
  refine e_store W₅ ?_
  intro h₆ tk₆ W₆
  refine wpAny_execs_cons ?_
  refine if_none (r := line) W₆ (hm := if_pos rfl) i₅ ol1 ?_ rfl (by kernel_rfl) (by kernel_rfl) (by kernel_rfl) (by kernel_rfl)
  intro h₇ tk₇ v₇ s₇ W₇
  have y₇ := y.kp W₇.done0
  -- colnum
  refine wpAny_execs_cons ?_
  refine wpAny_Assign_Name (hs := by kernel_rfl) ?_
  refine CallM ?_
  refine e_loc W₇ (v := .ref e) (hv := by kernel_rfl) ?_
  intro pl
  refine ask_col (r := col) G y₇ (by kernel_rfl) (v := cv) (by kernel_rfl) hc _ _ _ _ pl _ _ (Fr.up W₇.F) (Kp.refl _ _ _) ((g.le (d' := 100 + 1) (u' := 10 + 3) (by omega) (by omega)).deeper W₇ rfl) ?_
  intro h₈ tk₈ v₈ i₈ k₈
  have W₈ := W₇.call k₈
  refine e_store W₈ ?_
  intro h₉ tk₉ W₉
  refine wpAny_execs_cons ?_
  refine if_none (r := col) W₉ (hm := if_pos rfl) i₈ oc1 ?_ rfl (by kernel_rfl) (by kernel_rfl) (by kernel_rfl) (by kernel_rfl)
  intro h₁₀ tk₁₀ v₁₀ s₁₀ W₁₀
  have y₁₀ := y.kp W₁₀.done0
  obtain ⟨d, tq, tb, x1, x2, x3, x4, x5⟩ := y₁₀
  have n1 := Dv.show_len (lit := "<unknown>") os1 (by decide)
  have n2 := Dv.show_len (lit := "?") ol1 (by decide)
  have n3 := Dv.show_len (lit := "?") oc1 (by decide)
  have c1 : (":" : Str).length = 1 := by decide +kernel
  have c2 : (": " : Str).length = 2 := by decide +kernel
  refine wpAny_execs_cons ?_
  refine wpAny_Return_some ?_
  refine JoinedStr_many ?_
  refine e_joinF (y := "") ?_
  refine e_loc W₁₀ (v := v₄) (hv := by kernel_rfl) ?_
  refine ⟨_, s₄, Nat.le_trans n1 (by decide), ?_, ?_⟩
  · rw [KPc.empty_app]; omega
  intro tk
  rw [KPc.empty_app]
  refine e_joinC (hsz := by rw [Str.length_append]; omega) ?_
  intro tk
  refine e_joinF (y := "") ?_
  refine e_loc W₁₀ (v := v₇) (hv := by kernel_rfl) ?_
  refine ⟨_, s₇, Nat.le_trans n2 (by decide), by simp only [Str.length_append]; omega, ?_⟩
  intro tk
  refine e_joinC (hsz := by simp only [Str.length_append]; omega) ?_
  intro tk
  refine e_joinF (y := "") ?_
  refine e_loc W₁₀ (v := v₁₀) (hv := by kernel_rfl) ?_
  refine ⟨_, s₁₀, Nat.le_trans n3 (by decide), by simp only [Str.length_append]; omega, ?_⟩
  intro tk
  refine e_joinC (hsz := by simp only [Str.length_append]; omega) ?_
  intro tk
  refine e_joinF (y := "") ?_
  refine Attribute_Name_ ?_
  refine e_loc W₁₀ (v := .ref e) (hv := by kernel_rfl) ?_
  refine get_exc (G.X.keeps W₁₀.F.keep) (exC w 4) ⟨x1, rfl, rfl⟩ rfl x2.1 (no_msg w 4) (v := .str x t) (by kernel_rfl) rfl ?_
  refine ⟨_, .inl ⟨t, rfl⟩, Nat.le_trans hx (by decide), by simp only [Str.length_append]; omega, ?_⟩
  intro tk
  refine e_joinN (hsz := by simp only [Str.length_append]; omega) ?_
  intro t' tk'
  exact h _ _ _ W₁₀.done
theorem str_parse {e : Addr} {exc loc sv cv lv : Value} {sys col line : Dv} {x : Str} {t : Tok} {Q : Value → Shared → Prop} (G : Gr w H) (U : Up H hh) (y : ErrAt H hh e 4 (m4 (.str x t) exc loc sv cv lv))
    (hs : sys.Is sv) (hc : col.Is cv) (hl : line.Is lv) (os1 : sys.Ok) (oc1 : col.Ok) (ol1 : line.Ok) (hx : x.length ≤ 100) (g : Gd H A hh 112 120)
    (h : ∀ h' tk' t, KpN H hh h' → Q (.str (textOf sys line col x) t) ⟨h', gg, dd, tk', os⟩) : wpAny (model prog w) A (call (.type "str") [.ref e]) Q E ⟨hh, gg, dd, tt, os⟩ := by
  have X := G.X.keeps U.keep
  have hd := g.depth
  have hu := g.units
  obtain ⟨d, tq, tb, x1, x2, x3, x4, x5⟩ := id y
  obtain ⟨_, od, _, _, hod, _⟩ := x2
  refine kso_call (s := ⟨hh, gg, dd, tt, os⟩) (K := KF w) (C := clsOf 4) (f := 112) (od := some od) (ox := excO (clsOf 4) (some d) tq tb) (hu := by show A.units + 1 + 1 < 9900; omega) X ⟨x1, rfl, rfl, hod⟩ (by kernel_rfl) (by kernel_rfl) ?_
  refine str112 (msg := .none) G U y hs hc hl os1 oc1 ol1 hx (g := ((g.le (d' := 110) (u' := 112) (by omega) (by omega)).in1).in1) ?_
  intro h' tk' t' k'
  exact h h' tk' t' k'
end
end Mine
end
section
open PySem PySem.W PyProof.Rows PySem.Calls
open PySem.Builtin PySem.Builtin.ObjectAttr PySem.Builtin.BaseException
set_option Elab.async false
set_option linter.unusedVariables false
set_option maxRecDepth 100000
namespace Mine
local macro_rules | `(tactic| ktr_unf) => `(tactic| ((case k6 => rfl); (case k7 => kernel_rfl); (case k9 => intro S; kernel_rfl); (case c5 => kernel_rfl); (case kB => kernel_rfl); (case c2 => exact rfl); (case c3 => exact rfl); (case c4 => exact rfl)))
theorem LsAt.same {h h' : Heap} {c d : Addr} {vs : List Value} (y : LsAt h c vs) (k : Heap.SameBut d h h') (hd : c ≠ d) : LsAt h' c vs := let ⟨n, e⟩ := y; ⟨n, (k.2 c hd).trans e⟩
theorem LsAt.ty {hh : Heap} {gg : Array GenState} {dd : Drawn} {tt : Nat} {os : OsState} {l : Addr} {vs : List Value} (hl : LsAt hh l vs) : (⟨hh, gg, dd, tt, os⟩ : Shared).TypeIs (.ref l) "list" := let ⟨n, e⟩ := hl; ⟨_, e, rfl⟩
section
variable {prog : Program} {w : World} {A : Around} {E : Value → Shared → Prop} {hh : Heap} {gg : Array GenState} {dd : Drawn} {tt : Nat} {os : OsState} {H h₀ : Heap} {S : Addr → Prop} {L : Addr} {m : Str → Option Value} {objs : List (Addr × Obj)}
theorem m_list {l : Addr} {vs : List Value} {name : Str} {id : String} {pl : Sem Bool} {Q : Value × List Value → Shared → Prop} (hl : LsAt hh l vs) (slot : Slot "list" name id) (hty : typeOf (.builtin id) = pure (.type "method_descriptor"))
    (h : Q (.builtin id, [.ref l]) ⟨hh, gg, dd, tt, os⟩) : wpAny (model prog w) A (getMethod (.ref l) name pl) Q E ⟨hh, gg, dd, tt, os⟩ :=
  getMethod_builtin hl.ty PySem.F.plainAttrs_list slot hty (fun a e => by cases e; obtain ⟨n, q⟩ := hl; exact ⟨_, q, rfl⟩) h
theorem e_append {l : Addr} {vs : List Value} {v : Value} {Q : Value → Shared → Prop} (hl : LsAt hh l vs) (hsz : vs.length ≤ 1000)
    (h : ∀ h', Heap.SameBut l hh h' → LsAt h' l (vs ++ [v]) → Q .none ⟨h', gg, dd, tt, os⟩) : wpAny (model prog w) A (call (.builtin "list.append") [.ref l, v]) Q E ⟨hh, gg, dd, tt, os⟩ := by
  obtain ⟨n, e⟩ := id hl
  refine call_meets PySem.F.slot_list_append hl.ty PySem.F.entry_list_append (PySem.F.args_list_append_2 _ _) (PySem.AutoListH.list_append_list_val_0 l vs.toArray n v (by rw [List.size_toArray, sizeLine_eq]; omega)) ⟨e, ?_⟩
  refine h _ (Heap.SameBut.update ..) ?_
  have q := PySem.IsL.update e (fun x => x.push v)
  exact ⟨_, by rw [show (vs ++ [v]).toArray = vs.toArray.push v by simp]; exact q⟩
theorem e_extend {l b : Addr} {vs us : List Value} {Q : Value → Shared → Prop} (hl : LsAt hh l vs) (hb : LsAt hh b us) (hsz : vs.length + us.length ≤ 1000)
    (h : ∀ h', Heap.SameBut l hh h' → LsAt h' l (vs ++ us) → Q .none ⟨h', gg, dd, tt, os⟩) : wpAny (model prog w) A (call (.builtin "list.extend") [.ref l, .ref b]) Q E ⟨hh, gg, dd, tt, os⟩ := by
  obtain ⟨n, e⟩ := id hl
  obtain ⟨n2, e2⟩ := id hb
  have hz : vs.toArray.size + us.toArray.size ≤ sizeLine := by rw [List.size_toArray, List.size_toArray, sizeLine_eq]; omega
  refine call_meets PySem.F.slot_list_extend hl.ty PySem.F.entry_list_extend (PySem.F.args_list_extend_2 _ _) (PySem.AutoSeq1.list_extend_list_list_0 l vs.toArray n b us.toArray n2 (extend_door hz) (Nat.le_trans (Nat.le_add_right _ _) hz) (Nat.le_succ_of_le hz)) ⟨e, e2, ?_⟩
  refine h _ (Heap.SameBut.update ..) ?_
  have q := PySem.IsL.update e (fun x => x ++ us.toArray)
  exact ⟨_, by rw [show (vs ++ us).toArray = vs.toArray ++ us.toArray by simp]; exact q⟩
/-- an own list turns -/
theorem St.ownL {h h' : Heap} {l : Addr} {vs : List Value} {objs' : List (Addr × Obj)} (W : St H S h₀ L h m objs) (hl : LsAt h l vs) (k : Heap.SameBut l h h') (h0 : h₀.get? l = none) (hH : H.objs.size ≤ l) (hS : ¬ S l) (ho : ∀ p ∈ objs', p ∈ objs ∧ p.1 ≠ l) : St H S h₀ L h' m objs' :=
  (W.drop (objs' := objs') fun p hp => (ho p hp).1).own k h0 hH (fun o e => by
    obtain ⟨n, q⟩ := hl
    rw [q] at e; cases e
    exact ⟨fun z => absurd (Value.type.inj z) (by decide), fun z => absurd (Value.type.inj z) (by decide)⟩) hS fun p hp => (ho p hp).2
theorem St.fresh0 {h : Heap} (W : St H S h₀ L h m objs) : h₀.get? h.objs.size = none ∧ H.objs.size ≤ h.objs.size ∧ ¬ S h.objs.size := by
  refine ⟨?_, (Fr.up W.F).size, fun z => ?_⟩
  · cases q : h₀.get? h.objs.size with
    | none => rfl
    | some o =>
      by_cases z : h.objs.size = L ∨ S h.objs.size
      · rcases z with z | z
        · have := W.F.ns.lt; rw [← z] at this; exact absurd this (Nat.lt_irrefl _)
        · obtain ⟨_, o', e', _⟩ := W.sx _ z
          exact absurd (Heap.lt_size e') (Nat.lt_irrefl _)
      · obtain ⟨o', e', _⟩ := (W.k.at_ _ o q z).cls
        exact absurd (Heap.lt_size e') (Nat.lt_irrefl _)
  · obtain ⟨_, o', e', _⟩ := W.sx _ z
    exact absurd (Heap.lt_size e') (Nat.lt_irrefl _)
end
section
variable {prog : Program} {w : World} {A : Around} {E : Value → Shared → Prop} {hh : Heap} {gg : Array GenState} {dd : Drawn} {tt : Nat} {os : OsState} {H : Heap}
theorem w_msg (w : World) (k : Nat) : findIn (KF w) (.ref (clsOf k)) "getMessage" = some (some (.ref 36)) := clsOf_cases k (fun C => findIn (KF w) (.ref C) "getMessage" = some (some (.ref 36))) (by kernel_rfl) (by kernel_rfl) (by kernel_rfl) (by kernel_rfl) (by kernel_rfl)
theorem w_exc (w : World) (k : Nat) : findIn (KF w) (.ref (clsOf k)) "getException" = some (some (.ref 43)) := clsOf_cases k (fun C => findIn (KF w) (.ref C) "getException" = some (some (.ref 43))) (by kernel_rfl) (by kernel_rfl) (by kernel_rfl) (by kernel_rfl) (by kernel_rfl)
theorem call_msg {k : Nat} {e : Addr} {m : Str → Option Value} {v : Value} {pl : Sem Bool} {pos : Pos} {env : Env} {Q : Value → Shared → Prop} (G : Gr w H) (U : Up H hh) (y : ErrAt H hh e k m) (hs : m "getMessage" = none) (hv : m "_msg" = some v) (hv2 : handedOut v = pure v) (hd : A.depth < 900)
    (h : ∀ h' tk, KpN H hh h' → Q v ⟨h', gg, dd, tk, os⟩) : wpAny (model prog w) A (getMethod (.ref e) "getMessage" pl) (fun ff s₂ => wpAny (model prog w) A (callWith pos ff.1 ff.2 (backTo pos (starEach [] env)) []) Q E s₂) E ⟨hh, gg, dd, tt, os⟩ := by
  have X := G.X.keeps U.keep
  obtain ⟨d, t, tb, x1, x2, x3, x4, x5⟩ := id y
  refine meth_exc (s := ⟨hh, gg, dd, tt, os⟩) X (exC w k) ⟨x1, rfl, rfl⟩ rfl x2.1 (w_msg w k) (by kernel_rfl) hs ?_
  refine callWith_K0 X (by kernel_rfl) ?_
  exact get36 (s := ⟨hh, gg, dd, tt, os⟩) G U hd y hv hv2 fun h' tk k' => h h' tk k'
theorem call_exc {k : Nat} {e : Addr} {m : Str → Option Value} {v : Value} {pl : Sem Bool} {pos : Pos} {env : Env} {Q : Value → Shared → Prop} (G : Gr w H) (U : Up H hh) (y : ErrAt H hh e k m) (hs : m "getException" = none) (hv : m "_exception" = some v) (hv2 : handedOut v = pure v) (hd : A.depth < 900)
    (h : ∀ h' tk, KpN H hh h' → Q v ⟨h', gg, dd, tk, os⟩) : wpAny (model prog w) A (getMethod (.ref e) "getException" pl) (fun ff s₂ => wpAny (model prog w) A (callWith pos ff.1 ff.2 (backTo pos (starEach [] env)) []) Q E s₂) E ⟨hh, gg, dd, tt, os⟩ := by
  have X := G.X.keeps U.keep
  obtain ⟨d, t, tb, x1, x2, x3, x4, x5⟩ := id y
  refine meth_exc (s := ⟨hh, gg, dd, tt, os⟩) X (exC w k) ⟨x1, rfl, rfl⟩ rfl x2.1 (w_exc w k) (by kernel_rfl) hs ?_
  refine callWith_K0 X (by kernel_rfl) ?_
  exact get43 (s := ⟨hh, gg, dd, tt, os⟩) G U hd y hv hv2 fun h' tk k' => h h' tk k'
theorem Th.handed {h : Heap} {v : Value} (x : Th h v) : handedOut v = pure v := by
  rcases x with rfl | ⟨y, o, rfl, _⟩ <;> rfl
set_option maxHeartbeats 2000000 in
theorem told_other {k : Nat} {e l : Addr} {vs : List Value} {x : Str} {t : Tok} {v : Value} {c : Nat} {Q : Value → Shared → Prop} (G : Gr w H) (U : Up H hh) (y : ErrAt H hh e k (m2 (.str x t) v)) (hk4 : k < 4)
    (hl : LsAt hh l vs) (hT : ∀ u ∈ vs, Th hh u) (hn : vs.length ≤ 100) (hc : vs[c]? = some v) (hf : ∀ i, i < c → vs[i]? ≠ some v) (g : Gd H A hh 400 400) (hA : A.handled = none)
    (h : ∀ h' tk' b ofl t1 t2 t3 t4, KpN H hh h' → LsAt h' b [.int (k : Int) t1, .ref ofl, .str x t, .int (c : Int) t2, .str x t3, .str "__getitem__" t4] → LsAt h' ofl (ofVs k) → Q (.ref b) ⟨h', gg, dd, tk', os⟩) : wpAny (model prog w) A (call (.ref 251) [.ref e, .ref l]) Q E ⟨hh, gg, dd, tt, os⟩ := by
  have hd := g.depth
  have hv2 := (hT v (List.mem_of_getElem? hc)).handed
  refine' enterE [("error", .ref e), ("things", .ref l)] G U (fun _ => False) (fun _ q => q.elim) ?k6 ?kr ?k7 ?k9 ?kB ?c2 ?c3 ?c4 ?c5 ?_
  ktr_unf
  (case kr => omega)
  intro L h₁ tk₁ hL hk₁ W
  have X₁ := G.X.keeps W.F.keep
  have y₁ := y.kp W.done0
  refine wpAny_execs_cons ?_
  refine wpAny_Assign_Name (hs := by kernel_rfl) ?_
  refine Call_ ?_
  refine e_gl G W (v := .ref 223) (e := by kernel_rfl) ?_
  refine callWith_K X₁ (by kernel_rfl) ?_
  refine spliced_more (he := by kernel_rfl) ?_
  refine e_loc W (v := .ref e) (hv := by kernel_rfl) ?_
  refine spliced_none ⟨X₁, ?_⟩
  refine kind223 (k := k) (by omega) G (Fr.up W.F) y₁ (g := (g.le (d' := 100 + 1) (u' := 100 + 3) (by omega) (by omega)).deeper W rfl) (hA := hA) ?_
  intro h₂ tk₂ t1 k₂
  have W₂ := W.call k₂
  refine e_store W₂ ?_
  intro h₃ tk₃ W₃
  have X₃ := G.X.keeps W₃.F.keep
  have y₃ := y.kp W₃.done0
  -- told = [..]
  refine wpAny_execs_cons ?_
  refine wpAny_Assign_Name (hs := by kernel_rfl) ?_
  refine List_ ?_
  refine spliced_more (he := by kernel_rfl) ?_
  refine e_loc W₃ (v := .int (k : Nat) t1) (hv := by kernel_rfl) ?_
  refine spliced_more (he := by kernel_rfl) ?_
  refine Call_ ?_
  refine e_gl G W₃ (v := .ref 230) (e := by kernel_rfl) ?_
  refine callWith_K X₃ (by kernel_rfl) ?_
  refine spliced_more (he := by kernel_rfl) ?_
  refine e_loc W₃ (v := .ref e) (hv := by kernel_rfl) ?_
  refine spliced_none ⟨X₃, ?_⟩
  refine of230 (k := k) (by omega) G (Fr.up W₃.F) y₃ (by show A.depth + 1 < 900; omega) ?_
  intro h₄ tk₄ ofl k₄ lo₄
  obtain ⟨no, lo₄⟩ := lo₄
  have W₄ := (W₃.call k₄).add lo₄ (plain_type (by decide))
  have y₄ := y₃.kp k₄
  refine spliced_more (he := by kernel_rfl) ?_
  refine CallM ?_
  refine e_loc W₄ (v := .ref e) (hv := by kernel_rfl) ?_
  intro pl
  refine call_msg G (Fr.up W₄.F) y₄ (by kernel_rfl) (v := .str x t) (by kernel_rfl) rfl (by show A.depth + 1 < 900; omega) ?_
  intro h₅ tk₅ k₅
  have W₅ := W₄.call k₅
  have y₅ := y₄.kp k₅
  have X₅ := G.X.keeps W₅.F.keep
  refine spliced_more (he := by kernel_rfl) ?_
  refine Call_ ?_
  refine e_gl G W₅ (v := .ref 244) (e := by kernel_rfl) ?_
  refine callWith_K X₅ (by kernel_rfl) ?_
  refine spliced_more (he := by kernel_rfl) ?_
  refine CallM ?_
  refine e_loc W₅ (v := .ref e) (hv := by kernel_rfl) ?_
  intro pl
  refine call_exc G (Fr.up W₅.F) y₅ (by kernel_rfl) (v := v) (by kernel_rfl) hv2 (by show A.depth + 1 < 900; omega) ?_
  intro h₆ tk₆ k₆
  have W₆ := W₅.call k₆
  have y₆ := y₅.kp k₆
  refine spliced_more (he := by kernel_rfl) ?_
  refine e_loc W₆ (v := .ref l) (hv := by kernel_rfl) ?_
  refine spliced_none ⟨G.X.keeps W₆.F.keep, ?_⟩
  refine index244 (c := c) G (Fr.up W₆.F) (by show A.depth + 1 < 900; omega) (hA := hA) (hl.kp W₆.done0 id) (fun u hu => (hT u hu).kp W₆.done0) hn hc hf ?_
  intro h₇ tk₇ t2 k₇
  have W₇ := W₆.call k₇
  have y₇ := y₆.kp k₇
  refine spliced_more (he := by kernel_rfl) ?_
  refine Call_ ?_
  refine e_bi G W₇ (v := .type "str") (e := by kernel_rfl) (hv := by kernel_rfl) (hn := by decide) ?_
  refine callT ?_
  refine spliced_more (he := by kernel_rfl) ?_
  refine e_loc W₇ (v := .ref e) (hv := by kernel_rfl) ?_
  refine spliced_none ?_
  refine str_other hk4 G (Fr.up W₇.F) y₇ (x := x) (t := t) (by kernel_rfl) (g := (g.le (d' := 100 + 1) (u' := 100 + 3) (by omega) (by omega)).deeper W₇ rfl) ?_
  intro h₈ tk₈ k₈
  have W₈ := W₇.call k₈
  have y₈ := y₇.kp k₈
  have X₈ := G.X.keeps W₈.F.keep
  refine spliced_more (he := by kernel_rfl) ?_
  refine Call_ ?_
  refine e_gl G W₈ (v := .ref 237) (e := by kernel_rfl) ?_
  refine callWith_K X₈ (by kernel_rfl) ?_
  refine spliced_more (he := by kernel_rfl) ?_
  refine e_loc W₈ (v := .ref e) (hv := by kernel_rfl) ?_
  refine spliced_none ⟨X₈, ?_⟩
  refine part237 G (Fr.up W₈.F) y₈ (g := (g.le (d' := 100 + 1) (u' := 100 + 3) (by omega) (by omega)).deeper W₈ rfl) (hA := hA) ?_
  intro h₉ tk₉ t4 k₉
  have W₉ := W₈.call k₉
  refine spliced_none ?_
  refine e_list W₉ (hsz := by show 6 ≤ 100; decide) ?_
  intro b h₁₀ hb W₁₀
  have fb := W₉.fresh0
  rw [← hb] at fb
  have nb : ofl ≠ b := by rw [hb]; exact Nat.ne_of_lt (Heap.lt_size (W₉.has (.head _)))
  refine e_store W₁₀ ?_
  intro h₁₁ tk₁₁ W₁₁
  refine wpAny_execs_cons ?_
  refine wpAny_If ?_
  refine wpAny_isTrue_Compare1 (hm := by kernel_rfl) ?_
  refine e_loc W₁₁ (v := .int (k : Nat) t1) (hv := by kernel_rfl) ?_
  refine e_int ?_
  intro _ _
  refine e_eqi ?_
  refine e_truthb ?_
  refine e_ifF (hb := beq_eq_false_iff_ne.mpr (by omega)) ?_
  refine wpAny_execs_nil ?_
  refine wpAny_execs_cons ?_
  refine wpAny_Return_some ?_
  refine e_loc W₁₁ (v := .ref b) (hv := by kernel_rfl) ?_
  exact h _ _ b ofl t1 t2 t t4 W₁₁.done ⟨_, W₁₁.has (.head _)⟩ ⟨_, W₁₁.has (.tail _ (.head _))⟩
set_option maxHeartbeats 2000000 in
theorem told_parse {loc sv cv lv : Value} {sys col line pub : Dv} {e l : Addr} {vs : List Value} {x : Str} {t : Tok} {v : Value} {c : Nat} {Q : Value → Shared → Prop} (G : Gr w H) (U : Up H hh) (y : ErrAt H hh e 4 (m4 (.str x t) v loc sv cv lv)) (hs : sys.Is sv) (hc2 : col.Is cv) (hl2 : line.Is lv) (os1 : sys.Ok) (oc1 : col.Ok) (ol1 : line.Ok) (hx : x.length ≤ 100) (ap : Ask prog w H hh (.ref e) "getPublicId" pub 300 300)
    (hl : LsAt hh l vs) (hT : ∀ u ∈ vs, Th hh u) (hn : vs.length ≤ 100) (hc : vs[c]? = some v) (hf : ∀ i, i < c → vs[i]? ≠ some v) (g : Gd H A hh 400 400) (hA : A.handled = none)
    (h : ∀ h' tk' b ofl t1 t2 t3 t4 s5 l5 c5 p5, KpN H hh h' → LsAt h' b [.int 4 t1, .ref ofl, .str x t, .int (c : Int) t2, .str (textOf sys line col x) t3, .str "__getitem__" t4, s5, l5, c5, p5] → LsAt h' ofl (ofVs 4) → sys.Is s5 → line.Is l5 → col.Is c5 → pub.Is p5 → Q (.ref b) ⟨h', gg, dd, tk', os⟩) : wpAny (model prog w) A (call (.ref 251) [.ref e, .ref l]) Q E ⟨hh, gg, dd, tt, os⟩ := by
  have hd := g.depth
  have hv2 := (hT v (List.mem_of_getElem? hc)).handed
  refine' enterE [("error", .ref e), ("things", .ref l)] G U (fun _ => False) (fun _ q => q.elim) ?k6 ?kr ?k7 ?k9 ?kB ?c2 ?c3 ?c4 ?c5 ?_
  ktr_unf
  (case kr => omega)
  intro L h₁ tk₁ hL hk₁ W
  have X₁ := G.X.keeps W.F.keep
  have y₁ := y.kp W.done0
  refine wpAny_execs_cons ?_
  refine wpAny_Assign_Name (hs := by kernel_rfl) ?_
  refine Call_ ?_
  refine e_gl G W (v := .ref 223) (e := by kernel_rfl) ?_
  refine callWith_K X₁ (by kernel_rfl) ?_
  refine spliced_more (he := by kernel_rfl) ?_
  refine e_loc W (v := .ref e) (hv := by kernel_rfl) ?_
  refine spliced_none ⟨X₁, ?_⟩
  refine kind223 (k := 4) (by omega) G (Fr.up W.F) y₁ (g := (g.le (d' := 100 + 1) (u' := 100 + 3) (by omega) (by omega)).deeper W rfl) (hA := hA) ?_
  intro h₂ tk₂ t1 k₂
  have W₂ := W.call k₂
  refine e_store W₂ ?_
  intro h₃ tk₃ W₃
  have X₃ := G.X.keeps W₃.F.keep
  have y₃ := y.kp W₃.done0
  -- told = [..]
  refine wpAny_execs_cons ?_
  refine wpAny_Assign_Name (hs := by kernel_rfl) ?_
  refine List_ ?_
  refine spliced_more (he := by kernel_rfl) ?_
  refine e_loc W₃ (v := .int (4 : Nat) t1) (hv := by kernel_rfl) ?_
  refine spliced_more (he := by kernel_rfl) ?_
  refine Call_ ?_
  refine e_gl G W₃ (v := .ref 230) (e := by kernel_rfl) ?_
  refine callWith_K X₃ (by kernel_rfl) ?_
  refine spliced_more (he := by kernel_rfl) ?_
  refine e_loc W₃ (v := .ref e) (hv := by kernel_rfl) ?_
  refine spliced_none ⟨X₃, ?_⟩
  refine of230 (k := 4) (by omega) G (Fr.up W₃.F) y₃ (by show A.depth + 1 < 900; omega) ?_
  intro h₄ tk₄ ofl k₄ lo₄
  obtain ⟨no, lo₄⟩ := lo₄
  have W₄ := (W₃.call k₄).add lo₄ (plain_type (by decide))
  have y₄ := y₃.kp k₄
  refine spliced_more (he := by kernel_rfl) ?_
  refine CallM ?_
  refine e_loc W₄ (v := .ref e) (hv := by kernel_rfl) ?_
  intro pl
  refine call_msg G (Fr.up W₄.F) y₄ (by kernel_rfl) (v := .str x t) (by kernel_rfl) rfl (by show A.depth + 1 < 900; omega) ?_
  intro h₅ tk₅ k₅
  have W₅ := W₄.call k₅
  have y₅ := y₄.kp k₅
  have X₅ := G.X.keeps W₅.F.keep
  refine spliced_more (he := by kernel_rfl) ?_
  refine Call_ ?_
  refine e_gl G W₅ (v := .ref 244) (e := by kernel_rfl) ?_
  refine callWith_K X₅ (by kernel_rfl) ?_
  refine spliced_more (he := by kernel_rfl) ?_
  refine CallM ?_
  refine e_loc W₅ (v := .ref e) (hv := by kernel_rfl) ?_
  intro pl
  refine call_exc G (Fr.up W₅.F) y₅ (by kernel_rfl) (v := v) (by kernel_rfl) hv2 (by show A.depth + 1 < 900; omega) ?_
  intro h₆ tk₆ k₆
  have W₆ := W₅.call k₆
  have y₆ := y₅.kp k₆
  refine spliced_more (he := by kernel_rfl) ?_
  refine e_loc W₆ (v := .ref l) (hv := by kernel_rfl) ?_
  refine spliced_none ⟨G.X.keeps W₆.F.keep, ?_⟩
  refine index244 (c := c) G (Fr.up W₆.F) (by show A.depth + 1 < 900; omega) (hA := hA) (hl.kp W₆.done0 id) (fun u hu => (hT u hu).kp W₆.done0) hn hc hf ?_
  intro h₇ tk₇ t2 k₇
  have W₇ := W₆.call k₇
  have y₇ := y₆.kp k₇
  refine spliced_more (he := by kernel_rfl) ?_
  refine Call_ ?_
  refine e_bi G W₇ (v := .type "str") (e := by kernel_rfl) (hv := by kernel_rfl) (hn := by decide) ?_
  refine callT ?_
  refine spliced_more (he := by kernel_rfl) ?_
  refine e_loc W₇ (v := .ref e) (hv := by kernel_rfl) ?_
  refine spliced_none ?_
  refine str_parse G (Fr.up W₇.F) y₇ hs hc2 hl2 os1 oc1 ol1 hx (g := (g.le (d' := 112 + 1) (u' := 120 + 3) (by omega) (by omega)).deeper W₇ rfl) ?_
  intro h₈ tk₈ t3 k₈
  have W₈ := W₇.call k₈
  have y₈ := y₇.kp k₈
  have X₈ := G.X.keeps W₈.F.keep
  refine spliced_more (he := by kernel_rfl) ?_
  refine Call_ ?_
  refine e_gl G W₈ (v := .ref 237) (e := by kernel_rfl) ?_
  refine callWith_K X₈ (by kernel_rfl) ?_
  refine spliced_more (he := by kernel_rfl) ?_
  refine e_loc W₈ (v := .ref e) (hv := by kernel_rfl) ?_
  refine spliced_none ⟨X₈, ?_⟩
  refine part237 G (Fr.up W₈.F) y₈ (g := (g.le (d' := 100 + 1) (u' := 100 + 3) (by omega) (by omega)).deeper W₈ rfl) (hA := hA) ?_
  intro h₉ tk₉ t4 k₉
  have W₉ := W₈.call k₉
  refine spliced_none ?_
  refine e_list W₉ (hsz := by show 6 ≤ 100; decide) ?_
  intro b h₁₀ hb W₁₀
  have fb := W₉.fresh0
  rw [← hb] at fb
  have nb : ofl ≠ b := by rw [hb]; exact Nat.ne_of_lt (Heap.lt_size (W₉.has (.head _)))
  refine e_store W₁₀ ?_
  intro h₁₁ tk₁₁ W₁₁
  refine wpAny_execs_cons ?_
  refine wpAny_If ?_
  refine wpAny_isTrue_Compare1 (hm := by kernel_rfl) ?_
  refine e_loc W₁₁ (v := .int (4 : Nat) t1) (hv := by kernel_rfl) ?_
  refine e_int ?_
  intro _ _
  refine e_eqi ?_
  refine e_truthb ?_
  refine e_ifT (hb := rfl) ?_
  refine wpAny_execs_cons ?_
  refine wpAny_Expr_any ?_
  refine CallM ?_
  refine e_loc W₁₁ (v := .ref b) (hv := by kernel_rfl) ?_
  intro pl
  refine m_list (hl := ⟨_, W₁₁.has (.head _)⟩) PySem.F.slot_list_extend PySem.F.type_list_extend ?_
  refine callB ?_
  refine spliced_more (he := by kernel_rfl) ?_
  refine List_ ?_
  have y₁₁ := y.kp W₁₁.done0
  refine spliced_more (he := by kernel_rfl) ?_
  refine CallM ?_
  refine e_loc W₁₁ (v := .ref e) (hv := by kernel_rfl) ?_
  intro pl
  refine ask_sys (r := sys) G y₁₁ (by kernel_rfl) (v := sv) (by kernel_rfl) hs _ _ _ _ pl _ _ (Fr.up W₁₁.F) (Kp.refl _ _ _) ((g.le (d' := 100 + 1) (u' := 10 + 3) (by omega) (by omega)).deeper W₁₁ rfl) ?_
  intro h₁₂ tk₁₂ v₁₂ i₁₂ k₁₂
  have W₁₂ := W₁₁.call k₁₂
  have y₁₂ := y.kp W₁₂.done0
  refine spliced_more (he := by kernel_rfl) ?_
  refine CallM ?_
  refine e_loc W₁₂ (v := .ref e) (hv := by kernel_rfl) ?_
  intro pl
  refine ask_line (r := line) G y₁₂ (by kernel_rfl) (v := lv) (by kernel_rfl) hl2 _ _ _ _ pl _ _ (Fr.up W₁₂.F) (Kp.refl _ _ _) ((g.le (d' := 100 + 1) (u' := 10 + 3) (by omega) (by omega)).deeper W₁₂ rfl) ?_
  intro h₁₃ tk₁₃ v₁₃ i₁₃ k₁₃
  have W₁₃ := W₁₂.call k₁₃
  have y₁₃ := y.kp W₁₃.done0
  refine spliced_more (he := by kernel_rfl) ?_
  refine CallM ?_
  refine e_loc W₁₃ (v := .ref e) (hv := by kernel_rfl) ?_
  intro pl
  refine ask_col (r := col) G y₁₃ (by kernel_rfl) (v := cv) (by kernel_rfl) hc2 _ _ _ _ pl _ _ (Fr.up W₁₃.F) (Kp.refl _ _ _) ((g.le (d' := 100 + 1) (u' := 10 + 3) (by omega) (by omega)).deeper W₁₃ rfl) ?_
  intro h₁₄ tk₁₄ v₁₄ i₁₄ k₁₄
  have W₁₄ := W₁₃.call k₁₄
  refine spliced_more (he := by kernel_rfl) ?_
  refine CallM ?_
  refine e_loc W₁₄ (v := .ref e) (hv := by kernel_rfl) ?_
  intro pl
  refine ap _ _ _ _ pl _ _ (Fr.up W₁₄.F) W₁₄.done0 ((g.le (d' := 300 + 1) (u' := 300 + 3) (by omega) (by omega)).deeper W₁₄ rfl) ?_
  intro h₁₅ tk₁₅ v₁₅ i₁₅ k₁₅
  have W₁₅ := W₁₄.call k₁₅
  refine spliced_none ?_
  refine e_list W₁₅ (hsz := by show 4 ≤ 100; decide) ?_
  intro b2 h₁₆ hb2 W₁₆
  refine spliced_none ?_
  refine e_extend (hl := ⟨_, W₁₆.has (.tail _ (.head _))⟩) (hb := ⟨_, W₁₆.has (.head _)⟩) (hsz := by show 6 + 4 ≤ 1000; decide) ?_
  intro h₁₇ s₁₇ l₁₇
  have W₁₇ : St H (fun _ => False) hh L h₁₇ _ [(ofl, _)] := W₁₆.ownL ⟨_, W₁₆.has (.tail _ (.head _))⟩ s₁₇ fb.1 fb.2.1 fb.2.2 (fun p hp => by rw [List.mem_singleton.mp hp]; exact ⟨.tail _ (.tail _ (.head _)), nb⟩)
  refine wpAny_execs_nil ?_
  refine wpAny_execs_cons ?_
  refine wpAny_Return_some ?_
  refine e_loc W₁₇ (v := .ref b) (hv := by kernel_rfl) ?_
  exact h _ _ b ofl t1 t2 t3 t4 v₁₂ v₁₃ v₁₄ v₁₅ W₁₇.done l₁₇ ⟨_, W₁₇.has (.head _)⟩ i₁₂ i₁₃ i₁₄ i₁₅
end
end Mine
end
section
open PySem PySem.W PyProof.Rows PySem.Calls
open PySem.Builtin PySem.Builtin.ObjectAttr PySem.Builtin.BaseException
set_option Elab.async false
set_option linter.unusedVariables false
set_option maxRecDepth 100000
namespace Mine
/-- all but frames and what a loop counts with -/
def Ky (h h' : Heap) : Prop := ∀ c oc, h.get? c = some oc → oc.cls ≠ .type "frame" → oc.cls ≠ .type "tuple_iterator" → oc.cls ≠ .type "list_iterator" → h'.get? c = some oc
theorem Ky.trans {h h₁ h' : Heap} (x : Ky h h₁) (y : Ky h₁ h') : Ky h h' := fun c o e a b d => y c o (x c o e a b d) a b d
theorem Ky.but {h h' : Heap} {d : Addr} (k : ∀ b o, b ≠ d → h.get? b = some o → h'.get? b = some o) (hd : ∀ o, h.get? d = some o → o.cls = .type "frame" ∨ o.cls = .type "tuple_iterator" ∨ o.cls = .type "list_iterator") : Ky h h' := fun c o e a b d' => by
  refine k c o (fun z => ?_) e
  subst z
  rcases hd o e with q | q | q
  · exact a q
  · exact b q
  · exact d' q
theorem LsAt.ky {h h' : Heap} {c : Addr} {vs : List Value} (y : LsAt h c vs) (k : Ky h h') : LsAt h' c vs := let ⟨n, e⟩ := y; ⟨n, k _ _ e (fun z => absurd (Value.type.inj z) (by decide)) (fun z => absurd (Value.type.inj z) (by decide)) (fun z => absurd (Value.type.inj z) (by decide))⟩
/-- a tuple at rest -/
def TpAt (h : Heap) (c : Addr) (vs : List Value) : Prop := ∃ n, h.get? c = some { cls := .type "tuple", data := .seq vs.toArray n }
theorem TpAt.kp {H h h' : Heap} {S : Addr → Prop} {c : Addr} {vs : List Value} (y : TpAt h c vs) (k : Kp H S h h') (hS : ¬ S c) : TpAt h' c vs := let ⟨n, e⟩ := y; ⟨n, k.plain e (plain_type (by decide)) hS⟩
theorem TpAt.ky {h h' : Heap} {c : Addr} {vs : List Value} (y : TpAt h c vs) (k : Ky h h') : TpAt h' c vs := let ⟨n, e⟩ := y; ⟨n, k _ _ e (fun z => absurd (Value.type.inj z) (by decide)) (fun z => absurd (Value.type.inj z) (by decide)) (fun z => absurd (Value.type.inj z) (by decide))⟩
theorem TpAt.is {h : Heap} {c : Addr} {vs : List Value} (y : TpAt h c vs) : IsTup h c vs.toArray := let ⟨n, e⟩ := y; ⟨_, e, rfl, n, rfl⟩
theorem ext_new {H h h' : Heap} (he : Heap.ExtBut h.objs.size h h') : KpN H h h' := .of_keeps fun b o e => he b o (Nat.ne_of_lt (Heap.lt_size e)) e
section
variable {prog : Program} {w : World} {A : Around} {E : Value → Shared → Prop} {hh : Heap} {gg : Array GenState} {dd : Drawn} {tt : Nat} {os : OsState} {H h₀ : Heap} {S : Addr → Prop} {L a : Addr} {m : Str → Option Value} {objs : List (Addr × Obj)} {cn : Str} {cs : Scope} {ccd : Value} {env : Env}
theorem iter_tupleE {t : Addr} {vs : List Value} {Q : Value → Shared → Prop} (W : St H S h₀ L hh m objs) (ht : TpAt hh t vs)
    (h : ∀ I h', h₀.get? I = none → H.objs.size ≤ I → ¬ S I → (∀ b o, hh.get? b = some o → b ≠ I) → IsTupIter h' I t 0 → St H S h₀ L h' m objs → (∀ b o, hh.get? b = some o → h'.get? b = some o) → Q (.ref I) ⟨h', gg, dd, tt, os⟩) : wpAny (model prog w) A (pyIter (.ref t)) Q E ⟨hh, gg, dd, tt, os⟩ := by
  have f := W.fresh0
  refine iter_tuple (s := ⟨hh, gg, dd, tt, os⟩) ht.is ?_
  exact h _ _ f.1 f.2.1 f.2.2 (fun b o e => Nat.ne_of_lt (Heap.lt_size e)) ⟨_, Heap.get?_push_size _ rfl, rfl, rfl⟩ ((W.push _ (plain_type (by decide)) rfl).drop fun p hp => .tail _ hp) (fun b o e => Heap.get?_push_of_some _ e)
theorem for_tuple {vs : List Value} {x : Str} {px : Pos} {body : List Stmt} {I l : Addr} {Q : Flow → Shared → Prop} (hA : A.handled = none) (hk : cs.kind = .function) (hl : (envOf cn cs L a ccd).kindOf x = some .local)
    (W : St H S h₀ L hh m []) (hseq : TpAt hh l vs) (hit : IsTupIter hh I l 0) (hI0 : h₀.get? I = none) (hIH : H.objs.size ≤ I) (hIS : ¬ S I)
    (J : Nat → (Str → Option Value) → Heap → Prop) (stab : ∀ i m h h', J i m h → Ky h h' → J i m h') (h0 : J 0 m hh)
    (turn : ∀ i m₁ h₁ tk v ob, vs[i]? = some v → J i m₁ h₁ → (∀ p ∈ ob, p.1 = I ∨ p.1 = l) → h₁.get? I ≠ none → St H S h₀ L h₁ (fun y => if y = x then some v else m₁ y) ob →
      wpAny (model prog w) A (execs body (envOf cn cs L a ccd)) (LoopEnd H S h₀ L ob (J (i + 1)) gg dd os Q) (fun _ _ => False) ⟨h₁, gg, dd, tk, os⟩)
    (done : ∀ h₁ m₁ tk, St H S h₀ L h₁ m₁ [] → J vs.length m₁ h₁ → Q .next ⟨h₁, gg, dd, tk, os⟩) :
    codeAny (model prog w) A (.forLoop (.Name x px) (.ref I) body [] (envOf cn cs L a ccd)) (fun r s' => match r with | .ok f => Q f s' | .error e => cameBackBy (model prog w) A (envOf cn cs L a ccd) E e s') ⟨hh, gg, dd, tt, os⟩ := by
  have clsI : ∀ {h : Heap} {i : Nat}, IsTupIter h I l i → ∀ o, h.get? I = some o → o.cls = .type "tuple_iterator" := fun q o e => by
    obtain ⟨o', q1, q2, _⟩ := q
    rw [q1] at e; cases e; exact q2
  have nt : ∀ o : Obj, o.cls = .type "tuple_iterator" → o.cls ≠ .type "traceback" ∧ o.cls ≠ .type "frame" := fun o e => by
    rw [e]; exact ⟨fun z => absurd (Value.type.inj z) (by decide), fun z => absurd (Value.type.inj z) (by decide)⟩
  have hIl : ∀ {h : Heap} {i : Nat}, IsTupIter h I l i → TpAt h l vs → l ≠ I := fun q r z => by
    obtain ⟨n, e⟩ := r
    have := clsI q _ (z ▸ e)
    exact absurd (Value.type.inj this) (by decide)
  refine codeAny_forLoop (fun k s' => ∃ h' tk m' i, s' = ⟨h', gg, dd, tk, os⟩ ∧ IsTupIter h' I l i ∧ TpAt h' l vs ∧ St H S h₀ L h' m' [] ∧ J i m' h' ∧ i ≤ vs.length ∧ k = vs.length + 1 - i) ?_ (vs.length + 1)
    ⟨hh, tt, m, 0, rfl, hit, hseq, W, h0, Nat.zero_le _, rfl⟩
  rintro k s' ⟨h', tk, m', i, rfl, hit', hseq', W', hJ, hi, rfl⟩
  have hli := hIl hit' hseq'
  by_cases hlt : i < vs.length
  · refine next_tuple_item (s := ⟨h', gg, dd, tk, os⟩) hit' hseq'.is (x := vs[i]) (by simp [hlt]) ?_
    intro h₁ hit₁ hs₁
    have W₁ : St H S h₀ L h₁ m' [] := W'.own hs₁ hI0 hIH (fun o e => nt o (clsI hit' o e)) hIS (fun _ hp => nomatch hp)
    obtain ⟨oI, eI, cI, dI⟩ := hit₁
    obtain ⟨nl, el⟩ := hseq'
    have el₁ := (hs₁.2 l hli).trans el
    have W₁' := (W₁.add el₁ (plain_type (by decide))).add eI ⟨fun z => (nt oI cI).2 z, fun C d t tb z => by rw [z] at cI; cases cI⟩
    refine wpAny_assign_Name ?_
    obtain ⟨oL, heL, hcL⟩ := W₁.fr
    refine r_store2 W₁' ?_ hk hl
    intro h₂ W₂ hs₂
    have hJ₂ : J i m' h₂ := stab _ _ _ _ hJ ((Ky.but (d := I) (fun b o q e => (hs₁.2 b q).trans e) fun o e => .inr (.inl (clsI hit' o e))).trans (Ky.but (d := L) (fun b o q e => (hs₂.2 b q).trans e) fun o e => .inl (by rw [heL] at e; cases e; exact hcL)))
    refine wpAny_mono (turn i m' h₂ _ _ [(I, oI), (l, _)] (List.getElem?_eq_getElem hlt) hJ₂ (fun p hp => by
      rcases List.mem_cons.mp hp with rfl | hp
      · exact .inl rfl
      · rw [List.mem_singleton.mp hp]; exact .inr rfl) (by rw [(W₂.ob _ (.head _)).1]; exact fun z => nomatch z) W₂) (fun f s₃ z => ?_) fun _ _ z => z.elim
    cases f with
    | next =>
      obtain ⟨h₃, m₃, tk₃, rfl, W₃, hJ₃⟩ := z
      exact ⟨vs.length + 1 - (i + 1), by omega, h₃, tk₃, m₃, i + 1, rfl, ⟨oI, (W₃.ob _ (.head _)).1, cI, dI⟩, ⟨nl, (W₃.ob _ (.tail _ (.head _))).1⟩, W₃.drop (fun _ hp => nomatch hp), hJ₃, hlt, rfl⟩
    | ret v => exact z
    | brk => exact z.elim
    | cont => exact z.elim
  · have hin : i = vs.length := by omega
    subst hin
    refine next_tuple_end (s := ⟨h', gg, dd, tk, os⟩) hA hit' hseq'.is (by simp) ?_
    intro h₁ he₁
    refine wpAny_execs_nil ?_
    have W₁ : St H S h₀ L h₁ m' [] := W'.turns (D := (· = I)) ⟨fun b o e q => .inl (he₁ b o q e)⟩ (fun b q => .inl (q ▸ hI0)) (fun b q => ⟨q ▸ hIH, fun o e => nt o (clsI hit' o (q ▸ e))⟩) (fun b q z => absurd (q ▸ z) hIS) (fun _ hp => nomatch hp)
    exact done h₁ m' _ W₁ (stab _ _ _ _ hJ (Ky.but (d := I) (fun b o q e => he₁ b o q e) fun o e => .inr (.inl (clsI hit' o e))))
theorem iter_listE {t : Addr} {vs : List Value} {Q : Value → Shared → Prop} (W : St H S h₀ L hh m objs) (ht : LsAt hh t vs)
    (h : ∀ I h', h₀.get? I = none → H.objs.size ≤ I → ¬ S I → (∀ b o, hh.get? b = some o → b ≠ I) → Heap.IsListIter h' I t 0 → St H S h₀ L h' m objs → (∀ b o, hh.get? b = some o → h'.get? b = some o) → Q (.ref I) ⟨h', gg, dd, tt, os⟩) : wpAny (model prog w) A (pyIter (.ref t)) Q E ⟨hh, gg, dd, tt, os⟩ := by
  have f := W.fresh0
  refine wpAny_pyIter_list (s := ⟨hh, gg, dd, tt, os⟩) ht.is ?_
  exact h _ _ f.1 f.2.1 f.2.2 (fun b o e => Nat.ne_of_lt (Heap.lt_size e)) ⟨_, Heap.get?_push_size _ rfl, rfl, rfl⟩ ((W.push _ (plain_type (by decide)) rfl).drop fun p hp => .tail _ hp) (fun b o e => Heap.get?_push_of_some _ e)
theorem for_list {vs : List Value} {x : Str} {px : Pos} {body : List Stmt} {I l : Addr} {Q : Flow → Shared → Prop} (hA : A.handled = none) (hk : cs.kind = .function) (hl : (envOf cn cs L a ccd).kindOf x = some .local)
    (W : St H S h₀ L hh m []) (hseq : LsAt hh l vs) (hit : Heap.IsListIter hh I l 0) (hI0 : h₀.get? I = none) (hIH : H.objs.size ≤ I) (hIS : ¬ S I)
    (J : Nat → (Str → Option Value) → Heap → Prop) (stab : ∀ i m h h', J i m h → Ky h h' → J i m h') (h0 : J 0 m hh)
    (turn : ∀ i m₁ h₁ tk v ob, vs[i]? = some v → J i m₁ h₁ → (∀ p ∈ ob, p.1 = I ∨ p.1 = l) → h₁.get? I ≠ none → St H S h₀ L h₁ (fun y => if y = x then some v else m₁ y) ob →
      wpAny (model prog w) A (execs body (envOf cn cs L a ccd)) (LoopEnd H S h₀ L ob (J (i + 1)) gg dd os Q) (fun _ _ => False) ⟨h₁, gg, dd, tk, os⟩)
    (done : ∀ h₁ m₁ tk, St H S h₀ L h₁ m₁ [] → J vs.length m₁ h₁ → Q .next ⟨h₁, gg, dd, tk, os⟩) :
    codeAny (model prog w) A (.forLoop (.Name x px) (.ref I) body [] (envOf cn cs L a ccd)) (fun r s' => match r with | .ok f => Q f s' | .error e => cameBackBy (model prog w) A (envOf cn cs L a ccd) E e s') ⟨hh, gg, dd, tt, os⟩ := by
  have clsI : ∀ {h : Heap} {i : Nat}, Heap.IsListIter h I l i → ∀ o, h.get? I = some o → o.cls = .type "list_iterator" := fun q o e => by
    obtain ⟨o', q1, q2, _⟩ := q
    rw [q1] at e; cases e; exact q2
  have nt : ∀ o : Obj, o.cls = .type "list_iterator" → o.cls ≠ .type "traceback" ∧ o.cls ≠ .type "frame" := fun o e => by
    rw [e]; exact ⟨fun z => absurd (Value.type.inj z) (by decide), fun z => absurd (Value.type.inj z) (by decide)⟩
  have hIl : ∀ {h : Heap} {i : Nat}, Heap.IsListIter h I l i → LsAt h l vs → l ≠ I := fun q r z => by
    obtain ⟨n, e⟩ := r
    have := clsI q _ (z ▸ e)
    exact absurd (Value.type.inj this) (by decide)
  refine codeAny_forLoop (fun k s' => ∃ h' tk m' i, s' = ⟨h', gg, dd, tk, os⟩ ∧ Heap.IsListIter h' I l i ∧ LsAt h' l vs ∧ St H S h₀ L h' m' [] ∧ J i m' h' ∧ i ≤ vs.length ∧ k = vs.length + 1 - i) ?_ (vs.length + 1)
    ⟨hh, tt, m, 0, rfl, hit, hseq, W, h0, Nat.zero_le _, rfl⟩
  rintro k s' ⟨h', tk, m', i, rfl, hit', hseq', W', hJ, hi, rfl⟩
  have hli := hIl hit' hseq'
  by_cases hlt : i < vs.length
  · refine wpAny_pyNext_list_item (s := ⟨h', gg, dd, tk, os⟩) hit' hseq'.is (x := vs[i]) (by simp [hlt]) ?_
    intro h₁ hit₁ hs₁
    have W₁ : St H S h₀ L h₁ m' [] := W'.own hs₁ hI0 hIH (fun o e => nt o (clsI hit' o e)) hIS (fun _ hp => nomatch hp)
    obtain ⟨oI, eI, cI, dI⟩ := hit₁
    obtain ⟨nl, el⟩ := hseq'
    have el₁ := (hs₁.2 l hli).trans el
    have W₁' := (W₁.add el₁ (plain_type (by decide))).add eI ⟨fun z => (nt oI cI).2 z, fun C d t tb z => by rw [z] at cI; cases cI⟩
    refine wpAny_assign_Name ?_
    obtain ⟨oL, heL, hcL⟩ := W₁.fr
    refine r_store2 W₁' ?_ hk hl
    intro h₂ W₂ hs₂
    have hJ₂ : J i m' h₂ := stab _ _ _ _ hJ ((Ky.but (d := I) (fun b o q e => (hs₁.2 b q).trans e) fun o e => .inr (.inr (clsI hit' o e))).trans (Ky.but (d := L) (fun b o q e => (hs₂.2 b q).trans e) fun o e => .inl (by rw [heL] at e; cases e; exact hcL)))
    refine wpAny_mono (turn i m' h₂ _ _ [(I, oI), (l, _)] (List.getElem?_eq_getElem hlt) hJ₂ (fun p hp => by
      rcases List.mem_cons.mp hp with rfl | hp
      · exact .inl rfl
      · rw [List.mem_singleton.mp hp]; exact .inr rfl) (by rw [(W₂.ob _ (.head _)).1]; exact fun z => nomatch z) W₂) (fun f s₃ z => ?_) fun _ _ z => z.elim
    cases f with
    | next =>
      obtain ⟨h₃, m₃, tk₃, rfl, W₃, hJ₃⟩ := z
      exact ⟨vs.length + 1 - (i + 1), by omega, h₃, tk₃, m₃, i + 1, rfl, ⟨oI, (W₃.ob _ (.head _)).1, cI, dI⟩, ⟨nl, (W₃.ob _ (.tail _ (.head _))).1⟩, W₃.drop (fun _ hp => nomatch hp), hJ₃, hlt, rfl⟩
    | ret v => exact z
    | brk => exact z.elim
    | cont => exact z.elim
  · have hin : i = vs.length := by omega
    subst hin
    refine wpAny_pyNext_list_end (s := ⟨h', gg, dd, tk, os⟩) hA hit' hseq'.is (by simp) ?_
    intro h₁ he₁
    refine wpAny_execs_nil ?_
    have W₁ : St H S h₀ L h₁ m' [] := W'.turns (D := (· = I)) ⟨fun b o e q => .inl (he₁ b o q e)⟩ (fun b q => .inl (q ▸ hI0)) (fun b q => ⟨q ▸ hIH, fun o e => nt o (clsI hit' o (q ▸ e))⟩) (fun b q z => absurd (q ▸ z) hIS) (fun _ hp => nomatch hp)
    exact done h₁ m' _ W₁ (stab _ _ _ _ hJ (Ky.but (d := I) (fun b o q e => he₁ b o q e) fun o e => .inr (.inr (clsI hit' o e))))
end
end Mine
end
section
open PySem PySem.W PyProof.Rows PySem.Calls
open PySem.Builtin PySem.Builtin.ObjectAttr PySem.Builtin.BaseException
set_option Elab.async false
set_option linter.unusedVariables false
set_option maxRecDepth 100000
namespace Mine
local macro_rules | `(tactic| ktr_unf) => `(tactic| ((case k6 => rfl); (case k7 => kernel_rfl); (case k9 => intro S; kernel_rfl); (case c5 => kernel_rfl); (case kB => kernel_rfl); (case c2 => exact rfl); (case c3 => exact rfl); (case c4 => exact rfl)))
def dvD : Dv → PyData
  | .n => .none
  | .i k => .int k
  | .s x => .str x
theorem Dv.reads {h : Heap} {r : Dv} {v : Value} (x : r.Is v) : Reads h v (dvD r) [] := by
  cases r with
  | n => cases x; exact .none
  | i k => obtain ⟨t, rfl⟩ := x; exact .int _ _
  | s y => obtain ⟨t, rfl⟩ := x; exact .str _ _
def ofD (k : Nat) : PyData := .list [.bool (isOf k 0), .bool (isOf k 4), .bool (isOf k 1), .bool (isOf k 2), .bool (isOf k 3)]
def otherD (k : Nat) (x : Str) (c : Nat) : PyData := .list [.int k, ofD k, .str x, .int c, .str x, .str "__getitem__"]
def parseD (x : Str) (c : Nat) (sys line col pub : Dv) : PyData := .list [.int 4, ofD 4, .str x, .int c, .str (textOf sys line col x), .str "__getitem__", dvD sys, dvD line, dvD col, dvD pub]
theorem LsAt.reads {h : Heap} {b : Addr} {vs : List Value} {ds : List PyData} {as : List Addr} (l : LsAt h b vs) (r : ReadsAll h vs ds as) : Reads h (.ref b) (.list ds) (b :: as) := by
  obtain ⟨n, e⟩ := l
  exact reads_list_at e rfl rfl (by simpa using r)
theorem readsOf {h : Heap} {b : Addr} {k : Nat} (l : LsAt h b (ofVs k)) : Reads h (.ref b) (ofD k) [b] :=
  l.reads (.cons (.bool _) (.cons (.bool _) (.cons (.bool _) (.cons (.bool _) (.cons (.bool _) .nil)))))
theorem readsOther {h : Heap} {b ofl : Addr} {k c : Nat} {x : Str} {t1 t2 t3 t4 t5 : Tok} (l : LsAt h b [.int (k : Int) t1, .ref ofl, .str x t2, .int (c : Int) t3, .str x t4, .str "__getitem__" t5]) (lo : LsAt h ofl (ofVs k)) : ∃ as, Reads h (.ref b) (otherD k x c) as :=
  ⟨_, l.reads (.cons (.int _ _) (.cons (readsOf lo) (.cons (.str _ _) (.cons (.int _ _) (.cons (.str _ _) (.cons (.str _ _) .nil))))))⟩
theorem readsParse {h : Heap} {b ofl : Addr} {c : Nat} {x : Str} {t1 t2 t3 t4 t5 : Tok} {s5 l5 c5 p5 : Value} {sys line col pub : Dv} (l : LsAt h b [.int 4 t1, .ref ofl, .str x t2, .int (c : Int) t3, .str (textOf sys line col x) t4, .str "__getitem__" t5, s5, l5, c5, p5]) (lo : LsAt h ofl (ofVs 4))
    (i1 : sys.Is s5) (i2 : line.Is l5) (i3 : col.Is c5) (i4 : pub.Is p5) : ∃ as, Reads h (.ref b) (parseD x c sys line col pub) as :=
  ⟨_, l.reads (.cons (.int _ _) (.cons (readsOf lo) (.cons (.str _ _) (.cons (.int _ _) (.cons (.str _ _) (.cons (.str _ _) (.cons (Dv.reads i1) (.cons (Dv.reads i2) (.cons (Dv.reads i3) (.cons (Dv.reads i4) .nil))))))))))⟩
theorem of_int {k : Nat} (hk : k < 5) : ((k : Int) == 4) = isOf k 4 ∧ ((k : Int) == 1) = isOf k 1 ∧ (((k : Int) == 2) || ((k : Int) == 3)) = isOf k 2 ∧ ((k : Int) == 3) = isOf k 3 ∧ true = isOf k 0 := by
  have hk' : k = 0 ∨ k = 1 ∨ k = 2 ∨ k = 3 ∨ k = 4 := by omega
  rcases hk' with rfl | rfl | rfl | rfl | rfl <;> decide
section
variable {prog : Program} {w : World} {A : Around} {E : Value → Shared → Prop} {hh : Heap} {gg : Array GenState} {dd : Drawn} {tt : Nat} {os : OsState} {H h₀ : Heap} {S : Addr → Prop} {L a : Addr} {m : Str → Option Value} {objs : List (Addr × Obj)} {cn : Str} {cs : Scope} {ccd : Value} {env : Env}
theorem e_true {b : Bool} {k : Nat} {pos : Pos} {s : Shared} {M : Model} {Q : Value → Shared → Prop} (h : Q (.bool b) s) : wpAny M A (eval (.Constant (.bool b) k pos) env) Q E s := fun _ _ _ => h
/-- x == i, as a value -/
theorem e_cmpI {x : Str} {k i : Int} {t : Tok} {p1 p2 p3 : Pos} {k1 : Nat} {Q : Value → Shared → Prop} (W : St H S h₀ L hh m objs) (hm : m x = some (.int k t)) (h : ∀ tk, Q (.bool (k == i)) ⟨hh, gg, dd, tk, os⟩)
    (hk : cs.kind = .function) (hl : (envOf cn cs L a ccd).kindOf x = some .local) (hd : (x == ("__debug__" : Str)) = false) (hmk : behindInMarks .Eq (.Constant (.int i) k1 p2) = false) :
    wpAny (model prog w) A (eval (.Compare (.Name x p1) [.Eq] [.Constant (.int i) k1 p2] p3) (envOf cn cs L a ccd)) Q E ⟨hh, gg, dd, tt, os⟩ := by
  refine wpAny_Compare1 (hm := hmk) ?_
  refine e_loc W (v := .int k t) (hv := hm) ?_ hk hl hd
  refine e_int ?_
  intro _ _
  refine e_eqi ?_
  exact h _
theorem e_orI {x : Str} {k i j : Int} {t : Tok} {p1 p2 p3 q1 q2 q3 p : Pos} {k1 k2 : Nat} {Q : Value → Shared → Prop} (W : St H S h₀ L hh m objs) (hm : m x = some (.int k t)) (h : ∀ tk, Q (.bool (k == i || k == j)) ⟨hh, gg, dd, tk, os⟩)
    (hk : cs.kind = .function) (hl : (envOf cn cs L a ccd).kindOf x = some .local) (hd : (x == ("__debug__" : Str)) = false) (hmk : behindInMarks .Eq (.Constant (.int i) k1 p2) = false) (hmk2 : behindInMarks .Eq (.Constant (.int j) k2 q2) = false) :
    wpAny (model prog w) A (eval (.BoolOp .Or [.Compare (.Name x p1) [.Eq] [.Constant (.int i) k1 p2] p3, .Compare (.Name x q1) [.Eq] [.Constant (.int j) k2 q2] q3] p) (envOf cn cs L a ccd)) Q E ⟨hh, gg, dd, tt, os⟩ := by
  refine BoolOp_or ?_
  refine e_cmpI W hm ?_ hk hl hd hmk
  intro tk
  refine e_truthb ?_
  cases q : k == i with
  | true =>
    rw [if_pos rfl]
    have := h tk; rw [q] at this; exact this
  | false =>
    rw [if_neg (by decide)]
    refine BoolOp_one ?_
    refine e_cmpI W hm ?_ hk hl hd hmk2
    intro tk'
    have := h tk'; rw [q] at this; exact this
/-- '?' if x is None else str(x) -/
theorem num_text {x : Str} {v : Value} {r : Dv} {p1 p2 p3 p4 p5 p6 p7 p8 : Pos} {k1 k2 : Nat} {Q : Value → Shared → Prop} (G : Gr w H) (W : St H S h₀ L hh m objs) (hm : m x = some v) (hr : r.Is v) (hn : ∀ y, r ≠ .s y) (ho : r.Ok)
    (h : ∀ t tk, Q (.str (r.show "?") t) ⟨hh, gg, dd, tk, os⟩)
    (hk : cs.kind = .function) (hl : (envOf cn cs L a ccd).kindOf x = some .local) (hl2 : (envOf cn cs L a ccd).kindOf "str" = some .globalImplicit) (hd : (x == ("__debug__" : Str)) = false) (hmk : behindInMarks .Is (.Constant .none k1 p2) = false) :
    wpAny (model prog w) A (eval (.IfExp (.Compare (.Name x p1) [.Is] [.Constant .none k1 p2] p3) (.Constant (.str "?") k2 p4) (.Call (.Name "str" p5) [.Name x p6] [] p7) p8) (envOf cn cs L a ccd)) Q E ⟨hh, gg, dd, tt, os⟩ := by
  refine IfExp_ ?_
  refine wpAny_isTrue_Compare1 (hm := hmk) ?_
  refine e_loc W (v := v) (hv := hm) ?_ hk hl hd
  refine e_none ?_
  cases r with
  | n =>
    cases hr
    refine e_isNone (hp := rfl) ?_
    refine e_truthb ?_
    refine e_ifT (hb := rfl) ?_
    refine e_str ?_
    intro t tk
    exact h t tk
  | i k =>
    obtain ⟨t, rfl⟩ := hr
    refine e_isNone (hp := rfl) ?_
    refine e_truthb ?_
    refine e_ifF (hb := rfl) ?_
    refine Call_ ?_
    refine e_bi G W (v := .type "str") (e := by kernel_rfl) (hv := by kernel_rfl) (hn := by decide) ?_ hk hl2
    refine callT ?_
    refine spliced_more ?_
    refine e_loc W (v := .int k t) (hv := hm) ?_ hk hl hd
    refine spliced_none ?_
    exact PySem.P.str_of_int (s := ⟨hh, gg, dd, tt, os⟩) (log_small ho.1) (h _ _)
  | s y => exact absurd rfl (hn y)
/-- 'lit' if x is None else x -/
theorem sys_text {x lit : Str} {v : Value} {r : Dv} {p1 p2 p3 p4 p5 p8 : Pos} {k1 k2 : Nat} {Q : Value → Shared → Prop} (W : St H S h₀ L hh m objs) (hm : m x = some v) (hr : r.Is v) (hn : ∀ i, r ≠ .i i)
    (h : ∀ t tk, Q (.str (r.show lit) t) ⟨hh, gg, dd, tk, os⟩)
    (hk : cs.kind = .function) (hl : (envOf cn cs L a ccd).kindOf x = some .local) (hd : (x == ("__debug__" : Str)) = false) (hmk : behindInMarks .Is (.Constant .none k1 p2) = false) :
    wpAny (model prog w) A (eval (.IfExp (.Compare (.Name x p1) [.Is] [.Constant .none k1 p2] p3) (.Constant (.str lit) k2 p4) (.Name x p5) p8) (envOf cn cs L a ccd)) Q E ⟨hh, gg, dd, tt, os⟩ := by
  refine IfExp_ ?_
  refine wpAny_isTrue_Compare1 (hm := hmk) ?_
  refine e_loc W (v := v) (hv := hm) ?_ hk hl hd
  refine e_none ?_
  cases r with
  | n =>
    cases hr
    refine e_isNone (hp := rfl) ?_
    refine e_truthb ?_
    refine e_ifT (hb := rfl) ?_
    refine e_str ?_
    intro t tk
    exact h t tk
  | i k => exact absurd rfl (hn k)
  | s y =>
    obtain ⟨t, rfl⟩ := hr
    refine e_isNone (hp := rfl) ?_
    refine e_truthb ?_
    refine e_ifF (hb := rfl) ?_
    refine e_loc W (v := .str y t) (hv := hm) ?_ hk hl hd
    exact h _ _
end
section
variable {prog : Program} {w : World} {A : Around} {E : Value → Shared → Prop} {hh : Heap} {gg : Array GenState} {dd : Drawn} {tt : Nat} {os : OsState} {H : Heap}
set_option maxHeartbeats 2000000 in
theorem due_other {k c : Nat} {r : Addr} {cells : Value} {x : Str} {t1 t2 t3 : Tok} {Q : Value → Shared → Prop} (hk : k < 5) (G : Gr w H) (U : Up H hh) (g : Gd H A hh 50 50) (hA : A.handled = none) (hr : TpAt hh r [.int (k : Int) t1, .str x t2, .int (c : Int) t3, .none])
    (h : ∀ h' tk' b as, KpN H hh h' → Reads h' (.ref b) (otherD k x c) as → Q (.ref b) ⟨h', gg, dd, tk', os⟩) : wpAny (model prog w) A (call (.ref 258) [.ref r, cells]) Q E ⟨hh, gg, dd, tt, os⟩ := by
  have hd := g.depth
  refine' enterE [("row", .ref r), ("cells", cells)] G U (fun _ => False) (fun _ q => q.elim) ?k6 ?kr ?k7 ?k9 ?kB ?c2 ?c3 ?c4 ?c5 ?_
  ktr_unf
  (case kr => omega)
  intro L h₁ tk₁ hL hk₁ W
  refine wpAny_execs_cons ?_
  refine Assign_Tuple (hs := by kernel_rfl) (hw := by kernel_rfl) ?_
  refine e_loc W (v := .ref r) (hv := by kernel_rfl) ?_
  refine assign_Tuple_tuple (s := ⟨h₁, gg, dd, _, os⟩) (hh := hA) (hr.kp W.done0 id).is (hn := by kernel_rfl) (hstar := by kernel_rfl) ?_
  intro h₂ he₂
  have W₂ := W.call (ext_new he₂)
  refine assignInOrder_cons ?_
  refine assign_Name ?_
  refine e_store W₂ ?_
  intro h₃ tk₃ W₃
  refine assignInOrder_cons ?_
  refine assign_Name ?_
  refine e_store W₃ ?_
  intro h₄ tk₄ W₄
  refine assignInOrder_cons ?_
  refine assign_Name ?_
  refine e_store W₄ ?_
  intro h₅ tk₅ W₅
  refine assignInOrder_cons ?_
  refine assign_Name ?_
  refine e_store W₅ ?_
  intro h₆ tk₆ W₆
  refine assignInOrder_nil ?_
  -- of
  refine wpAny_execs_cons ?_
  refine wpAny_Assign_Name (hs := by kernel_rfl) ?_
  refine List_ ?_
  refine spliced_more (he := by kernel_rfl) ?_
  refine e_true ?_
  refine spliced_more (he := by kernel_rfl) ?_
  refine e_cmpI (k := (k : Int)) (t := t1) W₆ (by kernel_rfl) ?_ rfl (by kernel_rfl) (by kernel_rfl) (by kernel_rfl)
  intro _
  refine spliced_more (he := by kernel_rfl) ?_
  refine e_cmpI (k := (k : Int)) (t := t1) W₆ (by kernel_rfl) ?_ rfl (by kernel_rfl) (by kernel_rfl) (by kernel_rfl)
  intro _
  refine spliced_more (he := by kernel_rfl) ?_
  refine e_orI (k := (k : Int)) (t := t1) W₆ (by kernel_rfl) ?_ rfl (by kernel_rfl) (by kernel_rfl) (by kernel_rfl) (by kernel_rfl)
  intro _
  refine spliced_more (he := by kernel_rfl) ?_
  refine e_cmpI (k := (k : Int)) (t := t1) W₆ (by kernel_rfl) ?_ rfl (by kernel_rfl) (by kernel_rfl) (by kernel_rfl)
  intro _
  refine spliced_none ?_
  refine e_list W₆ (hsz := by show 5 ≤ 100; decide) ?_
  intro b h₇ hb W₇
  have ev : ([] ++ [Value.bool true] ++ [Value.bool ((k : Int) == 4)] ++ [Value.bool ((k : Int) == 1)] ++ [Value.bool ((k : Int) == 2 || (k : Int) == 3)] ++ [Value.bool ((k : Int) == 3)] : List Value) = ofVs k := by
    obtain ⟨a1, a2, a3, a4, a5⟩ := of_int hk
    rw [a1, a2, a3, a4, a5]; rfl
  refine e_store W₇ ?_
  intro h₈ tk₈ W₈
  -- if place is None
  refine wpAny_execs_cons ?_
  refine wpAny_If ?_
  refine wpAny_isTrue_Compare1 (hm := by kernel_rfl) ?_
  refine e_loc W₈ (v := .none) (hv := by kernel_rfl) ?_
  refine e_none ?_
  refine e_isNone (hp := rfl) ?_
  refine e_truthb ?_
  refine e_ifT (hb := rfl) ?_
  refine wpAny_execs_cons ?_
  refine wpAny_Return_some ?_
  refine List_ ?_
  refine spliced_more (he := by kernel_rfl) ?_
  refine e_loc W₈ (v := .int (k : Int) t1) (hv := by kernel_rfl) ?_
  refine spliced_more (he := by kernel_rfl) ?_
  refine e_loc W₈ (v := .ref b) (hv := by kernel_rfl) ?_
  refine spliced_more (he := by kernel_rfl) ?_
  refine e_loc W₈ (v := .str x t2) (hv := by kernel_rfl) ?_
  refine spliced_more (he := by kernel_rfl) ?_
  refine e_loc W₈ (v := .int (c : Int) t3) (hv := by kernel_rfl) ?_
  refine spliced_more (he := by kernel_rfl) ?_
  refine e_loc W₈ (v := .str x t2) (hv := by kernel_rfl) ?_
  refine spliced_more (he := by kernel_rfl) ?_
  refine e_str ?_
  intro t4 _
  refine spliced_none ?_
  refine e_list W₈ (hsz := by show 6 ≤ 100; decide) ?_
  intro b2 h₉ hb2 W₉
  have lo : LsAt h₉ b (ofVs k) := ev ▸ ⟨_, W₉.has (.tail _ (.head _))⟩
  obtain ⟨as, ra⟩ := readsOther (c := c) (x := x) ⟨_, W₉.has (.head _)⟩ lo
  exact h _ _ b2 as W₉.done ra
end
end Mine
end
section
open PySem PySem.W PyProof.Rows PySem.Calls
open PySem.Builtin PySem.Builtin.ObjectAttr PySem.Builtin.BaseException
set_option Elab.async false
set_option linter.unusedVariables false
set_option maxRecDepth 100000
namespace Mine
local macro_rules | `(tactic| ktr_unf) => `(tactic| ((case k6 => rfl); (case k7 => kernel_rfl); (case k9 => intro S; kernel_rfl); (case c5 => kernel_rfl); (case kB => kernel_rfl); (case c2 => exact rfl); (case c3 => exact rfl); (case c4 => exact rfl)))
def ttx (a l c : Str) : Nat → Str
  | 0 => a
  | 1 => a ++ ":" ++ l
  | _ => a ++ ":" ++ l ++ ":" ++ c
theorem ttx_len {a l c : Str} (ha : a.length ≤ 100) (hl : l.length ≤ 100) (hc : c.length ≤ 100) (i : Nat) : (ttx a l c i).length ≤ 302 := by
  have c1 : (":" : Str).length = 1 := by decide +kernel
  match i with
  | 0 => show a.length ≤ 302; omega
  | 1 => show (a ++ ":" ++ l).length ≤ 302; simp only [Str.length_append]; omega
  | _ + 2 => show (a ++ ":" ++ l ++ ":" ++ c).length ≤ 302; simp only [Str.length_append]; omega
section
variable {prog : Program} {w : World} {A : Around} {E : Value → Shared → Prop} {hh : Heap} {gg : Array GenState} {dd : Drawn} {tt : Nat} {os : OsState} {H : Heap}
set_option maxHeartbeats 2000000 in
theorem due_parse {c wh : Nat} {r p ac cw : Addr} {x : Str} {t1 t2 t3 tw : Tok} {sv lv cv v0 v1 v2 v3 : Value} {sys line col pub : Dv} {cs : List Value} {Q : Value → Shared → Prop} (G : Gr w H) (U : Up H hh) (g : Gd H A hh 50 50) (hA : A.handled = none) (hr : TpAt hh r [.int 4 t1, .str x t2, .int (c : Int) t3, .ref p])
    (hp : TpAt hh p [sv, lv, cv, .int (wh : Int) tw]) (hc : LsAt hh ac cs) (hw : cs[wh]? = some (.ref cw)) (hwh : wh < 1000) (hcw : LsAt hh cw [v0, v1, v2, v3]) (i1 : sys.Is sv) (i2 : line.Is lv) (i3 : col.Is cv) (i4 : pub.Is v3)
    (n1 : ∀ i, sys ≠ .i i) (n2 : ∀ y, line ≠ .s y) (n3 : ∀ y, col ≠ .s y) (o1 : sys.Ok) (o2 : line.Ok) (o3 : col.Ok) (hx : x.length ≤ 100)
    (h : ∀ h' tk' b as, KpN H hh h' → Reads h' (.ref b) (parseD x c sys line col pub) as → Q (.ref b) ⟨h', gg, dd, tk', os⟩) : wpAny (model prog w) A (call (.ref 258) [.ref r, .ref ac]) Q E ⟨hh, gg, dd, tt, os⟩ := by
  have hd := g.depth
  refine' enterE [("row", .ref r), ("cells", .ref ac)] G U (fun _ => False) (fun _ q => q.elim) ?k6 ?kr ?k7 ?k9 ?kB ?c2 ?c3 ?c4 ?c5 ?_
  ktr_unf
  (case kr => omega)
  intro L h₁ tk₁ hL hk₁ W
  refine wpAny_execs_cons ?_
  refine Assign_Tuple (hs := by kernel_rfl) (hw := by kernel_rfl) ?_
  refine e_loc W (v := .ref r) (hv := by kernel_rfl) ?_
  refine assign_Tuple_tuple (s := ⟨h₁, gg, dd, _, os⟩) (hh := hA) (hr.kp W.done0 id).is (hn := by kernel_rfl) (hstar := by kernel_rfl) ?_
  intro h₂ he₂
  have W₂ := W.call (ext_new he₂)
  refine assignInOrder_cons ?_
  refine assign_Name ?_
  refine e_store W₂ ?_
  intro h₃ tk₃ W₃
  refine assignInOrder_cons ?_
  refine assign_Name ?_
  refine e_store W₃ ?_
  intro h₄ tk₄ W₄
  refine assignInOrder_cons ?_
  refine assign_Name ?_
  refine e_store W₄ ?_
  intro h₅ tk₅ W₅
  refine assignInOrder_cons ?_
  refine assign_Name ?_
  refine e_store W₅ ?_
  intro h₆ tk₆ W₆
  refine assignInOrder_nil ?_
  -- of
  refine wpAny_execs_cons ?_
  refine wpAny_Assign_Name (hs := by kernel_rfl) ?_
  refine List_ ?_
  refine spliced_more (he := by kernel_rfl) ?_
  refine e_true ?_
  refine spliced_more (he := by kernel_rfl) ?_
  refine e_cmpI (k := (4 : Int)) (t := t1) W₆ (by kernel_rfl) ?_ rfl (by kernel_rfl) (by kernel_rfl) (by kernel_rfl)
  intro _
  refine spliced_more (he := by kernel_rfl) ?_
  refine e_cmpI (k := (4 : Int)) (t := t1) W₆ (by kernel_rfl) ?_ rfl (by kernel_rfl) (by kernel_rfl) (by kernel_rfl)
  intro _
  refine spliced_more (he := by kernel_rfl) ?_
  refine e_orI (k := (4 : Int)) (t := t1) W₆ (by kernel_rfl) ?_ rfl (by kernel_rfl) (by kernel_rfl) (by kernel_rfl) (by kernel_rfl)
  intro _
  refine spliced_more (he := by kernel_rfl) ?_
  refine e_cmpI (k := (4 : Int)) (t := t1) W₆ (by kernel_rfl) ?_ rfl (by kernel_rfl) (by kernel_rfl) (by kernel_rfl)
  intro _
  refine spliced_none ?_
  refine e_list W₆ (hsz := by show 5 ≤ 100; decide) ?_
  intro b h₇ hb W₇
  have ev : ([] ++ [Value.bool true] ++ [Value.bool ((4 : Int) == 4)] ++ [Value.bool ((4 : Int) == 1)] ++ [Value.bool ((4 : Int) == 2 || (4 : Int) == 3)] ++ [Value.bool ((4 : Int) == 3)] : List Value) = ofVs 4 := by
    rfl
  refine e_store W₇ ?_
  intro h₈ tk₈ W₈
  -- if place is None
  refine wpAny_execs_cons ?_
  refine wpAny_If ?_
  refine wpAny_isTrue_Compare1 (hm := by kernel_rfl) ?_
  refine e_loc W₈ (v := .ref p) (hv := by kernel_rfl) ?_
  refine e_none ?_
  refine e_isNone (hp := rfl) ?_
  refine e_truthb ?_
  refine e_ifF (hb := rfl) ?_
  refine wpAny_execs_nil ?_
  -- system, line, column, where = place
  refine wpAny_execs_cons ?_
  refine Assign_Tuple (hs := by kernel_rfl) (hw := by kernel_rfl) ?_
  refine e_loc W₈ (v := .ref p) (hv := by kernel_rfl) ?_
  refine assign_Tuple_tuple (s := ⟨h₈, gg, dd, _, os⟩) (hh := hA) (hp.kp W₈.done0 id).is (hn := by kernel_rfl) (hstar := by kernel_rfl) ?_
  intro h₉ he₉
  have W₉ := W₈.call (ext_new he₉)
  refine assignInOrder_cons ?_
  refine assign_Name ?_
  refine e_store W₉ ?_
  intro h₁₀ tk₁₀ W₁₀
  refine assignInOrder_cons ?_
  refine assign_Name ?_
  refine e_store W₁₀ ?_
  intro h₁₁ tk₁₁ W₁₁
  refine assignInOrder_cons ?_
  refine assign_Name ?_
  refine e_store W₁₁ ?_
  intro h₁₂ tk₁₂ W₁₂
  refine assignInOrder_cons ?_
  refine assign_Name ?_
  refine e_store W₁₂ ?_
  intro h₁₃ tk₁₃ W₁₃
  refine assignInOrder_nil ?_
  -- text
  refine wpAny_execs_cons ?_
  refine wpAny_Assign_Name (hs := by kernel_rfl) ?_
  refine sys_text (r := sys) W₁₃ (v := sv) (hm := by kernel_rfl) i1 n1 ?_ rfl (by kernel_rfl) (by kernel_rfl) (by kernel_rfl)
  intro t₁₄ tk₁₄
  refine e_store W₁₃ ?_
  intro h₁₅ tk₁₅ W₁₅
  have q1 := Dv.show_len (lit := "<unknown>") o1 (by decide)
  have q2 := Dv.show_len (lit := "?") o2 (by decide)
  have q3 := Dv.show_len (lit := "?") o3 (by decide)
  have c1 : (":" : Str).length = 1 := by decide +kernel
  have c2 : (": " : Str).length = 2 := by decide +kernel
  have tl := ttx_len q1 q2 q3
  -- for number in (line, column)
  refine wpAny_execs_cons ?_
  refine wpAny_For ?_
  refine Tuple_ ?_
  refine spliced_more (he := by kernel_rfl) ?_
  refine e_loc W₁₅ (v := lv) (hv := by kernel_rfl) ?_
  refine spliced_more (he := by kernel_rfl) ?_
  refine e_loc W₁₅ (v := cv) (hv := by kernel_rfl) ?_
  refine spliced_none ?_
  refine e_tuple W₁₅ (hsz := by show 2 ≤ 100; decide) ?_
  intro T h₁₆ hT W₁₆
  refine iter_tupleE (vs := [lv, cv]) W₁₆ ⟨_, W₁₆.has (.head _)⟩ ?_
  intro I h₁₇ hI0 hIH hIS hIb hit W₁₇ k₁₇
  obtain ⟨m₀, W₁₈, e1, e2, e3, e4, e5, e6, e7, e8, e9, e10⟩ : ∃ m₀, St H (fun _ => False) hh L h₁₇ m₀ [] ∧ m₀ "kind" = some (.int 4 t1) ∧ m₀ "of" = some (.ref b) ∧ m₀ "words" = some (.str x t2) ∧ m₀ "cause" = some (.int (c : Int) t3) ∧ m₀ "system" = some sv ∧ m₀ "line" = some lv ∧ m₀ "column" = some cv ∧ m₀ "where" = some (.int (wh : Int) tw) ∧ m₀ "cells" = some (.ref ac) ∧ m₀ "text" = some (.str (sys.show "<unknown>") t₁₄) :=
    ⟨_, W₁₇.drop (fun _ hp => nomatch hp), by kernel_rfl, by kernel_rfl, by kernel_rfl, by kernel_rfl, by kernel_rfl, by kernel_rfl, by kernel_rfl, by kernel_rfl, by kernel_rfl, by kernel_rfl⟩
  have lo₁₇ : LsAt h₁₇ b (ofVs 4) := ev ▸ ⟨_, W₁₇.has (.tail _ (.head _))⟩
  refine for_tuple (vs := [lv, cv]) hA rfl (by kernel_rfl) W₁₈ ⟨_, W₁₇.has (.head _)⟩ hit hI0 hIH hIS
    (fun i m h => (∀ y : Str, y ≠ "text" → y ≠ "number" → m y = m₀ y) ∧ (∃ t, m "text" = some (.str (ttx (sys.show "<unknown>") (line.show "?") (col.show "?") i) t)) ∧ LsAt h b (ofVs 4) ∧ LsAt h ac cs ∧ LsAt h cw [v0, v1, v2, v3]) ?_ ?_ ?_ ?_
  · rintro i m h h' ⟨a1, a2, a3, a4, a5⟩ k
    exact ⟨a1, a2, a3.ky k, a4.ky k, a5.ky k⟩
  · exact ⟨fun _ _ _ => rfl, ⟨_, e10⟩, lo₁₇, hc.kp W₁₈.done0 id, hcw.kp W₁₈.done0 id⟩
  · rintro i m₁ h₁ tk v ob hv ⟨a1, ⟨ta, a2⟩, ⟨x3, a3⟩, ⟨x4, a4⟩, ⟨x5, a5⟩⟩ hob hI W₁
    obtain ⟨rr, hr1, hr2, hr3, hr4⟩ : ∃ rr : Dv, rr.Is v ∧ (∀ y, rr ≠ .s y) ∧ rr.Ok ∧ ttx (sys.show "<unknown>") (line.show "?") (col.show "?") (i + 1) = ttx (sys.show "<unknown>") (line.show "?") (col.show "?") i ++ ":" ++ rr.show "?" := by
      match i, hv with
      | 0, hv => cases hv; exact ⟨line, i2, n2, o2, rfl⟩
      | 1, hv => cases hv; exact ⟨col, i3, n3, o3, rfl⟩
    have W₂ := ((W₁.add a3 (plain_type (by decide))).add a4 (plain_type (by decide))).add a5 (plain_type (by decide))
    refine wpAny_execs_cons ?_
    refine wpAny_Assign_Name (hs := by kernel_rfl) ?_
    refine wpAny_BinOp ?_
    refine wpAny_BinOp ?_
    refine e_loc W₂ (v := .str (ttx (sys.show "<unknown>") (line.show "?") (col.show "?") i) ta) (hv := (if_neg (by decide +kernel)).trans a2) ?_
    refine e_str ?_
    intro _ _
    refine e_adds (hsz := by have := tl i; omega) ?_
    intro _ _
    refine num_text (r := rr) (v := v) G W₂ (hm := if_pos rfl) hr1 hr2 hr3 ?_ rfl (by kernel_rfl) (by kernel_rfl) (by kernel_rfl) (by kernel_rfl)
    intro _ _
    refine e_adds (hsz := by have := tl i; have := Dv.show_len (lit := "?") hr3 (by decide); rw [Str.length_append]; omega) ?_
    intro t₃ tk₃
    refine e_store W₂ ?_
    intro h₃ tk₄ W₃
    refine wpAny_execs_nil ?_
    refine ⟨_, _, _, rfl, W₃.drop (fun p hp => .tail _ (.tail _ (.tail _ hp))), fun y y1 y2 => (if_neg y1).trans ((if_neg y2).trans (a1 y y1 y2)), ⟨t₃, ?_⟩, ⟨_, W₃.has (.tail _ (.tail _ (.head _)))⟩, ⟨_, W₃.has (.tail _ (.head _))⟩, ⟨_, W₃.has (.head _)⟩⟩
    rw [hr4]
    exact if_pos rfl
  · rintro h₁ m₁ tk W₁ ⟨a1, ⟨ta, a2⟩, lo, lc, lw⟩
    refine wpAny_execs_cons ?_
    refine wpAny_Return_some ?_
    refine List_ ?_
    refine spliced_more (he := by kernel_rfl) ?_
    refine e_loc W₁ (v := .int 4 t1) (hv := (a1 _ (by decide +kernel) (by decide +kernel)).trans e1) ?_
    refine spliced_more (he := by kernel_rfl) ?_
    refine e_loc W₁ (v := .ref b) (hv := (a1 _ (by decide +kernel) (by decide +kernel)).trans e2) ?_
    refine spliced_more (he := by kernel_rfl) ?_
    refine e_loc W₁ (v := .str x t2) (hv := (a1 _ (by decide +kernel) (by decide +kernel)).trans e3) ?_
    refine spliced_more (he := by kernel_rfl) ?_
    refine e_loc W₁ (v := .int (c : Int) t3) (hv := (a1 _ (by decide +kernel) (by decide +kernel)).trans e4) ?_
    refine spliced_more (he := by kernel_rfl) ?_
    refine wpAny_BinOp ?_
    refine wpAny_BinOp ?_
    refine e_loc W₁ (v := .str (ttx (sys.show "<unknown>") (line.show "?") (col.show "?") 2) ta) (hv := a2) ?_
    refine e_str ?_
    intro _ _
    refine e_adds (hsz := by have := tl 2; omega) ?_
    intro _ _
    refine e_loc W₁ (v := .str x t2) (hv := (a1 _ (by decide +kernel) (by decide +kernel)).trans e3) ?_
    refine e_adds (hsz := by have := tl 2; rw [Str.length_append]; omega) ?_
    intro t5 tk5
    refine spliced_more (he := by kernel_rfl) ?_
    refine e_str ?_
    intro t6 tk6
    refine spliced_more (he := by kernel_rfl) ?_
    refine e_loc W₁ (v := sv) (hv := (a1 _ (by decide +kernel) (by decide +kernel)).trans e5) ?_
    refine spliced_more (he := by kernel_rfl) ?_
    refine e_loc W₁ (v := lv) (hv := (a1 _ (by decide +kernel) (by decide +kernel)).trans e6) ?_
    refine spliced_more (he := by kernel_rfl) ?_
    refine e_loc W₁ (v := cv) (hv := (a1 _ (by decide +kernel) (by decide +kernel)).trans e7) ?_
    refine spliced_more (he := by kernel_rfl) ?_
    refine Subscript_ ?_
    refine Subscript_ ?_
    refine e_loc W₁ (v := .ref ac) (hv := (a1 _ (by decide +kernel) (by decide +kernel)).trans e9) ?_
    refine e_loc W₁ (v := .int (wh : Int) tw) (hv := (a1 _ (by decide +kernel) (by decide +kernel)).trans e8) ?_
    refine e_item (hl := lc) (h0 := by omega) (hhi := by omega) (hx := hw) (hs := by kernel_rfl) ?_
    refine e_int ?_
    intro _ _
    refine e_item (hl := lw) (v := v3) (h0 := by decide) (hhi := by decide) (hx := rfl) (hs := by kernel_rfl) ?_
    refine spliced_none ?_
    obtain ⟨n0, lo⟩ := lo
    have W₁' := W₁.add lo (plain_type (by decide))
    refine e_list W₁' (hsz := by show 10 ≤ 100; decide) ?_
    intro b2 h₂ hb2 W₂
    obtain ⟨as, ra⟩ := readsParse (c := c) (x := x) (sys := sys) (line := line) (col := col) (pub := pub) ⟨_, W₂.has (.head _)⟩ ⟨_, W₂.has (.tail _ (.head _))⟩ i1 i2 i3 i4
    exact h _ _ b2 as W₂.done ra
end
end Mine
end
section
open PySem PySem.W PyProof.Rows PySem.Calls
open PySem.Builtin PySem.Builtin.ObjectAttr PySem.Builtin.BaseException
set_option Elab.async false
set_option linter.unusedVariables false
set_option maxRecDepth 100000
namespace Mine
def Dv.Fine : Dv → Prop
  | .n => True
  | .i k => PyData.strOk (Str.ofString (toString k)) = true
  | .s x => PyData.strOk x = true
/-- what a cell holds -/
structure Cl where
  sys : Dv
  line : Dv
  col : Dv
  pub : Dv
structure Pl where
  sys : Dv
  line : Dv
  col : Dv
  wh : Nat
structure Rw where
  kind : Nat
  words : Str
  cause : Nat
  place : Option Pl
structure D3 (sys line col : Dv) : Prop where
  n1 : ∀ i, sys ≠ .i i
  n2 : ∀ y, line ≠ .s y
  n3 : ∀ y, col ≠ .s y
  o1 : sys.Ok
  o2 : line.Ok
  o3 : col.Ok
  f1 : sys.Fine
  f2 : line.Fine
  f3 : col.Fine
def Cl.Good (c : Cl) : Prop := D3 c.sys c.line c.col ∧ c.pub.Fine
def CellAt (h : Heap) (a : Addr) (c : Cl) : Prop := ∃ v0 v1 v2 v3, LsAt h a [v0, v1, v2, v3] ∧ c.sys.Is v0 ∧ c.line.Is v1 ∧ c.col.Is v2 ∧ c.pub.Is v3
/-- the law's lists and places -/
structure Ad where
  c0 : Nat
  c1 : Nat
  c2 : Nat
  lc : Nat
  lp : Nat
  x1 : Nat
  lt : Nat
  lr : Nat
  p0 : Nat
  p1 : Nat
  p2 : Nat
def Ad.c (a : Ad) : Nat → Addr
  | 0 => a.c0
  | 1 => a.c1
  | _ => a.c2
def Ad.p (a : Ad) : Nat → Addr
  | 0 => a.p0
  | 1 => a.p1
  | _ => a.p2
def LocL (h : Heap) (x c : Addr) : Prop := ∃ d n m f0 f1 f2 f3, LocAt h x d n m ∧ m "getSystemId" = some (.ref f0) ∧ m "getLineNumber" = some (.ref f1) ∧ m "getColumnNumber" = some (.ref f2) ∧ m "getPublicId" = some (.ref f3) ∧ LamAt h f0 0 c ∧ LamAt h f1 1 c ∧ LamAt h f2 2 c ∧ LamAt h f3 3 c
def Loc0 (h : Heap) (x : Addr) : Prop := ∃ d n m, LocAt h x d n m ∧ m "getSystemId" = none ∧ m "getLineNumber" = none ∧ m "getColumnNumber" = none ∧ m "getPublicId" = none
def ErAt (H h : Heap) (a : Ad) (vs : List Value) (g : List Rw) (i : Nat) (r : Rw) : Prop := ∃ e v t, vs[i + 2]? = some (.ref e) ∧ vs[r.cause]? = some v ∧ r.words.length ≤ 100 ∧ PyData.strOk r.words = true ∧
  ((r.kind < 4 ∧ r.place = none ∧ ErrAt H h e r.kind (m2 (.str r.words t) v)) ∨
   ∃ p loc sv cv lv, r.kind = 4 ∧ r.place = some p ∧ ErrAt H h e 4 (m4 (.str r.words t) v loc sv cv lv) ∧ p.sys.Is sv ∧ p.line.Is lv ∧ p.col.Is cv ∧ D3 p.sys p.line p.col ∧ p.wh < 3 ∧
    (loc = .ref (a.p p.wh) ∨ ∃ j r', j < i ∧ g[j]? = some r' ∧ vs[j + 2]? = some loc ∧ r'.place = some p))
def RowAt (h : Heap) (rs : List Value) (i : Nat) (r : Rw) : Prop := ∃ ra t1 t2 t3 pv, rs[i + 2]? = some (.ref ra) ∧ TpAt h ra [.int (r.kind : Int) t1, .str r.words t2, .int (r.cause : Int) t3, pv] ∧
  ((r.place = none ∧ pv = .none) ∨ ∃ p q sv lv cv tw, r.place = some p ∧ pv = .ref q ∧ TpAt h q [sv, lv, cv, .int (p.wh : Int) tw] ∧ p.sys.Is sv ∧ p.line.Is lv ∧ p.col.Is cv)
/-- the law's world: what stands all along -/
structure Wb (H h : Heap) (a : Ad) : Prop where
  ord : a.c0 < a.c1 ∧ a.c1 < a.c2 ∧ a.c2 < a.lc ∧ a.lc < a.lp ∧ a.lp < a.x1 ∧ a.x1 < a.lt ∧ a.lt < a.lr
  low : H.objs.size ≤ a.c0
  lc : LsAt h a.lc [.ref a.c0, .ref a.c1, .ref a.c2]
  lp : LsAt h a.lp [.ref a.p0, .ref a.p1, .ref a.p2]
  cell0 : CellAt h a.c0 ⟨.n, .i (-1), .i (-1), .n⟩
  loc0 : Loc0 h a.p0
  loc1 : LocL h a.p1 a.c1
  loc2 : LocL h a.p2 a.c2
  x1 : LsAt h a.x1 []
structure Wd (H h : Heap) (a : Ad) (cl : Nat → Cl) (vs rs : List Value) (g : List Rw) : Prop where
  b : Wb H h a
  cell : ∀ i, i < 3 → CellAt h (a.c i) (cl i)
  cok : ∀ i, i < 3 → (cl i).Good
  cl0 : cl 0 = ⟨.n, .i (-1), .i (-1), .n⟩
  lt : LsAt h a.lt vs
  lr : LsAt h a.lr rs
  v0 : vs[0]? = some .none
  v1 : vs[1]? = some (.ref a.x1)
  nv : vs.length = g.length + 2
  nr : rs.length = g.length + 2
  er : ∀ i r, g[i]? = some r → ErAt H h a vs g i r
  row : ∀ i r, g[i]? = some r → RowAt h rs i r
  inj : ∀ (i j : Nat) (v : Value), vs[i]? = some v → vs[j]? = some v → i = j
/-- lists turn, and nothing else -/
structure Kl (H : Heap) (D : Addr → Prop) (h h' : Heap) : Prop where
  k : Kp H D h h'
  l : ∀ b, D b → ∃ us, LsAt h b us
section
variable {H h h' : Heap} {D : Addr → Prop}
theorem Kl.of (k : KpN H h h') : Kl H (fun _ => False) h h' := ⟨k, fun _ q => q.elim⟩
theorem Kl.not {b : Addr} {o : Obj} (K : Kl H D h h') (e : h.get? b = some o) (hc : o.cls ≠ .type "list") : ¬ D b := fun q => by
  obtain ⟨us, n, z⟩ := K.l b q
  rw [e] at z; cases z; exact hc rfl
theorem Kl.plain {b : Addr} {o : Obj} (K : Kl H D h h') (e : h.get? b = some o) (p : plainO o) (hc : o.cls ≠ .type "list") : h'.get? b = some o := K.k.plain e p (K.not e hc)
theorem ErrAt.kl {e : Addr} {k : Nat} {m : Str → Option Value} (x : ErrAt H h e k m) (K : Kl H D h h') : ErrAt H h' e k m := by
  obtain ⟨d, t, tb, x1, x2, x3, x4, x5⟩ := x
  have nd : ¬ D d := by
    obtain ⟨_, o, es, ep, q1, q2, _⟩ := x2
    exact K.not q1 (by rw [q2]; exact fun z => absurd (Value.type.inj z) (by decide))
  have D' := x2.kp K.k nd
  have T' : TbOk h' tb := by
    rcases x3 with x3 | ⟨T, ts, q, y, z⟩
    · exact .inl x3
    · exact .inr ⟨T, ts, q, K.plain y plain_tb fun z => absurd (Value.type.inj z) (by decide), z⟩
  rcases K.k.at_ e _ x1 (K.not x1 fun z => by cases z) with y | ⟨_, y, _⟩ | ⟨_, C, d', t', tb1, tb', y1, y2, y3⟩
  · exact ⟨d, t, tb, y, D', T', x4, x5⟩
  · cases y
  · have : clsOf k = C ∧ some d = d' := by
      simp only [excO, Obj.mk.injEq, Value.ref.injEq] at y1
      exact ⟨y1.1, y1.2.1⟩
    obtain ⟨rfl, rfl⟩ := this
    exact ⟨d, t', tb', y2, D', y3, x4, x5⟩
theorem TpAt.kl {c : Addr} {vs : List Value} (x : TpAt h c vs) (K : Kl H D h h') : TpAt h' c vs := let ⟨n, e⟩ := x; ⟨n, K.plain e (plain_type (by decide)) fun z => absurd (Value.type.inj z) (by decide)⟩
theorem LocAt.kl {x d : Addr} {n : Nat} {m : Str → Option Value} (y : LocAt h x d n m) (K : Kl H D h h') : LocAt h' x d n m := by
  refine ⟨K.plain y.at_ plain_inst (fun z => by cases z), y.dict.kp K.k ?_⟩
  obtain ⟨_, o, es, ep, q1, q2, _⟩ := y.dict
  exact K.not q1 (by rw [q2]; exact fun z => absurd (Value.type.inj z) (by decide))
theorem LamAt.kl {f c : Addr} {i : Nat} (y : LamAt h f i c) (K : Kl H D h h') : LamAt h' f i c := by
  obtain ⟨qual, pm, c', ct, ca, oc, co, vs, tq, p1, p2, p3, y1, y2, y3, y4, y5, y6, y7, y8⟩ := y
  exact ⟨qual, pm, c', ct, ca, oc, co, vs, tq, p1, p2, p3, K.plain y1 (plain_type (by decide)) fun z => absurd (Value.type.inj z) (by decide), K.plain y2 (plain_cls y3 (by decide)) (by rw [y3]; exact fun z => absurd (Value.type.inj z) (by decide)), y3, y4,
    K.plain y5 (plain_cls y6 (by decide)) (by rw [y6]; exact fun z => absurd (Value.type.inj z) (by decide)), y6, y7, y8⟩
theorem LocL.kl {x c : Addr} (y : LocL h x c) (K : Kl H D h h') : LocL h' x c := by
  obtain ⟨d, n, m, f0, f1, f2, f3, y0, e0, e1, e2, e3, l0, l1, l2, l3⟩ := y
  exact ⟨d, n, m, f0, f1, f2, f3, y0.kl K, e0, e1, e2, e3, l0.kl K, l1.kl K, l2.kl K, l3.kl K⟩
theorem Loc0.kl {x : Addr} (y : Loc0 h x) (K : Kl H D h h') : Loc0 h' x := by
  obtain ⟨d, n, m, y0, e⟩ := y
  exact ⟨d, n, m, y0.kl K, e⟩
theorem CellAt.kp {a : Addr} {c : Cl} (x : CellAt h a c) (k : Kp H D h h') (hD : ¬ D a) : CellAt h' a c := by
  obtain ⟨v0, v1, v2, v3, l, r⟩ := x
  exact ⟨v0, v1, v2, v3, l.kp k hD, r⟩
theorem ErAt.kl {a : Ad} {vs : List Value} {g : List Rw} {i : Nat} {r : Rw} (x : ErAt H h a vs g i r) (K : Kl H D h h') : ErAt H h' a vs g i r := by
  obtain ⟨e, v, t, x1, x2, x3, x4, x5⟩ := x
  refine ⟨e, v, t, x1, x2, x3, x4, ?_⟩
  rcases x5 with ⟨y1, y2, y3⟩ | ⟨p, loc, sv, cv, lv, y1, y2, y3, y4⟩
  · exact .inl ⟨y1, y2, y3.kl K⟩
  · exact .inr ⟨p, loc, sv, cv, lv, y1, y2, y3.kl K, y4⟩
theorem RowAt.kl {rs : List Value} {i : Nat} {r : Rw} (x : RowAt h rs i r) (K : Kl H D h h') : RowAt h' rs i r := by
  obtain ⟨ra, t1, t2, t3, pv, x1, x2, x3⟩ := x
  refine ⟨ra, t1, t2, t3, pv, x1, x2.kl K, ?_⟩
  rcases x3 with y | ⟨p, q, sv, lv, cv, tw, y1, y2, y3, y4⟩
  · exact .inl y
  · exact .inr ⟨p, q, sv, lv, cv, tw, y1, y2, y3.kl K, y4⟩
/-- what a deed may turn -/
def Dx (a : Ad) (b : Addr) : Prop := b = a.c1 ∨ b = a.c2 ∨ b = a.lt ∨ b = a.lr
theorem Wb.kl {a : Ad} (x : Wb H h a) (K : Kl H D h h') (hD : ∀ b, D b → Dx a b) : Wb H h' a := by
  have o := x.ord
  have n : ∀ b : Nat, b ≠ a.c1 → b ≠ a.c2 → b ≠ a.lt → b ≠ a.lr → ¬ D b := fun b h1 h2 h3 h4 q => by
    rcases hD b q with z | z | z | z
    · exact h1 z
    · exact h2 z
    · exact h3 z
    · exact h4 z
  exact ⟨x.ord, x.low, x.lc.kp K.k (n _ (by omega) (by omega) (by omega) (by omega)), x.lp.kp K.k (n _ (by omega) (by omega) (by omega) (by omega)), x.cell0.kp K.k (n _ (by omega) (by omega) (by omega) (by omega)),
    x.loc0.kl K, x.loc1.kl K, x.loc2.kl K, x.x1.kp K.k (n _ (by omega) (by omega) (by omega) (by omega))⟩
theorem Wd.kp {a : Ad} {cl : Nat → Cl} {vs rs : List Value} {g : List Rw} (x : Wd H h a cl vs rs g) (k : KpN H h h') : Wd H h' a cl vs rs g :=
  ⟨x.b.kl (.of k) (fun _ q => q.elim), fun i hi => (x.cell i hi).kp k id, x.cok, x.cl0, x.lt.kp k id, x.lr.kp k id, x.v0, x.v1, x.nv, x.nr, fun i r e => (x.er i r e).kl (.of k), fun i r e => (x.row i r e).kl (.of k), x.inj⟩
theorem Wd.th {a : Ad} {cl : Nat → Cl} {vs rs : List Value} {g : List Rw} (x : Wd H h a cl vs rs g) : ∀ u ∈ vs, Th h u := fun u hu => by
  obtain ⟨i, hi, e⟩ := List.getElem_of_mem hu
  have e' : vs[i]? = some u := by rw [List.getElem?_eq_getElem hi, e]
  match i, e', hi with
  | 0, e', _ => rw [x.v0] at e'; cases e'; exact .inl rfl
  | 1, e', _ =>
    rw [x.v1] at e'; cases e'
    obtain ⟨n, z⟩ := x.b.x1
    exact .inr ⟨_, _, rfl, z, .inl rfl⟩
  | i + 2, e', hi =>
    have hg : i < g.length := by have := x.nv; omega
    obtain ⟨e, v, t, y1, _, _, _, y⟩ := x.er i _ (List.getElem?_eq_getElem hg)
    rw [y1] at e'; cases e'
    rcases y with ⟨_, _, y⟩ | ⟨p, loc, sv, cv, lv, _, _, y, _⟩ <;>
    · obtain ⟨d, t, tb, z, _⟩ := y
      exact .inr ⟨_, _, rfl, z, .inr ⟨_, rfl⟩⟩
end
section
variable {prog : Program} {w : World} {H h : Heap} {a : Ad} {cl : Nat → Cl} {vs rs : List Value} {g : List Rw}
/-- a place answers -/
theorem Wd.place {i : Nat} (G : Gr w H) (x : Wd H h a cl vs rs g) (hi : i < 3) : Ask prog w H h (.ref (a.p i)) "getSystemId" (cl i).sys 100 10 ∧ Ask prog w H h (.ref (a.p i)) "getLineNumber" (cl i).line 100 10 ∧
    Ask prog w H h (.ref (a.p i)) "getColumnNumber" (cl i).col 100 10 ∧ Ask prog w H h (.ref (a.p i)) "getPublicId" (cl i).pub 100 10 := by
  have lam : ∀ x c C, LocL h x c → CellAt h c C → Ask prog w H h (.ref x) "getSystemId" C.sys 100 10 ∧ Ask prog w H h (.ref x) "getLineNumber" C.line 100 10 ∧ Ask prog w H h (.ref x) "getColumnNumber" C.col 100 10 ∧ Ask prog w H h (.ref x) "getPublicId" C.pub 100 10 := by
    rintro x c C ⟨d, n, m, f0, f1, f2, f3, y0, e0, e1, e2, e3, l0, l1, l2, l3⟩ ⟨v0, v1, v2, v3, l, i0, i1, i2, i3⟩
    exact ⟨ask_lam (f := 188) G y0 e0 l0 l (by decide) rfl i0 (by kernel_rfl) (by kernel_rfl) (by kernel_rfl) (by kernel_rfl), ask_lam (f := 174) G y0 e1 l1 l (by decide) rfl i1 (by kernel_rfl) (by kernel_rfl) (by kernel_rfl) (by kernel_rfl),
      ask_lam (f := 167) G y0 e2 l2 l (by decide) rfl i2 (by kernel_rfl) (by kernel_rfl) (by kernel_rfl) (by kernel_rfl), ask_lam (f := 181) G y0 e3 l3 l (by decide) rfl i3 (by kernel_rfl) (by kernel_rfl) (by kernel_rfl) (by kernel_rfl)⟩
  match i, hi with
  | 0, _ =>
    rw [x.cl0]
    obtain ⟨d, n, m, y0, e0, e1, e2, e3⟩ := x.b.loc0
    exact ⟨ask0_sys G y0 e0, ask0_line G y0 e1, ask0_col G y0 e2, ask0_pub G y0 e3⟩
  | 1, _ => exact lam _ _ _ x.b.loc1 (x.cell 1 (by decide))
  | 2, _ => exact lam _ _ _ x.b.loc2 (x.cell 2 (by decide))
/-- the public identifier, through any chain -/
theorem Wd.pub (G : Gr w H) (x : Wd H h a cl vs rs g) : ∀ (n i : Nat), i < n → ∀ (r : Rw) (p : Pl) (e : Addr), g[i]? = some r → r.place = some p → vs[i + 2]? = some (.ref e) → Ask prog w H h (.ref e) "getPublicId" (cl p.wh).pub (101 + i) (13 + 3 * i) := by
  intro n
  induction n with
  | zero => intro i hi; omega
  | succ n ih =>
    intro i hi r p e hg hp he
    obtain ⟨e', v, t, y1, y2, y3, y4, y5⟩ := x.er i r hg
    rw [he] at y1; cases y1
    rcases y5 with ⟨_, z, _⟩ | ⟨p', loc, sv, cv, lv, z1, z2, z3, z4, z5, z6, z7, z8, z9⟩
    · rw [hp] at z; cases z
    · rw [hp] at z2; cases z2
      rcases z9 with rfl | ⟨j, r', hj, hgj, hvj, hpj⟩
      · have := ask_pub (prog := prog) G z3 (by kernel_rfl) (loc := .ref (a.p p.wh)) (by kernel_rfl) rfl ((x.place (prog := prog) G z8).2.2.2)
        exact this.le (by omega) (by omega)
      · obtain ⟨ej, _, _, u1, _⟩ := x.er j r' hgj
        rw [hvj] at u1; cases u1
        have k := (ih j (by omega) r' p ej hgj hpj hvj).le (d' := 100 + i) (u' := 10 + 3 * i) (by omega) (by omega)
        have := ask_pub (prog := prog) G z3 (by kernel_rfl) (loc := .ref ej) (by kernel_rfl) rfl k
        exact this.le (by omega) (by omega)
/-- an error as a locator -/
theorem Wd.asLoc {i : Nat} {r : Rw} {p : Pl} {e : Addr} (G : Gr w H) (x : Wd H h a cl vs rs g) (hg : g[i]? = some r) (hp : r.place = some p) (he : vs[i + 2]? = some (.ref e)) :
    Ask prog w H h (.ref e) "getSystemId" p.sys 100 10 ∧ Ask prog w H h (.ref e) "getLineNumber" p.line 100 10 ∧ Ask prog w H h (.ref e) "getColumnNumber" p.col 100 10 := by
  obtain ⟨e', v, t, y1, y2, y3, y4, y5⟩ := x.er i r hg
  rw [he] at y1; cases y1
  rcases y5 with ⟨_, z, _⟩ | ⟨p', loc, sv, cv, lv, z1, z2, z3, z4, z5, z6, z7, z8, z9⟩
  · rw [hp] at z; cases z
  · rw [hp] at z2; cases z2
    exact ⟨ask_sys G z3 (by kernel_rfl) (by kernel_rfl) z4, ask_line G z3 (by kernel_rfl) (by kernel_rfl) z5, ask_col G z3 (by kernel_rfl) (by kernel_rfl) z6⟩
end
end Mine
end
section
open PySem PySem.W PyProof.Rows PySem.Calls
open PySem.Builtin PySem.Builtin.ObjectAttr PySem.Builtin.BaseException
set_option Elab.async false
set_option linter.unusedVariables false
set_option maxRecDepth 100000
namespace Mine
theorem strOk_app {x y : Str} (hx : PyData.strOk x = true) (hy : PyData.strOk y = true) : PyData.strOk (x ++ y) = true := by
  unfold PyData.strOk at *
  rw [Str.cps_append]
  simp only [Array.all_append, hx, hy, Bool.and_self]
theorem Dv.show_ok {r : Dv} {lit : Str} (h : r.Fine) (hl : PyData.strOk lit = true) : PyData.strOk (r.show lit) = true := by
  cases r with
  | n => exact hl
  | i k => exact h
  | s x => exact h
theorem dvD_can {r : Dv} (h : r.Fine) : (dvD r).canLay0 = true := by
  cases r with
  | n => rfl
  | i k => rfl
  | s x => exact h
theorem dvD_dep (r : Dv) : (dvD r).depth = 0 := by cases r <;> rfl
theorem dvD_eqv (r : Dv) : PyData.eqv (dvD r) (dvD r) = true := by
  cases r with
  | n => rfl
  | i k => simp [dvD, PyData.eqv]
  | s x => simp [dvD, PyData.eqv]
def rowD (cl : Nat → Cl) (r : Rw) : PyData := match r.place with
  | none => otherD r.kind r.words r.cause
  | some p => parseD r.words r.cause p.sys p.line p.col (cl p.wh).pub
theorem gi_ok : PyData.strOk ("__getitem__" : Str) = true := by decide +kernel
theorem other_ok {k c : Nat} {x : Str} (hx : PyData.strOk x = true) : PyData.eqv (otherD k x c) (otherD k x c) = true ∧ SeqAt.shaped (otherD k x c) = true := by
  have g := gi_ok
  constructor
  · simp [otherD, ofD, PyData.eqv, PyData.eqvAll]
  · simp [SeqAt.shaped, otherD, ofD, PyData.canLay0, PyData.canLayAll0, PyData.depth, PyData.depthAll, hx, g]
theorem parse_ok {c : Nat} {x : Str} {sys line col pub : Dv} (hx : PyData.strOk x = true) (d : D3 sys line col) (hp : pub.Fine) : PyData.eqv (parseD x c sys line col pub) (parseD x c sys line col pub) = true ∧ SeqAt.shaped (parseD x c sys line col pub) = true := by
  have g := gi_ok
  have e1 := dvD_eqv sys
  have e2 := dvD_eqv line
  have e3 := dvD_eqv col
  have e4 := dvD_eqv pub
  have c1 := dvD_can d.f1
  have c2 := dvD_can d.f2
  have c3 := dvD_can d.f3
  have c4 := dvD_can hp
  have t : PyData.strOk (textOf sys line col x) = true :=
    strOk_app (strOk_app (strOk_app (strOk_app (strOk_app (strOk_app (Dv.show_ok d.f1 (by decide +kernel)) (by decide +kernel)) (Dv.show_ok d.f2 (by decide +kernel))) (by decide +kernel)) (Dv.show_ok d.f3 (by decide +kernel))) (by decide +kernel)) hx
  constructor
  · simp [parseD, ofD, PyData.eqv, PyData.eqvAll, e1, e2, e3, e4]
  · simp [SeqAt.shaped, parseD, ofD, PyData.canLay0, PyData.canLayAll0, PyData.depth, PyData.depthAll, hx, g, t, c1, c2, c3, c4, dvD_dep]
section
variable {prog : Program} {w : World} {A : Around} {E : Value → Shared → Prop} {hh : Heap} {gg : Array GenState} {dd : Drawn} {tt : Nat} {os : OsState} {H : Heap} {a : Ad} {cl : Nat → Cl} {vs rs : List Value} {g : List Rw}
theorem row_ok {i : Nat} {r : Rw} (x : Wd H hh a cl vs rs g) (hg : g[i]? = some r) : PyData.eqv (rowD cl r) (rowD cl r) = true ∧ SeqAt.shaped (rowD cl r) = true := by
  obtain ⟨e', v, t, y1, y2, y3, y4, y5⟩ := x.er i r hg
  unfold rowD
  rcases y5 with ⟨_, z, _⟩ | ⟨p', loc, sv, cv, lv, z1, z2, z3, z4, z5, z6, z7, z8, z9⟩
  · rw [z]; exact other_ok y4
  · rw [z2]; exact parse_ok y4 z7 (x.cok _ z8).2
theorem askTold {i : Nat} {r : Rw} {e : Addr} {Q : Value → Shared → Prop} (G : Gr w H) (U : Up H hh) (x : Wd H hh a cl vs rs g) (hg : g[i]? = some r) (he : vs[i + 2]? = some (.ref e)) (hn : g.length ≤ 60) (gd : Gd H A hh 400 400) (hA : A.handled = none)
    (h : ∀ h' tk' b as, KpN H hh h' → Reads h' (.ref b) (rowD cl r) as → Q (.ref b) ⟨h', gg, dd, tk', os⟩) : wpAny (model prog w) A (call (.ref 251) [.ref e, .ref a.lt]) Q E ⟨hh, gg, dd, tt, os⟩ := by
  obtain ⟨e', v, t, y1, y2, y3, y4, y5⟩ := x.er i r hg
  rw [he] at y1; cases y1
  have hf : ∀ j, j < r.cause → vs[j]? ≠ some v := fun j hj z => by
    have := x.inj _ _ _ z y2
    omega
  have hi : i < 60 := by
    have := (List.getElem?_eq_some_iff.mp hg).1
    omega
  have hnv : vs.length ≤ 100 := by rw [x.nv]; omega
  unfold rowD at h
  rcases y5 with ⟨z0, z, z2⟩ | ⟨p', loc, sv, cv, lv, z1, z2, z3, z4, z5, z6, z7, z8, z9⟩
  · rw [z] at h
    refine told_other (k := r.kind) (c := r.cause) G U z2 z0 x.lt x.th hnv y2 hf gd hA ?_
    intro h' tk' b ofl t1 t2 t3 t4 k' l1 l2
    obtain ⟨as, ra⟩ := readsOther (c := r.cause) (x := r.words) l1 l2
    exact h h' tk' b as k' ra
  · rw [z2] at h
    refine told_parse (c := r.cause) G U z3 z4 z6 z5 z7.o1 z7.o3 z7.o2 y3 ((x.pub G (i + 1) i (by omega) r p' e hg z2 he).le (d' := 300) (u' := 300) (by omega) (by omega)) x.lt x.th hnv y2 hf gd hA ?_
    intro h' tk' b ofl t1 t2 t3 t4 s5 l5 c5 p5 k' l1 l2 i1 i2 i3 i4
    obtain ⟨as, ra⟩ := readsParse (c := r.cause) (x := r.words) l1 l2 i1 i2 i3 i4
    exact h h' tk' b as k' ra
theorem askDue {i : Nat} {r : Rw} {ra : Addr} {Q : Value → Shared → Prop} (G : Gr w H) (U : Up H hh) (x : Wd H hh a cl vs rs g) (hg : g[i]? = some r) (hr : rs[i + 2]? = some (.ref ra)) (gd : Gd H A hh 400 400) (hA : A.handled = none)
    (h : ∀ h' tk' b as, KpN H hh h' → Reads h' (.ref b) (rowD cl r) as → Q (.ref b) ⟨h', gg, dd, tk', os⟩) : wpAny (model prog w) A (call (.ref 258) [.ref ra, .ref a.lc]) Q E ⟨hh, gg, dd, tt, os⟩ := by
  obtain ⟨e', v, t, y1, y2, y3, y4, y5⟩ := x.er i r hg
  obtain ⟨ra', t1, t2, t3, pv, u1, u2, u3⟩ := x.row i r hg
  rw [hr] at u1; cases u1
  unfold rowD at h
  rcases u3 with ⟨z, rfl⟩ | ⟨p, q, sv, lv, cv, tw, z, rfl, z3, z4, z5, z6⟩
  · rw [z] at h
    have hk : r.kind < 5 := by
      rcases y5 with ⟨q, _⟩ | ⟨_, _, _, _, _, q, _⟩ <;> omega
    exact due_other hk G U (gd.le (by omega) (by omega)) hA u2 h
  · rw [z] at h
    rcases y5 with ⟨_, q, _⟩ | ⟨p', loc, sv', cv', lv', w1, w2, w3, w4, w5, w6, w7, w8, w9⟩
    · rw [z] at q; cases q
    · rw [z] at w2; cases w2
      rw [w1] at u2
      obtain ⟨v0, v1, v2, v3, l, i0, i1, i2, i3⟩ := x.cell p.wh w8
      have hw : ([.ref a.c0, .ref a.c1, .ref a.c2] : List Value)[p.wh]? = some (.ref (a.c p.wh)) := by
        generalize p.wh = n at w8
        match n, w8 with
        | 0, _ => rfl
        | 1, _ => rfl
        | 2, _ => rfl
      exact due_parse G U (gd.le (by omega) (by omega)) hA u2 z3 x.b.lc hw (by omega) l z4 z5 z6 i3 w7.n1 w7.n2 w7.n3 w7.o1 w7.o2 w7.o3 y3 h
end
end Mine
end
section
open PySem PySem.W PyProof.Rows PySem.Calls
open PySem.Builtin PySem.Builtin.ObjectAttr PySem.Builtin.BaseException
set_option Elab.async false
set_option linter.unusedVariables false
set_option maxRecDepth 100000
namespace Mine
/-- all but frames and iterators -/
def Kf (h h' : Heap) : Prop := ∀ c oc, h.get? c = some oc → oc.cls ≠ .type "frame" → oc.cls ≠ .type "tuple_iterator" → oc.cls ≠ .type "list_iterator" → oc.cls ≠ .type "range_iterator" → h'.get? c = some oc
section
variable {H h h' : Heap}
theorem Kx.kf (k : Kx h h') : Kf h h' := fun c o e a b d f => k c o e a f d
theorem Ky.kf (k : Ky h h') : Kf h h' := fun c o e a b d f => k c o e a b d
theorem Kf.ty {c : Addr} {o : Obj} {T : String} (k : Kf h h') (e : h.get? c = some o) (hc : o.cls = .type T) (h1 : T ≠ "frame") (h2 : T ≠ "tuple_iterator") (h3 : T ≠ "list_iterator") (h4 : T ≠ "range_iterator") : h'.get? c = some o := by
  refine k c o e ?_ ?_ ?_ ?_ <;> (rw [hc]; intro z; first | exact h1 (Value.type.inj z) | exact h2 (Value.type.inj z) | exact h3 (Value.type.inj z) | exact h4 (Value.type.inj z))
theorem Kf.rf {c C : Addr} {o : Obj} (k : Kf h h') (e : h.get? c = some o) (hc : o.cls = .ref C) : h'.get? c = some o := by
  refine k c o e ?_ ?_ ?_ ?_ <;> (rw [hc]; intro z; cases z)
theorem LsAt.kf {c : Addr} {vs : List Value} (y : LsAt h c vs) (k : Kf h h') : LsAt h' c vs := let ⟨n, e⟩ := y; ⟨n, k.ty e rfl (by decide) (by decide) (by decide) (by decide)⟩
theorem TpAt.kf {c : Addr} {vs : List Value} (y : TpAt h c vs) (k : Kf h h') : TpAt h' c vs := let ⟨n, e⟩ := y; ⟨n, k.ty e rfl (by decide) (by decide) (by decide) (by decide)⟩
theorem DictAt.kf {d : Addr} {n : Nat} {m : Str → Option Value} (x : DictAt h d n m) (k : Kf h h') : DictAt h' d n m := by
  obtain ⟨⟨o1, es1, ep1, e1, r1⟩, o, es, ep, e, c, r⟩ := x
  have q := k.ty e c (by decide) (by decide) (by decide) (by decide)
  have z : o1 = o := Option.some.inj (e1.symm.trans e)
  subst z
  exact ⟨⟨_, es1, ep1, q, r1⟩, _, es, ep, q, c, r⟩
theorem ErrAt.kf {e : Addr} {k : Nat} {m : Str → Option Value} (x : ErrAt H h e k m) (K : Kf h h') : ErrAt H h' e k m := by
  obtain ⟨d, t, tb, x1, x2, x3, x4, x5⟩ := x
  refine ⟨d, t, tb, K.rf x1 rfl, x2.kf K, ?_, x4, x5⟩
  rcases x3 with x3 | ⟨T, ts, q, y, z⟩
  · exact .inl x3
  · exact .inr ⟨T, ts, q, K.ty y rfl (by decide) (by decide) (by decide) (by decide), z⟩
theorem LocAt.kf {x d : Addr} {n : Nat} {m : Str → Option Value} (y : LocAt h x d n m) (K : Kf h h') : LocAt h' x d n m := ⟨K.rf y.at_ rfl, y.dict.kf K⟩
theorem LamAt.kf {f c : Addr} {i : Nat} (y : LamAt h f i c) (K : Kf h h') : LamAt h' f i c := by
  obtain ⟨qual, pm, c', ct, ca, oc, co, vs, tq, p1, p2, p3, y1, y2, y3, y4, y5, y6, y7, y8⟩ := y
  exact ⟨qual, pm, c', ct, ca, oc, co, vs, tq, p1, p2, p3, K.ty y1 rfl (by decide) (by decide) (by decide) (by decide), K.ty y2 y3 (by decide) (by decide) (by decide) (by decide), y3, y4, K.ty y5 y6 (by decide) (by decide) (by decide) (by decide), y6, y7, y8⟩
theorem LocL.kf {x c : Addr} (y : LocL h x c) (K : Kf h h') : LocL h' x c := by
  obtain ⟨d, n, m, f0, f1, f2, f3, y0, e0, e1, e2, e3, l0, l1, l2, l3⟩ := y
  exact ⟨d, n, m, f0, f1, f2, f3, y0.kf K, e0, e1, e2, e3, l0.kf K, l1.kf K, l2.kf K, l3.kf K⟩
theorem Loc0.kf {x : Addr} (y : Loc0 h x) (K : Kf h h') : Loc0 h' x := by
  obtain ⟨d, n, m, y0, e⟩ := y
  exact ⟨d, n, m, y0.kf K, e⟩
theorem CellAt.kf {a : Addr} {c : Cl} (x : CellAt h a c) (k : Kf h h') : CellAt h' a c := by
  obtain ⟨v0, v1, v2, v3, l, r⟩ := x
  exact ⟨v0, v1, v2, v3, l.kf k, r⟩
theorem ErAt.kf {a : Ad} {vs : List Value} {g : List Rw} {i : Nat} {r : Rw} (x : ErAt H h a vs g i r) (K : Kf h h') : ErAt H h' a vs g i r := by
  obtain ⟨e, v, t, x1, x2, x3, x4, x5⟩ := x
  refine ⟨e, v, t, x1, x2, x3, x4, ?_⟩
  rcases x5 with ⟨y1, y2, y3⟩ | ⟨p, loc, sv, cv, lv, y1, y2, y3, y4⟩
  · exact .inl ⟨y1, y2, y3.kf K⟩
  · exact .inr ⟨p, loc, sv, cv, lv, y1, y2, y3.kf K, y4⟩
theorem RowAt.kf {rs : List Value} {i : Nat} {r : Rw} (x : RowAt h rs i r) (K : Kf h h') : RowAt h' rs i r := by
  obtain ⟨ra, t1, t2, t3, pv, x1, x2, x3⟩ := x
  refine ⟨ra, t1, t2, t3, pv, x1, x2.kf K, ?_⟩
  rcases x3 with y | ⟨p, q, sv, lv, cv, tw, y1, y2, y3, y4⟩
  · exact .inl y
  · exact .inr ⟨p, q, sv, lv, cv, tw, y1, y2, y3.kf K, y4⟩
theorem Wb.kf {a : Ad} (x : Wb H h a) (K : Kf h h') : Wb H h' a := ⟨x.ord, x.low, x.lc.kf K, x.lp.kf K, x.cell0.kf K, x.loc0.kf K, x.loc1.kf K, x.loc2.kf K, x.x1.kf K⟩
theorem Wd.kf {a : Ad} {cl : Nat → Cl} {vs rs : List Value} {g : List Rw} (x : Wd H h a cl vs rs g) (k : Kf h h') : Wd H h' a cl vs rs g :=
  ⟨x.b.kf k, fun i hi => (x.cell i hi).kf k, x.cok, x.cl0, x.lt.kf k, x.lr.kf k, x.v0, x.v1, x.nv, x.nr, fun i r e => (x.er i r e).kf k, fun i r e => (x.row i r e).kf k, x.inj⟩
theorem Kf.of (k : ∀ b o, h.get? b = some o → h'.get? b = some o) : Kf h h' := fun c o e _ _ _ _ => k c o e
theorem Kf.frame {L : Addr} (k : Heap.SameBut L h h') (hd : ∃ o, h.get? L = some o ∧ o.cls = .type "frame") : Kf h h' := fun c o e n _ _ _ => (k.2 c fun z => by
  obtain ⟨o', q1, q2⟩ := hd
  subst z; rw [e] at q1; cases q1; exact n q2).trans e
end
section
variable {prog : Program} {w : World} {M : Model} {A : Around} {E : Value → Shared → Prop} {hh : Heap} {gg : Array GenState} {dd : Drawn} {tt : Nat} {os : OsState} {H h₀ : Heap} {S : Addr → Prop} {L f : Addr} {m : Str → Option Value} {objs : List (Addr × Obj)} {cn : Str} {cs : Scope} {ccd : Value} {env : Env}
theorem St.kf_store {h h' : Heap} (W : St H S h₀ L h m objs) (k : Heap.SameBut L h h') : Kf h h' := Kf.frame k W.fr
theorem f_store {x : Str} {v : Value} {Q : Unit → Shared → Prop} (W : St H S h₀ L hh m objs)
    (h : ∀ h' tk, St H S h₀ L h' (fun y => if y = x then some v else m y) objs → Kf hh h' → Q () ⟨h', gg, dd, tk, os⟩)
    (hk : cs.kind = .function := by rfl) (hl : (envOf cn cs L f ccd).kindOf x = some .local := by kernel_rfl) :
    wpAny M A (storeName (envOf cn cs L f ccd) x v) Q E ⟨hh, gg, dd, tt, os⟩ := by
  have K : ∀ h', Heap.SameBut L hh h' → Kf hh h' := fun h' k => W.kf_store k
  refine r_store2 (s := ⟨hh, gg, dd, tt, os⟩) W ?_ hk hl
  intro h' W' k
  exact h h' _ W' (K h' k)
theorem f_list {vs : List Value} {Q : Value → Shared → Prop} (W : St H S h₀ L hh m objs) (hsz : vs.length ≤ 100)
    (h : ∀ b h', b = hh.objs.size → LsAt h' b vs → St H S h₀ L h' m objs → Kf hh h' → Q (.ref b) ⟨h', gg, dd, tt, os⟩) :
    wpAny M A (newList vs) Q E ⟨hh, gg, dd, tt, os⟩ := by
  refine wpAny_newObj_type (s := ⟨hh, gg, dd, tt, os⟩) ?_ (by show vs.toArray.size ≤ sizeLine; rw [List.size_toArray, sizeLine_eq]; omega)
  have W' := W.push { cls := .type "list", data := .seq vs.toArray } (plain_type (by decide)) rfl
  exact h _ _ rfl ⟨_, W'.has (.head _)⟩ (W'.drop fun p hp => .tail _ hp) (Kf.of fun b o e => Heap.get?_push_of_some _ e)
theorem f_tuple {vs : List Value} {Q : Value → Shared → Prop} (W : St H S h₀ L hh m objs) (hsz : vs.length ≤ 100)
    (h : ∀ b h', b = hh.objs.size → TpAt h' b vs → St H S h₀ L h' m objs → Kf hh h' → Q (.ref b) ⟨h', gg, dd, tt, os⟩) :
    wpAny M A (newTuple vs) Q E ⟨hh, gg, dd, tt, os⟩ := by
  refine wpAny_newObj_type (s := ⟨hh, gg, dd, tt, os⟩) ?_ (by show vs.toArray.size ≤ sizeLine; rw [List.size_toArray, sizeLine_eq]; omega)
  have W' := W.push { cls := .type "tuple", data := .seq vs.toArray } (plain_type (by decide)) rfl
  exact h _ _ rfl ⟨_, W'.has (.head _)⟩ (W'.drop fun p hp => .tail _ hp) (Kf.of fun b o e => Heap.get?_push_of_some _ e)
theorem Kf.trans {h h₁ h' : Heap} (x : Kf h h₁) (y : Kf h₁ h') : Kf h h' := fun c o e a b d f => y c o (x c o e a b d f) a b d f
/-- n1, n2 = (v1, v2) -/
theorem f_pair {n1 n2 : Str} {v1 v2 : Value} {vs : List Value} {Q : Unit → Shared → Prop} (hvs : vs = [v1, v2]) (hA : A.handled = none) (W : St H S h₀ L hh m objs)
    (h : ∀ h' tk, St H S h₀ L h' (fun y => if y = n1 then some v1 else if y = n2 then some v2 else m y) objs → Kf hh h' → Q () ⟨h', gg, dd, tk, os⟩)
    (hk : cs.kind = .function) (hl1 : (envOf cn cs L f ccd).kindOf n1 = some .local) (hl2 : (envOf cn cs L f ccd).kindOf n2 = some .local) :
    wpAny (model prog w) A (newTuple vs) (fun v s₁ => wpAny (model prog w) A (unpackItems v ([n1, n2] : List Str).length none) (fun (items : List Value) s₂ => wpAny (model prog w) A (assignInOrder (([n1, n2] : List Str).reverse.map (fun (n : Str) => bindName (envOf cn cs L f ccd) n)) items.reverse) Q E s₂) E s₁) E ⟨hh, gg, dd, tt, os⟩ := by
  subst hvs
  refine f_tuple W (hsz := by show 2 ≤ 100; decide) ?_
  intro b h₁ hb ht W₁ k₁
  refine unpackItems_tuple (s := ⟨h₁, gg, dd, tt, os⟩) (items := #[v1, v2]) (hh := hA) (ht := ht.is) ?_
  intro h₂ he₂
  have W₂ := W₁.call (ext_new he₂)
  refine assignInOrder_cons ?_
  refine bindName_ ?_
  refine f_store W₂ ?_ hk hl2
  intro h₃ tk₃ W₃ k₃
  refine assignInOrder_cons ?_
  refine bindName_ ?_
  refine f_store W₃ ?_ hk hl1
  intro h₄ tk₄ W₄ k₄
  refine assignInOrder_nil ?_
  exact h _ _ W₄ (k₁.trans ((Kf.of fun b o e => he₂ b o (Nat.ne_of_lt (Heap.lt_size e)) e).trans (k₃.trans k₄)))
theorem e_setitem {l : Addr} {vs : List Value} {k : Int} {t : Tok} {v : Value} {Q : Unit → Shared → Prop} (hl : LsAt hh l vs) (h0 : 0 ≤ k) (hn : k < vs.length) (hsz : vs.length ≤ 1000)
    (h : ∀ h', Heap.SameBut l hh h' → LsAt h' l (vs.set k.toNat v) → Q () ⟨h', gg, dd, tt, os⟩) : wpAny (model prog w) A (setItem (.ref l) (.int k t) v) Q E ⟨hh, gg, dd, tt, os⟩ := by
  obtain ⟨n, e⟩ := id hl
  refine ki_setAt (s := ⟨hh, gg, dd, tt, os⟩) e h0 (by omega) (by simpa using hn) ?_
  refine h _ (Heap.SameBut.update ..) ?_
  have q := PySem.IsL.update e (fun x => x.setIfInBounds k.toNat v)
  exact ⟨_, by rw [show (vs.set k.toNat v).toArray = vs.toArray.setIfInBounds k.toNat v by simp]; exact q⟩
end
section
variable {H h h' : Heap} {a : Ad} {cl : Nat → Cl} {vs rs : List Value} {g : List Rw}
theorem Wd.sx (x : Wd H h a cl vs rs g) : ∀ b, Dx a b → H.objs.size ≤ b ∧ ∃ o, h.get? b = some o ∧ o.cls ≠ .type "traceback" ∧ o.cls ≠ .type "frame" := by
  have nt : ∀ us n, ({ cls := .type "list", data := .seq us n } : Obj).cls ≠ .type "traceback" ∧ ({ cls := .type "list", data := .seq us n } : Obj).cls ≠ .type "frame" := fun us n => ⟨fun z => absurd (Value.type.inj z) (by decide), fun z => absurd (Value.type.inj z) (by decide)⟩
  have o := x.b.ord
  have lo : (H.objs.size : Nat) ≤ a.c0 := x.b.low
  intro b hb
  rcases hb with rfl | rfl | rfl | rfl
  · obtain ⟨_, _, _, _, ⟨n, l⟩, _⟩ := x.cell 1 (by decide)
    exact ⟨by show (H.objs.size : Nat) ≤ a.c1; omega, _, l, nt _ _⟩
  · obtain ⟨_, _, _, _, ⟨n, l⟩, _⟩ := x.cell 2 (by decide)
    exact ⟨by show (H.objs.size : Nat) ≤ a.c2; omega, _, l, nt _ _⟩
  · obtain ⟨n, l⟩ := x.lt
    exact ⟨by show (H.objs.size : Nat) ≤ a.lt; omega, _, l, nt _ _⟩
  · obtain ⟨n, l⟩ := x.lr
    exact ⟨by show (H.objs.size : Nat) ≤ a.lr; omega, _, l, nt _ _⟩
theorem Wd.dl (x : Wd H h a cl vs rs g) : ∀ b, Dx a b → ∃ us, LsAt h b us := by
  intro b hb
  rcases hb with rfl | rfl | rfl | rfl
  · obtain ⟨_, _, _, _, l, _⟩ := x.cell 1 (by decide)
    exact ⟨_, l⟩
  · obtain ⟨_, _, _, _, l, _⟩ := x.cell 2 (by decide)
    exact ⟨_, l⟩
  · exact ⟨_, x.lt⟩
  · exact ⟨_, x.lr⟩
/-- a cell is written -/
theorem Wd.cellTo {i : Nat} {C : Cl} {us : List Value} (x : Wd H h a cl vs rs g) (hi : i = 1 ∨ i = 2) (k : Heap.SameBut (a.c i) h h') (hc : CellAt h' (a.c i) C) (hg : C.Good) : Wd H h' a (fun j => if j = i then C else cl j) vs rs g := by
  have o := x.b.ord
  have D : Dx a (a.c i) := by rcases hi with rfl | rfl; exact .inl rfl; exact .inr (.inl rfl)
  have K : Kl H (fun b => b = a.c i) h h' := ⟨.same k rfl, fun b q => q ▸ x.dl _ D⟩
  have Wb' := x.b.kl K (fun b q => q ▸ D)
  have ne : ∀ b : Nat, (b = a.lt ∨ b = a.lr ∨ b = a.c0) → b ≠ a.c i := fun b hb z => by
    rcases hi with rfl | rfl
    · change b = a.c1 at z; omega
    · change b = a.c2 at z; omega
  refine ⟨Wb', fun j hj => ?_, fun j hj => ?_, ?_, x.lt.same k (ne _ (.inl rfl)), x.lr.same k (ne _ (.inr (.inl rfl))), x.v0, x.v1, x.nv, x.nr, fun i r e => (x.er i r e).kl K, fun i r e => (x.row i r e).kl K, x.inj⟩
  · by_cases q : j = i
    · subst q; simp only [if_true]; exact hc
    · simp only [if_neg q]
      have : a.c j ≠ a.c i := by
        match j, hj with
        | 0, _ => exact ne a.c0 (.inr (.inr rfl))
        | 1, _ => rcases hi with rfl | rfl; exact absurd rfl q; (show a.c1 ≠ a.c2; omega)
        | 2, _ => rcases hi with rfl | rfl; (show a.c2 ≠ a.c1; omega); exact absurd rfl q
      exact (x.cell j hj).kp K.k this
  · by_cases q : j = i
    · subst q; simp only [if_true]; exact hg
    · simp only [if_neg q]; exact x.cok j hj
  · rw [if_neg (by rcases hi with rfl | rfl <;> decide)]; exact x.cl0
end
end Mine
end
section
open PySem PySem.W PyProof.Rows PySem.Calls
open PySem.Builtin PySem.Builtin.ObjectAttr PySem.Builtin.BaseException
set_option Elab.async false
set_option linter.unusedVariables false
set_option maxRecDepth 100000
namespace Mine
local macro_rules | `(tactic| ktr_unf) => `(tactic| ((case k6 => rfl); (case k7 => kernel_rfl); (case k9 => intro S; kernel_rfl); (case c5 => kernel_rfl); (case kB => kernel_rfl); (case c2 => exact rfl); (case c3 => exact rfl); (case c4 => exact rfl)))
def mnum (j : Nat) : Dv := match j with
  | 0 => .n | 1 => .i 0 | 2 => .i 1 | 3 => .i 7 | 4 => .i (-3) | _ => .i 120
def msys (j : Nat) : Dv := match j with
  | 0 => .n | 1 => .s "" | 2 => .s "a.xml" | 3 => .s "%s" | _ => .s "b:c"
def mpub (j : Nat) : Dv := match j with
  | 0 => .n | 1 => .s "" | 2 => .s "-//P" | _ => .s "?"
theorem mnum_ok (j : Nat) : (∀ y, mnum j ≠ .s y) ∧ (mnum j).Ok ∧ (mnum j).Fine := by
  match j with
  | 0 => exact ⟨(fun y z => nomatch z), trivial, trivial⟩
  | 1 => exact ⟨(fun y z => nomatch z), ⟨(by decide : (0 : Int).natAbs < 1000), (by decide +kernel : (Str.ofString (toString (0 : Int))).length ≤ 10)⟩, (by decide +kernel : PyData.strOk (Str.ofString (toString (0 : Int))) = true)⟩
  | 2 => exact ⟨(fun y z => nomatch z), ⟨(by decide : (1 : Int).natAbs < 1000), (by decide +kernel : (Str.ofString (toString (1 : Int))).length ≤ 10)⟩, (by decide +kernel : PyData.strOk (Str.ofString (toString (1 : Int))) = true)⟩
  | 3 => exact ⟨(fun y z => nomatch z), ⟨(by decide : (7 : Int).natAbs < 1000), (by decide +kernel : (Str.ofString (toString (7 : Int))).length ≤ 10)⟩, (by decide +kernel : PyData.strOk (Str.ofString (toString (7 : Int))) = true)⟩
  | 4 => exact ⟨(fun y z => nomatch z), ⟨(by decide : (-3 : Int).natAbs < 1000), (by decide +kernel : (Str.ofString (toString (-3 : Int))).length ≤ 10)⟩, (by decide +kernel : PyData.strOk (Str.ofString (toString (-3 : Int))) = true)⟩
  | _ + 5 => exact ⟨(fun y z => nomatch z), ⟨(by decide : (120 : Int).natAbs < 1000), (by decide +kernel : (Str.ofString (toString (120 : Int))).length ≤ 10)⟩, (by decide +kernel : PyData.strOk (Str.ofString (toString (120 : Int))) = true)⟩
theorem msys_ok (j : Nat) : (∀ i, msys j ≠ .i i) ∧ (msys j).Ok ∧ (msys j).Fine := by
  match j with
  | 0 => exact ⟨(fun y z => nomatch z), trivial, trivial⟩
  | 1 => exact ⟨(fun y z => nomatch z), (by decide +kernel : ("" : Str).length ≤ 100), (by decide +kernel : PyData.strOk ("" : Str) = true)⟩
  | 2 => exact ⟨(fun y z => nomatch z), (by decide +kernel : ("a.xml" : Str).length ≤ 100), (by decide +kernel : PyData.strOk ("a.xml" : Str) = true)⟩
  | 3 => exact ⟨(fun y z => nomatch z), (by decide +kernel : ("%s" : Str).length ≤ 100), (by decide +kernel : PyData.strOk ("%s" : Str) = true)⟩
  | _ + 4 => exact ⟨(fun y z => nomatch z), (by decide +kernel : ("b:c" : Str).length ≤ 100), (by decide +kernel : PyData.strOk ("b:c" : Str) = true)⟩
theorem mpub_ok (j : Nat) : (mpub j).Fine := by
  match j with
  | 0 => exact trivial
  | 1 => exact (by decide +kernel : PyData.strOk ("" : Str) = true)
  | 2 => exact (by decide +kernel : PyData.strOk ("-//P" : Str) = true)
  | _ + 3 => exact (by decide +kernel : PyData.strOk ("?" : Str) = true)
theorem mnum_item (t1 t2 t3 t4 t5 : Tok) {j : Nat} (hj : j < 6) : ∃ v, ([.none, .int 0 t1, .int 1 t2, .int 7 t3, .int (-3) t4, .int 120 t5] : List Value)[j]? = some v ∧ (mnum j).Is v := by
  match j with
  | 0 => exact ⟨_, rfl, rfl⟩
  | 1 => exact ⟨_, rfl, _, rfl⟩
  | 2 => exact ⟨_, rfl, _, rfl⟩
  | 3 => exact ⟨_, rfl, _, rfl⟩
  | 4 => exact ⟨_, rfl, _, rfl⟩
  | 5 => exact ⟨_, rfl, _, rfl⟩
theorem msys_item (t1 t2 t3 t4 : Tok) {j : Nat} (hj : j < 5) : ∃ v, ([.none, .str "" t1, .str "a.xml" t2, .str "%s" t3, .str "b:c" t4] : List Value)[j]? = some v ∧ (msys j).Is v := by
  match j with
  | 0 => exact ⟨_, rfl, rfl⟩
  | 1 => exact ⟨_, rfl, _, rfl⟩
  | 2 => exact ⟨_, rfl, _, rfl⟩
  | 3 => exact ⟨_, rfl, _, rfl⟩
  | 4 => exact ⟨_, rfl, _, rfl⟩
theorem mpub_item (t1 t2 t3 : Tok) {j : Nat} (hj : j < 4) : ∃ v, ([.none, .str "" t1, .str "-//P" t2, .str "?" t3] : List Value)[j]? = some v ∧ (mpub j).Is v := by
  match j with
  | 0 => exact ⟨_, rfl, rfl⟩
  | 1 => exact ⟨_, rfl, _, rfl⟩
  | 2 => exact ⟨_, rfl, _, rfl⟩
  | 3 => exact ⟨_, rfl, _, rfl⟩
theorem fmods (a : Int) {b : Int} (hb : 0 < b) : 0 ≤ a.fmod b ∧ a.fmod b < b := ⟨Int.fmod_nonneg_of_pos a hb, Int.fmod_lt_of_pos a hb⟩
theorem cell_no (a : Int) : ∃ j : Nat, (j = 1 ∨ j = 2) ∧ 1 + a.fmod 2 = (j : Int) := by
  have := fmods a (b := 2) (by decide)
  by_cases q : a.fmod 2 = 0
  · exact ⟨1, .inl rfl, by omega⟩
  · exact ⟨2, .inr rfl, by omega⟩
section
variable {H hh h h' : Heap} {a : Ad} {L : Addr} {m : Str → Option Value}
/-- a list that may turn turns -/
theorem St.listS {l : Addr} {us us' : List Value} (W : St H (Dx a) hh L h m []) (hl : Dx a l) (k : Heap.SameBut l h h') (l1 : LsAt h l us) (l2 : LsAt h' l us') : St H (Dx a) hh L h' m [] :=
  W.turn (objs' := []) (.same k hl) (fun b hb o e => by
    by_cases q : b = l
    · subst q
      obtain ⟨n, e1⟩ := l1
      obtain ⟨n', e2⟩ := l2
      rw [e] at e1; cases e1
      exact ⟨_, e2, rfl⟩
    · exact ⟨o, (k.2 b q).trans e, rfl⟩) (fun _ hp => nomatch hp)
theorem Ad.dx {i : Nat} (hi : i = 1 ∨ i = 2) : Dx a (a.c i) := by rcases hi with rfl | rfl; exact .inl rfl; exact .inr (.inl rfl)
mutual
theorem readsKp {v : Value} {d : PyData} {as : List Addr} (k : KpN H h h') : Reads h v d as → Reads h' v d as
  | .none => .none
  | .bool b => .bool b
  | .int i t => .int i t
  | .str x t => .str x t
  | .list e c r x => .list (k.plain e (plain_cls c (by decide)) id) c r (readsAllKp k x)
  | .tuple e c r x => .tuple (k.plain e (plain_cls c (by decide)) id) c r (readsAllKp k x)
  | .dict e c r x y => .dict (k.plain e (plain_cls c (by decide)) id) c r (readsAllKp k x) (readsAllKp k y)
theorem readsAllKp {vs : List Value} {ds : List PyData} {as : List Addr} (k : KpN H h h') : ReadsAll h vs ds as → ReadsAll h' vs ds as
  | .nil => .nil
  | .cons x y => .cons (readsKp k x) (readsAllKp k y)
end
end
section
variable {prog : Program} {w : World} {A : Around} {E : Value → Shared → Prop} {hh : Heap} {gg : Array GenState} {dd : Drawn} {tt : Nat} {os : OsState} {H : Heap} {a : Ad} {cl : Nat → Cl} {vs rs : List Value} {g : List Rw}
set_option maxHeartbeats 4000000 in
theorem deed_0 {x : Int} {tx : Tok} {Q : Value → Shared → Prop} (hx : x.fmod 6 = 0) (G : Gr w H) (U : Up H hh) (wd : Wd H hh a cl vs rs g) (hn : g.length ≤ 40) (gd : Gd H A hh 600 600) (hA : A.handled = none)
    (h : ∀ h' tk' cl' vs' rs' g', Kp H (Dx a) hh h' → Wd H h' a cl' vs' rs' g' → g.length ≤ g'.length ∧ g'.length ≤ g.length + 1 → (0 = 2 → g'.length = g.length + 1) → Q (.bool true) ⟨h', gg, dd, tk', os⟩) :
    wpAny (model prog w) A (call (.ref 265) [.int x tx, .ref a.lc, .ref a.lp, .ref a.lt, .ref a.lr]) Q E ⟨hh, gg, dd, tt, os⟩ := by
  have hd := gd.depth
  have hnv := wd.nv
  have hnr := wd.nr
  refine' enterE [("x", .int x tx), ("cells", .ref a.lc), ("places", .ref a.lp), ("things", .ref a.lt), ("rows", .ref a.lr)] G U (Dx a) wd.sx ?k6 ?kr ?k7 ?k9 ?kB ?c2 ?c3 ?c4 ?c5 ?_
  ktr_unf
  (case kr => omega)
  intro L h₁ tk₁ hL hk₁ W
  have w₁ := wd.kf (Kf.of hk₁)
  refine wpAny_execs_cons ?_
  refine Assign_Tuple_swapped (names := ["kind", "rest"]) (hs := by kernel_rfl) (hw := by kernel_rfl) ?_
  refine Tuple_ ?_
  refine spliced_more (he := by kernel_rfl) ?_
  refine wpAny_BinOp ?_
  refine e_loc W (v := .int x tx) (hv := by kernel_rfl) ?_
  refine e_int ?_
  intro _ _
  refine e_mod (hb := by decide) ?_
  intro tkd _
  refine spliced_more (he := by kernel_rfl) ?_
  refine wpAny_BinOp ?_
  refine e_loc W (v := .int x tx) (hv := by kernel_rfl) ?_
  refine e_int ?_
  intro _ _
  refine e_div (hb := by decide) (hs := by decide) ?_
  intro tr _
  refine spliced_none ?_
  refine f_pair (n1 := "kind") (n2 := "rest") (v1 := .int (x.fmod 6) tkd) (v2 := .int (x.fdiv 6) tr) (hvs := rfl) (hA := hA) W ?_ rfl (by kernel_rfl) (by kernel_rfl)
  intro h₂ tk₂ W₂ k₂
  have w₂ := w₁.kf k₂
  refine wpAny_execs_cons ?_
  refine wpAny_If ?_
  refine wpAny_isTrue_Compare1 (hm := by kernel_rfl) ?_
  refine e_loc W₂ (v := .int (x.fmod 6) tkd) (hv := by kernel_rfl) ?_
  refine e_int ?_
  intro _ _
  refine e_eqi ?_
  refine e_truthb ?_
  refine e_ifT (hb := by rw [hx]; decide) ?_
  refine wpAny_execs_cons ?_
  refine wpAny_Assign_Name (hs := by kernel_rfl) ?_
  refine Subscript_ ?_
  refine e_loc W₂ (v := .ref a.lc) (hv := by kernel_rfl) ?_
  refine wpAny_BinOp ?_
  refine e_int ?_
  intro _ _
  refine wpAny_BinOp ?_
  refine e_loc W₂ (v := .int (x.fdiv 6) tr) (hv := by kernel_rfl) ?_
  refine e_int ?_
  intro _ _
  refine e_mod (hb := by decide) ?_
  intro _ _
  refine e_add ?_
  intro _ _
  obtain ⟨j, hj, ej⟩ := cell_no (x.fdiv 6)
  refine e_item (hl := w₂.b.lc) (v := .ref (a.c j)) (h0 := by rw [ej]; omega) (hhi := by rw [ej]; omega) (hx := by rw [ej]; rcases hj with rfl | rfl <;> rfl) (hs := by kernel_rfl) ?_
  refine f_store W₂ ?_
  intro h₃ tk₃ W₃ k₃
  have w₃ := w₂.kf k₃
  have hj3 : j < 3 := by omega
  refine wpAny_execs_cons ?_
  refine wpAny_Assign_Subscript (hs := by kernel_rfl) ?_
  refine Subscript_ ?_
  refine List_ ?_
  refine spliced_more (he := by kernel_rfl) ?_
  refine e_none ?_
  refine spliced_more (he := by kernel_rfl) ?_
  refine e_int ?_
  intro _ _
  refine spliced_more (he := by kernel_rfl) ?_
  refine e_int ?_
  intro _ _
  refine spliced_more (he := by kernel_rfl) ?_
  refine e_int ?_
  intro _ _
  refine spliced_more (he := by kernel_rfl) ?_
  refine UnaryOp_ ?_
  refine e_int ?_
  intro _ _
  refine e_neg ?_
  intro _ _
  refine spliced_more (he := by kernel_rfl) ?_
  refine e_int ?_
  intro _ _
  refine spliced_none ?_
  refine f_list W₃ (hsz := by show 6 ≤ 100; decide) ?_
  intro bp hp1 hbp lbp Wp1 kp1
  have wp1 := w₃.kf kp1
  refine wpAny_BinOp ?_
  refine wpAny_BinOp ?_
  refine e_loc Wp1 (v := .int (x.fdiv 6) tr) (hv := by kernel_rfl) ?_
  refine e_int ?_
  intro _ _
  refine e_div (hb := by decide) (hs := by decide) ?_
  intro _ _
  refine e_int ?_
  intro _ _
  refine e_mod (hb := by decide) ?_
  intro _ _
  have fmp := fmods ((x.fdiv 6).fdiv 2) (b := 6) (by decide)
  obtain ⟨vm, em, im⟩ := mnum_item _ _ _ _ _ (j := (((x.fdiv 6).fdiv 2).fmod 6).toNat) (by omega)
  refine e_item (hl := lbp) (v := vm) (h0 := fmp.1) (hhi := by omega) (hx := em) (hs := by kernel_rfl) ?_
  refine e_loc Wp1 (v := .ref (a.c j)) (hv := by kernel_rfl) ?_
  refine e_int ?_
  intro _ _
  obtain ⟨v0, v1, v2, v3, lc, i0, i1, i2, i3⟩ := wp1.cell j hj3
  refine e_setitem (hl := lc) (h0 := by decide) (hn := by show (1 : Int) < 4; decide) (hsz := by show 4 ≤ 1000; decide) ?_
  intro hp2 sp2 lp2
  have W₄ := Wp1.listS (Ad.dx hj) sp2 lc lp2
  have w₄ := wp1.cellTo (us := []) (C := ⟨_, mnum (((x.fdiv 6).fdiv 2).fmod 6).toNat, _, _⟩) hj sp2 ⟨v0, vm, v2, v3, lp2, i0, im, i2, i3⟩ ⟨⟨(w₃.cok j hj3).1.n1, (mnum_ok (((x.fdiv 6).fdiv 2).fmod 6).toNat).1, (w₃.cok j hj3).1.n3, (w₃.cok j hj3).1.o1, (mnum_ok (((x.fdiv 6).fdiv 2).fmod 6).toNat).2.1, (w₃.cok j hj3).1.o3, (w₃.cok j hj3).1.f1, (mnum_ok (((x.fdiv 6).fdiv 2).fmod 6).toNat).2.2, (w₃.cok j hj3).1.f3⟩, (w₃.cok j hj3).2⟩
  clear lc em im i0 i1 i2 i3 lp2
  refine wpAny_execs_cons ?_
  refine wpAny_Assign_Subscript (hs := by kernel_rfl) ?_
  refine Subscript_ ?_
  refine List_ ?_
  refine spliced_more (he := by kernel_rfl) ?_
  refine e_none ?_
  refine spliced_more (he := by kernel_rfl) ?_
  refine e_int ?_
  intro _ _
  refine spliced_more (he := by kernel_rfl) ?_
  refine e_int ?_
  intro _ _
  refine spliced_more (he := by kernel_rfl) ?_
  refine e_int ?_
  intro _ _
  refine spliced_more (he := by kernel_rfl) ?_
  refine UnaryOp_ ?_
  refine e_int ?_
  intro _ _
  refine e_neg ?_
  intro _ _
  refine spliced_more (he := by kernel_rfl) ?_
  refine e_int ?_
  intro _ _
  refine spliced_none ?_
  refine f_list W₄ (hsz := by show 6 ≤ 100; decide) ?_
  intro bq hq1 hbq lbq Wq1 kq1
  have wq1 := w₄.kf kq1
  refine wpAny_BinOp ?_
  refine wpAny_BinOp ?_
  refine e_loc Wq1 (v := .int (x.fdiv 6) tr) (hv := by kernel_rfl) ?_
  refine e_int ?_
  intro _ _
  refine e_div (hb := by decide) (hs := by decide) ?_
  intro _ _
  refine e_int ?_
  intro _ _
  refine e_mod (hb := by decide) ?_
  intro _ _
  have fmq := fmods ((x.fdiv 6).fdiv 12) (b := 6) (by decide)
  obtain ⟨vm, em, im⟩ := mnum_item _ _ _ _ _ (j := (((x.fdiv 6).fdiv 12).fmod 6).toNat) (by omega)
  refine e_item (hl := lbq) (v := vm) (h0 := fmq.1) (hhi := by omega) (hx := em) (hs := by kernel_rfl) ?_
  refine e_loc Wq1 (v := .ref (a.c j)) (hv := by kernel_rfl) ?_
  refine e_int ?_
  intro _ _
  obtain ⟨v0, v1, v2, v3, lc, i0, i1, i2, i3⟩ := wq1.cell j hj3
  refine e_setitem (hl := lc) (h0 := by decide) (hn := by show (2 : Int) < 4; decide) (hsz := by show 4 ≤ 1000; decide) ?_
  intro hq2 sq2 lq2
  have W₅ := Wq1.listS (Ad.dx hj) sq2 lc lq2
  have w₅ := wq1.cellTo (us := []) (C := ⟨_, _, mnum (((x.fdiv 6).fdiv 12).fmod 6).toNat, _⟩) hj sq2 ⟨v0, v1, vm, v3, lq2, i0, i1, im, i3⟩ ⟨⟨(w₄.cok j hj3).1.n1, (w₄.cok j hj3).1.n2, (mnum_ok (((x.fdiv 6).fdiv 12).fmod 6).toNat).1, (w₄.cok j hj3).1.o1, (w₄.cok j hj3).1.o2, (mnum_ok (((x.fdiv 6).fdiv 12).fmod 6).toNat).2.1, (w₄.cok j hj3).1.f1, (w₄.cok j hj3).1.f2, (mnum_ok (((x.fdiv 6).fdiv 12).fmod 6).toNat).2.2⟩, (w₄.cok j hj3).2⟩
  clear lc em im i0 i1 i2 i3 lq2
  refine wpAny_execs_cons ?_
  refine wpAny_Return_some ?_
  refine e_true ?_
  exact h _ _ _ _ _ _ W₅.done w₅ ⟨by omega, by omega⟩ (fun q => nomatch q)
set_option maxHeartbeats 4000000 in
theorem deed_1 {x : Int} {tx : Tok} {Q : Value → Shared → Prop} (hx : x.fmod 6 = 1) (G : Gr w H) (U : Up H hh) (wd : Wd H hh a cl vs rs g) (hn : g.length ≤ 40) (gd : Gd H A hh 600 600) (hA : A.handled = none)
    (h : ∀ h' tk' cl' vs' rs' g', Kp H (Dx a) hh h' → Wd H h' a cl' vs' rs' g' → g.length ≤ g'.length ∧ g'.length ≤ g.length + 1 → (1 = 2 → g'.length = g.length + 1) → Q (.bool true) ⟨h', gg, dd, tk', os⟩) :
    wpAny (model prog w) A (call (.ref 265) [.int x tx, .ref a.lc, .ref a.lp, .ref a.lt, .ref a.lr]) Q E ⟨hh, gg, dd, tt, os⟩ := by
  have hd := gd.depth
  have hnv := wd.nv
  have hnr := wd.nr
  refine' enterE [("x", .int x tx), ("cells", .ref a.lc), ("places", .ref a.lp), ("things", .ref a.lt), ("rows", .ref a.lr)] G U (Dx a) wd.sx ?k6 ?kr ?k7 ?k9 ?kB ?c2 ?c3 ?c4 ?c5 ?_
  ktr_unf
  (case kr => omega)
  intro L h₁ tk₁ hL hk₁ W
  have w₁ := wd.kf (Kf.of hk₁)
  refine wpAny_execs_cons ?_
  refine Assign_Tuple_swapped (names := ["kind", "rest"]) (hs := by kernel_rfl) (hw := by kernel_rfl) ?_
  refine Tuple_ ?_
  refine spliced_more (he := by kernel_rfl) ?_
  refine wpAny_BinOp ?_
  refine e_loc W (v := .int x tx) (hv := by kernel_rfl) ?_
  refine e_int ?_
  intro _ _
  refine e_mod (hb := by decide) ?_
  intro tkd _
  refine spliced_more (he := by kernel_rfl) ?_
  refine wpAny_BinOp ?_
  refine e_loc W (v := .int x tx) (hv := by kernel_rfl) ?_
  refine e_int ?_
  intro _ _
  refine e_div (hb := by decide) (hs := by decide) ?_
  intro tr _
  refine spliced_none ?_
  refine f_pair (n1 := "kind") (n2 := "rest") (v1 := .int (x.fmod 6) tkd) (v2 := .int (x.fdiv 6) tr) (hvs := rfl) (hA := hA) W ?_ rfl (by kernel_rfl) (by kernel_rfl)
  intro h₂ tk₂ W₂ k₂
  have w₂ := w₁.kf k₂
  refine wpAny_execs_cons ?_
  refine wpAny_If ?_
  refine wpAny_isTrue_Compare1 (hm := by kernel_rfl) ?_
  refine e_loc W₂ (v := .int (x.fmod 6) tkd) (hv := by kernel_rfl) ?_
  refine e_int ?_
  intro _ _
  refine e_eqi ?_
  refine e_truthb ?_
  refine e_ifF (hb := by rw [hx]; decide) ?_
  refine wpAny_execs_nil ?_
  refine wpAny_execs_cons ?_
  refine wpAny_If ?_
  refine wpAny_isTrue_Compare1 (hm := by kernel_rfl) ?_
  refine e_loc W₂ (v := .int (x.fmod 6) tkd) (hv := by kernel_rfl) ?_
  refine e_int ?_
  intro _ _
  refine e_eqi ?_
  refine e_truthb ?_
  refine e_ifT (hb := by rw [hx]; decide) ?_
  refine wpAny_execs_cons ?_
  refine wpAny_Assign_Name (hs := by kernel_rfl) ?_
  refine Subscript_ ?_
  refine e_loc W₂ (v := .ref a.lc) (hv := by kernel_rfl) ?_
  refine wpAny_BinOp ?_
  refine e_int ?_
  intro _ _
  refine wpAny_BinOp ?_
  refine e_loc W₂ (v := .int (x.fdiv 6) tr) (hv := by kernel_rfl) ?_
  refine e_int ?_
  intro _ _
  refine e_mod (hb := by decide) ?_
  intro _ _
  refine e_add ?_
  intro _ _
  obtain ⟨j, hj, ej⟩ := cell_no (x.fdiv 6)
  refine e_item (hl := w₂.b.lc) (v := .ref (a.c j)) (h0 := by rw [ej]; omega) (hhi := by rw [ej]; omega) (hx := by rw [ej]; rcases hj with rfl | rfl <;> rfl) (hs := by kernel_rfl) ?_
  refine f_store W₂ ?_
  intro h₃ tk₃ W₃ k₃
  have w₃ := w₂.kf k₃
  have hj3 : j < 3 := by omega
  refine wpAny_execs_cons ?_
  refine wpAny_Assign_Subscript (hs := by kernel_rfl) ?_
  refine Subscript_ ?_
  refine List_ ?_
  refine spliced_more (he := by kernel_rfl) ?_
  refine e_none ?_
  refine spliced_more (he := by kernel_rfl) ?_
  refine e_str ?_
  intro _ _
  refine spliced_more (he := by kernel_rfl) ?_
  refine e_str ?_
  intro _ _
  refine spliced_more (he := by kernel_rfl) ?_
  refine e_str ?_
  intro _ _
  refine spliced_more (he := by kernel_rfl) ?_
  refine e_str ?_
  intro _ _
  refine spliced_none ?_
  refine f_list W₃ (hsz := by show 5 ≤ 100; decide) ?_
  intro bp hp1 hbp lbp Wp1 kp1
  have wp1 := w₃.kf kp1
  refine wpAny_BinOp ?_
  refine wpAny_BinOp ?_
  refine e_loc Wp1 (v := .int (x.fdiv 6) tr) (hv := by kernel_rfl) ?_
  refine e_int ?_
  intro _ _
  refine e_div (hb := by decide) (hs := by decide) ?_
  intro _ _
  refine e_int ?_
  intro _ _
  refine e_mod (hb := by decide) ?_
  intro _ _
  have fmp := fmods ((x.fdiv 6).fdiv 2) (b := 5) (by decide)
  obtain ⟨vm, em, im⟩ := msys_item _ _ _ _ (j := (((x.fdiv 6).fdiv 2).fmod 5).toNat) (by omega)
  refine e_item (hl := lbp) (v := vm) (h0 := fmp.1) (hhi := by omega) (hx := em) (hs := by kernel_rfl) ?_
  refine e_loc Wp1 (v := .ref (a.c j)) (hv := by kernel_rfl) ?_
  refine e_int ?_
  intro _ _
  obtain ⟨v0, v1, v2, v3, lc, i0, i1, i2, i3⟩ := wp1.cell j hj3
  refine e_setitem (hl := lc) (h0 := by decide) (hn := by show (0 : Int) < 4; decide) (hsz := by show 4 ≤ 1000; decide) ?_
  intro hp2 sp2 lp2
  have W₄ := Wp1.listS (Ad.dx hj) sp2 lc lp2
  have w₄ := wp1.cellTo (us := []) (C := ⟨msys (((x.fdiv 6).fdiv 2).fmod 5).toNat, _, _, _⟩) hj sp2 ⟨vm, v1, v2, v3, lp2, im, i1, i2, i3⟩ ⟨⟨(msys_ok (((x.fdiv 6).fdiv 2).fmod 5).toNat).1, (w₃.cok j hj3).1.n2, (w₃.cok j hj3).1.n3, (msys_ok (((x.fdiv 6).fdiv 2).fmod 5).toNat).2.1, (w₃.cok j hj3).1.o2, (w₃.cok j hj3).1.o3, (msys_ok (((x.fdiv 6).fdiv 2).fmod 5).toNat).2.2, (w₃.cok j hj3).1.f2, (w₃.cok j hj3).1.f3⟩, (w₃.cok j hj3).2⟩
  clear lc em im i0 i1 i2 i3 lp2
  refine wpAny_execs_cons ?_
  refine wpAny_Assign_Subscript (hs := by kernel_rfl) ?_
  refine Subscript_ ?_
  refine List_ ?_
  refine spliced_more (he := by kernel_rfl) ?_
  refine e_none ?_
  refine spliced_more (he := by kernel_rfl) ?_
  refine e_str ?_
  intro _ _
  refine spliced_more (he := by kernel_rfl) ?_
  refine e_str ?_
  intro _ _
  refine spliced_more (he := by kernel_rfl) ?_
  refine e_str ?_
  intro _ _
  refine spliced_none ?_
  refine f_list W₄ (hsz := by show 4 ≤ 100; decide) ?_
  intro bq hq1 hbq lbq Wq1 kq1
  have wq1 := w₄.kf kq1
  refine wpAny_BinOp ?_
  refine wpAny_BinOp ?_
  refine e_loc Wq1 (v := .int (x.fdiv 6) tr) (hv := by kernel_rfl) ?_
  refine e_int ?_
  intro _ _
  refine e_div (hb := by decide) (hs := by decide) ?_
  intro _ _
  refine e_int ?_
  intro _ _
  refine e_mod (hb := by decide) ?_
  intro _ _
  have fmq := fmods ((x.fdiv 6).fdiv 10) (b := 4) (by decide)
  obtain ⟨vm, em, im⟩ := mpub_item _ _ _ (j := (((x.fdiv 6).fdiv 10).fmod 4).toNat) (by omega)
  refine e_item (hl := lbq) (v := vm) (h0 := fmq.1) (hhi := by omega) (hx := em) (hs := by kernel_rfl) ?_
  refine e_loc Wq1 (v := .ref (a.c j)) (hv := by kernel_rfl) ?_
  refine e_int ?_
  intro _ _
  obtain ⟨v0, v1, v2, v3, lc, i0, i1, i2, i3⟩ := wq1.cell j hj3
  refine e_setitem (hl := lc) (h0 := by decide) (hn := by show (3 : Int) < 4; decide) (hsz := by show 4 ≤ 1000; decide) ?_
  intro hq2 sq2 lq2
  have W₅ := Wq1.listS (Ad.dx hj) sq2 lc lq2
  have w₅ := wq1.cellTo (us := []) (C := ⟨_, _, _, mpub (((x.fdiv 6).fdiv 10).fmod 4).toNat⟩) hj sq2 ⟨v0, v1, v2, vm, lq2, i0, i1, i2, im⟩ ⟨(w₄.cok j hj3).1, mpub_ok _⟩
  clear lc em im i0 i1 i2 i3 lq2
  refine wpAny_execs_cons ?_
  refine wpAny_Return_some ?_
  refine e_true ?_
  exact h _ _ _ _ _ _ W₅.done w₅ ⟨by omega, by omega⟩ (fun q => nomatch q)
set_option maxHeartbeats 4000000 in
theorem deed_5 {x : Int} {tx : Tok} {Q : Value → Shared → Prop} (hx : x.fmod 6 = 5) (G : Gr w H) (U : Up H hh) (wd : Wd H hh a cl vs rs g) (hn : g.length ≤ 40) (hg : 1 ≤ g.length) (gd : Gd H A hh 600 600) (hA : A.handled = none)
    (h : ∀ h' tk' cl' vs' rs' g', Kp H (Dx a) hh h' → Wd H h' a cl' vs' rs' g' → g.length ≤ g'.length ∧ g'.length ≤ g.length + 1 → (5 = 2 → g'.length = g.length + 1) → Q (.bool true) ⟨h', gg, dd, tk', os⟩) :
    wpAny (model prog w) A (call (.ref 265) [.int x tx, .ref a.lc, .ref a.lp, .ref a.lt, .ref a.lr]) Q E ⟨hh, gg, dd, tt, os⟩ := by
  have hd := gd.depth
  have hnv := wd.nv
  have hnr := wd.nr
  refine' enterE [("x", .int x tx), ("cells", .ref a.lc), ("places", .ref a.lp), ("things", .ref a.lt), ("rows", .ref a.lr)] G U (Dx a) wd.sx ?k6 ?kr ?k7 ?k9 ?kB ?c2 ?c3 ?c4 ?c5 ?_
  ktr_unf
  (case kr => omega)
  intro L h₁ tk₁ hL hk₁ W
  have w₁ := wd.kf (Kf.of hk₁)
  refine wpAny_execs_cons ?_
  refine Assign_Tuple_swapped (names := ["kind", "rest"]) (hs := by kernel_rfl) (hw := by kernel_rfl) ?_
  refine Tuple_ ?_
  refine spliced_more (he := by kernel_rfl) ?_
  refine wpAny_BinOp ?_
  refine e_loc W (v := .int x tx) (hv := by kernel_rfl) ?_
  refine e_int ?_
  intro _ _
  refine e_mod (hb := by decide) ?_
  intro tkd _
  refine spliced_more (he := by kernel_rfl) ?_
  refine wpAny_BinOp ?_
  refine e_loc W (v := .int x tx) (hv := by kernel_rfl) ?_
  refine e_int ?_
  intro _ _
  refine e_div (hb := by decide) (hs := by decide) ?_
  intro tr _
  refine spliced_none ?_
  refine f_pair (n1 := "kind") (n2 := "rest") (v1 := .int (x.fmod 6) tkd) (v2 := .int (x.fdiv 6) tr) (hvs := rfl) (hA := hA) W ?_ rfl (by kernel_rfl) (by kernel_rfl)
  intro h₂ tk₂ W₂ k₂
  have w₂ := w₁.kf k₂
  refine wpAny_execs_cons ?_
  refine wpAny_If ?_
  refine wpAny_isTrue_Compare1 (hm := by kernel_rfl) ?_
  refine e_loc W₂ (v := .int (x.fmod 6) tkd) (hv := by kernel_rfl) ?_
  refine e_int ?_
  intro _ _
  refine e_eqi ?_
  refine e_truthb ?_
  refine e_ifF (hb := by rw [hx]; decide) ?_
  refine wpAny_execs_nil ?_
  refine wpAny_execs_cons ?_
  refine wpAny_If ?_
  refine wpAny_isTrue_Compare1 (hm := by kernel_rfl) ?_
  refine e_loc W₂ (v := .int (x.fmod 6) tkd) (hv := by kernel_rfl) ?_
  refine e_int ?_
  intro _ _
  refine e_eqi ?_
  refine e_truthb ?_
  refine e_ifF (hb := by rw [hx]; decide) ?_
  refine wpAny_execs_nil ?_
  refine wpAny_execs_cons ?_
  refine wpAny_If ?_
  refine wpAny_isTrue_Compare1 (hm := by kernel_rfl) ?_
  refine e_loc W₂ (v := .int (x.fmod 6) tkd) (hv := by kernel_rfl) ?_
  refine e_int ?_
  intro _ _
  refine e_eqi ?_
  refine e_truthb ?_
  refine e_ifT (hb := by rw [hx]; decide) ?_
  refine wpAny_execs_cons ?_
  refine wpAny_Assign_Name (hs := by kernel_rfl) ?_
  refine wpAny_BinOp ?_
  refine e_int ?_
  intro _ _
  refine wpAny_BinOp ?_
  refine e_loc W₂ (v := .int (x.fdiv 6) tr) (hv := by kernel_rfl) ?_
  refine wpAny_BinOp ?_
  refine Call_ ?_
  refine e_bi G W₂ (v := .builtin "len") (e := by kernel_rfl) (hv := by kernel_rfl) (hn := by decide) ?_
  refine callB ?_
  refine spliced_more (he := by kernel_rfl) ?_
  refine e_loc W₂ (v := .ref a.lt) (hv := by kernel_rfl) ?_
  refine spliced_none ?_
  refine e_len w₂.lt (hsz := by omega) ?_
  intro _ _
  refine e_int ?_
  intro _ _
  refine e_sub ?_
  intro _ _
  refine e_mod (hb := by omega) ?_
  intro _ _
  refine e_add ?_
  intro ta _
  have fa := fmods (x.fdiv 6) (b := (vs.length : Int) - 2) (by omega)
  obtain ⟨i, hi, ei⟩ : ∃ i : Nat, i < g.length ∧ 2 + (x.fdiv 6).fmod ((vs.length : Int) - 2) = ((i + 2 : Nat) : Int) := ⟨((x.fdiv 6).fmod ((vs.length : Int) - 2)).toNat, by omega, by omega⟩
  rw [ei]
  refine f_store W₂ ?_
  intro h₃ tk₃ W₃ k₃
  have w₃ := w₂.kf k₃
  obtain ⟨r, hr⟩ : ∃ r, g[i]? = some r := ⟨g[i], List.getElem?_eq_getElem hi⟩
  obtain ⟨e, _, _, he, _⟩ := id (w₃.er i r hr)
  obtain ⟨ra, _, _, _, _, hra, _⟩ := id (w₃.row i r hr)
  have X₃ := G.X.keeps W₃.F.keep
  refine wpAny_execs_cons ?_
  refine wpAny_Return_some ?_
  refine wpAny_Compare1 (hm := by kernel_rfl) ?_
  refine Call_ ?_
  refine e_gl G W₃ (v := .ref 251) (e := by kernel_rfl) ?_
  refine callWith_K X₃ (by kernel_rfl) ?_
  refine spliced_more (he := by kernel_rfl) ?_
  refine Subscript_ ?_
  refine e_loc W₃ (v := .ref a.lt) (hv := by kernel_rfl) ?_
  refine e_loc W₃ (v := .int ((i + 2 : Nat) : Int) ta) (hv := by kernel_rfl) ?_
  refine e_item (hl := w₃.lt) (v := .ref e) (h0 := by omega) (hhi := by omega) (hx := he) (hs := by kernel_rfl) ?_
  refine spliced_more (he := by kernel_rfl) ?_
  refine e_loc W₃ (v := .ref a.lt) (hv := by kernel_rfl) ?_
  refine spliced_none ⟨X₃, ?_⟩
  refine askTold (i := i) G (Fr.up W₃.F) w₃ hr he (hn := by omega) (gd := (gd.le (d' := 400 + 1) (u' := 400 + 3) (by omega) (by omega)).deeper W₃ rfl) (hA := hA) ?_
  intro h₄ tk₄ b₄ as₄ k₄ ra₄
  have W₄ := W₃.call k₄
  have w₄ := w₃.kp k₄
  have X₄ := G.X.keeps W₄.F.keep
  refine Call_ ?_
  refine e_gl G W₄ (v := .ref 258) (e := by kernel_rfl) ?_
  refine callWith_K X₄ (by kernel_rfl) ?_
  refine spliced_more (he := by kernel_rfl) ?_
  refine Subscript_ ?_
  refine e_loc W₄ (v := .ref a.lr) (hv := by kernel_rfl) ?_
  refine e_loc W₄ (v := .int ((i + 2 : Nat) : Int) ta) (hv := by kernel_rfl) ?_
  refine e_item (hl := w₄.lr) (v := .ref ra) (h0 := by omega) (hhi := by omega) (hx := hra) (hs := by kernel_rfl) ?_
  refine spliced_more (he := by kernel_rfl) ?_
  refine e_loc W₄ (v := .ref a.lc) (hv := by kernel_rfl) ?_
  refine spliced_none ⟨X₄, ?_⟩
  refine askDue (i := i) G (Fr.up W₄.F) w₄ hr hra (gd := (gd.le (d' := 400 + 1) (u' := 400 + 3) (by omega) (by omega)).deeper W₄ rfl) (hA := hA) ?_
  intro h₅ tk₅ b₅ as₅ k₅ ra₅
  have W₅ := W₄.call k₅
  have w₅ := w₄.kp k₅
  obtain ⟨q1, q2⟩ := row_ok w₅ hr
  refine eq_dataH (s := ⟨h₅, gg, dd, tk₅, os⟩) (readsKp k₅ ra₄) ra₅ q2 q2 (hu := by have := gd.units; show A.units + 3 + 64 < 9900; omega) ?_
  rw [q1]
  exact h _ _ _ _ _ _ W₅.done w₅ ⟨by omega, by omega⟩ (fun q => nomatch q)
end
end Mine
end
section
open PySem PySem.W PyProof.Rows PySem.Calls
open PySem.Builtin PySem.Builtin.ObjectAttr PySem.Builtin.BaseException
set_option Elab.async false
set_option linter.unusedVariables false
set_option maxRecDepth 100000
namespace Mine
local macro_rules | `(tactic| ktr_unf) => `(tactic| ((case k6 => rfl); (case k7 => kernel_rfl); (case k9 => intro S; kernel_rfl); (case c5 => kernel_rfl); (case kB => kernel_rfl); (case c2 => exact rfl); (case c3 => exact rfl); (case c4 => exact rfl)))
theorem sg_ok (j : Nat) : PyData.strOk (sg j) = true := by
  match j with
  | 0 => decide +kernel
  | 1 => decide +kernel
  | 2 => decide +kernel
  | 3 => decide +kernel
  | 4 => decide +kernel
  | 5 => decide +kernel
  | 6 => decide +kernel
  | _ + 7 => exact (by decide +kernel : PyData.strOk (sg 7) = true)
theorem words_ok (k : Int) : PyData.strOk (wordsOf k) = true := strOk_app (strOk_app (sg_ok _) (sg_ok _)) (sg_ok _)
section
variable {prog : Program} {w : World} {M : Model} {A : Around} {E : Value → Shared → Prop} {hh : Heap} {gg : Array GenState} {dd : Drawn} {tt : Nat} {os : OsState} {H h₀ : Heap} {S : Addr → Prop} {L : Addr} {m : Str → Option Value} {objs : List (Addr × Obj)}
theorem k_tuple {vs : List Value} {Q : Value → Shared → Prop} (W : St H S h₀ L hh m objs) (hsz : vs.length ≤ 100)
    (h : ∀ b h', TpAt h' b vs → St H S h₀ L h' m objs → (∀ b o, hh.get? b = some o → h'.get? b = some o) → Q (.ref b) ⟨h', gg, dd, tt, os⟩) :
    wpAny M A (newTuple vs) Q E ⟨hh, gg, dd, tt, os⟩ := by
  refine wpAny_newObj_type (s := ⟨hh, gg, dd, tt, os⟩) ?_ (by show vs.toArray.size ≤ sizeLine; rw [List.size_toArray, sizeLine_eq]; omega)
  have W' := W.push { cls := .type "tuple", data := .seq vs.toArray } (plain_type (by decide)) rfl
  exact h _ _ ⟨_, W'.has (.head _)⟩ (W'.drop fun p hp => .tail _ hp) (fun b o e => Heap.get?_push_of_some _ e)
end
section
variable {H h h' h₁ h₂ h₃ : Heap} {a : Ad} {cl : Nat → Cl} {vs rs : List Value} {g : List Rw}
theorem place_at {n : Nat} (h : n < 3) : ([.ref a.p0, .ref a.p1, .ref a.p2] : List Value)[(n : Int).toNat]? = some (.ref (a.p n)) := by
  match n, h with
  | 0, _ => rfl
  | 1, _ => rfl
  | 2, _ => rfl
theorem cell_at {n : Nat} (h : n < 3) : ([.ref a.c0, .ref a.c1, .ref a.c2] : List Value)[(n : Int).toNat]? = some (.ref (a.c n)) := by
  match n, h with
  | 0, _ => rfl
  | 1, _ => rfl
  | 2, _ => rfl
theorem Wb.c_lt {n : Nat} {H h : Heap} (x : Wb H h a) (hn : n < 3) : a.c n ≠ a.lt := by
  have o := x.ord
  match n, hn with
  | 0, _ => show a.c0 ≠ a.lt; omega
  | 1, _ => show a.c1 ≠ a.lt; omega
  | 2, _ => show a.c2 ≠ a.lt; omega
theorem app_get {α : Type} {l : List α} {i : Nat} {v y : α} (h : l[i]? = some v) : (l ++ [y])[i]? = some v := by
  have hi := (List.getElem?_eq_some_iff.mp h).1
  rw [List.getElem?_append_left hi]; exact h
theorem app_last {α : Type} {l : List α} {n : Nat} {y : α} (h : l.length = n) : (l ++ [y])[n]? = some y := by
  subst h; simp
theorem ErAt.app {i : Nat} {r r' : Rw} {e : Value} (x : ErAt H h a vs g i r) : ErAt H h a (vs ++ [e]) (g ++ [r']) i r := by
  obtain ⟨e, v, t, x1, x2, x3, x4, x5⟩ := x
  refine ⟨e, v, t, app_get x1, app_get x2, x3, x4, ?_⟩
  rcases x5 with y | ⟨p, loc, sv, cv, lv, y1, y2, y3, y4, y5, y6, y7, y8, y9⟩
  · exact .inl y
  · refine .inr ⟨p, loc, sv, cv, lv, y1, y2, y3, y4, y5, y6, y7, y8, ?_⟩
    rcases y9 with z | ⟨j, r'', z1, z2, z3, z4⟩
    · exact .inl z
    · exact .inr ⟨j, r'', z1, app_get z2, app_get z3, z4⟩
theorem RowAt.app {i : Nat} {r : Rw} {e : Value} (x : RowAt h rs i r) : RowAt h (rs ++ [e]) i r := by
  obtain ⟨ra, t1, t2, t3, pv, x1, x2⟩ := x
  exact ⟨ra, t1, t2, t3, pv, app_get x1, x2⟩
/-- one more error -/
theorem Wd.grow {e ra : Addr} {r : Rw} (x : Wd H h a cl vs rs g) (K : Kl H (fun b => b = a.lt ∨ b = a.lr) h h') (lt' : LsAt h' a.lt (vs ++ [.ref e])) (lr' : LsAt h' a.lr (rs ++ [.ref ra])) (fresh : ∀ v ∈ vs, v ≠ .ref e)
    (er' : ErAt H h' a (vs ++ [.ref e]) (g ++ [r]) g.length r) (row' : RowAt h' (rs ++ [.ref ra]) g.length r) : Wd H h' a cl (vs ++ [.ref e]) (rs ++ [.ref ra]) (g ++ [r]) := by
  have o := x.b.ord
  have nv := x.nv
  have nr := x.nr
  have nc : ∀ i, i < 3 → ¬ (a.c i = a.lt ∨ a.c i = a.lr) := fun i hi => by
    match i, hi with
    | 0, _ => show ¬ (a.c0 = a.lt ∨ a.c0 = a.lr); omega
    | 1, _ => show ¬ (a.c1 = a.lt ∨ a.c1 = a.lr); omega
    | 2, _ => show ¬ (a.c2 = a.lt ∨ a.c2 = a.lr); omega
  have last : ∀ {i : Nat} {r' : Rw}, (g ++ [r])[i]? = some r' → g[i]? = some r' ∨ (i = g.length ∧ r' = r) := fun {i r'} q => by
    by_cases hi : i < g.length
    · rw [List.getElem?_append_left hi] at q; exact .inl q
    · have : i < g.length + 1 := by have := (List.getElem?_eq_some_iff.mp q).1; simpa using this
      have e : i = g.length := by omega
      subst e
      rw [app_last rfl] at q; cases q; exact .inr ⟨rfl, rfl⟩
  have lastv : ∀ {i : Nat} {v : Value}, (vs ++ [.ref e])[i]? = some v → vs[i]? = some v ∨ (i = vs.length ∧ v = .ref e) := fun {i v} q => by
    by_cases hi : i < vs.length
    · rw [List.getElem?_append_left hi] at q; exact .inl q
    · have : i < vs.length + 1 := by have := (List.getElem?_eq_some_iff.mp q).1; simpa using this
      have e : i = vs.length := by omega
      subst e
      rw [app_last rfl] at q; cases q; exact .inr ⟨rfl, rfl⟩
  refine ⟨x.b.kl K (fun b q => by rcases q with q | q; exact .inr (.inr (.inl q)); exact .inr (.inr (.inr q))), fun i hi => (x.cell i hi).kp K.k (nc i hi), x.cok, x.cl0, lt', lr', app_get x.v0, app_get x.v1, by simp; omega, by simp; omega, fun i r' q => ?_, fun i r' q => ?_, fun i j v p q => ?_⟩
  · rcases last q with q | ⟨rfl, rfl⟩
    · exact ((x.er i r' q).kl K).app
    · exact er'
  · rcases last q with q | ⟨rfl, rfl⟩
    · exact ((x.row i r' q).kl K).app
    · exact row'
  · rcases lastv p with p | ⟨rfl, rfl⟩
    · rcases lastv q with q | ⟨rfl, rfl⟩
      · exact x.inj i j v p q
      · exact absurd rfl (fresh _ (List.mem_of_getElem? p))
    · rcases lastv q with q | ⟨rfl, _⟩
      · exact absurd rfl (fresh _ (List.mem_of_getElem? q))
      · rfl
theorem Wd.fresh {e : Addr} (x : Wd H h a cl vs rs g) (he : h.get? e = none) : ∀ v ∈ vs, v ≠ .ref e := fun v hv z => by
  rcases x.th v hv with q | ⟨y, o, q, ho, _⟩
  · rw [q] at z; cases z
  · rw [q] at z; cases z; rw [he] at ho; cases ho
/-- things appended, then rows -/
theorem Wd.two (x : Wd H h a cl vs rs g) (k1 : Heap.SameBut a.lt h h₁) (k2 : ∀ b o, h₁.get? b = some o → h₂.get? b = some o) (k3 : Heap.SameBut a.lr h₂ h₃) {us us' : List Value} (l1 : LsAt h₁ a.lt us) (l2 : LsAt h₂ a.lr us') : Kl H (fun b => b = a.lt ∨ b = a.lr) h h₃ := by
  have nt : ∀ {hp : Heap} {l : Addr} {us : List Value}, LsAt hp l us → ∀ o, hp.get? l = some o → o.cls ≠ .type "traceback" := fun l o e => by
    obtain ⟨n, q⟩ := l
    rw [q] at e; cases e; exact fun z => absurd (Value.type.inj z) (by decide)
  have o := x.b.ord
  have lr1 := x.lr.same k1 (by show a.lr ≠ a.lt; omega)
  have lt2 : LsAt h₂ a.lt us := let ⟨n, e⟩ := l1; ⟨n, k2 _ _ e⟩
  refine ⟨Kp.trans (h₁ := h₂) (Kp.trans (h₁ := h₁) (.same k1 (.inl rfl)) (.of_keeps k2) ?_) (.same k3 (.inr rfl)) ?_, fun b q => ?_⟩
  · intro b o e q
    rcases q with rfl | rfl
    · exact nt l1 o e
    · exact nt lr1 o e
  · intro b o e q
    rcases q with rfl | rfl
    · exact nt lt2 o e
    · exact nt l2 o e
  · rcases q with rfl | rfl
    · exact ⟨_, x.lt⟩
    · exact ⟨_, x.lr⟩
end
section
variable {prog : Program} {w : World} {A : Around} {E : Value → Shared → Prop} {hh : Heap} {gg : Array GenState} {dd : Drawn} {tt : Nat} {os : OsState} {H : Heap} {a : Ad} {cl : Nat → Cl} {vs rs : List Value} {g : List Rw}
set_option maxHeartbeats 4000000 in
theorem deed_2 {x : Int} {tx : Tok} {Q : Value → Shared → Prop} (hx : x.fmod 6 = 2) (G : Gr w H) (U : Up H hh) (wd : Wd H hh a cl vs rs g) (hn : g.length ≤ 40) (gd : Gd H A hh 600 600) (hA : A.handled = none)
    (h : ∀ h' tk' cl' vs' rs' g', Kp H (Dx a) hh h' → Wd H h' a cl' vs' rs' g' → g.length ≤ g'.length ∧ g'.length ≤ g.length + 1 → (2 = 2 → g'.length = g.length + 1) → Q (.bool true) ⟨h', gg, dd, tk', os⟩) :
    wpAny (model prog w) A (call (.ref 265) [.int x tx, .ref a.lc, .ref a.lp, .ref a.lt, .ref a.lr]) Q E ⟨hh, gg, dd, tt, os⟩ := by
  have hd := gd.depth
  have hnv := wd.nv
  have hnr := wd.nr
  refine' enterE [("x", .int x tx), ("cells", .ref a.lc), ("places", .ref a.lp), ("things", .ref a.lt), ("rows", .ref a.lr)] G U (Dx a) wd.sx ?k6 ?kr ?k7 ?k9 ?kB ?c2 ?c3 ?c4 ?c5 ?_
  ktr_unf
  (case kr => omega)
  intro L h₁ tk₁ hL hk₁ W
  have w₁ := wd.kf (Kf.of hk₁)
  refine wpAny_execs_cons ?_
  refine Assign_Tuple_swapped (names := ["kind", "rest"]) (hs := by kernel_rfl) (hw := by kernel_rfl) ?_
  refine Tuple_ ?_
  refine spliced_more (he := by kernel_rfl) ?_
  refine wpAny_BinOp ?_
  refine e_loc W (v := .int x tx) (hv := by kernel_rfl) ?_
  refine e_int ?_
  intro _ _
  refine e_mod (hb := by decide) ?_
  intro tkd _
  refine spliced_more (he := by kernel_rfl) ?_
  refine wpAny_BinOp ?_
  refine e_loc W (v := .int x tx) (hv := by kernel_rfl) ?_
  refine e_int ?_
  intro _ _
  refine e_div (hb := by decide) (hs := by decide) ?_
  intro tr _
  refine spliced_none ?_
  refine f_pair (n1 := "kind") (n2 := "rest") (v1 := .int (x.fmod 6) tkd) (v2 := .int (x.fdiv 6) tr) (hvs := rfl) (hA := hA) W ?_ rfl (by kernel_rfl) (by kernel_rfl)
  intro h₂ tk₂ W₂ k₂
  have w₂ := w₁.kf k₂
  refine wpAny_execs_cons ?_
  refine wpAny_If ?_
  refine wpAny_isTrue_Compare1 (hm := by kernel_rfl) ?_
  refine e_loc W₂ (v := .int (x.fmod 6) tkd) (hv := by kernel_rfl) ?_
  refine e_int ?_
  intro _ _
  refine e_eqi ?_
  refine e_truthb ?_
  refine e_ifF (hb := by rw [hx]; decide) ?_
  refine wpAny_execs_nil ?_
  refine wpAny_execs_cons ?_
  refine wpAny_If ?_
  refine wpAny_isTrue_Compare1 (hm := by kernel_rfl) ?_
  refine e_loc W₂ (v := .int (x.fmod 6) tkd) (hv := by kernel_rfl) ?_
  refine e_int ?_
  intro _ _
  refine e_eqi ?_
  refine e_truthb ?_
  refine e_ifF (hb := by rw [hx]; decide) ?_
  refine wpAny_execs_nil ?_
  refine wpAny_execs_cons ?_
  refine wpAny_If ?_
  refine wpAny_isTrue_Compare1 (hm := by kernel_rfl) ?_
  refine e_loc W₂ (v := .int (x.fmod 6) tkd) (hv := by kernel_rfl) ?_
  refine e_int ?_
  intro _ _
  refine e_eqi ?_
  refine e_truthb ?_
  refine e_ifF (hb := by rw [hx]; decide) ?_
  refine wpAny_execs_nil ?_
  -- cause, rest
  refine wpAny_execs_cons ?_
  refine Assign_Tuple_swapped (names := ["cause", "rest"]) (hs := by kernel_rfl) (hw := by kernel_rfl) ?_
  refine Tuple_ ?_
  refine spliced_more (he := by kernel_rfl) ?_
  refine wpAny_BinOp ?_
  refine e_loc W₂ (v := .int (x.fdiv 6) tr) (hv := by kernel_rfl) ?_
  refine Call_ ?_
  refine e_bi G W₂ (v := .builtin "len") (e := by kernel_rfl) (hv := by kernel_rfl) (hn := by decide) ?_
  refine callB ?_
  refine spliced_more (he := by kernel_rfl) ?_
  refine e_loc W₂ (v := .ref a.lt) (hv := by kernel_rfl) ?_
  refine spliced_none ?_
  refine e_len w₂.lt (hsz := by omega) ?_
  intro _ _
  refine e_mod (hb := by omega) ?_
  intro tc _
  refine spliced_more (he := by kernel_rfl) ?_
  refine wpAny_BinOp ?_
  refine e_loc W₂ (v := .int (x.fdiv 6) tr) (hv := by kernel_rfl) ?_
  refine Call_ ?_
  refine e_bi G W₂ (v := .builtin "len") (e := by kernel_rfl) (hv := by kernel_rfl) (hn := by decide) ?_
  refine callB ?_
  refine spliced_more (he := by kernel_rfl) ?_
  refine e_loc W₂ (v := .ref a.lt) (hv := by kernel_rfl) ?_
  refine spliced_none ?_
  refine e_len w₂.lt (hsz := by omega) ?_
  intro _ _
  refine e_div (hb := by omega) (hs := by omega) ?_
  intro tr2 _
  refine spliced_none ?_
  have fc := fmods (x.fdiv 6) (b := (vs.length : Int)) (by omega)
  obtain ⟨c, hc, ec⟩ : ∃ c : Nat, c < vs.length ∧ (x.fdiv 6).fmod (vs.length : Int) = (c : Int) := ⟨((x.fdiv 6).fmod (vs.length : Int)).toNat, by omega, by omega⟩
  refine f_pair (n1 := "cause") (n2 := "rest") (v1 := .int (c : Int) tc) (v2 := .int ((x.fdiv 6).fdiv (vs.length : Int)) tr2) (hvs := by rw [ec]) (hA := hA) W₂ ?_ rfl (by kernel_rfl) (by kernel_rfl)
  intro h₃ tk₃ W₃ k₃
  have w₃ := w₂.kf k₃
  obtain ⟨R, hR⟩ : ∃ R, R = (x.fdiv 6).fdiv (vs.length : Int) := ⟨_, rfl⟩
  rw [← hR] at W₃
  obtain ⟨v, hv⟩ : ∃ v, vs[c]? = some v := ⟨vs[c], List.getElem?_eq_getElem hc⟩
  have hvT := w₃.th v (List.mem_of_getElem? hv)
  refine wpAny_execs_cons ?_
  refine wpAny_If ?_
  refine wpAny_isTrue_Compare1 (hm := by kernel_rfl) ?_
  refine e_loc W₃ (v := .int (x.fmod 6) tkd) (hv := by kernel_rfl) ?_
  refine e_int ?_
  intro _ _
  refine e_eqi ?_
  refine e_truthb ?_
  refine e_ifT (hb := by rw [hx]; decide) ?_
  -- where, words
  refine wpAny_execs_cons ?_
  refine Assign_Tuple_swapped (names := ["where", "words"]) (hs := by kernel_rfl) (hw := by kernel_rfl) ?_
  refine Tuple_ ?_
  refine spliced_more (he := by kernel_rfl) ?_
  refine wpAny_BinOp ?_
  refine e_loc W₃ (v := .int R tr2) (hv := by kernel_rfl) ?_
  refine e_int ?_
  intro _ _
  refine e_mod (hb := by decide) ?_
  intro tw _
  refine spliced_more (he := by kernel_rfl) ?_
  have X₃ := G.X.keeps W₃.F.keep
  refine Call_ ?_
  refine e_gl G W₃ (v := .ref 209) (e := by kernel_rfl) ?_
  refine callWith_K X₃ (by kernel_rfl) ?_
  refine spliced_more (he := by kernel_rfl) ?_
  refine wpAny_BinOp ?_
  refine e_loc W₃ (v := .int R tr2) (hv := by kernel_rfl) ?_
  refine e_int ?_
  intro _ _
  refine e_div (hb := by decide) (hs := by decide) ?_
  intro _ _
  refine spliced_none ⟨X₃, ?_⟩
  refine words209 G (Fr.up W₃.F) (hd := by show A.depth + 1 < 900; omega) ?_
  intro h₄ tk₄ t2 k₄
  have W₄ := W₃.call k₄
  have w₄ := w₃.kp k₄
  refine spliced_none ?_
  have fw := fmods R (b := 3) (by decide)
  obtain ⟨wh, hwh, ewh⟩ : ∃ wh : Nat, wh < 3 ∧ R.fmod 3 = (wh : Int) := ⟨(R.fmod 3).toNat, by omega, by omega⟩
  refine f_pair (n1 := "where") (n2 := "words") (v1 := .int (wh : Int) tw) (v2 := .str (wordsOf (R.fdiv 3)) t2) (hvs := by rw [ewh]) (hA := hA) W₄ ?_ rfl (by kernel_rfl) (by kernel_rfl)
  intro h₅ tk₅ W₅ k₅
  have w₅ := w₄.kf k₅
  have X₅ := G.X.keeps W₅.F.keep
  obtain ⟨wx, hwx⟩ : ∃ wx, wx = wordsOf (R.fdiv 3) := ⟨_, rfl⟩
  have wl : wx.length ≤ 100 := by rw [hwx]; have := words_len (R.fdiv 3); omega
  have wk : PyData.strOk wx = true := by rw [hwx]; exact words_ok _
  rw [← hwx] at W₅
  -- things.append(SAXParseException(..))
  refine wpAny_execs_cons ?_
  refine wpAny_Expr_any ?_
  refine CallM ?_
  refine e_loc W₅ (v := .ref a.lt) (hv := by kernel_rfl) ?_
  intro pl
  refine m_list (hl := w₅.lt) PySem.F.slot_list_append PySem.F.type_list_append ?_
  refine callB ?_
  refine spliced_more (he := by kernel_rfl) ?_
  refine Call_ ?_
  refine e_gl G W₅ (v := .ref 115) (e := by kernel_rfl) ?_
  refine callWith_K X₅ (by kernel_rfl) ?_
  refine spliced_more (he := by kernel_rfl) ?_
  refine e_loc W₅ (v := .str wx t2) (hv := by kernel_rfl) ?_
  refine spliced_more (he := by kernel_rfl) ?_
  refine Subscript_ ?_
  refine e_loc W₅ (v := .ref a.lt) (hv := by kernel_rfl) ?_
  refine e_loc W₅ (v := .int (c : Int) tc) (hv := by kernel_rfl) ?_
  refine e_item (hl := w₅.lt) (v := v) (h0 := by omega) (hhi := by omega) (hx := hv) (hs := by kernel_rfl) ?_
  refine spliced_more (he := by kernel_rfl) ?_
  refine Subscript_ ?_
  refine e_loc W₅ (v := .ref a.lp) (hv := by kernel_rfl) ?_
  refine e_loc W₅ (v := .int (wh : Int) tw) (hv := by kernel_rfl) ?_
  refine e_item (hl := w₅.b.lp) (v := .ref (a.p wh)) (h0 := by omega) (hhi := by omega) (hx := place_at hwh) (hs := by kernel_rfl) ?_
  refine spliced_none ⟨X₅, ?_⟩
  obtain ⟨q1, q2, q3, q4⟩ := w₅.place (prog := prog) G hwh
  refine mkParse (s := ⟨h₅, gg, dd, _, os⟩) G (Fr.up W₅.F) (g := (gd.le (d' := 111 + 1) (u' := 34 + 3) (by omega) (by omega)).deeper W₅ rfl) q1 q3 q2 rfl ?_
  intro h₆ tk₆ e sv cv lv i1 i2 i3 er₆ k₆ fe
  have W₆ := W₅.call k₆
  have w₆ := w₅.kp k₆
  have fr₆ := w₅.fresh fe
  refine spliced_none ?_
  refine e_append (hl := w₆.lt) (hsz := by omega) ?_
  intro h₇ s₇ l₇
  have W₇ := W₆.listS (.inr (.inr (.inl rfl))) s₇ w₆.lt l₇
  have o := w₆.b.ord
  have lr₇ := w₆.lr.same s₇ (by show a.lr ≠ a.lt; omega)
  have lc₇ := w₆.b.lc.same s₇ (by show a.lc ≠ a.lt; omega)
  obtain ⟨v0, v1, v2, v3, lw, j0, j1, j2, j3⟩ := w₆.cell wh hwh
  have lw₇ := lw.same s₇ (w₆.b.c_lt hwh)
  have hcw := cell_at (a := a) hwh
  -- rows.append(..)
  refine wpAny_execs_cons ?_
  refine wpAny_Expr_any ?_
  refine CallM ?_
  refine e_loc W₇ (v := .ref a.lr) (hv := by kernel_rfl) ?_
  intro pl
  refine m_list (hl := lr₇) PySem.F.slot_list_append PySem.F.type_list_append ?_
  refine callB ?_
  refine spliced_more (he := by kernel_rfl) ?_
  refine Tuple_ ?_
  refine spliced_more (he := by kernel_rfl) ?_
  refine e_int ?_
  intro t4 _
  refine spliced_more (he := by kernel_rfl) ?_
  refine e_loc W₇ (v := .str wx t2) (hv := by kernel_rfl) ?_
  refine spliced_more (he := by kernel_rfl) ?_
  refine e_loc W₇ (v := .int (c : Int) tc) (hv := by kernel_rfl) ?_
  refine spliced_more (he := by kernel_rfl) ?_
  refine Tuple_ ?_
  refine spliced_more (he := by kernel_rfl) ?_
  refine Subscript_ ?_
  refine Subscript_ ?_
  refine e_loc W₇ (v := .ref a.lc) (hv := by kernel_rfl) ?_
  refine e_loc W₇ (v := .int (wh : Int) tw) (hv := by kernel_rfl) ?_
  refine e_item (hl := lc₇) (v := .ref (a.c wh)) (h0 := by omega) (hhi := by omega) (hx := hcw) (hs := by kernel_rfl) ?_
  refine e_int ?_
  intro _ _
  refine e_item (hl := lw₇) (v := v0) (h0 := by decide) (hhi := by decide) (hx := rfl) (hs := by kernel_rfl) ?_
  refine spliced_more (he := by kernel_rfl) ?_
  refine Subscript_ ?_
  refine Subscript_ ?_
  refine e_loc W₇ (v := .ref a.lc) (hv := by kernel_rfl) ?_
  refine e_loc W₇ (v := .int (wh : Int) tw) (hv := by kernel_rfl) ?_
  refine e_item (hl := lc₇) (v := .ref (a.c wh)) (h0 := by omega) (hhi := by omega) (hx := hcw) (hs := by kernel_rfl) ?_
  refine e_int ?_
  intro _ _
  refine e_item (hl := lw₇) (v := v1) (h0 := by decide) (hhi := by decide) (hx := rfl) (hs := by kernel_rfl) ?_
  refine spliced_more (he := by kernel_rfl) ?_
  refine Subscript_ ?_
  refine Subscript_ ?_
  refine e_loc W₇ (v := .ref a.lc) (hv := by kernel_rfl) ?_
  refine e_loc W₇ (v := .int (wh : Int) tw) (hv := by kernel_rfl) ?_
  refine e_item (hl := lc₇) (v := .ref (a.c wh)) (h0 := by omega) (hhi := by omega) (hx := hcw) (hs := by kernel_rfl) ?_
  refine e_int ?_
  intro _ _
  refine e_item (hl := lw₇) (v := v2) (h0 := by decide) (hhi := by decide) (hx := rfl) (hs := by kernel_rfl) ?_
  refine spliced_more (he := by kernel_rfl) ?_
  refine e_loc W₇ (v := .int (wh : Int) tw) (hv := by kernel_rfl) ?_
  refine spliced_none ?_
  refine k_tuple W₇ (hsz := by show 4 ≤ 100; decide) ?_
  intro T₈ h₈ t₈ W₈ k₈
  refine spliced_none ?_
  refine k_tuple W₈ (hsz := by show 4 ≤ 100; decide) ?_
  intro T₉ h₉ t₉ W₉ k₉
  refine spliced_none ?_
  have kk : ∀ b o, h₇.get? b = some o → h₉.get? b = some o := fun b o e => k₉ b o (k₈ b o e)
  have lr₉ : LsAt h₉ a.lr rs := let ⟨n, e⟩ := lr₇; ⟨n, kk _ _ e⟩
  refine e_append (hl := lr₉) (hsz := by omega) ?_
  intro h₁₀ s₁₀ l₁₀
  have W₁₀ := W₉.listS (.inr (.inr (.inr rfl))) s₁₀ lr₉ l₁₀
  have K := w₆.two s₇ kk s₁₀ l₇ lr₉
  have tr' : ∀ {T : Addr} {us : List Value}, TpAt h₉ T us → TpAt h₁₀ T us := fun {T us} t => by
    obtain ⟨n, q⟩ := t
    refine ⟨n, (s₁₀.2 T fun z => ?_).trans q⟩
    obtain ⟨n', q'⟩ := lr₉
    rw [z, q'] at q
    exact absurd (congrArg Obj.cls (Option.some.inj q)) fun z => absurd (Value.type.inj z) (by decide)
  have lt₁₀ : LsAt h₁₀ a.lt (vs ++ [.ref e]) := LsAt.same (let ⟨n, q⟩ := l₇; ⟨n, kk _ _ q⟩ : LsAt h₉ a.lt (vs ++ [.ref e])) s₁₀ (by show a.lt ≠ a.lr; omega)
  have Er : ErAt H h₁₀ a (vs ++ [.ref e]) (g ++ [⟨4, wx, c, some ⟨(cl wh).sys, (cl wh).line, (cl wh).col, wh⟩⟩]) g.length ⟨4, wx, c, some ⟨(cl wh).sys, (cl wh).line, (cl wh).col, wh⟩⟩ :=
    ⟨e, v, t2, app_last hnv, app_get hv, wl, wk, .inr ⟨_, _, sv, cv, lv, rfl, rfl, er₆.kl K, i1, i3, i2, (w₆.cok wh hwh).1, hwh, .inl rfl⟩⟩
  have t₈' : TpAt h₉ T₈ _ := let ⟨n, q⟩ := t₈; ⟨n, k₉ _ _ q⟩
  have Rr : RowAt h₁₀ (rs ++ [.ref T₉]) g.length ⟨4, wx, c, some ⟨(cl wh).sys, (cl wh).line, (cl wh).col, wh⟩⟩ :=
    ⟨T₉, t4, t2, tc, _, app_last hnr, tr' t₉, .inr ⟨_, T₈, v0, v1, v2, tw, rfl, rfl, tr' t₈', j0, j1, j2⟩⟩
  have w₁₀ := w₆.grow K lt₁₀ l₁₀ fr₆ Er Rr
  refine wpAny_execs_cons ?_
  refine wpAny_Return_some ?_
  refine e_true ?_
  exact h _ _ _ _ _ _ W₁₀.done w₁₀ ⟨by simp, by simp⟩ (fun _ => by simp)
set_option maxHeartbeats 4000000 in
theorem deed_4 {x : Int} {tx : Tok} {Q : Value → Shared → Prop} (hx : x.fmod 6 = 4) (G : Gr w H) (U : Up H hh) (wd : Wd H hh a cl vs rs g) (hn : g.length ≤ 40) (gd : Gd H A hh 600 600) (hA : A.handled = none)
    (h : ∀ h' tk' cl' vs' rs' g', Kp H (Dx a) hh h' → Wd H h' a cl' vs' rs' g' → g.length ≤ g'.length ∧ g'.length ≤ g.length + 1 → (4 = 2 → g'.length = g.length + 1) → Q (.bool true) ⟨h', gg, dd, tk', os⟩) :
    wpAny (model prog w) A (call (.ref 265) [.int x tx, .ref a.lc, .ref a.lp, .ref a.lt, .ref a.lr]) Q E ⟨hh, gg, dd, tt, os⟩ := by
  have hd := gd.depth
  have hnv := wd.nv
  have hnr := wd.nr
  refine' enterE [("x", .int x tx), ("cells", .ref a.lc), ("places", .ref a.lp), ("things", .ref a.lt), ("rows", .ref a.lr)] G U (Dx a) wd.sx ?k6 ?kr ?k7 ?k9 ?kB ?c2 ?c3 ?c4 ?c5 ?_
  ktr_unf
  (case kr => omega)
  intro L h₁ tk₁ hL hk₁ W
  have w₁ := wd.kf (Kf.of hk₁)
  refine wpAny_execs_cons ?_
  refine Assign_Tuple_swapped (names := ["kind", "rest"]) (hs := by kernel_rfl) (hw := by kernel_rfl) ?_
  refine Tuple_ ?_
  refine spliced_more (he := by kernel_rfl) ?_
  refine wpAny_BinOp ?_
  refine e_loc W (v := .int x tx) (hv := by kernel_rfl) ?_
  refine e_int ?_
  intro _ _
  refine e_mod (hb := by decide) ?_
  intro tkd _
  refine spliced_more (he := by kernel_rfl) ?_
  refine wpAny_BinOp ?_
  refine e_loc W (v := .int x tx) (hv := by kernel_rfl) ?_
  refine e_int ?_
  intro _ _
  refine e_div (hb := by decide) (hs := by decide) ?_
  intro tr _
  refine spliced_none ?_
  refine f_pair (n1 := "kind") (n2 := "rest") (v1 := .int (x.fmod 6) tkd) (v2 := .int (x.fdiv 6) tr) (hvs := rfl) (hA := hA) W ?_ rfl (by kernel_rfl) (by kernel_rfl)
  intro h₂ tk₂ W₂ k₂
  have w₂ := w₁.kf k₂
  refine wpAny_execs_cons ?_
  refine wpAny_If ?_
  refine wpAny_isTrue_Compare1 (hm := by kernel_rfl) ?_
  refine e_loc W₂ (v := .int (x.fmod 6) tkd) (hv := by kernel_rfl) ?_
  refine e_int ?_
  intro _ _
  refine e_eqi ?_
  refine e_truthb ?_
  refine e_ifF (hb := by rw [hx]; decide) ?_
  refine wpAny_execs_nil ?_
  refine wpAny_execs_cons ?_
  refine wpAny_If ?_
  refine wpAny_isTrue_Compare1 (hm := by kernel_rfl) ?_
  refine e_loc W₂ (v := .int (x.fmod 6) tkd) (hv := by kernel_rfl) ?_
  refine e_int ?_
  intro _ _
  refine e_eqi ?_
  refine e_truthb ?_
  refine e_ifF (hb := by rw [hx]; decide) ?_
  refine wpAny_execs_nil ?_
  refine wpAny_execs_cons ?_
  refine wpAny_If ?_
  refine wpAny_isTrue_Compare1 (hm := by kernel_rfl) ?_
  refine e_loc W₂ (v := .int (x.fmod 6) tkd) (hv := by kernel_rfl) ?_
  refine e_int ?_
  intro _ _
  refine e_eqi ?_
  refine e_truthb ?_
  refine e_ifF (hb := by rw [hx]; decide) ?_
  refine wpAny_execs_nil ?_
  -- cause, rest
  refine wpAny_execs_cons ?_
  refine Assign_Tuple_swapped (names := ["cause", "rest"]) (hs := by kernel_rfl) (hw := by kernel_rfl) ?_
  refine Tuple_ ?_
  refine spliced_more (he := by kernel_rfl) ?_
  refine wpAny_BinOp ?_
  refine e_loc W₂ (v := .int (x.fdiv 6) tr) (hv := by kernel_rfl) ?_
  refine Call_ ?_
  refine e_bi G W₂ (v := .builtin "len") (e := by kernel_rfl) (hv := by kernel_rfl) (hn := by decide) ?_
  refine callB ?_
  refine spliced_more (he := by kernel_rfl) ?_
  refine e_loc W₂ (v := .ref a.lt) (hv := by kernel_rfl) ?_
  refine spliced_none ?_
  refine e_len w₂.lt (hsz := by omega) ?_
  intro _ _
  refine e_mod (hb := by omega) ?_
  intro tc _
  refine spliced_more (he := by kernel_rfl) ?_
  refine wpAny_BinOp ?_
  refine e_loc W₂ (v := .int (x.fdiv 6) tr) (hv := by kernel_rfl) ?_
  refine Call_ ?_
  refine e_bi G W₂ (v := .builtin "len") (e := by kernel_rfl) (hv := by kernel_rfl) (hn := by decide) ?_
  refine callB ?_
  refine spliced_more (he := by kernel_rfl) ?_
  refine e_loc W₂ (v := .ref a.lt) (hv := by kernel_rfl) ?_
  refine spliced_none ?_
  refine e_len w₂.lt (hsz := by omega) ?_
  intro _ _
  refine e_div (hb := by omega) (hs := by omega) ?_
  intro tr2 _
  refine spliced_none ?_
  have fc := fmods (x.fdiv 6) (b := (vs.length : Int)) (by omega)
  obtain ⟨c, hc, ec⟩ : ∃ c : Nat, c < vs.length ∧ (x.fdiv 6).fmod (vs.length : Int) = (c : Int) := ⟨((x.fdiv 6).fmod (vs.length : Int)).toNat, by omega, by omega⟩
  refine f_pair (n1 := "cause") (n2 := "rest") (v1 := .int (c : Int) tc) (v2 := .int ((x.fdiv 6).fdiv (vs.length : Int)) tr2) (hvs := by rw [ec]) (hA := hA) W₂ ?_ rfl (by kernel_rfl) (by kernel_rfl)
  intro h₃ tk₃ W₃ k₃
  have w₃ := w₂.kf k₃
  obtain ⟨R, hR⟩ : ∃ R, R = (x.fdiv 6).fdiv (vs.length : Int) := ⟨_, rfl⟩
  rw [← hR] at W₃
  obtain ⟨v, hv⟩ : ∃ v, vs[c]? = some v := ⟨vs[c], List.getElem?_eq_getElem hc⟩
  have hvT := w₃.th v (List.mem_of_getElem? hv)
  refine wpAny_execs_cons ?_
  refine wpAny_If ?_
  refine wpAny_isTrue_Compare1 (hm := by kernel_rfl) ?_
  refine e_loc W₃ (v := .int (x.fmod 6) tkd) (hv := by kernel_rfl) ?_
  refine e_int ?_
  intro _ _
  refine e_eqi ?_
  refine e_truthb ?_
  refine e_ifF (hb := by rw [hx]; decide) ?_
  refine wpAny_execs_nil ?_
  refine wpAny_execs_cons ?_
  refine wpAny_If ?_
  refine wpAny_isTrue_Compare1 (hm := by kernel_rfl) ?_
  refine e_loc W₃ (v := .int (x.fmod 6) tkd) (hv := by kernel_rfl) ?_
  refine e_int ?_
  intro _ _
  refine e_eqi ?_
  refine e_truthb ?_
  refine e_ifT (hb := by rw [hx]; decide) ?_
  -- other, words
  refine wpAny_execs_cons ?_
  refine Assign_Tuple_swapped (names := ["other", "words"]) (hs := by kernel_rfl) (hw := by kernel_rfl) ?_
  refine Tuple_ ?_
  refine spliced_more (he := by kernel_rfl) ?_
  refine wpAny_BinOp ?_
  refine e_loc W₃ (v := .int R tr2) (hv := by kernel_rfl) ?_
  refine e_int ?_
  intro _ _
  refine e_mod (hb := by decide) ?_
  intro tw _
  refine spliced_more (he := by kernel_rfl) ?_
  have X₃ := G.X.keeps W₃.F.keep
  refine Call_ ?_
  refine e_gl G W₃ (v := .ref 209) (e := by kernel_rfl) ?_
  refine callWith_K X₃ (by kernel_rfl) ?_
  refine spliced_more (he := by kernel_rfl) ?_
  refine wpAny_BinOp ?_
  refine e_loc W₃ (v := .int R tr2) (hv := by kernel_rfl) ?_
  refine e_int ?_
  intro _ _
  refine e_div (hb := by decide) (hs := by decide) ?_
  intro _ _
  refine spliced_none ⟨X₃, ?_⟩
  refine words209 G (Fr.up W₃.F) (hd := by show A.depth + 1 < 900; omega) ?_
  intro h₄ tk₄ t2 k₄
  have W₄ := W₃.call k₄
  have w₄ := w₃.kp k₄
  refine spliced_none ?_
  have fw := fmods R (b := 4) (by decide)
  obtain ⟨wh, hwh, ewh⟩ : ∃ wh : Nat, wh < 4 ∧ R.fmod 4 = (wh : Int) := ⟨(R.fmod 4).toNat, by omega, by omega⟩
  refine f_pair (n1 := "other") (n2 := "words") (v1 := .int (wh : Int) tw) (v2 := .str (wordsOf (R.fdiv 4)) t2) (hvs := by rw [ewh]) (hA := hA) W₄ ?_ rfl (by kernel_rfl) (by kernel_rfl)
  intro h₅ tk₅ W₅ k₅
  have w₅ := w₄.kf k₅
  have X₅ := G.X.keeps W₅.F.keep
  obtain ⟨wx, hwx⟩ : ∃ wx, wx = wordsOf (R.fdiv 4) := ⟨_, rfl⟩
  have wl : wx.length ≤ 100 := by rw [hwx]; have := words_len (R.fdiv 4); omega
  have wk : PyData.strOk wx = true := by rw [hwx]; exact words_ok _
  rw [← hwx] at W₅
  -- things.append(_law_made(..))
  refine wpAny_execs_cons ?_
  refine wpAny_Expr_any ?_
  refine CallM ?_
  refine e_loc W₅ (v := .ref a.lt) (hv := by kernel_rfl) ?_
  intro pl
  refine m_list (hl := w₅.lt) PySem.F.slot_list_append PySem.F.type_list_append ?_
  refine callB ?_
  refine spliced_more (he := by kernel_rfl) ?_
  refine Call_ ?_
  refine e_gl G W₅ (v := .ref 216) (e := by kernel_rfl) ?_
  refine callWith_K X₅ (by kernel_rfl) ?_
  refine spliced_more (he := by kernel_rfl) ?_
  refine e_loc W₅ (v := .int (wh : Int) tw) (hv := by kernel_rfl) ?_
  refine spliced_more (he := by kernel_rfl) ?_
  refine e_loc W₅ (v := .str wx t2) (hv := by kernel_rfl) ?_
  refine spliced_more (he := by kernel_rfl) ?_
  refine Subscript_ ?_
  refine e_loc W₅ (v := .ref a.lt) (hv := by kernel_rfl) ?_
  refine e_loc W₅ (v := .int (c : Int) tc) (hv := by kernel_rfl) ?_
  refine e_item (hl := w₅.lt) (v := v) (h0 := by omega) (hhi := by omega) (hx := hv) (hs := by kernel_rfl) ?_
  refine spliced_none ⟨X₅, ?_⟩
  have hpl : plainIs v .none = true := by rcases hvT with rfl | ⟨y, _, rfl, _⟩ <;> rfl
  refine made216 (hp := hpl) (hk := hwh) G (Fr.up W₅.F) (hd := by show A.depth + 1 < 800; omega) ?_
  intro h₆ tk₆ e k₆ er₆ fe
  have W₆ := W₅.call k₆
  have w₆ := w₅.kp k₆
  have fr₆ := w₅.fresh fe
  refine spliced_none ?_
  refine e_append (hl := w₆.lt) (hsz := by omega) ?_
  intro h₇ s₇ l₇
  have W₇ := W₆.listS (.inr (.inr (.inl rfl))) s₇ w₆.lt l₇
  have o := w₆.b.ord
  have lr₇ := w₆.lr.same s₇ (by show a.lr ≠ a.lt; omega)
  -- rows.append(..)
  refine wpAny_execs_cons ?_
  refine wpAny_Expr_any ?_
  refine CallM ?_
  refine e_loc W₇ (v := .ref a.lr) (hv := by kernel_rfl) ?_
  intro pl
  refine m_list (hl := lr₇) PySem.F.slot_list_append PySem.F.type_list_append ?_
  refine callB ?_
  refine spliced_more (he := by kernel_rfl) ?_
  refine Tuple_ ?_
  refine spliced_more (he := by kernel_rfl) ?_
  refine e_loc W₇ (v := .int (wh : Int) tw) (hv := by kernel_rfl) ?_
  refine spliced_more (he := by kernel_rfl) ?_
  refine e_loc W₇ (v := .str wx t2) (hv := by kernel_rfl) ?_
  refine spliced_more (he := by kernel_rfl) ?_
  refine e_loc W₇ (v := .int (c : Int) tc) (hv := by kernel_rfl) ?_
  refine spliced_more (he := by kernel_rfl) ?_
  refine e_none ?_
  refine spliced_none ?_
  refine k_tuple W₇ (hsz := by show 4 ≤ 100; decide) ?_
  intro T₉ h₉ t₉ W₉ kk
  refine spliced_none ?_
  have lr₉ : LsAt h₉ a.lr rs := let ⟨n, e⟩ := lr₇; ⟨n, kk _ _ e⟩
  refine e_append (hl := lr₉) (hsz := by omega) ?_
  intro h₁₀ s₁₀ l₁₀
  have W₁₀ := W₉.listS (.inr (.inr (.inr rfl))) s₁₀ lr₉ l₁₀
  have K := w₆.two s₇ kk s₁₀ l₇ lr₉
  have tr' : ∀ {T : Addr} {us : List Value}, TpAt h₉ T us → TpAt h₁₀ T us := fun {T us} t => by
    obtain ⟨n, q⟩ := t
    refine ⟨n, (s₁₀.2 T fun z => ?_).trans q⟩
    obtain ⟨n', q'⟩ := lr₉
    rw [z, q'] at q
    exact absurd (congrArg Obj.cls (Option.some.inj q)) fun z => absurd (Value.type.inj z) (by decide)
  have lt₁₀ : LsAt h₁₀ a.lt (vs ++ [.ref e]) := LsAt.same (let ⟨n, q⟩ := l₇; ⟨n, kk _ _ q⟩ : LsAt h₉ a.lt (vs ++ [.ref e])) s₁₀ (by show a.lt ≠ a.lr; omega)
  have Er : ErAt H h₁₀ a (vs ++ [.ref e]) (g ++ [⟨wh, wx, c, none⟩]) g.length ⟨wh, wx, c, none⟩ :=
    ⟨e, v, t2, app_last hnv, app_get hv, wl, wk, .inl ⟨hwh, rfl, er₆.kl K⟩⟩
  have Rr : RowAt h₁₀ (rs ++ [.ref T₉]) g.length ⟨wh, wx, c, none⟩ :=
    ⟨T₉, tw, t2, tc, _, app_last hnr, tr' t₉, .inl ⟨rfl, rfl⟩⟩
  have w₁₀ := w₆.grow K lt₁₀ l₁₀ fr₆ Er Rr
  refine wpAny_execs_cons ?_
  refine wpAny_Return_some ?_
  refine e_true ?_
  exact h _ _ _ _ _ _ W₁₀.done w₁₀ ⟨by simp, by simp⟩ (fun _ => by simp)
end
end Mine
end
section
open PySem PySem.W PyProof.Rows PySem.Calls
open PySem.Builtin PySem.Builtin.ObjectAttr PySem.Builtin.BaseException
set_option Elab.async false
set_option linter.unusedVariables false
set_option maxRecDepth 100000
namespace Mine
local macro_rules | `(tactic| ktr_unf) => `(tactic| ((case k6 => rfl); (case k7 => kernel_rfl); (case k9 => intro S; kernel_rfl); (case c5 => kernel_rfl); (case kB => kernel_rfl); (case c2 => exact rfl); (case c3 => exact rfl); (case c4 => exact rfl)))
theorem Fr.kp0 {H h h' : Heap} {L : Addr} {m : Str → Option Value} {S : Addr → Prop} (F : Fr H L h m) (k : Kp H S h h') (hL : ¬ S L) (hS : ∀ b o, H.get? b = some o → ¬ S b) : Fr H L h' m :=
  ⟨k.ns F.ns hL, fun b o e => k.low (F.keep b o e) (Heap.lt_size e) (hS b o e), F.above⟩
/-- a thing of ours turns that the ground does not hold -/
theorem St.turn0 {H h₀ h h' : Heap} {S : Addr → Prop} {L x : Addr} {m : Str → Option Value} {objs : List (Addr × Obj)} (W : St H S h₀ L h m objs) (k : Kp H (· = x) h h') (h0 : h₀.get? x = none) (hH : H.get? x = none) (hS : ¬ S x)
    (hT : ∀ o, h.get? x = some o → o.cls ≠ .type "traceback" ∧ o.cls ≠ .type "frame") : St H S h₀ L h' m [] := by
  have hL : ¬ L = x := fun z => by
    obtain ⟨o, e, c⟩ := W.fr
    exact (hT o (z ▸ e)).2 c
  refine ⟨Fr.kp0 W.F k hL (fun b o e q => by rw [q, hH] at e; cases e), ?_, W.out, ?_, fun b q => ?_, W.s0, fun p hp => nomatch hp⟩
  · have a : Kp H (fun b => (b = L ∨ S b) ∨ b = x) h₀ h := W.k.mono fun b o e q => .inl q
    have b : Kp H (fun b => (b = L ∨ S b) ∨ b = x) h h' := k.mono fun b o e q => .inr q
    refine (a.trans b fun b o e q => ?_).mono fun b o e q => ?_
    · rcases q with q | q
      · exact W.notTb b o e q
      · exact (hT o (q ▸ e)).1
    · rcases q with q | q
      · exact q
      · rw [q, h0] at e; cases e
  · obtain ⟨o, e, c⟩ := W.fr
    obtain ⟨sl, y⟩ := (k.at_ L o e hL).frame c
    exact ⟨_, y, c⟩
  · obtain ⟨z, o, e, c1, c2⟩ := W.sx b q
    obtain ⟨o', e', c'⟩ := (k.at_ b o e fun y => hS (y ▸ q)).cls
    exact ⟨z, o', e', c' ▸ c1, c' ▸ c2⟩
/-- an AttributeError, whatever it holds -/
abbrev aeV (t tb a b : Value) : Obj := { cls := .type "AttributeError", data := .fields #[t, tb, .none, .none, .bool false, .none, a, b] }
theorem cls_name (w : World) (k : Nat) : ∃ cd, clsIn (KF w) (clsOf k) = some cd ∧ cd.name.cps.foldl (fun k c => k + (Str.utf8Of c).length) 0 ≤ 100 ∧ cd.name.toString.length ≤ 50 :=
  clsOf_cases k (fun C => ∃ cd, clsIn (KF w) C = some cd ∧ cd.name.cps.foldl (fun k c => k + (Str.utf8Of c).length) 0 ≤ 100 ∧ cd.name.toString.length ≤ 50)
    ⟨_, rfl, by decide +kernel, by decide +kernel⟩ ⟨_, rfl, by decide +kernel, by decide +kernel⟩ ⟨_, rfl, by decide +kernel, by decide +kernel⟩ ⟨_, rfl, by decide +kernel, by decide +kernel⟩ ⟨_, rfl, by decide +kernel, by decide +kernel⟩
section
variable {prog : Program} {w : World} {A : Around} {E : Value → Shared → Prop} {s : Shared} {e : Addr} {ox : Obj}
theorem cut_exc {k : Nat} {Q : String → Shared → Prop} (X : (KF w).In s.heap) (I : Ins s.heap e ox (clsOf k)) (h : ∀ n : String, n.length ≤ 50 → Q n s) : wpAny (model prog w) A (typeNameOfCut 100 (.ref e)) Q E s := by
  obtain ⟨cd, h1, h2, h3⟩ := cls_name w k
  have L := looks_clsIn (M := model prog w) X h1
  obtain ⟨hh, gg, dd, tt, os⟩ := s
  unfold typeNameOfCut shownTypeOf
  refine wpAny_bind (wpAny_bind (I.type.at ?_))
  rw [if_neg (by simp)]
  refine wpAny_pure ?_
  unfold typeNameCut
  refine wpAny_bind (L.at ?_)
  simp only [h2, if_true]
  exact wpAny_pure (h _ h3)
theorem no_such {α : Type} {k : Nat} {name : Str} {Q : α → Shared → Prop} (X : (KF w).In s.heap) (I : Ins s.heap e ox (clsOf k)) (hA : A.handled = none) (hn : name.length ≤ 100)
    (h : ∀ h' tk x, Heap.NewAttrErr s.heap h' x (.ref e) name → E (.ref x) { s with heap := h', toks := tk }) : wpAny (model prog w) A (noSuchAttribute (.ref e) name : Sem α) Q E s := by
  unfold noSuchAttribute
  refine wpAny_bind (cut_exc X I ?_)
  intro n hl
  refine wpAny_raiseAttrError hA h (attrMsg_fits ?_ ?_)
  · have e1 : ("'" : String).length = 1 := by decide
    have e2 : ("' object has no attribute '" : String).length = 27 := by decide
    simp only [String.length_append, toString]
    omega
  · rw [sizeLine_eq]; omega
/-- an attribute that an exception lacks -/
theorem meth_miss {k : Nat} {d : Addr} {m : Str → Option Value} {name : Str} {pl : Sem Bool} {Q : Value × List Value → Shared → Prop} (X : (KF w).In s.heap) (I : Ins s.heap e ox (clsOf k)) (od : ox.dict = some d) (hn : s.heap.Ns d m)
    (hf : findIn (KF w) (.ref (clsOf k)) name = some none) (hs : m name = none) (hA : A.handled = none) (hsz : name.length ≤ 100) (hnm : (["__module__", "__name__", "__qualname__", "__doc__", "__annotations__"] : List Str).contains name = false)
    (h : ∀ h' tk x, Heap.NewAttrErr s.heap h' x (.ref e) name → E (.ref x) { s with heap := h', toks := tk }) :
    wpAny (model prog w) A (getMethod (.ref e) name pl) Q E s := by
  have Y := exC w k
  have hcan : (Manifest.canonical "BaseException.__getattribute__" != "object.__getattribute__") = false := by decide +kernel
  obtain ⟨cd, hcd, hhd, -⟩ := Y.cls
  have L3 : Looks (model prog w) s.heap (find (.ref e) (.ref (clsOf k)) name) .missing :=
    (looks_findIn X hf).andThen (Looks.now.andThen (Looks.now.andThen ((I.own X hcd hhd od hn (name := name)).andThen (by
      rw [hs]
      refine Looks.andThen (a := ()) ?_ (Looks.tag .now)
      unfold copiedAttributeGuard
      dsimp only
      rw [if_neg (by rw [hnm]; decide)]
      exact Looks.now))))
  unfold getMethod specialOf
  refine wpAny_bind (wpAny_bind (I.type.here ((looks_findIn X Y.ga).here ?_)))
  dsimp only
  rw [hcan, if_neg (by decide)]
  refine wpAny_bind (wpAny_bind (I.type.here ((looks_findIn X Y.gh).here ?_)))
  refine wpAny_bind (wpAny_bind (I.type.here ((looks_findIn X hf).here ?_)))
  dsimp only
  refine wpAny_bind (get_exc0 X Y I L3 ?_)
  dsimp only
  refine no_such (s := { s with toks := s.toks + 1 }) X I hA hsz ?_
  intro h' tk x nx
  obtain ⟨t, u, ex⟩ := nx.there
  have ty : Looks (model prog w) h' (typeOf (.ref x)) (.type "AttributeError") := (Looks.ld (part := none) ex).andThen .now
  have isA : Looks (model prog w) h' (isInstance (.ref x) (.type "AttributeError")) true := ty.andThen (Looks.of_pure ae_self)
  obtain ⟨hh, gg, dd, tt, os⟩ := s
  unfold getattributeRaised
  refine wpAny_bind (isA.at ?_)
  rw [if_pos rfl]
  unfold hookBehind
  refine wpAny_bind (wpAny_pure ?_)
  unfold hookOrError attributeErrorLeaves
  dsimp only
  simp only [Bool.not_true, Bool.false_eq_true, if_false]
  unfold noteAttr lacksNameAndObj
  refine wpAny_bind (wpAny_bind (wpAny_bind (isA.at ?_)))
  simp only [Bool.not_true, Bool.false_eq_true, if_false]
  refine wpAny_bind (wpAny_load ex ?_)
  dsimp only
  refine wpAny_pure ?_
  first
    | exact wpAny_pure (wpAny_throw (h h' tk x nx))
    | exact wpAny_bind (wpAny_pure (wpAny_throw (h h' tk x nx)))
end
section
variable {prog : Program} {w : World} {A : Around} {E : Value → Shared → Prop} {hh : Heap} {gg : Array GenState} {dd : Drawn} {tt : Nat} {os : OsState} {H : Heap} {e : Addr}
theorem no_sys (w : World) {k : Nat} (hk : k < 4) : findIn (KF w) (.ref (clsOf k)) "getSystemId" = some none := by
  match k, hk with
  | 0, _ => kernel_rfl
  | 1, _ => kernel_rfl
  | 2, _ => kernel_rfl
  | 3, _ => kernel_rfl
theorem NewAttrErr.kp {h h' : Heap} {x : Addr} {o : Value} {name : Str} (n : Heap.NewAttrErr h h' x o name) : KpN H h h' := .of_keeps n.keeps
set_option maxHeartbeats 2000000 in
/-- SAXParseException.__init__ (77), the locator an error of another kind -/
theorem init77F {hp : Heap} {t q : Addr} {k : Nat} {mq : Str → Option Value} {msg exc : Value} {Q : Value → Shared → Prop} (hk : k < 4) (G : Gr w H) (U : Up H hh) (g : Gd H A hh 110 110) (hA : A.handled = none)
    (hx : hh.get? e = some (excO 115 none t .none)) (he : H.objs.size ≤ e) (kp : KpN H hp hh) (hpe : hp.get? e = none)
    (xq : ErrAt H hp q k mq) (hq : mq "getSystemId" = none)
    (h : ∀ h' tk x t tb a b, Kp H (· = e) hh h' → hh.get? x = none → H.get? x = none → h'.get? x = some (aeV t tb a b) → TbOk h' tb → E (.ref x) ⟨h', gg, dd, tk, os⟩) :
    wpAny (model prog w) A (call (.ref 77) [.ref e, msg, exc, .ref q]) Q E ⟨hh, gg, dd, tt, os⟩ := by
  have hd := g.depth
  refine' enterR [("self", .ref e), ("msg", msg), ("exception", exc), ("locator", .ref q)] G U (· = e) (fun b q => q ▸ ⟨he, _, hx, (by intro q; cases q), (by intro q; cases q)⟩) ?k6 ?kr ?k7 ?k9 ?kB ?c2 ?c3 ?c4 ?c5 ?_
  ktr_unf
  (case kr => omega)
  intro L h₁ tk₁ hL hk₁ W
  have X₁ := G.X.keeps W.F.keep
  have hx₁ := hk₁ e _ hx
  have nt : ∀ o, hh.get? e = some o → o.cls ≠ .type "traceback" := fun o ho => by rw [hx] at ho; cases ho; intro z; cases z
  refine wpAny_execs_cons ?_
  refine wpAny_Expr_any ?_
  refine CallM ?_
  refine e_gl G W (v := .ref 60) (e := by kernel_rfl) ?_
  intro pl
  refine meth_init60 X₁ ?_
  refine callWith_K X₁ (by kernel_rfl) ?_
  refine spliced_more (he := by kernel_rfl) ?_
  refine e_loc W (v := .ref e) (hv := by kernel_rfl) ?_
  refine spliced_more (he := by kernel_rfl) ?_
  refine e_loc W (v := msg) (hv := by kernel_rfl) ?_
  refine spliced_more (he := by kernel_rfl) ?_
  refine e_loc W (v := exc) (hv := by kernel_rfl) ?_
  refine spliced_none ⟨X₁, ?_⟩
  refine init29 (msg := msg) (exc := exc) (e := e) (fun _ _ _ _ q S => by cases q; kernel_rfl) G (Fr.up W.F) (exC w 4) (no_msg w 4) (no_exception w 4) hx₁ he (by show A.depth + 1 < 900; omega) ?_
  intro h₂ tk₂ d₂ t₂ D₂ hx₂ hd₂ dH k₂
  have W₂ : St H (· = e) hh L h₂ _ [] := W.turn (objs' := []) k₂ (fun b q o eb => by subst q; rw [hx₁] at eb; cases eb; exact ⟨_, hx₂, rfl⟩) (fun _ hp => nomatch hp)
  have d0 : hh.get? d₂ = none := by
    cases q : hh.get? d₂ with
    | none => rfl
    | some o => have := hk₁ d₂ o q; rw [hd₂] at this; cases this
  have N₂ : ErrNew H hh h₂ e 4 2 (m2 msg exc) := ⟨d₂, t₂, .none, hx₂, D₂, .inl rfl, he, dH, d0⟩
  refine wpAny_execs_cons ?_
  refine plainObj_wpAny_Assign_Attribute ?_
  refine e_loc W₂ (v := .ref q) (hv := by kernel_rfl) ?_
  refine e_loc W₂ (v := .ref e) (hv := by kernel_rfl) ?_
  refine set_new G W₂ N₂ (no_locator w 4) (by decide) ?_
  intro h₃ tk₃ W₃ N₃
  refine wpAny_execs_cons ?_
  refine plainObj_wpAny_Assign_Attribute ?_
  refine CallM ?_
  refine Attribute_Name_ ?_
  refine e_loc W₃ (v := .ref e) (hv := by kernel_rfl) ?_
  refine get_new G W₃ N₃ (no_locator w 4) (v := .ref q) (by kernel_rfl) rfl ?_
  intro pl
  have kq : KpN H hp h₃ := pre_kp kp W₃.done hpe nt
  obtain ⟨dq, tq, tbq, y1, y2, y3, y4, y5⟩ := xq.kp kq
  refine meth_miss (G.X.keeps W₃.F.keep) (k := k) ⟨y1, rfl, rfl⟩ rfl y2.1 (no_sys w hk) hq (hA := hA) (by decide +kernel) (by decide +kernel) ?_
  intro h₄ tk₄ x nx
  obtain ⟨tx, ux, ex⟩ := nx.there
  have W₄ := W₃.call (.of_keeps nx.keeps)
  have f3 : hh.get? x = none := by
    cases q : hh.get? x with
    | none => rfl
    | some o =>
      exfalso
      by_cases z : x = L ∨ x = e
      · rcases z with z | z
        · have := W.out; rw [← z, q] at this; cases this
        · obtain ⟨d', t', tb', n1, _⟩ := N₃
          have := nx.new; rw [z, n1] at this; cases this
      · obtain ⟨o', e', _⟩ := (W₃.k.at_ x o q z).cls
        have := nx.new; rw [e'] at this; cases this
  have fH : H.get? x = none := by
    cases q : H.get? x with
    | none => rfl
    | some o => have := nx.new; rw [W₃.F.keep _ _ q] at this; cases this
  have xe : ¬ x = e := fun z => by
    obtain ⟨d', t', tb', n1, _⟩ := N₃
    have := nx.new; rw [z, n1] at this; cases this
  refine note_St g W₄ rfl ex (hec := fun z => absurd (Value.type.inj z) (by decide)) rfl rfl (.inl rfl) ?_
  intro h₅ T hx₅ hT₅ k₅
  have W₅ := W₄.turn0 k₅ f3 fH xe (fun o q => by rw [ex] at q; cases q; exact ⟨fun z => absurd (Value.type.inj z) (by decide), fun z => absurd (Value.type.inj z) (by decide)⟩)
  exact h _ _ x _ _ _ _ W₅.done f3 fH hx₅ hT₅
theorem mkParseF {q : Addr} {k : Nat} {mq : Str → Option Value} {msg exc : Value} {Q : Value → Shared → Prop} (hk : k < 4) (G : Gr w H) (U : Up H hh) (g : Gd H A hh 120 120) (hA : A.handled = none) (xq : ErrAt H hh q k mq) (hq : mq "getSystemId" = none)
    (h : ∀ h' tk x t tb a b, KpN H hh h' → hh.get? x = none → H.get? x = none → h'.get? x = some (aeV t tb a b) → TbOk h' tb → E (.ref x) ⟨h', gg, dd, tk, os⟩) :
    wpAny (model prog w) A (call (.ref 115) [msg, exc, .ref q]) Q E ⟨hh, gg, dd, tt, os⟩ := by
  refine ctor (k := 4) (s := ⟨hh, gg, dd, tt, os⟩) (G.X.keeps U.keep) (fI := 77) (by kernel_rfl) (by kernel_rfl) (by decide : 3 ≤ 1000) ?_
  intro h₁ e t k₁ he₀ hes hx
  have kk : KpN H hh h₁ := .of_keeps k₁
  have U₁ : Up H h₁ := ⟨fun b o q => k₁ b o (U.keep b o q), Nat.le_trans (Nat.le_trans U.size hes) (Nat.le_of_lt (Heap.lt_size hx))⟩
  refine init77F hk G U₁ (g := ((g.le (d' := 111) (u' := 114) (by omega) (by omega)).kp0 kk).make) (hA := hA) hx (Nat.le_trans U.size hes) kk he₀ xq hq ?_
  intro h' tk x t' tb a b k' hx0 hH ex hT
  refine h h' tk x t' tb a b (pre_kp kk k' he₀ fun o ho => by rw [hx] at ho; cases ho; intro z; cases z) ?_ hH ex hT
  cases q : hh.get? x with
  | none => rfl
  | some o => rw [k₁ _ _ q] at hx0; cases hx0
end
end Mine
end
section
open PySem PySem.W PyProof.Rows PySem.Calls
open PySem.Builtin PySem.Builtin.ObjectAttr PySem.Builtin.BaseException
set_option Elab.async false
set_option linter.unusedVariables false
set_option maxRecDepth 100000
namespace Mine
local macro_rules | `(tactic| ktr_unf) => `(tactic| ((case k6 => rfl); (case k7 => kernel_rfl); (case k9 => intro S; kernel_rfl); (case c5 => kernel_rfl); (case kB => kernel_rfl); (case c2 => exact rfl); (case c3 => exact rfl); (case c4 => exact rfl)))
theorem St.fresh1 {H h₀ h : Heap} {S : Addr → Prop} {L x : Addr} {m : Str → Option Value} {objs : List (Addr × Obj)} (W : St H S h₀ L h m objs) (f : h.get? x = none) : h₀.get? x = none ∧ ¬ S x := by
  have nS : ¬ S x := fun z => by
    obtain ⟨_, o, e, _⟩ := W.sx x z
    rw [f] at e; cases e
  refine ⟨?_, nS⟩
  cases q : h₀.get? x with
  | none => rfl
  | some o =>
    by_cases z : x = L ∨ S x
    · rcases z with z | z
      · have := W.out; rw [← z, q] at this; cases this
      · exact absurd z nS
    · obtain ⟨o', e', _⟩ := (W.k.at_ x o q z).cls
      rw [f] at e'; cases e'
section
variable {prog : Program} {w : World} {A : Around} {E : Value → Shared → Prop} {hh : Heap} {gg : Array GenState} {dd : Drawn} {tt : Nat} {os : OsState} {H : Heap} {a : Ad} {cl : Nat → Cl} {vs rs : List Value} {g : List Rw}
theorem e_titem {value slice : Expr} {t : Addr} {us : List Value} {k : Int} {u : Tok} {v : Value} {Q : Value → Shared → Prop}
    (ht : TpAt hh t us) (h0 : 0 ≤ k) (hhi : k < 1000) (hj : seqIndex? k us.length = some k.toNat) (hx : us[k.toNat]? = some v) (hs : subscripted slice false (.ref t) (.int k u) = operate [.ref t, .int k u] (getItem (.ref t) (.int k u))) (h : Q v ⟨hh, gg, dd, tt, os⟩) :
    wpAny (model prog w) A (subscriptTail value slice (.ref t) (.int k u)) Q E ⟨hh, gg, dd, tt, os⟩ := item_tupleT (s := ⟨hh, gg, dd, tt, os⟩) ht.is (by omega) (by omega) hj hx h hs
set_option maxHeartbeats 4000000 in
theorem deed_3 {x : Int} {tx : Tok} {Q : Value → Shared → Prop} (hx : x.fmod 6 = 3) (G : Gr w H) (U : Up H hh) (wd : Wd H hh a cl vs rs g) (hn : g.length ≤ 40) (hg : 1 ≤ g.length) (gd : Gd H A hh 600 600) (hA : A.handled = none)
    (h : ∀ h' tk' cl' vs' rs' g', Kp H (Dx a) hh h' → Wd H h' a cl' vs' rs' g' → g.length ≤ g'.length ∧ g'.length ≤ g.length + 1 → (3 = 2 → g'.length = g.length + 1) → Q (.bool true) ⟨h', gg, dd, tk', os⟩) :
    wpAny (model prog w) A (call (.ref 265) [.int x tx, .ref a.lc, .ref a.lp, .ref a.lt, .ref a.lr]) Q E ⟨hh, gg, dd, tt, os⟩ := by
  have hd := gd.depth
  have hnv := wd.nv
  have hnr := wd.nr
  refine' enterE [("x", .int x tx), ("cells", .ref a.lc), ("places", .ref a.lp), ("things", .ref a.lt), ("rows", .ref a.lr)] G U (Dx a) wd.sx ?k6 ?kr ?k7 ?k9 ?kB ?c2 ?c3 ?c4 ?c5 ?_
  ktr_unf
  (case kr => omega)
  intro L h₁ tk₁ hL hk₁ W
  have w₁ := wd.kf (Kf.of hk₁)
  refine wpAny_execs_cons ?_
  refine Assign_Tuple_swapped (names := ["kind", "rest"]) (hs := by kernel_rfl) (hw := by kernel_rfl) ?_
  refine Tuple_ ?_
  refine spliced_more (he := by kernel_rfl) ?_
  refine wpAny_BinOp ?_
  refine e_loc W (v := .int x tx) (hv := by kernel_rfl) ?_
  refine e_int ?_
  intro _ _
  refine e_mod (hb := by decide) ?_
  intro tkd _
  refine spliced_more (he := by kernel_rfl) ?_
  refine wpAny_BinOp ?_
  refine e_loc W (v := .int x tx) (hv := by kernel_rfl) ?_
  refine e_int ?_
  intro _ _
  refine e_div (hb := by decide) (hs := by decide) ?_
  intro tr _
  refine spliced_none ?_
  refine f_pair (n1 := "kind") (n2 := "rest") (v1 := .int (x.fmod 6) tkd) (v2 := .int (x.fdiv 6) tr) (hvs := rfl) (hA := hA) W ?_ rfl (by kernel_rfl) (by kernel_rfl)
  intro h₂ tk₂ W₂ k₂
  have w₂ := w₁.kf k₂
  refine wpAny_execs_cons ?_
  refine wpAny_If ?_
  refine wpAny_isTrue_Compare1 (hm := by kernel_rfl) ?_
  refine e_loc W₂ (v := .int (x.fmod 6) tkd) (hv := by kernel_rfl) ?_
  refine e_int ?_
  intro _ _
  refine e_eqi ?_
  refine e_truthb ?_
  refine e_ifF (hb := by rw [hx]; decide) ?_
  refine wpAny_execs_nil ?_
  refine wpAny_execs_cons ?_
  refine wpAny_If ?_
  refine wpAny_isTrue_Compare1 (hm := by kernel_rfl) ?_
  refine e_loc W₂ (v := .int (x.fmod 6) tkd) (hv := by kernel_rfl) ?_
  refine e_int ?_
  intro _ _
  refine e_eqi ?_
  refine e_truthb ?_
  refine e_ifF (hb := by rw [hx]; decide) ?_
  refine wpAny_execs_nil ?_
  refine wpAny_execs_cons ?_
  refine wpAny_If ?_
  refine wpAny_isTrue_Compare1 (hm := by kernel_rfl) ?_
  refine e_loc W₂ (v := .int (x.fmod 6) tkd) (hv := by kernel_rfl) ?_
  refine e_int ?_
  intro _ _
  refine e_eqi ?_
  refine e_truthb ?_
  refine e_ifF (hb := by rw [hx]; decide) ?_
  refine wpAny_execs_nil ?_
  -- cause, rest
  refine wpAny_execs_cons ?_
  refine Assign_Tuple_swapped (names := ["cause", "rest"]) (hs := by kernel_rfl) (hw := by kernel_rfl) ?_
  refine Tuple_ ?_
  refine spliced_more (he := by kernel_rfl) ?_
  refine wpAny_BinOp ?_
  refine e_loc W₂ (v := .int (x.fdiv 6) tr) (hv := by kernel_rfl) ?_
  refine Call_ ?_
  refine e_bi G W₂ (v := .builtin "len") (e := by kernel_rfl) (hv := by kernel_rfl) (hn := by decide) ?_
  refine callB ?_
  refine spliced_more (he := by kernel_rfl) ?_
  refine e_loc W₂ (v := .ref a.lt) (hv := by kernel_rfl) ?_
  refine spliced_none ?_
  refine e_len w₂.lt (hsz := by omega) ?_
  intro _ _
  refine e_mod (hb := by omega) ?_
  intro tc _
  refine spliced_more (he := by kernel_rfl) ?_
  refine wpAny_BinOp ?_
  refine e_loc W₂ (v := .int (x.fdiv 6) tr) (hv := by kernel_rfl) ?_
  refine Call_ ?_
  refine e_bi G W₂ (v := .builtin "len") (e := by kernel_rfl) (hv := by kernel_rfl) (hn := by decide) ?_
  refine callB ?_
  refine spliced_more (he := by kernel_rfl) ?_
  refine e_loc W₂ (v := .ref a.lt) (hv := by kernel_rfl) ?_
  refine spliced_none ?_
  refine e_len w₂.lt (hsz := by omega) ?_
  intro _ _
  refine e_div (hb := by omega) (hs := by omega) ?_
  intro tr2 _
  refine spliced_none ?_
  have fc := fmods (x.fdiv 6) (b := (vs.length : Int)) (by omega)
  obtain ⟨c, hc, ec⟩ : ∃ c : Nat, c < vs.length ∧ (x.fdiv 6).fmod (vs.length : Int) = (c : Int) := ⟨((x.fdiv 6).fmod (vs.length : Int)).toNat, by omega, by omega⟩
  refine f_pair (n1 := "cause") (n2 := "rest") (v1 := .int (c : Int) tc) (v2 := .int ((x.fdiv 6).fdiv (vs.length : Int)) tr2) (hvs := by rw [ec]) (hA := hA) W₂ ?_ rfl (by kernel_rfl) (by kernel_rfl)
  intro h₃ tk₃ W₃ k₃
  have w₃ := w₂.kf k₃
  obtain ⟨R, hR⟩ : ∃ R, R = (x.fdiv 6).fdiv (vs.length : Int) := ⟨_, rfl⟩
  rw [← hR] at W₃
  obtain ⟨v, hv⟩ : ∃ v, vs[c]? = some v := ⟨vs[c], List.getElem?_eq_getElem hc⟩
  have hvT := w₃.th v (List.mem_of_getElem? hv)
  refine wpAny_execs_cons ?_
  refine wpAny_If ?_
  refine wpAny_isTrue_Compare1 (hm := by kernel_rfl) ?_
  refine e_loc W₃ (v := .int (x.fmod 6) tkd) (hv := by kernel_rfl) ?_
  refine e_int ?_
  intro _ _
  refine e_eqi ?_
  refine e_truthb ?_
  refine e_ifF (hb := by rw [hx]; decide) ?_
  refine wpAny_execs_nil ?_
  refine wpAny_execs_cons ?_
  refine wpAny_If ?_
  refine wpAny_isTrue_Compare1 (hm := by kernel_rfl) ?_
  refine e_loc W₃ (v := .int (x.fmod 6) tkd) (hv := by kernel_rfl) ?_
  refine e_int ?_
  intro _ _
  refine e_eqi ?_
  refine e_truthb ?_
  refine e_ifF (hb := by rw [hx]; decide) ?_
  refine wpAny_execs_nil ?_
  refine wpAny_execs_cons ?_
  refine wpAny_Assign_Name (hs := by kernel_rfl) ?_
  refine wpAny_BinOp ?_
  refine e_int ?_
  intro _ _
  refine wpAny_BinOp ?_
  refine e_loc W₃ (v := .int R tr2) (hv := by kernel_rfl) ?_
  refine wpAny_BinOp ?_
  refine Call_ ?_
  refine e_bi G W₃ (v := .builtin "len") (e := by kernel_rfl) (hv := by kernel_rfl) (hn := by decide) ?_
  refine callB ?_
  refine spliced_more (he := by kernel_rfl) ?_
  refine e_loc W₃ (v := .ref a.lt) (hv := by kernel_rfl) ?_
  refine spliced_none ?_
  refine e_len w₃.lt (hsz := by omega) ?_
  intro _ _
  refine e_int ?_
  intro _ _
  refine e_sub ?_
  intro _ _
  refine e_mod (hb := by omega) ?_
  intro _ _
  refine e_add ?_
  intro ta _
  have fa := fmods R (b := (vs.length : Int) - 2) (by omega)
  obtain ⟨i, hi, ei⟩ : ∃ i : Nat, i < g.length ∧ 2 + R.fmod ((vs.length : Int) - 2) = ((i + 2 : Nat) : Int) := ⟨(R.fmod ((vs.length : Int) - 2)).toNat, by omega, by omega⟩
  rw [ei]
  refine f_store W₃ ?_
  intro h₄ tk₄ W₄ k₄
  have w₄ := w₃.kf k₄
  have X₄ := G.X.keeps W₄.F.keep
  refine wpAny_execs_cons ?_
  refine wpAny_Assign_Name (hs := by kernel_rfl) ?_
  refine Call_ ?_
  refine e_gl G W₄ (v := .ref 209) (e := by kernel_rfl) ?_
  refine callWith_K X₄ (by kernel_rfl) ?_
  refine spliced_more (he := by kernel_rfl) ?_
  refine wpAny_BinOp ?_
  refine e_loc W₄ (v := .int R tr2) (hv := by kernel_rfl) ?_
  refine wpAny_BinOp ?_
  refine Call_ ?_
  refine e_bi G W₄ (v := .builtin "len") (e := by kernel_rfl) (hv := by kernel_rfl) (hn := by decide) ?_
  refine callB ?_
  refine spliced_more (he := by kernel_rfl) ?_
  refine e_loc W₄ (v := .ref a.lt) (hv := by kernel_rfl) ?_
  refine spliced_none ?_
  refine e_len w₄.lt (hsz := by omega) ?_
  intro _ _
  refine e_int ?_
  intro _ _
  refine e_sub ?_
  intro _ _
  refine e_div (hb := by omega) (hs := by omega) ?_
  intro _ _
  refine spliced_none ⟨X₄, ?_⟩
  refine words209 G (Fr.up W₄.F) (hd := by show A.depth + 1 < 900; omega) ?_
  intro h₅ tk₅ t2 k₅
  have W₅ := W₄.call k₅
  have w₅ := w₄.kp k₅
  obtain ⟨wx, hwx⟩ : ∃ wx, wx = wordsOf (R.fdiv ((vs.length : Int) - 2)) := ⟨_, rfl⟩
  have wl : wx.length ≤ 100 := by rw [hwx]; have := words_len (R.fdiv ((vs.length : Int) - 2)); omega
  have wk : PyData.strOk wx = true := by rw [hwx]; exact words_ok _
  rw [← hwx]
  refine f_store W₅ ?_
  intro h₆ tk₆ W₆ k₆
  have w₆ := w₅.kf k₆
  have X₆ := G.X.keeps W₆.F.keep
  obtain ⟨r, hr⟩ : ∃ r, g[i]? = some r := ⟨g[i], List.getElem?_eq_getElem hi⟩
  obtain ⟨q, vq, tq, hq1, hq2, hq3, hq4, hq5⟩ := id (w₆.er i r hr)
  obtain ⟨ra, s1, s2, s3, pv, hra1, hra2, hra3⟩ := id (w₆.row i r hr)
  -- try
  refine wpAny_execs_cons ?_
  refine wpAny_Try_except ?_
  refine wpAny_execs_cons ?_
  refine wpAny_Assign_Name (hs := by kernel_rfl) ?_
  refine Call_ ?_
  refine e_gl G W₆ (v := .ref 115) (e := by kernel_rfl) ?_
  refine callWith_K X₆ (by kernel_rfl) ?_
  refine spliced_more (he := by kernel_rfl) ?_
  refine e_loc W₆ (v := .str wx t2) (hv := by kernel_rfl) ?_
  refine spliced_more (he := by kernel_rfl) ?_
  refine Subscript_ ?_
  refine e_loc W₆ (v := .ref a.lt) (hv := by kernel_rfl) ?_
  refine e_loc W₆ (v := .int (c : Int) tc) (hv := by kernel_rfl) ?_
  refine e_item (hl := w₆.lt) (v := v) (h0 := by omega) (hhi := by omega) (hx := hv) (hs := by kernel_rfl) ?_
  refine spliced_more (he := by kernel_rfl) ?_
  refine Subscript_ ?_
  refine e_loc W₆ (v := .ref a.lt) (hv := by kernel_rfl) ?_
  refine e_loc W₆ (v := .int ((i + 2 : Nat) : Int) ta) (hv := by kernel_rfl) ?_
  refine e_item (hl := w₆.lt) (v := .ref q) (h0 := by omega) (hhi := by omega) (hx := hq1) (hs := by kernel_rfl) ?_
  refine spliced_none ⟨X₆, ?_⟩
  rcases hq5 with ⟨z0, z1, z2⟩ | ⟨p, loc, sv', cv', lv', z1, z2, z3, z4, z5, z6, z7, z8, z9⟩
  · -- an error of another kind
    rcases hra3 with ⟨_, rfl⟩ | ⟨p, _, _, _, _, _, y, _⟩
    rotate_left
    · rw [z1] at y; cases y
    refine mkParseF z0 G (Fr.up W₆.F) (g := (gd.le (d' := 120 + 1) (u' := 120 + 3) (by omega) (by omega)).deeper W₆ rfl) (hA := hA) z2 (by kernel_rfl) ?_
    intro h₇ tk₇ x t tb aa bb k₇ fx fH ex hT
    have W₇ := W₆.call k₇
    obtain ⟨f0, fS⟩ := W₆.fresh1 fx
    refine note_St (gd.le (d' := 100 + 1) (u' := 100 + 3) (by omega) (by omega)) W₇ rfl ex (hec := fun z => absurd (Value.type.inj z) (by decide)) rfl rfl hT ?_
    intro h₈ T₈ hx₈ hT₈ k₈
    have W₈ := W₇.turn0 k₈ f0 fH fS (fun o q => by rw [ex] at q; cases q; exact ⟨fun z => absurd (Value.type.inj z) (by decide), fun z => absurd (Value.type.inj z) (by decide)⟩)
    have w₈ := w₆.kp (pre_kp k₇ k₈ fx fun o q => by rw [ex] at q; cases q; exact fun z => absurd (Value.type.inj z) (by decide))
    refine wpAny_handleBy_builtin (X := "AttributeError") (T := "AttributeError") (b := true) (hexc := ae_base) (hnt := by rw [isSubtype_type]; kernel_rfl) (hsub := ae_self) ?_
    refine e_bi G W₈ (v := .type "AttributeError") (e := by kernel_rfl) (hv := by kernel_rfl) (hn := by decide) ?_
    refine ⟨rfl, ⟨_, hx₈, rfl⟩, ?_⟩
    rw [if_pos rfl]
    refine flight0 hx₈ rfl rfl hT₈ ?_
    intro h₉ hs₉
    have kk₉ : KpN H h₈ h₉ := .of_keeps fun b o q => (hs₉ b).trans q
    have W₉ := W₈.call kk₉
    have w₉ := w₈.kp kk₉
    obtain ⟨ra', s1', s2', s3', pv', g1, g2, g3⟩ := id (w₉.row i r hr)
    rcases g3 with ⟨_, rfl⟩ | ⟨_, _, _, _, _, _, y, _⟩
    rotate_left
    · rw [z1] at y; cases y
    refine wpAny_execs_cons ?_
    refine wpAny_Return_some ?_
    refine wpAny_Compare1 (hm := by kernel_rfl) ?_
    refine Subscript_ ?_
    refine Subscript_ ?_
    refine e_loc W₉ (v := .ref a.lr) (hv := by kernel_rfl) ?_
    refine e_loc W₉ (v := .int ((i + 2 : Nat) : Int) ta) (hv := by kernel_rfl) ?_
    refine e_item (hl := w₉.lr) (v := .ref ra') (h0 := by omega) (hhi := by omega) (hx := g1) (hs := by kernel_rfl) ?_
    refine e_int ?_
    intro _ _
    refine e_titem (ht := g2) (v := .none) (h0 := by decide) (hhi := by decide) (hj := by rfl) (hx := rfl) (hs := by kernel_rfl) ?_
    refine e_none ?_
    refine e_isNone (hp := rfl) ?_
    exact h _ _ _ _ _ _ W₉.done w₉ ⟨by omega, by omega⟩ (fun q => nomatch q)
  · -- an error that stands for a place
    rcases hra3 with ⟨y, _⟩ | ⟨p', qp, svr, lvr, cvr, twr, y, rfl, y2, y3, y4, y5⟩
    · rw [z2] at y; cases y
    rw [z2] at y; cases y
    obtain ⟨u1, u2, u3⟩ := w₆.asLoc (prog := prog) G hr z2 hq1
    refine mkParse (s := ⟨h₆, gg, dd, _, os⟩) G (Fr.up W₆.F) (g := (gd.le (d' := 111 + 1) (u' := 34 + 3) (by omega) (by omega)).deeper W₆ rfl) u1 u3 u2 rfl ?_
    intro h₇ tk₇ e sv cv lv i1 i2 i3 er₇ k₇ fe
    have W₇ := W₆.call k₇
    have w₇ := w₆.kp k₇
    have fr₇ := w₆.fresh fe
    refine f_store W₇ ?_
    intro h₈ tk₈ W₈ k₈
    have w₈ := w₇.kf k₈
    have er₈ := er₇.kf k₈
    refine wpAny_execs_nil ?_
    refine wpAny_execs_nil ?_
    -- things.append(error)
    refine wpAny_execs_cons ?_
    refine wpAny_Expr_any ?_
    refine CallM ?_
    refine e_loc W₈ (v := .ref a.lt) (hv := by kernel_rfl) ?_
    intro pl
    refine m_list (hl := w₈.lt) PySem.F.slot_list_append PySem.F.type_list_append ?_
    refine callB ?_
    refine spliced_more (he := by kernel_rfl) ?_
    refine e_loc W₈ (v := .ref e) (hv := by kernel_rfl) ?_
    refine spliced_none ?_
    refine e_append (hl := w₈.lt) (hsz := by omega) ?_
    intro h₉ s₉ l₉
    have W₉ := W₈.listS (.inr (.inr (.inl rfl))) s₉ w₈.lt l₉
    have o := w₈.b.ord
    have lr₉ := w₈.lr.same s₉ (by show a.lr ≠ a.lt; omega)
    obtain ⟨ra', s1', s2', s3', pv', g1, g2, g3⟩ := id (w₈.row i r hr)
    rcases g3 with ⟨y, _⟩ | ⟨p', qp', svr', lvr', cvr', twr', y, rfl, y2', y3', y4', y5'⟩
    · rw [z2] at y; cases y
    rw [z2] at y; cases y
    have ntp : ∀ {T : Addr} {us ls : List Value} {hp : Heap} {l : Addr}, TpAt hp T us → LsAt hp l ls → T ≠ l := fun t l z => by
      obtain ⟨n, q⟩ := t
      obtain ⟨n', q'⟩ := l
      rw [z, q'] at q
      exact absurd (congrArg Obj.cls (Option.some.inj q)) fun z => absurd (Value.type.inj z) (by decide)
    have g2₉ : TpAt h₉ ra' _ := let ⟨n, q⟩ := g2; ⟨n, (s₉.2 _ (ntp g2 w₈.lt)).trans q⟩
    have y2₉ : TpAt h₉ qp' _ := let ⟨n, q⟩ := y2'; ⟨n, (s₉.2 _ (ntp y2' w₈.lt)).trans q⟩
    -- rows.append(..)
    refine wpAny_execs_cons ?_
    refine wpAny_Expr_any ?_
    refine CallM ?_
    refine e_loc W₉ (v := .ref a.lr) (hv := by kernel_rfl) ?_
    intro pl
    refine m_list (hl := lr₉) PySem.F.slot_list_append PySem.F.type_list_append ?_
    refine callB ?_
    refine spliced_more (he := by kernel_rfl) ?_
    refine Tuple_ ?_
    refine spliced_more (he := by kernel_rfl) ?_
    refine e_int ?_
    intro t4 _
    refine spliced_more (he := by kernel_rfl) ?_
    refine e_loc W₉ (v := .str wx t2) (hv := by kernel_rfl) ?_
    refine spliced_more (he := by kernel_rfl) ?_
    refine e_loc W₉ (v := .int (c : Int) tc) (hv := by kernel_rfl) ?_
    refine spliced_more (he := by kernel_rfl) ?_
    refine Subscript_ ?_
    refine Subscript_ ?_
    refine e_loc W₉ (v := .ref a.lr) (hv := by kernel_rfl) ?_
    refine e_loc W₉ (v := .int ((i + 2 : Nat) : Int) ta) (hv := by kernel_rfl) ?_
    refine e_item (hl := lr₉) (v := .ref ra') (h0 := by omega) (hhi := by omega) (hx := g1) (hs := by kernel_rfl) ?_
    refine e_int ?_
    intro _ _
    refine e_titem (ht := g2₉) (v := .ref qp') (h0 := by decide) (hhi := by decide) (hj := by rfl) (hx := rfl) (hs := by kernel_rfl) ?_
    refine spliced_none ?_
    refine k_tuple W₉ (hsz := by show 4 ≤ 100; decide) ?_
    intro T₁₀ h₁₀ t₁₀ W₁₀ kk
    refine spliced_none ?_
    have lr₁₀ : LsAt h₁₀ a.lr rs := let ⟨n, e⟩ := lr₉; ⟨n, kk _ _ e⟩
    refine e_append (hl := lr₁₀) (hsz := by omega) ?_
    intro h₁₁ s₁₁ l₁₁
    have W₁₁ := W₁₀.listS (.inr (.inr (.inr rfl))) s₁₁ lr₁₀ l₁₁
    have K := w₈.two s₉ kk s₁₁ l₉ lr₁₀
    have tr' : ∀ {T : Addr} {us : List Value}, TpAt h₁₀ T us → TpAt h₁₁ T us := fun {T us} t => let ⟨n, q⟩ := t; ⟨n, (s₁₁.2 T (ntp t lr₁₀)).trans q⟩
    have lt₁₁ : LsAt h₁₁ a.lt (vs ++ [.ref e]) := LsAt.same (let ⟨n, q⟩ := l₉; ⟨n, kk _ _ q⟩ : LsAt h₁₀ a.lt (vs ++ [.ref e])) s₁₁ (by show a.lt ≠ a.lr; omega)
    have Er : ErAt H h₁₁ a (vs ++ [.ref e]) (g ++ [⟨4, wx, c, some p⟩]) g.length ⟨4, wx, c, some p⟩ :=
      ⟨e, v, t2, app_last hnv, app_get hv, wl, wk, .inr ⟨p, _, sv, cv, lv, rfl, rfl, er₈.kl K, i1, i3, i2, z7, z8, .inr ⟨i, r, hi, app_get hr, app_get hq1, z2⟩⟩⟩
    have y2₁₀ : TpAt h₁₀ qp' _ := let ⟨n, q⟩ := y2₉; ⟨n, kk _ _ q⟩
    have g2₁₁ : TpAt h₁₁ ra' _ := tr' (let ⟨n, q⟩ := g2₉; ⟨n, kk _ _ q⟩)
    have Rr : RowAt h₁₁ (rs ++ [.ref T₁₀]) g.length ⟨4, wx, c, some p⟩ :=
      ⟨T₁₀, t4, t2, tc, _, app_last hnr, tr' t₁₀, .inr ⟨p, qp', svr', lvr', cvr', twr', rfl, rfl, tr' y2₁₀, y3', y4', y5'⟩⟩
    have w₁₁ := w₈.grow K lt₁₁ l₁₁ fr₇ Er Rr
    refine wpAny_execs_cons ?_
    refine wpAny_Return_some ?_
    refine wpAny_Compare1 (hm := by kernel_rfl) ?_
    refine Subscript_ ?_
    refine Subscript_ ?_
    refine e_loc W₁₁ (v := .ref a.lr) (hv := by kernel_rfl) ?_
    refine e_loc W₁₁ (v := .int ((i + 2 : Nat) : Int) ta) (hv := by kernel_rfl) ?_
    refine e_item (hl := l₁₁) (v := .ref ra') (h0 := by omega) (hhi := by omega) (hx := app_get g1) (hs := by kernel_rfl) ?_
    refine e_int ?_
    intro _ _
    refine e_titem (ht := g2₁₁) (v := .ref qp') (h0 := by decide) (hhi := by decide) (hj := by rfl) (hx := rfl) (hs := by kernel_rfl) ?_
    refine e_none ?_
    refine e_isNotNone (hp := rfl) ?_
    exact h _ _ _ _ _ _ W₁₁.done w₁₁ ⟨by simp, by simp⟩ (fun q => nomatch q)
/-- one deed -/
theorem deed265 {x : Int} {tx : Tok} {Q : Value → Shared → Prop} (G : Gr w H) (U : Up H hh) (wd : Wd H hh a cl vs rs g) (hn : g.length ≤ 40) (hg : 1 ≤ g.length ∨ x.fmod 6 = 2) (gd : Gd H A hh 600 600) (hA : A.handled = none)
    (h : ∀ h' tk' cl' vs' rs' g', Kp H (Dx a) hh h' → Wd H h' a cl' vs' rs' g' → 1 ≤ g'.length → g'.length ≤ g.length + 1 → Q (.bool true) ⟨h', gg, dd, tk', os⟩) :
    wpAny (model prog w) A (call (.ref 265) [.int x tx, .ref a.lc, .ref a.lp, .ref a.lt, .ref a.lr]) Q E ⟨hh, gg, dd, tt, os⟩ := by
  have f := fmods x (b := 6) (by decide)
  have f' : x.fmod 6 = 0 ∨ x.fmod 6 = 1 ∨ x.fmod 6 = 2 ∨ x.fmod 6 = 3 ∨ x.fmod 6 = 4 ∨ x.fmod 6 = 5 := by omega
  by_cases q2 : x.fmod 6 = 2
  · exact deed_2 q2 G U wd hn gd hA fun h' tk' cl' vs' rs' g' k x' l e => h h' tk' cl' vs' rs' g' k x' (by have := e rfl; omega) l.2
  · have hg1 : 1 ≤ g.length := by rcases hg with q | q; exact q; exact absurd q q2
    rcases f' with q | q | q | q | q | q
    · exact deed_0 q G U wd hn gd hA fun h' tk' cl' vs' rs' g' k x' l e => h h' tk' cl' vs' rs' g' k x' (by omega) l.2
    · exact deed_1 q G U wd hn gd hA fun h' tk' cl' vs' rs' g' k x' l e => h h' tk' cl' vs' rs' g' k x' (by omega) l.2
    · exact absurd q q2
    · exact deed_3 q G U wd hn hg1 gd hA fun h' tk' cl' vs' rs' g' k x' l e => h h' tk' cl' vs' rs' g' k x' (by omega) l.2
    · exact deed_4 q G U wd hn gd hA fun h' tk' cl' vs' rs' g' k x' l e => h h' tk' cl' vs' rs' g' k x' (by omega) l.2
    · exact deed_5 q G U wd hn hg1 gd hA fun h' tk' cl' vs' rs' g' k x' l e => h h' tk' cl' vs' rs' g' k x' (by omega) l.2
end
end Mine
end
section
open PySem PySem.W PyProof.Rows PySem.Calls PySem.Spec
open PySem.Builtin PySem.Builtin.ObjectAttr PySem.Builtin.BaseException
set_option Elab.async false
set_option linter.unusedVariables false
set_option maxRecDepth 100000
namespace Mine
section
variable {prog : Program} {w : World} {A : Around} {E : Value → Shared → Prop} {hh : Heap} {gg : Array GenState} {dd : Drawn} {tt : Nat} {os : OsState} {H : Heap}
/-- Locator() -/
theorem mkLoc {Q : Value → Shared → Prop} (X : (KF w).In hh) (h : ∀ x d h', (∀ b o, hh.get? b = some o → h'.get? b = some o) → d = hh.objs.size → hh.get? x = none → hh.objs.size ≤ x → LocAt h' x d 0 (fun _ => none) → Q (.ref x) ⟨h', gg, dd, tt, os⟩) :
    wpAny (model prog w) A (call (.ref 191) []) Q E ⟨hh, gg, dd, tt, os⟩ := by
  have Y := makes_of (M := model prog w) X (C := 191) (by kernel_rfl)
  refine wpAny_call (make_core Y (looks_findIn X (r := some (.builtin "object.__init__")) (by kernel_rfl)) (fun self => Looks.of_pure (oi_bind self)) (.inr ⟨rfl, rfl⟩) ?_)
  have k : ∀ b o, hh.get? b = some o → ((hh.push emptyDict).push (instObj 191 hh.objs.size)).get? b = some o := fun b o e => Heap.get?_push_of_some _ (Heap.get?_push_of_some _ e)
  have ex : ((hh.push emptyDict).push (instObj 191 hh.objs.size)).get? (hh.objs.size + 1) = some (instObj 191 hh.objs.size) := by
    have := Heap.get?_push_size (hh.push emptyDict) (o := instObj 191 hh.objs.size) rfl
    rwa [Heap.size_push] at this
  have ed : ((hh.push emptyDict).push (instObj 191 hh.objs.size)).get? hh.objs.size = some emptyDict := Heap.get?_push_of_some _ (Heap.get?_push_size _ rfl)
  have t1 : Looks (model prog w) ((hh.push emptyDict).push (instObj 191 hh.objs.size)) (typeOf (.ref (hh.objs.size + 1))) (.ref 191) := (Looks.ld ex).andThen .now
  have t2 : Looks (model prog w) ((hh.push emptyDict).push (instObj 191 hh.objs.size)) (isInstance (.ref (hh.objs.size + 1)) (.type "object")) true := t1.andThen (Y.top.keeps k)
  refine codeAny_call_builtin oi_plain entry_oi (@check_slot (model prog w) _ _ _ "object.__init__" "object" "__init__" (.ref (hh.objs.size + 1)) [] [] _ oi_kind oi_split t2 (oi_args (.ref (hh.objs.size + 1))) ?_)
  rw [oi_run]
  refine wpAny_pure (And.intro rfl ?_)
  exact h _ hh.objs.size _ k rfl (Heap.get?_none_of_le (Nat.le_succ _)) (Nat.le_succ _) ⟨ex, ⟨(Heap.Ns.new ..).push _, _, _, _, ed, rfl, rfl, Nat.le_refl _⟩⟩
/-- place.name = v -/
theorem set_loc {x d : Addr} {n : Nat} {m : Str → Option Value} {name : Str} {v : Value} {Q : Unit → Shared → Prop} (X : (KF w).In hh) (y : LocAt hh x d n m) (ht : takerIn (KF w) 191 name = some none) (hsz : n ≤ 1000)
    (h : ∀ h' tk, LocAt h' x d (n + 1) (fun z => if z = name then some v else m z) → Heap.SameBut d hh h' → Q () ⟨h', gg, dd, tk, os⟩) :
    wpAny (model prog w) A (setAttr (.ref x) name v) Q E ⟨hh, gg, dd, tt, os⟩ := by
  have SF := PySem.F.store_object
  have I : Ins hh x (instObj 191 d) 191 := ⟨y.at_, rfl, rfl⟩
  obtain ⟨hns, o, es, ep, ho, hoc, hod, hos⟩ := y.dict
  have IA : InstAt hh x (instObj 191 d) 191 (some o) := ⟨y.at_, rfl, rfl, ho⟩
  obtain ⟨cd, hcd, hhd⟩ : ∃ cd, clsIn (KF w) 191 = some cd ∧ cd.hasDict = true := ⟨_, rfl, rfl⟩
  have hxd : x ≠ d := fun z => by
    have := y.at_; rw [z, ho] at this; cases this; cases hoc
  refine wpAny_bind (wpAny_mkText (wpAny_bind (wpAny_bind (wpAny_bind (I.type _ _ _ _ (fun _ _ e => e) (looks_findIn X (r := some (.builtin "object.__setattr__")) (by kernel_rfl) _ _ _ _ (fun _ _ e => e) (wpAny_holding ?_)))))))
  rw [SF.slot.bind]
  refine wpAny_bind (wpAny_pure (wpAny_bind (wpAny_call ?_)))
  refine osa_open (s := ⟨hh, gg, dd, tt + 1, os⟩) X IA (by kernel_rfl) ht ?_
  intro b
  dsimp only
  unfold storeInOwnDict ownStreamTells ownDictForStores
  refine wpAny_bind (wpAny_pure ?_)
  unfold instanceDict
  refine wpAny_bind (wpAny_bind (wpAny_loadPart y.at_ ?_))
  dsimp only
  refine wpAny_bind ((looks_clsIn X hcd).at ?_)
  rw [hhd]
  refine wpAny_pure (a := some d) ?_
  refine wpAny_bind (wpAny_pure (wpAny_bind ?_))
  refine nsSet_own hns fun h' n1 n2 n3 => ?_
  obtain ⟨o', e', c', z⟩ := n3 o ho
  obtain ⟨es', ep', hd', hs'⟩ := z es ep hod
  refine wpAny_bind (wpAny_lookBehind e' (by rw [hd']; exact pastItsLine_dict (by rw [sizeLine_eq]; omega)) ?_)
  refine wpAny_pure (wpAny_pure (wpAny_pure ?_))
  exact h h' _ ⟨(n2.2 x hxd).trans y.at_, ⟨n1, o', es', ep', e', c'.trans hoc, hd', by omega⟩⟩ n2
end
section
variable {M : Model} {A : Around} {E : Value → Shared → Prop} {s : Shared} {name qual : Str} {params : Arguments} {body : Expr} {scope : Scope} {env : Env} {c P : Addr} {ps : Array Value} {pos : Pos} {firstLine : Nat} {mg : Str → Option Value}
  {cq : Str × Addr} {cr : List (Str × Addr)} {Q : Value → Shared → Prop}
/-- a code object of that name -/
def CdAt (h : Heap) (k : Addr) (qual : Str) : Prop := ∃ co vs t, h.get? k = some co ∧ co.cls = .type "code" ∧ co.data = .fields vs ∧ vs[1]? = some (.str qual t)
/-- a lambda made, its code for the first time -/
theorem lam_miss (hcl : closureFor scope env = pure (cq :: cr)) (hge0 : env.globals = mainGlobals) (hg : s.heap.Ns mainGlobals mg) (hcode : env.code = .ref c) (C : CodeHd s.heap c P) (hP : s.heap.get? P = some (tabObj ps)) (ht : TriplesOk ps.toList)
    (hnf : codeAmong pos ps.toList = none) (hgP : mainGlobals ≠ P) (hb : s.heap.BuiltinsAt mg P)
    (h : ∀ f c' ctv h' tk, (∀ b o, b ≠ P → s.heap.get? b = some o → h'.get? b = some o) → h'.get? f = some (kla_obj name qual params body scope (cq :: cr) ((mg "__name__").getD .none) c' ctv) → CdAt h' c' qual →
      h'.get? P = some (tabObj (ps ++ #[rawInt pos.line, rawInt pos.col, .ref c'])) → Q (.ref f) { s with heap := h', toks := tk }) :
    wpAny M A (makeFunction name qual params (.expr body) scope env [] [] [] pos firstLine) Q E s := by
  obtain ⟨bm, ob, hbm, hne0, _, hneP, hbo, hcls, hdict, hdata⟩ := hb
  have up : ∀ (o' : Obj) b o, s.heap.get? b = some o → (s.heap.push o').get? b = some o := fun o' b o e => Heap.get?_push_of_some _ e
  rw [makeFunction_eq]
  simp only [List.zip_nil_right, List.filterMap_nil, List.isEmpty_nil, if_true, pure_bind]
  unfold makeTail
  rw [hcl, hge0]
  refine wpAny_bind (wpAny_pure ?_)
  simp only [List.isEmpty_cons, Bool.false_eq_true, if_false]
  refine wpAny_bind (wpAny_newTextTuple ?_)
  refine wpAny_bind (wpAny_functionCodeX hcode ((C.keeps (up _)).code (up _ _ _ hP) ht) ((C.keeps (up _)).tab (up _ _ _ hP)) hnf ?_)
  intro c' h' tk hx hge hlt _ hrec htb hown
  have hg' := (hg.push _).extBut hx hgP
  refine wpAny_bind (wpAny_builtinsFor hg' hbm hne0 (hx _ _ hneP (up _ _ _ hbo)) hcls hdict hdata ?_)
  refine wpAny_bind (wpAny_nsGet hg' ?_)
  refine wpAny_bind (wpAny_pure (wpAny_newObj_type ?_ (by size_fits)))
  obtain ⟨P', _, _, ⟨o1, vs1, q1, q2, q3, _⟩, _⟩ := hown
  obtain ⟨c2, o2, vs2, t2, e2, g2, d2, v2⟩ := hrec
  cases e2
  rw [q1] at g2; cases g2
  rw [q3] at d2; cases d2
  refine h _ c' _ _ _ (fun b o nb e => Heap.get?_push_of_some _ (hx b o nb (up _ _ _ e))) (Heap.get?_push_size _ rfl) ⟨o1, vs1, t2, Heap.get?_push_of_some _ q1, q2, q3, v2⟩ (Heap.get?_push_of_some _ htb.2)
/-- a lambda made, its code known -/
theorem lam_hit {k : Addr} (hcl : closureFor scope env = pure (cq :: cr)) (hge0 : env.globals = mainGlobals) (hg : s.heap.Ns mainGlobals mg) (hcode : env.code = .ref c) (C : CodeHd s.heap c P) (hP : s.heap.get? P = some (tabObj ps)) (ht : TriplesOk ps.toList)
    (hf : codeAmong pos ps.toList = some (.ref k)) (hb : s.heap.BuiltinsAt mg P)
    (h : ∀ f ctv h' tk, (∀ b o, s.heap.get? b = some o → h'.get? b = some o) → h'.get? f = some (kla_obj name qual params body scope (cq :: cr) ((mg "__name__").getD .none) k ctv) → Q (.ref f) { s with heap := h', toks := tk }) :
    wpAny M A (makeFunction name qual params (.expr body) scope env [] [] [] pos firstLine) Q E s :=
  kla_makeFunctionHit hcl hge0 hg hcode C hP ht hf hb fun ctv h' tk hk _ => h _ ctv _ tk (fun b o e => Heap.get?_push_of_some _ (hk b o e)) (Heap.get?_push_size _ rfl)
end
end Mine
end
section
open PySem PySem.W PyProof.Rows PySem.Calls PySem.Spec
open PySem.Builtin PySem.Builtin.ObjectAttr PySem.Builtin.BaseException
set_option Elab.async false
set_option linter.unusedVariables false
set_option maxRecDepth 100000
namespace Mine
/-- all but tables, dicts, frames -/
def Kq (h h' : Heap) : Prop := ∀ b o, h.get? b = some o → o.cls ≠ .none → o.cls ≠ .type "dict" → o.cls ≠ .type "frame" → h'.get? b = some o
section
variable {H h h' : Heap}
theorem Kq.ty {c : Addr} {o : Obj} {T : String} (k : Kq h h') (e : h.get? c = some o) (hc : o.cls = .type T) (h1 : T ≠ "dict") (h2 : T ≠ "frame") : h'.get? c = some o := by
  refine k c o e ?_ ?_ ?_ <;> (rw [hc]; intro z; first | exact h1 (Value.type.inj z) | exact h2 (Value.type.inj z) | cases z)
theorem LamAt.kq {f c : Addr} {i : Nat} (y : LamAt h f i c) (K : Kq h h') : LamAt h' f i c := by
  obtain ⟨qual, pm, c', ct, ca, oc, co, vs, tq, p1, p2, p3, y1, y2, y3, y4, y5, y6, y7, y8⟩ := y
  exact ⟨qual, pm, c', ct, ca, oc, co, vs, tq, p1, p2, p3, K.ty y1 rfl (by decide) (by decide), K.ty y2 y3 (by decide) (by decide), y3, y4, K.ty y5 y6 (by decide) (by decide), y6, y7, y8⟩
theorem CdAt.kq {k : Addr} {q : Str} (y : CdAt h k q) (K : Kq h h') : CdAt h' k q := by
  obtain ⟨co, vs, t, y1, y2, y3⟩ := y
  exact ⟨co, vs, t, K.ty y1 y2 (by decide) (by decide), y2, y3⟩
theorem Kq.dict {d : Addr} (k : Heap.SameBut d h h') (hd : ∃ o, h.get? d = some o ∧ o.cls = .type "dict") : Kq h h' := fun b o e _ n _ => (k.2 b fun z => by
  obtain ⟨o', q1, q2⟩ := hd
  subst z; rw [e] at q1; cases q1; exact n q2).trans e
theorem Kq.tab {P : Addr} {ps : Array Value} (k : ∀ b o, b ≠ P → h.get? b = some o → h'.get? b = some o) (hd : h.get? P = some (tabObj ps)) : Kq h h' := fun b o e n _ _ => k b o (fun z => by
  subst z; rw [e] at hd; cases hd; exact n rfl) e
theorem Kq.of (k : ∀ b o, h.get? b = some o → h'.get? b = some o) : Kq h h' := fun b o e _ _ _ => k b o e
theorem LocAt.tab {x d P : Addr} {n : Nat} {m : Str → Option Value} {ps : Array Value} (y : LocAt h x d n m) (k : ∀ b o, b ≠ P → h.get? b = some o → h'.get? b = some o) (hd : h.get? P = some (tabObj ps)) : LocAt h' x d n m := by
  obtain ⟨⟨o1, es1, ep1, e1, r1⟩, o, es, ep, e, c, r⟩ := y.dict
  have z : o1 = o := Option.some.inj (e1.symm.trans e)
  subst z
  have ne : d ≠ P := fun q => by rw [q, hd] at e; cases e; cases c
  have nx : x ≠ P := fun q => by have := y.at_; rw [q, hd] at this; cases this
  exact ⟨k _ _ nx y.at_, ⟨_, es1, ep1, k _ _ ne e, r1⟩, _, es, ep, k _ _ ne e, c, r⟩
theorem builtinsAt_of {p : Program} {loose : List Str} {mean : ExcName → Option Value} {mg mb : Str → Option Value} {P : Addr} (T : Top p loose mean mg mb H) (hP : H.get? P = none) (k : ∀ b o, H.get? b = some o → h.get? b = some o) : h.BuiltinsAt mg P := by
  obtain ⟨bm, ob, b1, b2, b3, b4, b5, b6⟩ := T.bmain
  refine ⟨bm, ob, b1, b2, fun q => ?_, fun q => ?_, k _ _ b3, b4, b5, b6⟩
  · obtain ⟨o, es, ep, e, hd, _⟩ := T.g
    rw [q, e] at b3; cases b3; rw [hd] at b6; cases b6
  · rw [q, hP] at b3; cases b3
end
section
variable {prog : Program} {w : World} {M : Model} {A : Around} {E : Value → Shared → Prop} {hh : Heap} {gg : Array GenState} {dd : Drawn} {tt : Nat} {os : OsState} {H h₀ : Heap} {S : Addr → Prop} {L a : Addr} {m : Str → Option Value} {objs : List (Addr × Obj)} {cn : Str} {cs : Scope} {ccd : Value} {cl : List (Str × Addr)}
theorem x_loc {x : Str} {pos : Pos} {v : Value} {Q : Value → Shared → Prop} (W : St H S h₀ L hh m objs) (hv : m x = some v) (h : Q v ⟨hh, gg, dd, tt, os⟩)
    (hk : cs.kind = .function := by rfl) (hl : (envX cn cs L a ccd cl).kindOf x = some .local := by kernel_rfl) (hd : (x == ("__debug__" : Str)) = false := by kernel_rfl) :
    wpAny M A (eval (.Name x pos) (envX cn cs L a ccd cl)) Q E ⟨hh, gg, dd, tt, os⟩ := nameX_L (s := ⟨hh, gg, dd, tt, os⟩) W.F hv h hk hl hd
theorem x_gl {x : Str} {pos : Pos} {v : Value} {Q : Value → Shared → Prop} (G : Gr w H) (W : St H S h₀ L hh m objs) (e : nsIn (KF w) mainGlobals x = some (some v)) (h : Q v ⟨hh, gg, dd, tt, os⟩)
    (hk : cs.kind = .function := by rfl) (hx : (envX cn cs L a ccd cl).kindOf x = some .globalImplicit := by kernel_rfl) (hd : (x == ("__debug__" : Str)) = false := by kernel_rfl) :
    wpAny M A (eval (.Name x pos) (envX cn cs L a ccd cl)) Q E ⟨hh, gg, dd, tt, os⟩ := by
  obtain ⟨p, l, me, mg, mb, T⟩ := G.T
  exact nameX_K (s := ⟨hh, gg, dd, tt, os⟩) W.F G.X (topRead_of T) e h hk hx hd
theorem x_store {x : Str} {v : Value} {Q : Unit → Shared → Prop} (W : St H S h₀ L hh m objs)
    (h : ∀ h' tk, St H S h₀ L h' (fun y => if y = x then some v else m y) objs → Heap.SameBut L hh h' → Q () ⟨h', gg, dd, tk, os⟩)
    (hk : cs.kind = .function) (hl : (envX cn cs L a ccd cl).kindOf x = some .local) :
    wpAny M A (storeName (envX cn cs L a ccd cl) x v) Q E ⟨hh, gg, dd, tt, os⟩ := by
  rw [storeName_local hl (by show (cs.kind == .class || (cs.kind == .module && L != mainGlobals)) = false; rw [hk]; rfl)]
  refine nsSet_own (s := ⟨hh, gg, dd, tt, os⟩) W.F.ns fun h' hn hs hc => h h' _ ⟨W.F.set hn hs, W.k.trans (.same hs (.inl rfl)) W.notTb, W.out, ?_, fun b q => ?_, W.s0, fun p hp => ?_⟩ hs
  · obtain ⟨o, e, c⟩ := W.fr
    obtain ⟨o', e', c', -⟩ := hc o e
    exact ⟨o', e', c'.trans c⟩
  · obtain ⟨z, o, e, r⟩ := W.sx b q
    exact ⟨z, o, (hs.2 _ (W.ne q)).trans e, r⟩
  · obtain ⟨a1, b1, c1⟩ := W.ob p hp
    exact ⟨(hs.2 _ b1).trans a1, b1, c1⟩
/-- a new frame whose one parameter is captured -/
theorem nfeC {s : Shared} {v : Value} {scope : Scope} {globals : Addr} {qual : Str} {func : Option Addr} {code : Value} {builtins : Addr} {Q : Env → Shared → Prop} (hk : scope.kind = .function) (hn : scope.names = ([(("cell" : Str), NameKind.cell), (("place" : Str), NameKind.local), (("Locator" : Str), NameKind.globalImplicit)] : List (Str × NameKind)))
    (hQ : ∀ h', (∀ b o, s.heap.get? b = some o → h'.get? b = some o) → h'.Ns s.heap.objs.size (fun _ => none) → (∃ o, h'.get? s.heap.objs.size = some o ∧ o.cls = .type "frame") → h'.get? (s.heap.objs.size + 1) = some { cls := .type "cell", data := .cell (some v) } →
      Q { scope := scope, locals := s.heap.objs.size, globals := globals, cells := [("cell", s.heap.objs.size + 1)], qual := qual, func := func, code := code, frame := some s.heap.objs.size, builtins := builtins } { s with heap := h' }) :
    wpAny M A (newFunctionEnv scope globals [] [("cell", v)] qual func code none builtins) Q E s := by
  unfold newFunctionEnv
  simp only [Option.isSome_none, Bool.false_eq_true, if_false]
  refine wpAny_bind (wpAny_alloc ?_)
  rw [hn]
  simp only [List.forIn_cons, List.forIn_nil]
  refine wpAny_bind (wpAny_bind ?_)
  rw [if_pos (by decide)]
  refine wpAny_bind (wpAny_alloc ?_)
  refine wpAny_pure ?_
  dsimp only
  refine wpAny_bind ?_
  rw [if_neg (by decide)]
  refine wpAny_pure ?_
  dsimp only
  refine wpAny_bind ?_
  rw [if_neg (by decide)]
  refine wpAny_pure ?_
  dsimp only
  refine wpAny_pure ?_
  have eC : ((s.heap.push { cls := .type "frame", data := .dict #[] }).push { cls := .type "cell", data := .cell none }).get? (s.heap.objs.size + 1) = some { cls := .type "cell", data := .cell none } := by
    have := Heap.get?_push_size (s.heap.push { cls := .type "frame", data := .dict #[] }) (o := { cls := .type "cell", data := .cell none }) rfl
    rwa [Heap.size_push] at this
  have eF : ((s.heap.push { cls := .type "frame", data := .dict #[] }).push { cls := .type "cell", data := .cell none }).get? s.heap.objs.size = some { cls := .type "frame", data := .dict #[] } := Heap.get?_push_of_some _ (Heap.get?_push_size _ rfl)
  have nF : Heap.Ns ((s.heap.push { cls := .type "frame", data := .dict #[] }).push { cls := .type "cell", data := .cell none }) s.heap.objs.size (fun _ => none) := (Heap.Ns.new ..).push _
  have sb := Heap.SameBut.update ((s.heap.push { cls := .type "frame", data := .dict #[] }).push { cls := .type "cell", data := .cell none }) (s.heap.objs.size + 1) (fun o => { o with data := .cell (some v) })
  have eC' := Heap.get?_update_self (fun o : Obj => { o with data := .cell (some v) }) eC rfl
  rw [Heap.size_push]
  refine wpAny_bind (wpAny_bind ?_)
  have hkd : ({ scope := scope, locals := s.heap.objs.size, globals := globals, cells := [("cell", s.heap.objs.size + 1)], qual := qual, func := func, code := code, frame := some s.heap.objs.size, builtins := builtins } : Env).kindOf "cell" = some .cell := by
    show scope.names.lookup ("cell" : Str) = some NameKind.cell
    rw [hn]; rfl
  have hst : storeName { scope := scope, locals := s.heap.objs.size, globals := globals, cells := [("cell", s.heap.objs.size + 1)], qual := qual, func := func, code := code, frame := some s.heap.objs.size, builtins := builtins } "cell" v = (cellOf { scope := scope, locals := s.heap.objs.size, globals := globals, cells := [("cell", s.heap.objs.size + 1)], qual := qual, func := func, code := code, frame := some s.heap.objs.size, builtins := builtins } "cell" >>= fun c => cellSet c (some v)) := by
    unfold storeName
    simp only [hkd, hk]
    rfl
  rw [hst]
  refine wpAny_bind (wpAny_bind (wpAny_cellOf (c := s.heap.objs.size + 1) (by rfl) ?_))
  unfold cellSet
  refine wpAny_bind (wpAny_load eC ?_)
  refine wpAny_update eC ?_
  refine wpAny_pure (wpAny_pure (wpAny_pure ?_))
  refine hQ _ ?_ ?_ ?_ ?_
  · intro b o e
    refine (sb.2 b (Nat.ne_of_lt (Nat.lt_succ_of_lt (Heap.lt_size e)))).trans ?_
    exact Heap.get?_push_of_some _ (Heap.get?_push_of_some _ e)
  · exact nF.sameBut sb (Nat.ne_of_lt (Nat.lt_succ_self _))
  · exact ⟨_, (sb.2 _ (Nat.ne_of_lt (Nat.lt_succ_self _))).trans eF, rfl⟩
  · exact eC'
end
end Mine
end
section
open PySem PySem.W PyProof.Rows PySem.Calls PySem.Spec
open PySem.Builtin PySem.Builtin.ObjectAttr PySem.Builtin.BaseException
set_option Elab.async false
set_option linter.unusedVariables false
set_option maxRecDepth 100000
namespace Mine
abbrev lamQ : Str := ("_law_place" : Str) ++ ".<locals>." ++ "<lambda>"
def tab4 (k0 k1 k2 k3 : Addr) : Array Value := (((#[] ++ #[rawInt 75, rawInt 24, .ref k0]) ++ #[rawInt 76, rawInt 26, .ref k1]) ++ #[rawInt 77, rawInt 28, .ref k2]) ++ #[rawInt 78, rawInt 24, .ref k3]
theorem tab4_list (k0 k1 k2 k3 : Addr) : (tab4 k0 k1 k2 k3).toList = [rawInt 75, rawInt 24, .ref k0, rawInt 76, rawInt 26, .ref k1, rawInt 77, rawInt 28, .ref k2, rawInt 78, rawInt 24, .ref k3] := by simp [tab4]
theorem tab4_ok (k0 k1 k2 k3 : Addr) : TriplesOk (tab4 k0 k1 k2 k3).toList := by rw [tab4_list]; simp [TriplesOk, rawInt]
theorem tab4_0 {k0 k1 k2 k3 : Addr} {a b : Nat} : codeAmong ⟨75, 24, a, b⟩ (tab4 k0 k1 k2 k3).toList = some (.ref k0) := by rw [tab4_list]; simp [codeAmong, rawInt]
theorem tab4_1 {k0 k1 k2 k3 : Addr} {a b : Nat} : codeAmong ⟨76, 26, a, b⟩ (tab4 k0 k1 k2 k3).toList = some (.ref k1) := by rw [tab4_list]; simp [codeAmong, rawInt]
theorem tab4_2 {k0 k1 k2 k3 : Addr} {a b : Nat} : codeAmong ⟨77, 28, a, b⟩ (tab4 k0 k1 k2 k3).toList = some (.ref k2) := by rw [tab4_list]; simp [codeAmong, rawInt]
theorem tab4_3 {k0 k1 k2 k3 : Addr} {a b : Nat} : codeAmong ⟨78, 24, a, b⟩ (tab4 k0 k1 k2 k3).toList = some (.ref k3) := by rw [tab4_list]; simp [codeAmong, rawInt]
section
variable {prog : Program} {w : World} {A : Around} {E : Value → Shared → Prop} {hh : Heap} {gg : Array GenState} {dd : Drawn} {tt : Nat} {os : OsState} {H : Heap}
set_option maxHeartbeats 4000000 in
theorem place_new {c : Addr} {Q : Value → Shared → Prop} (G : Gr w H) (U : Up H hh) (C : CodeHd H 201 197) (H0 : H.get? 197 = none) (hd : A.depth < 900) (tb : hh.get? 197 = some (tabObj #[]))
    (h : ∀ h' tk x k0 k1 k2 k3, KpN H (hideAll hh [197]) h' → LocL h' x c → h'.get? 197 = some (tabObj (tab4 k0 k1 k2 k3)) → CdAt h' k0 lamQ → CdAt h' k1 lamQ → CdAt h' k2 lamQ → CdAt h' k3 lamQ → Q (.ref x) ⟨h', gg, dd, tk, os⟩) : wpAny (model prog w) A (call (.ref 202) [.ref c]) Q E ⟨hh, gg, dd, tt, os⟩ := by
  have X := G.X.keeps U.keep
  obtain ⟨p, lo, me, mg, mb, T⟩ := G.T
  refine wpAny_call (codeAny_call_function (body := _) (fd := _) (Nat.lt_of_lt_of_le hd (by decide)) (X 202 _ rfl) rfl rfl rfl rfl (codeRec_of X (by kernel_rfl)) ?_)
  refine kp_binds (K := KF w) (binds := [("cell", .ref c)]) (s := ⟨hh, gg, dd, tt, os⟩) X (by intro S; kernel_rfl) _ _ _ _ ?_
  refine nfeC rfl rfl ?_
  intro h₁ k₁ n₁ f₁ c₁
  refine ⟨T.nolimit.keeps fun b o e => k₁ b o (U.keep b o e), ?_⟩
  refine codeAny_func ?_
  have hg0 : (hideAll hh [197]).get? 197 = none := hideAll_none _ (.head _)
  have W : St H (fun _ => False) (hideAll hh [197]) hh.objs.size h₁ (fun _ => none) [] :=
    ⟨⟨n₁, fun b o e => k₁ b o (U.keep b o e), U.size⟩, ⟨fun b o e _ => .inl (k₁ b o (of_hideAll _ e))⟩, Heap.get?_none_of_le (Nat.le_of_eq (hideAll_size _ _)), f₁, fun _ q => q.elim, fun _ q => q.elim, fun _ hp => nomatch hp⟩
  have hgP : mainGlobals ≠ 197 := by decide
  have ntab : ∀ ps o, (o = tabObj ps) → o.cls ≠ .type "traceback" ∧ o.cls ≠ .type "frame" := fun ps o e => by rw [e]; exact ⟨(fun z => nomatch z), (fun z => nomatch z)⟩
  generalize hLL : hh.objs.size = L at *
  refine wpAny_mono (E := fun _ _ => False) ?_ (fun _ _ z => z) (fun _ _ z => z.elim)
  -- place = Locator()
  refine wpAny_execs_cons ?_
  refine wpAny_Assign_Name (hs := by kernel_rfl) ?_
  refine Call_ ?_
  refine x_gl G W (v := .ref 191) (e := by kernel_rfl) ?_
  refine callWith_K0 (G.X.keeps W.F.keep) (by kernel_rfl) ?_
  refine mkLoc (G.X.keeps W.F.keep) ?_
  intro x d h₂ k₂ ed fx xs l₂
  have fd := W.fresh0
  rw [← ed] at fd
  have W₂ := W.call (.of_keeps k₂)
  refine x_store W₂ ?_ rfl (by kernel_rfl)
  intro h₃ tk₃ W₃ s₃
  have kf₃ : Kf h₂ h₃ := W₂.kf_store s₃
  have l₃ := l₂.kf kf₃
  have t₃ : h₃.get? 197 = some (tabObj #[]) := kf₃ _ _ (k₂ _ _ (k₁ _ _ tb)) (fun z => nomatch z) (fun z => nomatch z) (fun z => nomatch z) (fun z => nomatch z)
  have cc₃ := kf₃.ty (k₂ _ _ c₁) rfl (by decide) (by decide) (by decide) (by decide)
  -- getSystemId
  refine wpAny_execs_cons ?_
  refine plainObj_wpAny_Assign_Attribute (hs := by kernel_rfl) ?_
  refine kla_eval (hdef := by rfl) ?_
  refine lam_miss (c := 201) (P := 197) (mg := mg) (cq := ("cell", L + 1)) (cr := []) (hcl := by rfl) rfl (T.g.keeps W₃.F.keep) rfl (C.keeps W₃.F.keep) t₃ (by simp [TriplesOk, rawInt]) (by simp [codeAmong, rawInt]) hgP (builtinsAt_of T H0 W₃.F.keep) ?_
  intro f0 k0 ct0 ha0 tka0 ka0 ef0 d0a0 ta0
  have qa0 : Kq h₃ ha0 := Kq.tab ka0 t₃
  have Wa0 := W₃.turn0 (x := 197) ⟨fun b o e n => .inl (ka0 b o n e)⟩ hg0 H0 id (fun o e => ntab _ o (Option.some.inj (e.symm.trans t₃)))
  have la0 := l₃.tab ka0 t₃
  have cca0 := qa0.ty cc₃ rfl (by decide) (by decide)
  have m0a0 : LamAt ha0 f0 0 c := by
    obtain ⟨co, vs, t, y1, y2, y3, y4⟩ := d0a0
    exact ⟨_, _, _, _, _, _, co, vs, t, _, _, _, ef0, cca0, rfl, rfl, y1, y2, y3, y4⟩
  refine x_loc Wa0 (v := .ref x) (hv := by kernel_rfl) ?_
  refine set_loc (G.X.keeps Wa0.F.keep) la0 (ht := by kernel_rfl) (hsz := by decide) ?_
  intro hb0 tkb0 lb0 sb0
  have ddb0 : ∃ o, ha0.get? d = some o ∧ o.cls = .type "dict" := by obtain ⟨_, o, _, _, e, c, _⟩ := la0.dict; exact ⟨o, e, c⟩
  have qb0 : Kq ha0 hb0 := Kq.dict sb0 ddb0
  have Wb0 := Wa0.own sb0 fd.1 fd.2.1 (fun o e => by
    obtain ⟨o', e', c'⟩ := ddb0
    rw [e] at e'; cases e'; rw [c']
    exact ⟨fun z => absurd (Value.type.inj z) (by decide), fun z => absurd (Value.type.inj z) (by decide)⟩) id (fun _ hp => nomatch hp)
  have tb0 := (sb0.2 197 (fun z => by obtain ⟨o', e', c'⟩ := ddb0; rw [← z, ta0] at e'; cases e'; cases c')).trans ta0
  have ccb0 := qb0.ty cca0 rfl (by decide) (by decide)
  have d0b0 := d0a0.kq qb0
  have m0b0 := m0a0.kq qb0
  -- getLineNumber
  refine wpAny_execs_cons ?_
  refine plainObj_wpAny_Assign_Attribute (hs := by kernel_rfl) ?_
  refine kla_eval (hdef := by rfl) ?_
  refine lam_miss (c := 201) (P := 197) (mg := mg) (cq := ("cell", L + 1)) (cr := []) (hcl := by rfl) rfl (T.g.keeps Wb0.F.keep) rfl (C.keeps Wb0.F.keep) tb0 (by simp [TriplesOk, rawInt]) (by simp [codeAmong, rawInt]) hgP (builtinsAt_of T H0 Wb0.F.keep) ?_
  intro f1 k1 ct1 ha1 tka1 ka1 ef1 d1a1 ta1
  have qa1 : Kq hb0 ha1 := Kq.tab ka1 tb0
  have Wa1 := Wb0.turn0 (x := 197) ⟨fun b o e n => .inl (ka1 b o n e)⟩ hg0 H0 id (fun o e => ntab _ o (Option.some.inj (e.symm.trans tb0)))
  have la1 := lb0.tab ka1 tb0
  have cca1 := qa1.ty ccb0 rfl (by decide) (by decide)
  have d0a1 := d0b0.kq qa1
  have m0a1 := m0b0.kq qa1
  have m1a1 : LamAt ha1 f1 1 c := by
    obtain ⟨co, vs, t, y1, y2, y3, y4⟩ := d1a1
    exact ⟨_, _, _, _, _, _, co, vs, t, _, _, _, ef1, cca1, rfl, rfl, y1, y2, y3, y4⟩
  refine x_loc Wa1 (v := .ref x) (hv := by kernel_rfl) ?_
  refine set_loc (G.X.keeps Wa1.F.keep) la1 (ht := by kernel_rfl) (hsz := by decide) ?_
  intro hb1 tkb1 lb1 sb1
  have ddb1 : ∃ o, ha1.get? d = some o ∧ o.cls = .type "dict" := by obtain ⟨_, o, _, _, e, c, _⟩ := la1.dict; exact ⟨o, e, c⟩
  have qb1 : Kq ha1 hb1 := Kq.dict sb1 ddb1
  have Wb1 := Wa1.own sb1 fd.1 fd.2.1 (fun o e => by
    obtain ⟨o', e', c'⟩ := ddb1
    rw [e] at e'; cases e'; rw [c']
    exact ⟨fun z => absurd (Value.type.inj z) (by decide), fun z => absurd (Value.type.inj z) (by decide)⟩) id (fun _ hp => nomatch hp)
  have tb1 := (sb1.2 197 (fun z => by obtain ⟨o', e', c'⟩ := ddb1; rw [← z, ta1] at e'; cases e'; cases c')).trans ta1
  have ccb1 := qb1.ty cca1 rfl (by decide) (by decide)
  have d0b1 := d0a1.kq qb1
  have d1b1 := d1a1.kq qb1
  have m0b1 := m0a1.kq qb1
  have m1b1 := m1a1.kq qb1
  -- getColumnNumber
  refine wpAny_execs_cons ?_
  refine plainObj_wpAny_Assign_Attribute (hs := by kernel_rfl) ?_
  refine kla_eval (hdef := by rfl) ?_
  refine lam_miss (c := 201) (P := 197) (mg := mg) (cq := ("cell", L + 1)) (cr := []) (hcl := by rfl) rfl (T.g.keeps Wb1.F.keep) rfl (C.keeps Wb1.F.keep) tb1 (by simp [TriplesOk, rawInt]) (by simp [codeAmong, rawInt]) hgP (builtinsAt_of T H0 Wb1.F.keep) ?_
  intro f2 k2 ct2 ha2 tka2 ka2 ef2 d2a2 ta2
  have qa2 : Kq hb1 ha2 := Kq.tab ka2 tb1
  have Wa2 := Wb1.turn0 (x := 197) ⟨fun b o e n => .inl (ka2 b o n e)⟩ hg0 H0 id (fun o e => ntab _ o (Option.some.inj (e.symm.trans tb1)))
  have la2 := lb1.tab ka2 tb1
  have cca2 := qa2.ty ccb1 rfl (by decide) (by decide)
  have d0a2 := d0b1.kq qa2
  have d1a2 := d1b1.kq qa2
  have m0a2 := m0b1.kq qa2
  have m1a2 := m1b1.kq qa2
  have m2a2 : LamAt ha2 f2 2 c := by
    obtain ⟨co, vs, t, y1, y2, y3, y4⟩ := d2a2
    exact ⟨_, _, _, _, _, _, co, vs, t, _, _, _, ef2, cca2, rfl, rfl, y1, y2, y3, y4⟩
  refine x_loc Wa2 (v := .ref x) (hv := by kernel_rfl) ?_
  refine set_loc (G.X.keeps Wa2.F.keep) la2 (ht := by kernel_rfl) (hsz := by decide) ?_
  intro hb2 tkb2 lb2 sb2
  have ddb2 : ∃ o, ha2.get? d = some o ∧ o.cls = .type "dict" := by obtain ⟨_, o, _, _, e, c, _⟩ := la2.dict; exact ⟨o, e, c⟩
  have qb2 : Kq ha2 hb2 := Kq.dict sb2 ddb2
  have Wb2 := Wa2.own sb2 fd.1 fd.2.1 (fun o e => by
    obtain ⟨o', e', c'⟩ := ddb2
    rw [e] at e'; cases e'; rw [c']
    exact ⟨fun z => absurd (Value.type.inj z) (by decide), fun z => absurd (Value.type.inj z) (by decide)⟩) id (fun _ hp => nomatch hp)
  have tb2 := (sb2.2 197 (fun z => by obtain ⟨o', e', c'⟩ := ddb2; rw [← z, ta2] at e'; cases e'; cases c')).trans ta2
  have ccb2 := qb2.ty cca2 rfl (by decide) (by decide)
  have d0b2 := d0a2.kq qb2
  have d1b2 := d1a2.kq qb2
  have d2b2 := d2a2.kq qb2
  have m0b2 := m0a2.kq qb2
  have m1b2 := m1a2.kq qb2
  have m2b2 := m2a2.kq qb2
  -- getPublicId
  refine wpAny_execs_cons ?_
  refine plainObj_wpAny_Assign_Attribute (hs := by kernel_rfl) ?_
  refine kla_eval (hdef := by rfl) ?_
  refine lam_miss (c := 201) (P := 197) (mg := mg) (cq := ("cell", L + 1)) (cr := []) (hcl := by rfl) rfl (T.g.keeps Wb2.F.keep) rfl (C.keeps Wb2.F.keep) tb2 (by simp [TriplesOk, rawInt]) (by simp [codeAmong, rawInt]) hgP (builtinsAt_of T H0 Wb2.F.keep) ?_
  intro f3 k3 ct3 ha3 tka3 ka3 ef3 d3a3 ta3
  have qa3 : Kq hb2 ha3 := Kq.tab ka3 tb2
  have Wa3 := Wb2.turn0 (x := 197) ⟨fun b o e n => .inl (ka3 b o n e)⟩ hg0 H0 id (fun o e => ntab _ o (Option.some.inj (e.symm.trans tb2)))
  have la3 := lb2.tab ka3 tb2
  have cca3 := qa3.ty ccb2 rfl (by decide) (by decide)
  have d0a3 := d0b2.kq qa3
  have d1a3 := d1b2.kq qa3
  have d2a3 := d2b2.kq qa3
  have m0a3 := m0b2.kq qa3
  have m1a3 := m1b2.kq qa3
  have m2a3 := m2b2.kq qa3
  have m3a3 : LamAt ha3 f3 3 c := by
    obtain ⟨co, vs, t, y1, y2, y3, y4⟩ := d3a3
    exact ⟨_, _, _, _, _, _, co, vs, t, _, _, _, ef3, cca3, rfl, rfl, y1, y2, y3, y4⟩
  refine x_loc Wa3 (v := .ref x) (hv := by kernel_rfl) ?_
  refine set_loc (G.X.keeps Wa3.F.keep) la3 (ht := by kernel_rfl) (hsz := by decide) ?_
  intro hb3 tkb3 lb3 sb3
  have ddb3 : ∃ o, ha3.get? d = some o ∧ o.cls = .type "dict" := by obtain ⟨_, o, _, _, e, c, _⟩ := la3.dict; exact ⟨o, e, c⟩
  have qb3 : Kq ha3 hb3 := Kq.dict sb3 ddb3
  have Wb3 := Wa3.own sb3 fd.1 fd.2.1 (fun o e => by
    obtain ⟨o', e', c'⟩ := ddb3
    rw [e] at e'; cases e'; rw [c']
    exact ⟨fun z => absurd (Value.type.inj z) (by decide), fun z => absurd (Value.type.inj z) (by decide)⟩) id (fun _ hp => nomatch hp)
  have tb3 := (sb3.2 197 (fun z => by obtain ⟨o', e', c'⟩ := ddb3; rw [← z, ta3] at e'; cases e'; cases c')).trans ta3
  have ccb3 := qb3.ty cca3 rfl (by decide) (by decide)
  have d0b3 := d0a3.kq qb3
  have d1b3 := d1a3.kq qb3
  have d2b3 := d2a3.kq qb3
  have d3b3 := d3a3.kq qb3
  have m0b3 := m0a3.kq qb3
  have m1b3 := m1a3.kq qb3
  have m2b3 := m2a3.kq qb3
  have m3b3 := m3a3.kq qb3
  refine wpAny_execs_cons ?_
  refine wpAny_Return_some ?_
  refine x_loc Wb3 (v := .ref x) (hv := by kernel_rfl) ?_
  exact h _ _ x k0 k1 k2 k3 Wb3.done0 ⟨d, _, _, f0, f1, f2, f3, lb3, by kernel_rfl, by kernel_rfl, by kernel_rfl, by kernel_rfl, m0b3, m1b3, m2b3, m3b3⟩ tb3 d0b3 d1b3 d2b3 d3b3
set_option maxHeartbeats 4000000 in
theorem place_old {k0 k1 k2 k3 : Addr} {c : Addr} {Q : Value → Shared → Prop} (G : Gr w H) (U : Up H hh) (C : CodeHd H 201 197) (H0 : H.get? 197 = none) (hd : A.depth < 900) (tb : hh.get? 197 = some (tabObj (tab4 k0 k1 k2 k3))) (d0 : CdAt hh k0 lamQ) (d1 : CdAt hh k1 lamQ) (d2 : CdAt hh k2 lamQ) (d3 : CdAt hh k3 lamQ)
    (h : ∀ h' tk x, KpN H (hideAll hh [197]) h' → LocL h' x c → h'.get? 197 = some (tabObj (tab4 k0 k1 k2 k3)) → Q (.ref x) ⟨h', gg, dd, tk, os⟩) : wpAny (model prog w) A (call (.ref 202) [.ref c]) Q E ⟨hh, gg, dd, tt, os⟩ := by
  have X := G.X.keeps U.keep
  obtain ⟨p, lo, me, mg, mb, T⟩ := G.T
  refine wpAny_call (codeAny_call_function (body := _) (fd := _) (Nat.lt_of_lt_of_le hd (by decide)) (X 202 _ rfl) rfl rfl rfl rfl (codeRec_of X (by kernel_rfl)) ?_)
  refine kp_binds (K := KF w) (binds := [("cell", .ref c)]) (s := ⟨hh, gg, dd, tt, os⟩) X (by intro S; kernel_rfl) _ _ _ _ ?_
  refine nfeC rfl rfl ?_
  intro h₁ k₁ n₁ f₁ c₁
  refine ⟨T.nolimit.keeps fun b o e => k₁ b o (U.keep b o e), ?_⟩
  refine codeAny_func ?_
  have hg0 : (hideAll hh [197]).get? 197 = none := hideAll_none _ (.head _)
  have W : St H (fun _ => False) (hideAll hh [197]) hh.objs.size h₁ (fun _ => none) [] :=
    ⟨⟨n₁, fun b o e => k₁ b o (U.keep b o e), U.size⟩, ⟨fun b o e _ => .inl (k₁ b o (of_hideAll _ e))⟩, Heap.get?_none_of_le (Nat.le_of_eq (hideAll_size _ _)), f₁, fun _ q => q.elim, fun _ q => q.elim, fun _ hp => nomatch hp⟩
  have hgP : mainGlobals ≠ 197 := by decide
  have ntab : ∀ ps o, (o = tabObj ps) → o.cls ≠ .type "traceback" ∧ o.cls ≠ .type "frame" := fun ps o e => by rw [e]; exact ⟨(fun z => nomatch z), (fun z => nomatch z)⟩
  generalize hLL : hh.objs.size = L at *
  refine wpAny_mono (E := fun _ _ => False) ?_ (fun _ _ z => z) (fun _ _ z => z.elim)
  -- place = Locator()
  refine wpAny_execs_cons ?_
  refine wpAny_Assign_Name (hs := by kernel_rfl) ?_
  refine Call_ ?_
  refine x_gl G W (v := .ref 191) (e := by kernel_rfl) ?_
  refine callWith_K0 (G.X.keeps W.F.keep) (by kernel_rfl) ?_
  refine mkLoc (G.X.keeps W.F.keep) ?_
  intro x d h₂ k₂ ed fx xs l₂
  have fd := W.fresh0
  rw [← ed] at fd
  have W₂ := W.call (.of_keeps k₂)
  refine x_store W₂ ?_ rfl (by kernel_rfl)
  intro h₃ tk₃ W₃ s₃
  have kf₃ : Kf h₂ h₃ := W₂.kf_store s₃
  have l₃ := l₂.kf kf₃
  have t₃ : h₃.get? 197 = some (tabObj (tab4 k0 k1 k2 k3)) := kf₃ _ _ (k₂ _ _ (k₁ _ _ tb)) (fun z => nomatch z) (fun z => nomatch z) (fun z => nomatch z) (fun z => nomatch z)
  have cc₃ := kf₃.ty (k₂ _ _ c₁) rfl (by decide) (by decide) (by decide) (by decide)
  have d0₃ := (d0.kq (Kq.of fun b o e => k₂ b o (k₁ b o e))).kq (show Kq h₂ h₃ from fun b o e _ _ n => (s₃.2 b fun z => by obtain ⟨o', q1, q2⟩ := W₂.fr; subst z; rw [e] at q1; cases q1; exact n q2).trans e)
  have d1₃ := (d1.kq (Kq.of fun b o e => k₂ b o (k₁ b o e))).kq (show Kq h₂ h₃ from fun b o e _ _ n => (s₃.2 b fun z => by obtain ⟨o', q1, q2⟩ := W₂.fr; subst z; rw [e] at q1; cases q1; exact n q2).trans e)
  have d2₃ := (d2.kq (Kq.of fun b o e => k₂ b o (k₁ b o e))).kq (show Kq h₂ h₃ from fun b o e _ _ n => (s₃.2 b fun z => by obtain ⟨o', q1, q2⟩ := W₂.fr; subst z; rw [e] at q1; cases q1; exact n q2).trans e)
  have d3₃ := (d3.kq (Kq.of fun b o e => k₂ b o (k₁ b o e))).kq (show Kq h₂ h₃ from fun b o e _ _ n => (s₃.2 b fun z => by obtain ⟨o', q1, q2⟩ := W₂.fr; subst z; rw [e] at q1; cases q1; exact n q2).trans e)
  -- getSystemId
  refine wpAny_execs_cons ?_
  refine plainObj_wpAny_Assign_Attribute (hs := by kernel_rfl) ?_
  refine kla_eval (hdef := by rfl) ?_
  refine lam_hit (c := 201) (P := 197) (mg := mg) (k := k0) (cq := ("cell", L + 1)) (cr := []) (hcl := by rfl) rfl (T.g.keeps W₃.F.keep) rfl (C.keeps W₃.F.keep) t₃ (tab4_ok _ _ _ _) tab4_0 (builtinsAt_of T H0 W₃.F.keep) ?_
  intro f0 ct0 ha0 tka0 ka0 ef0
  have qa0 : Kq h₃ ha0 := Kq.of ka0
  have Wa0 := W₃.call (.of_keeps ka0)
  have la0 := l₃.kf (Kf.of ka0)
  have ta0 := ka0 _ _ t₃
  have d0a0 := d0₃.kq qa0
  have d1a0 := d1₃.kq qa0
  have d2a0 := d2₃.kq qa0
  have d3a0 := d3₃.kq qa0
  have cca0 := qa0.ty cc₃ rfl (by decide) (by decide)
  have m0a0 : LamAt ha0 f0 0 c := by
    obtain ⟨co, vs, t, y1, y2, y3, y4⟩ := d0a0
    exact ⟨_, _, _, _, _, _, co, vs, t, _, _, _, ef0, cca0, rfl, rfl, y1, y2, y3, y4⟩
  refine x_loc Wa0 (v := .ref x) (hv := by kernel_rfl) ?_
  refine set_loc (G.X.keeps Wa0.F.keep) la0 (ht := by kernel_rfl) (hsz := by decide) ?_
  intro hb0 tkb0 lb0 sb0
  have ddb0 : ∃ o, ha0.get? d = some o ∧ o.cls = .type "dict" := by obtain ⟨_, o, _, _, e, c, _⟩ := la0.dict; exact ⟨o, e, c⟩
  have qb0 : Kq ha0 hb0 := Kq.dict sb0 ddb0
  have Wb0 := Wa0.own sb0 fd.1 fd.2.1 (fun o e => by
    obtain ⟨o', e', c'⟩ := ddb0
    rw [e] at e'; cases e'; rw [c']
    exact ⟨fun z => absurd (Value.type.inj z) (by decide), fun z => absurd (Value.type.inj z) (by decide)⟩) id (fun _ hp => nomatch hp)
  have tb0 := (sb0.2 197 (fun z => by obtain ⟨o', e', c'⟩ := ddb0; rw [← z, ta0] at e'; cases e'; cases c')).trans ta0
  have ccb0 := qb0.ty cca0 rfl (by decide) (by decide)
  have d0b0 := d0a0.kq qb0
  have d1b0 := d1a0.kq qb0
  have d2b0 := d2a0.kq qb0
  have d3b0 := d3a0.kq qb0
  have m0b0 := m0a0.kq qb0
  -- getLineNumber
  refine wpAny_execs_cons ?_
  refine plainObj_wpAny_Assign_Attribute (hs := by kernel_rfl) ?_
  refine kla_eval (hdef := by rfl) ?_
  refine lam_hit (c := 201) (P := 197) (mg := mg) (k := k1) (cq := ("cell", L + 1)) (cr := []) (hcl := by rfl) rfl (T.g.keeps Wb0.F.keep) rfl (C.keeps Wb0.F.keep) tb0 (tab4_ok _ _ _ _) tab4_1 (builtinsAt_of T H0 Wb0.F.keep) ?_
  intro f1 ct1 ha1 tka1 ka1 ef1
  have qa1 : Kq hb0 ha1 := Kq.of ka1
  have Wa1 := Wb0.call (.of_keeps ka1)
  have la1 := lb0.kf (Kf.of ka1)
  have ta1 := ka1 _ _ tb0
  have d0a1 := d0b0.kq qa1
  have d1a1 := d1b0.kq qa1
  have d2a1 := d2b0.kq qa1
  have d3a1 := d3b0.kq qa1
  have cca1 := qa1.ty ccb0 rfl (by decide) (by decide)
  have m0a1 := m0b0.kq qa1
  have m1a1 : LamAt ha1 f1 1 c := by
    obtain ⟨co, vs, t, y1, y2, y3, y4⟩ := d1a1
    exact ⟨_, _, _, _, _, _, co, vs, t, _, _, _, ef1, cca1, rfl, rfl, y1, y2, y3, y4⟩
  refine x_loc Wa1 (v := .ref x) (hv := by kernel_rfl) ?_
  refine set_loc (G.X.keeps Wa1.F.keep) la1 (ht := by kernel_rfl) (hsz := by decide) ?_
  intro hb1 tkb1 lb1 sb1
  have ddb1 : ∃ o, ha1.get? d = some o ∧ o.cls = .type "dict" := by obtain ⟨_, o, _, _, e, c, _⟩ := la1.dict; exact ⟨o, e, c⟩
  have qb1 : Kq ha1 hb1 := Kq.dict sb1 ddb1
  have Wb1 := Wa1.own sb1 fd.1 fd.2.1 (fun o e => by
    obtain ⟨o', e', c'⟩ := ddb1
    rw [e] at e'; cases e'; rw [c']
    exact ⟨fun z => absurd (Value.type.inj z) (by decide), fun z => absurd (Value.type.inj z) (by decide)⟩) id (fun _ hp => nomatch hp)
  have tb1 := (sb1.2 197 (fun z => by obtain ⟨o', e', c'⟩ := ddb1; rw [← z, ta1] at e'; cases e'; cases c')).trans ta1
  have ccb1 := qb1.ty cca1 rfl (by decide) (by decide)
  have d0b1 := d0a1.kq qb1
  have d1b1 := d1a1.kq qb1
  have d2b1 := d2a1.kq qb1
  have d3b1 := d3a1.kq qb1
  have m0b1 := m0a1.kq qb1
  have m1b1 := m1a1.kq qb1
  -- getColumnNumber
  refine wpAny_execs_cons ?_
  refine plainObj_wpAny_Assign_Attribute (hs := by kernel_rfl) ?_
  refine kla_eval (hdef := by rfl) ?_
  refine lam_hit (c := 201) (P := 197) (mg := mg) (k := k2) (cq := ("cell", L + 1)) (cr := []) (hcl := by rfl) rfl (T.g.keeps Wb1.F.keep) rfl (C.keeps Wb1.F.keep) tb1 (tab4_ok _ _ _ _) tab4_2 (builtinsAt_of T H0 Wb1.F.keep) ?_
  intro f2 ct2 ha2 tka2 ka2 ef2
  have qa2 : Kq hb1 ha2 := Kq.of ka2
  have Wa2 := Wb1.call (.of_keeps ka2)
  have la2 := lb1.kf (Kf.of ka2)
  have ta2 := ka2 _ _ tb1
  have d0a2 := d0b1.kq qa2
  have d1a2 := d1b1.kq qa2
  have d2a2 := d2b1.kq qa2
  have d3a2 := d3b1.kq qa2
  have cca2 := qa2.ty ccb1 rfl (by decide) (by decide)
  have m0a2 := m0b1.kq qa2
  have m1a2 := m1b1.kq qa2
  have m2a2 : LamAt ha2 f2 2 c := by
    obtain ⟨co, vs, t, y1, y2, y3, y4⟩ := d2a2
    exact ⟨_, _, _, _, _, _, co, vs, t, _, _, _, ef2, cca2, rfl, rfl, y1, y2, y3, y4⟩
  refine x_loc Wa2 (v := .ref x) (hv := by kernel_rfl) ?_
  refine set_loc (G.X.keeps Wa2.F.keep) la2 (ht := by kernel_rfl) (hsz := by decide) ?_
  intro hb2 tkb2 lb2 sb2
  have ddb2 : ∃ o, ha2.get? d = some o ∧ o.cls = .type "dict" := by obtain ⟨_, o, _, _, e, c, _⟩ := la2.dict; exact ⟨o, e, c⟩
  have qb2 : Kq ha2 hb2 := Kq.dict sb2 ddb2
  have Wb2 := Wa2.own sb2 fd.1 fd.2.1 (fun o e => by
    obtain ⟨o', e', c'⟩ := ddb2
    rw [e] at e'; cases e'; rw [c']
    exact ⟨fun z => absurd (Value.type.inj z) (by decide), fun z => absurd (Value.type.inj z) (by decide)⟩) id (fun _ hp => nomatch hp)
  have tb2 := (sb2.2 197 (fun z => by obtain ⟨o', e', c'⟩ := ddb2; rw [← z, ta2] at e'; cases e'; cases c')).trans ta2
  have ccb2 := qb2.ty cca2 rfl (by decide) (by decide)
  have d0b2 := d0a2.kq qb2
  have d1b2 := d1a2.kq qb2
  have d2b2 := d2a2.kq qb2
  have d3b2 := d3a2.kq qb2
  have m0b2 := m0a2.kq qb2
  have m1b2 := m1a2.kq qb2
  have m2b2 := m2a2.kq qb2
  -- getPublicId
  refine wpAny_execs_cons ?_
  refine plainObj_wpAny_Assign_Attribute (hs := by kernel_rfl) ?_
  refine kla_eval (hdef := by rfl) ?_
  refine lam_hit (c := 201) (P := 197) (mg := mg) (k := k3) (cq := ("cell", L + 1)) (cr := []) (hcl := by rfl) rfl (T.g.keeps Wb2.F.keep) rfl (C.keeps Wb2.F.keep) tb2 (tab4_ok _ _ _ _) tab4_3 (builtinsAt_of T H0 Wb2.F.keep) ?_
  intro f3 ct3 ha3 tka3 ka3 ef3
  have qa3 : Kq hb2 ha3 := Kq.of ka3
  have Wa3 := Wb2.call (.of_keeps ka3)
  have la3 := lb2.kf (Kf.of ka3)
  have ta3 := ka3 _ _ tb2
  have d0a3 := d0b2.kq qa3
  have d1a3 := d1b2.kq qa3
  have d2a3 := d2b2.kq qa3
  have d3a3 := d3b2.kq qa3
  have cca3 := qa3.ty ccb2 rfl (by decide) (by decide)
  have m0a3 := m0b2.kq qa3
  have m1a3 := m1b2.kq qa3
  have m2a3 := m2b2.kq qa3
  have m3a3 : LamAt ha3 f3 3 c := by
    obtain ⟨co, vs, t, y1, y2, y3, y4⟩ := d3a3
    exact ⟨_, _, _, _, _, _, co, vs, t, _, _, _, ef3, cca3, rfl, rfl, y1, y2, y3, y4⟩
  refine x_loc Wa3 (v := .ref x) (hv := by kernel_rfl) ?_
  refine set_loc (G.X.keeps Wa3.F.keep) la3 (ht := by kernel_rfl) (hsz := by decide) ?_
  intro hb3 tkb3 lb3 sb3
  have ddb3 : ∃ o, ha3.get? d = some o ∧ o.cls = .type "dict" := by obtain ⟨_, o, _, _, e, c, _⟩ := la3.dict; exact ⟨o, e, c⟩
  have qb3 : Kq ha3 hb3 := Kq.dict sb3 ddb3
  have Wb3 := Wa3.own sb3 fd.1 fd.2.1 (fun o e => by
    obtain ⟨o', e', c'⟩ := ddb3
    rw [e] at e'; cases e'; rw [c']
    exact ⟨fun z => absurd (Value.type.inj z) (by decide), fun z => absurd (Value.type.inj z) (by decide)⟩) id (fun _ hp => nomatch hp)
  have tb3 := (sb3.2 197 (fun z => by obtain ⟨o', e', c'⟩ := ddb3; rw [← z, ta3] at e'; cases e'; cases c')).trans ta3
  have ccb3 := qb3.ty cca3 rfl (by decide) (by decide)
  have d0b3 := d0a3.kq qb3
  have d1b3 := d1a3.kq qb3
  have d2b3 := d2a3.kq qb3
  have d3b3 := d3a3.kq qb3
  have m0b3 := m0a3.kq qb3
  have m1b3 := m1a3.kq qb3
  have m2b3 := m2a3.kq qb3
  have m3b3 := m3a3.kq qb3
  refine wpAny_execs_cons ?_
  refine wpAny_Return_some ?_
  refine x_loc Wb3 (v := .ref x) (hv := by kernel_rfl) ?_
  exact h _ _ x Wb3.done0 ⟨d, _, _, f0, f1, f2, f3, lb3, by kernel_rfl, by kernel_rfl, by kernel_rfl, by kernel_rfl, m0b3, m1b3, m2b3, m3b3⟩ tb3
end
end Mine
end
section
open PySem PySem.W PyProof.Rows PySem.Calls PySem.Spec
open PySem.Builtin PySem.Builtin.ObjectAttr PySem.Builtin.BaseException
set_option Elab.async false
set_option linter.unusedVariables false
set_option maxRecDepth 100000
namespace Mine
/-- the table of nested code turns, and what may turn without -/
structure Kt (H h h' : Heap) : Prop where
  k : Kp H (· = 197) h h'
  t : ∃ ps, h.get? 197 = some (tabObj ps)
section
variable {H h h' : Heap}
theorem Kt.ne {b : Addr} {o : Obj} (K : Kt H h h') (e : h.get? b = some o) (hc : o.cls ≠ .none) : ¬ b = 197 := fun z => by
  obtain ⟨ps, t⟩ := K.t
  subst z; rw [e] at t; cases t; exact hc rfl
theorem Kt.plain {b : Addr} {o : Obj} (K : Kt H h h') (e : h.get? b = some o) (p : plainO o) (hc : o.cls ≠ .none) : h'.get? b = some o := K.k.plain e p (K.ne e hc)
theorem Kt.ty {b : Addr} {o : Obj} {T : String} (K : Kt H h h') (e : h.get? b = some o) (hc : o.cls = .type T) (hT : T ≠ "frame") : h'.get? b = some o := K.plain e (plain_cls hc hT) (by rw [hc]; exact fun z => nomatch z)
theorem LsAt.kt {c : Addr} {vs : List Value} (y : LsAt h c vs) (K : Kt H h h') : LsAt h' c vs := let ⟨n, e⟩ := y; ⟨n, K.ty e rfl (by decide)⟩
theorem LocAt.kt {x d : Addr} {n : Nat} {m : Str → Option Value} (y : LocAt h x d n m) (K : Kt H h h') : LocAt h' x d n m := by
  obtain ⟨_, o, es, ep, e, c, _⟩ := id y.dict
  exact ⟨K.plain y.at_ plain_inst (fun z => nomatch z), y.dict.kp K.k (K.ne e (by rw [c]; exact fun z => nomatch z))⟩
theorem LamAt.kt {f c : Addr} {i : Nat} (y : LamAt h f i c) (K : Kt H h h') : LamAt h' f i c := by
  obtain ⟨qual, pm, c', ct, ca, oc, co, vs, tq, p1, p2, p3, y1, y2, y3, y4, y5, y6, y7, y8⟩ := y
  exact ⟨qual, pm, c', ct, ca, oc, co, vs, tq, p1, p2, p3, K.ty y1 rfl (by decide), K.ty y2 y3 (by decide), y3, y4, K.ty y5 y6 (by decide), y6, y7, y8⟩
theorem LocL.kt {x c : Addr} (y : LocL h x c) (K : Kt H h h') : LocL h' x c := by
  obtain ⟨d, n, m, f0, f1, f2, f3, y0, e0, e1, e2, e3, l0, l1, l2, l3⟩ := y
  exact ⟨d, n, m, f0, f1, f2, f3, y0.kt K, e0, e1, e2, e3, l0.kt K, l1.kt K, l2.kt K, l3.kt K⟩
theorem Loc0.kt {x : Addr} (y : Loc0 h x) (K : Kt H h h') : Loc0 h' x := by
  obtain ⟨d, n, m, y0, e⟩ := y
  exact ⟨d, n, m, y0.kt K, e⟩
theorem kt_hide {ps : Array Value} (k : KpN H (hideAll h [197]) h') (t : h.get? 197 = some (tabObj ps)) : Kt H h h' :=
  ⟨⟨fun b o e n => k.at_ b o (hideAll_get _ e (fun q => n (List.mem_singleton.mp q))) id⟩, ps, t⟩
theorem CdAt.kf {k : Addr} {q : Str} (y : CdAt h k q) (K : Kf h h') : CdAt h' k q := by
  obtain ⟨co, vs, t, y1, y2, y3⟩ := y
  exact ⟨co, vs, t, K.ty y1 y2 (by decide) (by decide) (by decide) (by decide), y2, y3⟩
theorem tab_kf {ps : Array Value} (t : h.get? 197 = some (tabObj ps)) (k : Kf h h') : h'.get? 197 = some (tabObj ps) := k _ _ t (fun z => nomatch z) (fun z => nomatch z) (fun z => nomatch z) (fun z => nomatch z)
theorem plain_tab {ps : Array Value} : plainO (tabObj ps) := ⟨(fun z => nomatch z), (fun C d t tb z => by cases z)⟩
theorem St.rebase {h₀ : Heap} {L : Addr} {m : Str → Option Value} {objs : List (Addr × Obj)} (W : St H (fun _ => False) h₀ L h m objs) (k : ∀ b o, H.get? b = some o → h₀.get? b = some o) : St H (fun _ => False) H L h m objs :=
  ⟨W.F, ⟨fun b o e n => W.k.at_ b o (k b o e) n⟩, Heap.get?_none_of_le W.F.above, W.fr, W.sx, fun _ q => q.elim, W.ob⟩
theorem St.tab {L : Addr} {m : Str → Option Value} {objs : List (Addr × Obj)} (W : St H (fun _ => False) H L h m objs) (K : Kt H h h') (H0 : H.get? 197 = none) : St H (fun _ => False) H L h' m [] :=
  W.turn0 K.k H0 H0 id fun o e => by
    obtain ⟨ps, t⟩ := K.t
    rw [e] at t; cases t
    exact ⟨(fun z => nomatch z), (fun z => nomatch z)⟩
theorem Gd.only {A : Around} {d u : Nat} {h₀ : Heap} {S : Addr → Prop} {L a : Addr} {m : Str → Option Value} {objs : List (Addr × Obj)} {cn : Str} {cs : Scope} {cd : Value} (h1 : A.depth + (d + 1) < 1000) (h2 : A.units + (u + 3) < 9900) (hf : A.frames = some []) (W : St H S h₀ L h m objs) (hk : cs.kind = .function) :
    Gd H (A.deeper (envOf cn cs L a cd)) h d u := by
  refine ⟨by show A.depth + 1 + d < 1000; omega, by show A.units + 3 + u < 9900; omega, [envOf cn cs L a cd], by show A.frames.map _ = _; rw [hf]; rfl, fun env he => ?_⟩
  rw [List.mem_singleton.mp he]
  obtain ⟨o, ho, hc⟩ := W.fr
  obtain ⟨o', es, n, ho', hd, _⟩ := W.F.ns
  rw [ho] at ho'; cases ho'
  exact ⟨by show cs.kind ≠ _; rw [hk]; decide, L, o, es, n, rfl, W.F.above, ho, hc, hd⟩
theorem ints_at {vs : List Value} {ns : List Int} (h : IntsAre vs ns) : ∀ {i : Nat} {v : Value}, vs[i]? = some v → ∃ n t, v = .int n t ∧ ns[i]? = some n := by
  induction h with
  | nil => intro i v e; simp at e
  | cons n t _ ih =>
    intro i v e
    cases i with
    | zero => cases e; exact ⟨n, t, rfl, rfl⟩
    | succ i => exact ih e
def cl00 : Nat → Cl
  | 0 => ⟨.n, .i (-1), .i (-1), .n⟩
  | 1 => ⟨.s "a.xml", .i 1, .i 0, .s "-//P"⟩
  | _ => ⟨.s "", .n, .i 7, .n⟩
theorem cl00_ok : ∀ i, i < 3 → (cl00 i).Good := by
  intro i hi
  match i, hi with
  | 0, _ => exact ⟨⟨(fun i z => nomatch z), (fun y z => nomatch z), (fun y z => nomatch z), trivial, ⟨(by decide : (-1 : Int).natAbs < 1000), (by decide +kernel : (Str.ofString (toString (-1 : Int))).length ≤ 10)⟩, ⟨(by decide : (-1 : Int).natAbs < 1000), (by decide +kernel : (Str.ofString (toString (-1 : Int))).length ≤ 10)⟩, trivial, (by decide +kernel : PyData.strOk (Str.ofString (toString (-1 : Int))) = true), (by decide +kernel : PyData.strOk (Str.ofString (toString (-1 : Int))) = true)⟩, trivial⟩
  | 1, _ => exact ⟨⟨(fun i z => nomatch z), (fun y z => nomatch z), (fun y z => nomatch z), (by decide +kernel : ("a.xml" : Str).length ≤ 100), ⟨(by decide : (1 : Int).natAbs < 1000), (by decide +kernel : (Str.ofString (toString (1 : Int))).length ≤ 10)⟩, ⟨(by decide : (0 : Int).natAbs < 1000), (by decide +kernel : (Str.ofString (toString (0 : Int))).length ≤ 10)⟩, (by decide +kernel : PyData.strOk ("a.xml" : Str) = true), (by decide +kernel : PyData.strOk (Str.ofString (toString (1 : Int))) = true), (by decide +kernel : PyData.strOk (Str.ofString (toString (0 : Int))) = true)⟩, (by decide +kernel : PyData.strOk ("-//P" : Str) = true)⟩
  | 2, _ => exact ⟨⟨(fun i z => nomatch z), (fun y z => nomatch z), (fun y z => nomatch z), (by decide +kernel : ("" : Str).length ≤ 100), trivial, ⟨(by decide : (7 : Int).natAbs < 1000), (by decide +kernel : (Str.ofString (toString (7 : Int))).length ≤ 10)⟩, (by decide +kernel : PyData.strOk ("" : Str) = true), trivial, (by decide +kernel : PyData.strOk (Str.ofString (toString (7 : Int))) = true)⟩, trivial⟩
end
section
variable {prog : Program} {w : World} {A : Around} {E : Value → Shared → Prop} {hh : Heap} {gg : Array GenState} {dd : Drawn} {tt : Nat} {os : OsState} {H h₀ : Heap} {S : Addr → Prop} {L : Addr} {m : Str → Option Value} {objs : List (Addr × Obj)} {env : Env}
theorem e_range2K {b n : Int} {t u : Tok} {Q : Value → Shared → Prop} (W : St H S h₀ L hh m objs)
    (h : ∀ r h' tk t u v, St H S h₀ L h' m ((r, rangeO b n t u v) :: objs) → Kf hh h' → Q (.ref r) ⟨h', gg, dd, tk, os⟩) : wpAny (model prog w) A (call (.type "range") [.int b t, .int n u]) Q E ⟨hh, gg, dd, tt, os⟩ :=
  call_range_2 (s := ⟨hh, gg, dd, tt, os⟩) (h _ _ _ _ _ _ (W.push _ (plain_type (by decide)) rfl) (Kf.of fun b o e => Heap.get?_push_of_some _ e))
theorem e_iterRK {r : Addr} {b n : Int} {t u v : Tok} {Q : Value → Shared → Prop} (W : St H S h₀ L hh m ((r, rangeO b n t u v) :: objs)) (hb : 0 ≤ b) (hn : b ≤ n) (hn2 : n ≤ 1000)
    (h : ∀ I h', h₀.get? I = none → H.objs.size ≤ I → ¬ S I → IsRangeIter h' I b ((n - b).toNat : Int) 1 → St H S h₀ L h' m objs → Kf hh h' → Q (.ref I) ⟨h', gg, dd, tt, os⟩) : wpAny (model prog w) A (pyIter (.ref r)) Q E ⟨hh, gg, dd, tt, os⟩ := by
  refine wpAny_pyIter_range (s := ⟨hh, gg, dd, tt, os⟩) (W.ob _ (.head _)).1 (small_one (by omega) (by omega) (by omega) (by omega)) ?_
  have f := W.fresh0
  refine h _ _ f.1 f.2.1 f.2.2 ?_ ((W.push _ (plain_type (by decide)) rfl).drop fun p hp => .tail _ (.tail _ hp)) (Kf.of fun b o e => Heap.get?_push_of_some _ e)
  have : Builtin.Range.rangeSize b n 1 = ((n - b).toNat : Int) := by rw [rangeSize_one]; split <;> omega
  rw [← this]
  exact Heap.get?_push_size _ rfl
theorem f_addl {l b : Addr} {vs us : List Value} {Q : Value → Shared → Prop} (W : St H S h₀ L hh m objs) (hl : LsAt hh l vs) (hb : LsAt hh b us) (hsz : vs.length + us.length ≤ 1000)
    (h : ∀ x h', LsAt h' x (vs ++ us) → St H S h₀ L h' m objs → Kf hh h' → hh.objs.size = x → Q (.ref x) ⟨h', gg, dd, tt, os⟩) : wpAny (model prog w) A (binaryOp .Add (.ref l) (.ref b)) Q E ⟨hh, gg, dd, tt, os⟩ := by
  obtain ⟨n1, e1⟩ := hl
  obtain ⟨n2, e2⟩ := hb
  refine PySem.P.add_list (s := ⟨hh, gg, dd, tt, os⟩) e1 e2 ?_ (by rw [List.size_toArray, List.size_toArray, sizeLine_eq]; omega)
  have W' := W.push { cls := .type "list", data := .seq (vs.toArray ++ us.toArray) } (plain_type (by decide)) rfl
  refine h _ _ ⟨0, ?_⟩ (W'.drop fun p hp => .tail _ hp) (Kf.of fun b o e => Heap.get?_push_of_some _ e) rfl
  rw [show (vs ++ us).toArray = vs.toArray ++ us.toArray by simp]
  exact W'.has (.head _)
end
section
variable {prog : Program} {w : World} {A : Around} {E : Value → Shared → Prop} {hh : Heap} {gg : Array GenState} {dd : Drawn} {tt : Nat} {os : OsState} {H : Heap}
set_option maxHeartbeats 8000000 in
theorem law272 {sc : Addr} {sv : List Value} {ns : List Int} {R : Result → Shared → Prop} (G : Gr w H) (U : Up H hh) (C : CodeHd H 201 197) (H0 : H.get? 197 = none) (tb : hh.get? 197 = some (tabObj #[])) (hsc : H.IsList sc sv.toArray) (hi : IntsAre sv ns) (hn : ns.length ≤ 63)
    (h1 : A.depth < 350) (h2 : A.units < 1000) (hf : A.frames = some []) (hA : A.handled = none)
    (h : ∀ h' tk L m, Fr H L h' m → (∃ ps, h'.get? 197 = some (tabObj ps)) → R (.ok (.ret (.bool true))) ⟨h', gg, dd, tk, os⟩) :
    codeAny (model prog w) A (.call (.ref 272) ⟨[.ref sc], []⟩) R ⟨hh, gg, dd, tt, os⟩ := by
  refine' enter (s := ⟨hh, gg, dd, tt, os⟩) (binds := [("script", .ref sc)]) G U (fun _ => False) (fun _ q => q.elim) ?k6 ?k7 ?kr ?k9 ?kB ?_ ?c2 ?c3 ?c4 ?c5
  (case k6 => rfl); (case k7 => kernel_rfl); (case kr => exact Nat.lt_of_lt_of_le h1 (by decide)); (case k9 => exact kp_binds (G.X.keeps U.keep) (by intro S; kernel_rfl)); (case kB => exact locs (by kernel_rfl)); (case c2 => exact rfl); (case c3 => exact rfl); (case c4 => exact rfl); (case c5 => decide)
  intro L h₁ hL hk₁ W0
  refine wpAny_mono (E := fun _ _ => False) ?_ (fun _ _ z => z) (fun _ _ z => z.elim)
  show wpAny (model prog w) _ _ _ _ ⟨h₁, gg, dd, _, os⟩
  have W := W0.rebase U.keep
  have t₁ := hk₁ _ _ tb
  clear W0
  -- cells
  refine wpAny_execs_cons ?_
  refine wpAny_Assign_Name (hs := by kernel_rfl) ?_
  refine List_ ?_
  refine spliced_more (he := by kernel_rfl) ?_
  refine List_ ?_
  refine spliced_more (he := by kernel_rfl) ?_
  refine e_none ?_
  refine spliced_more (he := by kernel_rfl) ?_
  refine UnaryOp_ ?_
  refine e_int ?_
  intro _ _
  refine e_neg ?_
  intro _ _
  refine spliced_more (he := by kernel_rfl) ?_
  refine UnaryOp_ ?_
  refine e_int ?_
  intro _ _
  refine e_neg ?_
  intro _ _
  refine spliced_more (he := by kernel_rfl) ?_
  refine e_none ?_
  refine spliced_none ?_
  refine f_list W (hsz := by show 4 ≤ 100; decide) ?_
  intro c0 h11 ec0 l0_11 W11 k11
  have t11 := tab_kf t₁ k11
  have low : (H.objs.size : Nat) ≤ c0 := by rw [ec0]; exact (Fr.up W.F).size
  refine spliced_more (he := by kernel_rfl) ?_
  refine List_ ?_
  refine spliced_more (he := by kernel_rfl) ?_
  refine e_str ?_
  intro _ _
  refine spliced_more (he := by kernel_rfl) ?_
  refine e_int ?_
  intro _ _
  refine spliced_more (he := by kernel_rfl) ?_
  refine e_int ?_
  intro _ _
  refine spliced_more (he := by kernel_rfl) ?_
  refine e_str ?_
  intro _ _
  refine spliced_none ?_
  refine f_list W11 (hsz := by show 4 ≤ 100; decide) ?_
  intro c1 h13 ec1 l1_13 W13 k13
  have t13 := tab_kf t11 k13
  have l0_13 := l0_11.kf k13
  have o01 : (c0 : Nat) < c1 := by rw [ec1]; obtain ⟨n, e⟩ := l0_11; exact Heap.lt_size e
  refine spliced_more (he := by kernel_rfl) ?_
  refine List_ ?_
  refine spliced_more (he := by kernel_rfl) ?_
  refine e_str ?_
  intro _ _
  refine spliced_more (he := by kernel_rfl) ?_
  refine e_none ?_
  refine spliced_more (he := by kernel_rfl) ?_
  refine e_int ?_
  intro _ _
  refine spliced_more (he := by kernel_rfl) ?_
  refine e_none ?_
  refine spliced_none ?_
  refine f_list W13 (hsz := by show 4 ≤ 100; decide) ?_
  intro c2 h15 ec2 l2_15 W15 k15
  have t15 := tab_kf t13 k15
  have l0_15 := l0_13.kf k15
  have l1_15 := l1_13.kf k15
  have o12 : (c1 : Nat) < c2 := by rw [ec2]; obtain ⟨n, e⟩ := l1_13; exact Heap.lt_size e
  refine spliced_none ?_
  refine f_list W15 (hsz := by show 3 ≤ 100; decide) ?_
  intro lc h16 elc lC_16 W16 k16
  have t16 := tab_kf t15 k16
  have l0_16 := l0_15.kf k16
  have l1_16 := l1_15.kf k16
  have l2_16 := l2_15.kf k16
  have o2c : (c2 : Nat) < lc := by rw [elc]; obtain ⟨n, e⟩ := l2_15; exact Heap.lt_size e
  refine f_store W16 ?_
  intro h17 tk17 W17 k17
  have t17 := tab_kf t16 k17
  have l0_17 := l0_16.kf k17
  have l1_17 := l1_16.kf k17
  have l2_17 := l2_16.kf k17
  have lC_17 := lC_16.kf k17
  -- places
  refine wpAny_execs_cons ?_
  refine wpAny_Assign_Name (hs := by kernel_rfl) ?_
  refine List_ ?_
  refine spliced_more (he := by kernel_rfl) ?_
  refine Call_ ?_
  refine e_gl G W17 (v := .ref 191) (e := by kernel_rfl) ?_
  refine callWith_K0 (G.X.keeps W17.F.keep) (by kernel_rfl) ?_
  refine mkLoc (G.X.keeps W17.F.keep) ?_
  intro p0 dp0 h18 kk18 edp fp0 sp0 lp0
  have W18 := W17.call (.of_keeps kk18)
  have t18 := tab_kf t17 (Kf.of kk18)
  have l0_18 := l0_17.kf (Kf.of kk18)
  have l1_18 := l1_17.kf (Kf.of kk18)
  have l2_18 := l2_17.kf (Kf.of kk18)
  have lC_18 := lC_17.kf (Kf.of kk18)
  have p0_18 : Loc0 h18 p0 := ⟨dp0, 0, _, lp0, rfl, rfl, rfl, rfl⟩
  refine spliced_more (he := by kernel_rfl) ?_
  refine Call_ ?_
  refine e_gl G W18 (v := .ref 202) (e := by kernel_rfl) ?_
  refine callWith_K (G.X.keeps W18.F.keep) (by kernel_rfl) ?_
  refine spliced_more (he := by kernel_rfl) ?_
  refine Subscript_ ?_
  refine e_loc W18 (v := .ref lc) (hv := by kernel_rfl) ?_
  refine e_int ?_
  intro _ _
  refine e_item (hl := lC_18) (v := .ref c1) (h0 := by decide) (hhi := by decide) (hx := rfl) (hs := by kernel_rfl) ?_
  refine spliced_none ⟨G.X.keeps W18.F.keep, ?_⟩
  refine place_new G (Fr.up W18.F) C H0 (hd := by show A.depth + 1 < 900; omega) t18 ?_
  intro h19 tk19 p1 y0 y1 y2 y3 kp19 p1_19 t19 y0_19 y1_19 y2_19 y3_19
  have K19 := kt_hide kp19 t18
  have W19 := W18.tab K19 H0
  have l0_19 := l0_18.kt K19
  have l1_19 := l1_18.kt K19
  have l2_19 := l2_18.kt K19
  have lC_19 := lC_18.kt K19
  have p0_19 := p0_18.kt K19
  refine spliced_more (he := by kernel_rfl) ?_
  refine Call_ ?_
  refine e_gl G W19 (v := .ref 202) (e := by kernel_rfl) ?_
  refine callWith_K (G.X.keeps W19.F.keep) (by kernel_rfl) ?_
  refine spliced_more (he := by kernel_rfl) ?_
  refine Subscript_ ?_
  refine e_loc W19 (v := .ref lc) (hv := by kernel_rfl) ?_
  refine e_int ?_
  intro _ _
  refine e_item (hl := lC_19) (v := .ref c2) (h0 := by decide) (hhi := by decide) (hx := rfl) (hs := by kernel_rfl) ?_
  refine spliced_none ⟨G.X.keeps W19.F.keep, ?_⟩
  refine place_old G (Fr.up W19.F) C H0 (hd := by show A.depth + 1 < 900; omega) t19 y0_19 y1_19 y2_19 y3_19 ?_
  intro h20 tk20 p2 kp20 p2_20 t20
  have K20 := kt_hide kp20 t19
  have W20 := W19.tab K20 H0
  have l0_20 := l0_19.kt K20
  have l1_20 := l1_19.kt K20
  have l2_20 := l2_19.kt K20
  have lC_20 := lC_19.kt K20
  have p0_20 := p0_19.kt K20
  have p1_20 := p1_19.kt K20
  refine spliced_none ?_
  refine f_list W20 (hsz := by show 3 ≤ 100; decide) ?_
  intro lp h21 elp lP_21 W21 k21
  have t21 := tab_kf t20 k21
  have l0_21 := l0_20.kf k21
  have l1_21 := l1_20.kf k21
  have l2_21 := l2_20.kf k21
  have lC_21 := lC_20.kf k21
  have p0_21 := p0_20.kf k21
  have p1_21 := p1_20.kf k21
  have p2_21 := p2_20.kf k21
  have ocp : (lc : Nat) < lp := by rw [elp]; obtain ⟨n, e⟩ := lC_20; exact Heap.lt_size e
  refine f_store W21 ?_
  intro h22 tk22 W22 k22
  have t22 := tab_kf t21 k22
  have l0_22 := l0_21.kf k22
  have l1_22 := l1_21.kf k22
  have l2_22 := l2_21.kf k22
  have lC_22 := lC_21.kf k22
  have p0_22 := p0_21.kf k22
  have p1_22 := p1_21.kf k22
  have p2_22 := p2_21.kf k22
  have lP_22 := lP_21.kf k22
  -- things
  refine wpAny_execs_cons ?_
  refine wpAny_Assign_Name (hs := by kernel_rfl) ?_
  refine List_ ?_
  refine spliced_more (he := by kernel_rfl) ?_
  refine e_none ?_
  refine spliced_more (he := by kernel_rfl) ?_
  refine List_ ?_
  refine spliced_none ?_
  refine f_list W22 (hsz := by show 0 ≤ 100; decide) ?_
  intro x1 h23 ex1 lX_23 W23 k23
  have t23 := tab_kf t22 k23
  have l0_23 := l0_22.kf k23
  have l1_23 := l1_22.kf k23
  have l2_23 := l2_22.kf k23
  have lC_23 := lC_22.kf k23
  have p0_23 := p0_22.kf k23
  have p1_23 := p1_22.kf k23
  have p2_23 := p2_22.kf k23
  have lP_23 := lP_22.kf k23
  have opx : (lp : Nat) < x1 := by rw [ex1]; obtain ⟨n, e⟩ := lP_22; exact Heap.lt_size e
  refine spliced_none ?_
  refine f_list W23 (hsz := by show 2 ≤ 100; decide) ?_
  intro lt h24 elt lT_24 W24 k24
  have t24 := tab_kf t23 k24
  have l0_24 := l0_23.kf k24
  have l1_24 := l1_23.kf k24
  have l2_24 := l2_23.kf k24
  have lC_24 := lC_23.kf k24
  have p0_24 := p0_23.kf k24
  have p1_24 := p1_23.kf k24
  have p2_24 := p2_23.kf k24
  have lP_24 := lP_23.kf k24
  have lX_24 := lX_23.kf k24
  have oxt : (x1 : Nat) < lt := by rw [elt]; obtain ⟨n, e⟩ := lX_23; exact Heap.lt_size e
  refine f_store W24 ?_
  intro h25 tk25 W25 k25
  have t25 := tab_kf t24 k25
  have l0_25 := l0_24.kf k25
  have l1_25 := l1_24.kf k25
  have l2_25 := l2_24.kf k25
  have lC_25 := lC_24.kf k25
  have p0_25 := p0_24.kf k25
  have p1_25 := p1_24.kf k25
  have p2_25 := p2_24.kf k25
  have lP_25 := lP_24.kf k25
  have lX_25 := lX_24.kf k25
  have lT_25 := lT_24.kf k25
  -- rows
  refine wpAny_execs_cons ?_
  refine wpAny_Assign_Name (hs := by kernel_rfl) ?_
  refine List_ ?_
  refine spliced_more (he := by kernel_rfl) ?_
  refine e_none ?_
  refine spliced_more (he := by kernel_rfl) ?_
  refine e_none ?_
  refine spliced_none ?_
  refine f_list W25 (hsz := by show 2 ≤ 100; decide) ?_
  intro lr h27 elr lR_27 W27 k27
  have t27 := tab_kf t25 k27
  have l0_27 := l0_25.kf k27
  have l1_27 := l1_25.kf k27
  have l2_27 := l2_25.kf k27
  have lC_27 := lC_25.kf k27
  have p0_27 := p0_25.kf k27
  have p1_27 := p1_25.kf k27
  have p2_27 := p2_25.kf k27
  have lP_27 := lP_25.kf k27
  have lX_27 := lX_25.kf k27
  have lT_27 := lT_25.kf k27
  have otr : (lt : Nat) < lr := by rw [elr]; obtain ⟨n, e⟩ := lT_25; exact Heap.lt_size e
  refine f_store W27 ?_
  intro h28 tk28 W28 k28
  have t28 := tab_kf t27 k28
  have l0_28 := l0_27.kf k28
  have l1_28 := l1_27.kf k28
  have l2_28 := l2_27.kf k28
  have lC_28 := lC_27.kf k28
  have p0_28 := p0_27.kf k28
  have p1_28 := p1_27.kf k28
  have p2_28 := p2_27.kf k28
  have lP_28 := lP_27.kf k28
  have lX_28 := lX_27.kf k28
  have lT_28 := lT_27.kf k28
  have lR_28 := lR_27.kf k28
  have wd : Wd H h28 ⟨c0, c1, c2, lc, lp, x1, lt, lr, p0, p1, p2⟩ cl00 [.none, .ref x1] [.none, .none] [] :=
    ⟨⟨⟨o01, o12, o2c, ocp, opx, oxt, otr⟩, low, lC_28, lP_28, ⟨_, _, _, _, l0_28, rfl, ⟨_, rfl⟩, ⟨_, rfl⟩, rfl⟩, p0_28, p1_28, p2_28, lX_28⟩,
      fun j hj => by
        match j, hj with
        | 0, _ => exact ⟨_, _, _, _, l0_28, rfl, ⟨_, rfl⟩, ⟨_, rfl⟩, rfl⟩
        | 1, _ => exact ⟨_, _, _, _, l1_28, ⟨_, rfl⟩, ⟨_, rfl⟩, ⟨_, rfl⟩, ⟨_, rfl⟩⟩
        | 2, _ => exact ⟨_, _, _, _, l2_28, ⟨_, rfl⟩, rfl, ⟨_, rfl⟩, rfl⟩,
      cl00_ok, rfl, lT_28, lR_28, rfl, rfl, rfl, rfl, fun i r q => by simp at q, fun i r q => by simp at q, fun i j v p q => by
        match i, j, p, q with
        | 0, 0, _, _ => rfl
        | 1, 1, _, _ => rfl
        | 0, 1, p, q => cases p; cases q
        | 1, 0, p, q => cases p; cases q
        | _ + 2, _, p, _ => simp at p
        | _, _ + 2, _, q => simp at q⟩
  obtain ⟨a, e1, e2, e3, e4, wd⟩ : ∃ a : Ad, a.lc = lc ∧ a.lp = lp ∧ a.lt = lt ∧ a.lr = lr ∧ Wd H h28 a cl00 [.none, .ref x1] [.none, .none] [] := ⟨_, rfl, rfl, rfl, rfl, wd⟩
  -- the deeds
  refine wpAny_execs_cons ?_
  refine wpAny_For ?_
  refine wpAny_BinOp ?_
  refine List_ ?_
  refine spliced_more (he := by kernel_rfl) ?_
  refine e_int ?_
  intro q0 _
  refine spliced_more (he := by kernel_rfl) ?_
  refine e_int ?_
  intro q1 _
  refine spliced_more (he := by kernel_rfl) ?_
  refine e_int ?_
  intro q2 _
  refine spliced_more (he := by kernel_rfl) ?_
  refine e_int ?_
  intro q3 _
  refine spliced_more (he := by kernel_rfl) ?_
  refine e_int ?_
  intro q4 _
  refine spliced_more (he := by kernel_rfl) ?_
  refine e_int ?_
  intro q5 _
  refine spliced_more (he := by kernel_rfl) ?_
  refine e_int ?_
  intro q6 _
  refine spliced_more (he := by kernel_rfl) ?_
  refine e_int ?_
  intro q7 _
  refine spliced_none ?_
  refine f_list W28 (hsz := by show 8 ≤ 100; decide) ?_
  intro la h70 ela la_70 W70 k70
  have t70 := tab_kf t28 k70
  have w70 := wd.kf k70
  refine Subscript_ ?_
  refine e_loc W70 (v := .ref sc) (hv := by kernel_rfl) ?_
  refine wpAny_Slice ?_
  rw [evalPart_none]
  refine wpAny_pure ?_
  rw [evalPart_some]
  refine e_int ?_
  intro tq tkq
  refine wpAny_pure ?_
  have sc70 : h70.IsList sc sv.toArray := let ⟨o, e, r⟩ := hsc; ⟨o, W70.F.keep _ _ e, r⟩
  refine slice_listK (s := ⟨h70, gg, dd, tkq, os⟩) sc70 .none (.int 24 tq) ?_ (hs := by kernel_rfl) (ht := by intro _; kernel_rfl) (hsz := by rw [List.size_toArray, hi.length, sizeLine_eq]; omega)
  have W71 := W70.push { cls := .type "slice", data := .fields #[.none, .int 24 tq, .none] } (plain_type (by decide)) rfl
  have W72 := W71.push { cls := .type "list", data := .seq (slicePick sv.toArray none (some 24) none) } (plain_type (by decide)) rfl
  have k72 : Kf h70 ((h70.push { cls := .type "slice", data := .fields #[.none, .int 24 tq, .none] }).push { cls := .type "list", data := .seq (slicePick sv.toArray none (some 24) none) }) := Kf.of fun b o e => Heap.get?_push_of_some _ (Heap.get?_push_of_some _ e)
  have ls72 := W72.has (.head _)
  rw [Heap.size_push] at ls72
  generalize ((h70.push { cls := .type "slice", data := .fields #[.none, .int 24 tq, .none] }).push { cls := .type "list", data := .seq (slicePick sv.toArray none (some 24) none) }) = h72 at *
  have t72 := tab_kf t70 k72
  have w72 := w70.kf k72
  have la_72 := la_70.kf k72
  have is72 := slice_ints_uptoW hi (y := 24) (by decide)
  generalize (slicePick sv.toArray none (some 24) none) = sl at *
  have lb72 : LsAt h72 (h70.objs.size + 1) sl.toList := ⟨0, by simpa using ls72⟩
  have nsl : sl.toList.length ≤ 24 := by rw [is72.length]; simp; omega
  refine f_addl (W72.drop (objs' := []) fun _ hp => nomatch hp) la_72 lb72 (hsz := by show 8 + sl.toList.length ≤ 1000; omega) ?_
  intro ll h73 ll_73 W73 k73 ell
  obtain ⟨its, ll_73, IA, hlen⟩ : ∃ its, LsAt h73 ll its ∧ IntsAre its (50 :: 214 :: 36 :: 165 :: 33 :: 61 :: 416 :: 1012 :: ns.take (24 : Int).toNat) ∧ its.length ≤ 32 :=
    ⟨_, ll_73, .cons 50 q0 (.cons 214 q1 (.cons 36 q2 (.cons 165 q3 (.cons 33 q4 (.cons 61 q5 (.cons 416 q6 (.cons 1012 q7 is72))))))), by simp only [List.length_append, List.length_cons, List.length_nil]; omega⟩
  have t73 := tab_kf t72 k73
  have w73 := w72.kf k73
  refine iter_listE W73 ll_73 ?_
  intro I h74 hI0 hIH hIS hIb hit W74 kk74
  have k74 : Kf h73 h74 := Kf.of kk74
  have t74 := tab_kf t73 k74
  have w74 := w73.kf k74
  have ll_74 := ll_73.kf k74
  obtain ⟨m₀, W75, n1, n2, n3, n4⟩ : ∃ m₀, St H (fun _ => False) H L h74 m₀ [] ∧ m₀ "cells" = some (.ref a.lc) ∧ m₀ "places" = some (.ref a.lp) ∧ m₀ "things" = some (.ref a.lt) ∧ m₀ "rows" = some (.ref a.lr) :=
    ⟨_, W74, by rw [e1]; kernel_rfl, by rw [e2]; kernel_rfl, by rw [e3]; kernel_rfl, by rw [e4]; kernel_rfl⟩
  have dI : ¬ Dx a I := fun z => by
    obtain ⟨us, n, e⟩ := w73.dl I z
    exact hIb _ _ e rfl
  have dl : ¬ Dx a ll := fun z => by
    obtain ⟨us, n, e⟩ := w72.dl ll z
    exact absurd (Heap.lt_size e) (by rw [ell]; exact Nat.lt_irrefl _)
  have lnn : ∀ i v, its[i]? = some v → ∃ n t, v = .int n t ∧ (i = 0 → n = 50) := fun i v q => by
    obtain ⟨n, t, e, r⟩ := ints_at IA q
    exact ⟨n, t, e, fun z => by subst z; cases r; rfl⟩
  refine for_list hA rfl (by kernel_rfl) W75 ll_74 hit hI0 hIH hIS
    (fun i m h => (∀ y : Str, y ≠ "x" → m y = m₀ y) ∧ (∃ ps, h.get? 197 = some (tabObj ps)) ∧ ∃ cl vs rs g, Wd H h a cl vs rs g ∧ g.length ≤ i ∧ (1 ≤ i → 1 ≤ g.length)) ?_ ?_ ?_ ?_
  · rintro i m h h' ⟨a1, ⟨ps, a2⟩, cl, vs, rs, g, a3, a4⟩ k
    exact ⟨a1, ⟨ps, tab_kf a2 k.kf⟩, cl, vs, rs, g, a3.kf k.kf, a4⟩
  · exact ⟨fun _ _ => rfl, ⟨_, t74⟩, _, _, _, _, w74, Nat.zero_le _, fun z => absurd z (by decide)⟩
  · rintro i m₁ h₁ tk v ob hv ⟨a1, ⟨ps, a2⟩, cl, vs, rs, g, a3, a4, a5⟩ hob hI W₁
    obtain ⟨n, tn, rfl, h50⟩ := lnn i v hv
    have hi40 : i < 40 := by
      have := (List.getElem?_eq_some_iff.mp hv).1
      omega
    have X₁ := G.X.keeps W₁.F.keep
    refine wpAny_execs_cons ?_
    refine wpAny_If ?_
    refine isTrue_not ?_
    refine isTrue_plain ?_
    refine Call_ ?_
    refine e_gl G W₁ (v := .ref 265) (e := by kernel_rfl) ?_
    refine callWith_K X₁ (by kernel_rfl) ?_
    refine spliced_more (he := by kernel_rfl) ?_
    refine e_loc W₁ (v := .int n tn) (hv := if_pos rfl) ?_
    refine spliced_more (he := by kernel_rfl) ?_
    refine e_loc W₁ (v := .ref a.lc) (hv := (if_neg (by decide +kernel)).trans ((a1 _ (by decide +kernel)).trans n1)) ?_
    refine spliced_more (he := by kernel_rfl) ?_
    refine e_loc W₁ (v := .ref a.lp) (hv := (if_neg (by decide +kernel)).trans ((a1 _ (by decide +kernel)).trans n2)) ?_
    refine spliced_more (he := by kernel_rfl) ?_
    refine e_loc W₁ (v := .ref a.lt) (hv := (if_neg (by decide +kernel)).trans ((a1 _ (by decide +kernel)).trans n3)) ?_
    refine spliced_more (he := by kernel_rfl) ?_
    refine e_loc W₁ (v := .ref a.lr) (hv := (if_neg (by decide +kernel)).trans ((a1 _ (by decide +kernel)).trans n4)) ?_
    refine spliced_none ⟨X₁, ?_⟩
    refine deed265 G (Fr.up W₁.F) a3 (hn := by omega) (hg := by
      rcases Nat.eq_zero_or_pos i with z | z
      · exact .inr (by rw [h50 z]; decide)
      · exact .inl (a5 z)) (gd := Gd.only (by omega) (by omega) hf W₁ rfl) (hA := hA) ?_
    intro h₂ tk₂ cl' vs' rs' g' k₂ w₂ g1 g2
    have low : ∀ b, Dx a b → H.objs.size ≤ b ∧ ∀ o, h₁.get? b = some o → o.cls ≠ .type "traceback" ∧ o.cls ≠ .type "frame" := fun b hb => by
      obtain ⟨q1, o, q2, q3⟩ := a3.sx b hb
      exact ⟨q1, fun o' e => by rw [q2] at e; cases e; exact q3⟩
    have W₂ : St H (fun _ => False) H L h₂ _ ob := W₁.turns (D := Dx a) k₂ (fun b hb => .inl (Heap.get?_none_of_le (low b hb).1)) low (fun _ _ q => q.elim) (fun p hp => ⟨hp, by rcases hob p hp with z | z <;> rw [z] <;> assumption⟩)
    have t₂ : h₂.get? 197 = some (tabObj ps) := k₂.plain a2 plain_tab (fun z => by
      obtain ⟨us, n, e⟩ := a3.dl _ z
      rw [a2] at e; cases e)
    refine e_truthb ?_
    refine e_ifF (hb := rfl) ?_
    refine wpAny_execs_nil ?_
    refine wpAny_execs_nil ?_
    exact ⟨_, _, _, rfl, W₂, fun y y1 => (if_neg y1).trans (a1 y y1), ⟨ps, t₂⟩, cl', vs', rs', g', w₂, by omega, fun _ => g1⟩
  · rintro h₁ m₁ tk W₁ ⟨a1, ⟨ps, a2⟩, cl, vs, rs, g, a3, a4, a5⟩
    have hnv := a3.nv
    have hnr := a3.nr
    have hgl : g.length ≤ 40 := by omega
    -- all at the end
    refine wpAny_execs_cons ?_
    refine wpAny_For ?_
    refine Call_ ?_
    refine e_bi G W₁ (v := .type "range") (e := by kernel_rfl) (hv := by kernel_rfl) (hn := by decide) ?_
    refine callT ?_
    refine spliced_more (he := by kernel_rfl) ?_
    refine e_int ?_
    intro _ _
    refine spliced_more (he := by kernel_rfl) ?_
    refine Call_ ?_
    refine e_bi G W₁ (v := .builtin "len") (e := by kernel_rfl) (hv := by kernel_rfl) (hn := by decide) ?_
    refine callB ?_
    refine spliced_more (he := by kernel_rfl) ?_
    refine e_loc W₁ (v := .ref a.lt) (hv := (a1 _ (by decide +kernel)).trans n3) ?_
    refine spliced_none ?_
    refine e_len a3.lt (hsz := by omega) ?_
    intro _ _
    refine spliced_none ?_
    refine e_range2K W₁ ?_
    intro r h₂ tk₂ t₂ u₂ v₂ W₂ k₂
    refine e_iterRK W₂ (by omega) (by omega) (by omega) ?_
    intro I₃ h₃ hI0 hIH hIS hit W₃ k₃
    have w₃ := a3.kf (k₂.trans k₃)
    have t₃ := tab_kf a2 (k₂.trans k₃)
    have e0 : ((vs.length : Int) - 2).toNat = g.length := by omega
    rw [e0] at hit
    refine for_range (n := g.length) hA rfl (by kernel_rfl) W₃ hit hI0 hIH hIS (fun i m h => (∀ y : Str, y ≠ "k" → m y = m₁ y) ∧ (∃ ps, h.get? 197 = some (tabObj ps)) ∧ Wd H h a cl vs rs g) ?_ ?_ ?_ ?_
    · rintro i m h h' ⟨b1, ⟨ps, b2⟩, b3⟩ k
      exact ⟨b1, ⟨ps, tab_kf b2 k.kf⟩, b3.kf k.kf⟩
    · exact ⟨fun _ _ => rfl, ⟨_, t₃⟩, w₃⟩
    · rintro i m₂ h₄ tk₄ t₄ ob hig ⟨b1, ⟨ps, b2⟩, b3⟩ hob W₄
      obtain ⟨r, hr⟩ : ∃ r, g[i]? = some r := ⟨g[i], List.getElem?_eq_getElem hig⟩
      obtain ⟨e, _, _, he, _⟩ := id (b3.er i r hr)
      obtain ⟨ra, _, _, _, _, hra, _⟩ := id (b3.row i r hr)
      have X₄ := G.X.keeps W₄.F.keep
      have lk : ∀ {y : Str} {v : Value}, y ≠ "k" → y ≠ "x" → m₀ y = some v → (fun z => if z = ("k" : Str) then some (Value.int (2 + (i : Int)) t₄) else m₂ z) y = some v := fun y1 y2 q => (if_neg y1).trans ((b1 _ y1).trans ((a1 _ y2).trans q))
      have ei : (2 + (i : Int)).toNat = i + 2 := by omega
      refine wpAny_execs_cons ?_
      refine wpAny_If ?_
      refine wpAny_isTrue_Compare1 (hm := by kernel_rfl) ?_
      refine Call_ ?_
      refine e_gl G W₄ (v := .ref 251) (e := by kernel_rfl) ?_
      refine callWith_K X₄ (by kernel_rfl) ?_
      refine spliced_more (he := by kernel_rfl) ?_
      refine Subscript_ ?_
      refine e_loc W₄ (v := .ref a.lt) (hv := lk (by decide +kernel) (by decide +kernel) n3) ?_
      refine e_loc W₄ (v := .int (2 + (i : Int)) t₄) (hv := if_pos rfl) ?_
      refine e_item (hl := b3.lt) (v := .ref e) (h0 := by omega) (hhi := by omega) (hx := by rw [ei]; exact he) (hs := by kernel_rfl) ?_
      refine spliced_more (he := by kernel_rfl) ?_
      refine e_loc W₄ (v := .ref a.lt) (hv := lk (by decide +kernel) (by decide +kernel) n3) ?_
      refine spliced_none ⟨X₄, ?_⟩
      refine askTold (i := i) G (Fr.up W₄.F) b3 hr he (hn := by omega) (gd := Gd.only (by omega) (by omega) hf W₄ rfl) (hA := hA) ?_
      intro h₅ tk₅ b₅ as₅ k₅ ra₅
      have W₅ := W₄.call k₅
      have w₅ := b3.kp k₅
      have X₅ := G.X.keeps W₅.F.keep
      refine Call_ ?_
      refine e_gl G W₅ (v := .ref 258) (e := by kernel_rfl) ?_
      refine callWith_K X₅ (by kernel_rfl) ?_
      refine spliced_more (he := by kernel_rfl) ?_
      refine Subscript_ ?_
      refine e_loc W₅ (v := .ref a.lr) (hv := lk (by decide +kernel) (by decide +kernel) n4) ?_
      refine e_loc W₅ (v := .int (2 + (i : Int)) t₄) (hv := if_pos rfl) ?_
      refine e_item (hl := w₅.lr) (v := .ref ra) (h0 := by omega) (hhi := by omega) (hx := by rw [ei]; exact hra) (hs := by kernel_rfl) ?_
      refine spliced_more (he := by kernel_rfl) ?_
      refine e_loc W₅ (v := .ref a.lc) (hv := lk (by decide +kernel) (by decide +kernel) n1) ?_
      refine spliced_none ⟨X₅, ?_⟩
      refine askDue (i := i) G (Fr.up W₅.F) w₅ hr hra (gd := Gd.only (by omega) (by omega) hf W₅ rfl) (hA := hA) ?_
      intro h₆ tk₆ b₆ as₆ k₆ ra₆
      have W₆ := W₅.call k₆
      have w₆ := w₅.kp k₆
      obtain ⟨q1, q2⟩ := row_ok w₆ hr
      refine ne_dataH (s := ⟨h₆, gg, dd, tk₆, os⟩) (readsKp k₆ ra₅) ra₆ q2 q2 (hu := by show A.units + 3 + 64 < 9900; omega) ?_
      rw [q1]
      refine e_truthb ?_
      refine e_ifF (hb := rfl) ?_
      refine wpAny_execs_nil ?_
      refine wpAny_execs_nil ?_
      exact ⟨_, _, _, rfl, W₆, fun y y1 => (if_neg y1).trans (b1 y y1), ⟨ps, (k₅.trans k₆).plain b2 plain_tab id⟩, w₆⟩
    · rintro h₄ m₂ tk₄ W₄ ⟨b1, b2, b3⟩
      refine wpAny_execs_cons ?_
      refine wpAny_Return_some ?_
      refine e_true ?_
      exact h _ _ _ _ W₄.F b2
end
end Mine
end
section
open PySem PySem.W PyProof.Rows
set_option Elab.async false
set_option linter.unusedVariables false
set_option maxRecDepth 100000
namespace Mine
set_option maxHeartbeats 8000000 in
theorem holds : PySem.Challenge.rw_lo0016_01.Holds := hd (by
  k_fill
  intro w s₀ s₁ mg mb G Y fa o pm cd doc dV kV ho hd hcd hD hmg hg args vals as hpre hlay hrd hwl hlo
  have KX := km_in_of Y
  km_tabs Y
  refine Ground.open G ?_
  intro T B D TE TW
  try (refine guard_noD D (by decide +kernel) ?_; clear D)
  km_lay T hmg ho hd cd
  wrow_args hpre hlay hrd hwl hlo
  rename_i ns hs1 hl0 hL1 hr1 hl2 a4 a3 sc sv a0 hL ra w1 r0 hI hr hc1 hc2
  refine enter_call ?_
  kn_posts
  have fe : some (Value.ref fa) = some (Value.ref 272) := hmg.symm.trans (mg_of KX T.g (by kernel_rfl))
  cases fe
  clear hmg ho hd hcd hD TE TW B
  obtain ⟨hh, gg, dd, tt, os⟩ := s₁
  dsimp only at *
  refine law272 (H := ghostOf hh [(201, 197)]) ⟨ghost_K hT9 KX (by kernel_rfl), _, _, _, _, _, ghost_top hT9 T⟩ ⟨fun b o e => of_hideAll _ e, Nat.le_of_eq (hideAll_size _ _)⟩ (ghost_code hT9).1 (hideAll_none _ (.head _)) (hT8 197 (.head _)) (ghost_list hT9 hL) hI (by omega) (by decide) (by decide) rfl rfl ?_
  intro h' tk L m F hp
  exact ⟨goodW_bool F hg (fun _ => rfl) (by kernel_rfl), hp, trivial⟩)
end Mine
end
set_option maxRecDepth 100000 in
set_option maxHeartbeats 8000000 in
theorem PySem.Challenge.cw_lo0016_01_holds : PySem.Challenge.rw_lo0016_01.Holds := by
  exact Mine.holds
