import PyProof.Rows.All
import Wide.All
import OpenK.AllK
import Wide.FinOn
import Flt.Zero
import PySem.Challenge.RW_oz0058_02

open PySem PySem.W
set_option Elab.async false
set_option maxRecDepth 100000
set_option maxHeartbeats 1000000
namespace Mine
/-- a heap laid as a tree -/
def fillT : List Obj → BT → Nat → Option (BT × Nat)
  | [], t, n => some (t, n)
  | o :: r, t, n => match ((t.ins n o).get n).isSome with
    | true => fillT r (t.ins n o) (n + 1)
    | false => none
theorem fillT_abs (life : Life) : ∀ (l : List Obj) (t : BT) (n : Nat) {t' : BT} {n' : Nat}, fillT l t n = some (t', n') → (absHeap t' n' life).objs = (absHeap t n life).objs ++ l.toArray
  | [], t, n, t', n', h => by
    unfold fillT at h; cases h; simp
  | o :: r, t, n, t', n', h => by
    unfold fillT at h
    split at h
    · rename_i g
      have := fillT_abs life r _ _ h
      rw [this, absHeap_ins g]
      show ((absHeap t n life).objs.push o) ++ r.toArray = _
      simp
    · cases h
def toT (s : Shared) : Option SharedT := match fillT s.heap.objs.toList .nil 0 with
  | some (t, n) => some ⟨t, n, s.heap.life, s.gens, s.drawn, s.toks, s.os⟩
  | none => none
theorem toT_abs {s : Shared} {t : SharedT} (h : toT s = some t) : t.abs = s := by
  unfold toT at h
  split at h
  · rename_i t n e
    cases h
    have := fillT_abs s.heap.life _ _ _ e
    obtain ⟨⟨objs, life⟩, gens, drawn, toks, os⟩ := s
    have h0 : (absHeap BT.nil 0 life).objs = #[] := by
      have := absHeap_size BT.nil 0 life
      exact Array.eq_empty_of_size_eq_zero this
    rw [h0] at this
    show (⟨absHeap t n life, gens, drawn, toks, os⟩ : Shared) = _
    have e2 : absHeap t n life = ⟨objs, life⟩ := by
      have e3 : (absHeap t n life).objs = objs := by rw [this]; simp
      show Heap.mk _ _ = Heap.mk _ _
      exact congrArg (Heap.mk · life) e3
    rw [e2]
  · cases h
end Mine

open PySem PySem.W
set_option Elab.async false
set_option maxRecDepth 100000
set_option maxHeartbeats 1000000
namespace Mine
def topG (st : (Code → Sem Fin) → Program → World → SharedT → Thread → Option (SharedT × Thread)) (dn : (String → Option Builtin) → Code → Sem Fin) (so : Nat → Option Value → Thread → Bool)
    (tb : String → Option Builtin) (p : Program) (w : World) (n₀ : Nat) (ann : Option Value) : Nat → SharedT → Thread → Option SharedT
  | 0, _, _ => none
  | n + 1, s, t => match through t with
    | true => some s
    | false => match so n₀ ann t with
      | false => none
      | true => match st (dn tb) p w s t with
        | some (s', t') => topG st dn so tb p w n₀ ann n s' t'
        | none => none
theorem topG_sound {tb : String → Option Builtin} {p : Program} {w : World} {n₀ : Nat} {ann : Option Value} : ∀ {n : Nat} {s r : SharedT} {t : Thread}, topG stepT denote stepOk tb p w n₀ ann n s t = some r → topRun tb p w n₀ ann n s.abs t = some r.abs
  | 0, s, r, t, h => by unfold topG at h; cases h
  | n + 1, s, r, t, h => by
    unfold topG at h
    unfold topRun
    cases e : through t with
    | true => rw [e] at h; cases h; rfl
    | false =>
      rw [e] at h
      dsimp only at h ⊢
      cases e2 : stepOk n₀ ann t with
      | false => rw [e2] at h; cases h
      | true =>
        rw [e2] at h
        dsimp only at h ⊢
        cases e3 : stepT (denote tb) p w s t with
        | none => rw [e3] at h; cases h
        | some x =>
          obtain ⟨s', t'⟩ := x
          rw [e3] at h
          rw [stepT_spec e3]
          exact topG_sound h
/-- the opening run on a tree -/
def impG (st : (Code → Sem Fin) → Program → World → SharedT → Thread → Option (SharedT × Thread)) (dn : (String → Option Builtin) → Code → Sem Fin) (tb : String → Option Builtin) (p : Program) (w : World) : Nat → SharedT → Thread → Option SharedT
  | 0, _, _ => none
  | n + 1, s, t => match t.atExitBegin with
    | some [] => some s
    | some (_ :: _) => none
    | none => match st (dn tb) p w s t with
      | some (s', t') => impG st dn tb p w n s' t'
      | none => none
theorem impG_sound {tb : String → Option Builtin} {p : Program} {w : World} : ∀ {n : Nat} {s r : SharedT} {t : Thread}, impG stepT denote tb p w n s t = some r → importEnds tb p w n s.abs t = some r.abs
  | 0, s, r, t, h => by unfold impG at h; cases h
  | n + 1, s, r, t, h => by
    unfold impG at h
    unfold importEnds
    cases e : t.atExitBegin with
    | some l =>
      rw [e] at h
      cases l with
      | nil => cases h; rfl
      | cons a b => cases h
    | none =>
      rw [e] at h
      dsimp only at h ⊢
      cases e3 : stepT (denote tb) p w s t with
      | none => rw [e3] at h; cases h
      | some x =>
        obtain ⟨s', t'⟩ := x
        rw [e3] at h
        rw [stepT_spec e3]
        exact impG_sound h
/-- the top, opening and all, told by its ends -/
def headC {α σ : Type} (sta : Program → Shared × Thread) (fm : Program → Shared → Option Shared) (st : (Code → Sem Fin) → Program → World → SharedT → Thread → Option (SharedT × Thread)) (dn : (String → Option Builtin) → Code → Sem Fin) (so : Nat → Option Value → Thread → Bool)
    (nm : Heap → Addr → Str → Option Value) (im : List Stmt → List Str) (sf : Program → List Str → List Str → (Shared → Bool) → Bool → Shared → σ) (tb : String → Option Builtin)
    (p q : Program) (loose : List Str) (Xt : Shared → Bool) (Yf : Shared → α) (N : Nat) (w : World) : Option (Bool × σ × α) :=
  match toT (sta (opening p)).1 with
  | none => none
  | some u₀ => match impG st dn tb (opening p) w N u₀ (sta (opening p)).2 with
    | none => none
    | some u₁ => match fm p u₁.abs with
      | none => none
      | some s₀ => match s₀.heap.isNs mainGlobals && s₀.gens.size == 0 with
        | false => none
        | true => match toT s₀ with
          | none => none
          | some t₀ => match topG st dn so tb p w s₀.heap.objs.size (nm s₀.heap mainGlobals "__annotations__") N t₀ (topStub p) with
            | none => none
            | some t₁ => some (staticsOk (im p.main.body) s₀.heap t₁.abs.heap && namesBound p t₁.abs.heap && gensDone t₁.abs && laidKept s₀.heap t₁.abs.heap, sf q loose (im p.main.body) Xt true t₁.abs, Yf t₁.abs)
theorem left_of {p q : Program} {loose : List Str} {Xt : Shared → Bool} {α : Type} {Yf : Shared → α} {Ya : World → α} {N : Nat}
    (h : ∀ w : World, headC start fenceModules? stepT denote stepOk Heap.nsMap importedModules openSeen treeTable p q loose Xt Yf N w = some (true, openGood q loose, Ya w)) : LeftO p q loose Xt Yf Ya N := fun w => by
  have h := h w
  unfold headC at h
  unfold openEnds fencedOpening
  split at h
  · cases h
  · rename_i u₀ d0
    split at h
    · cases h
    · rename_i u₁ d1
      have d2 := impG_sound d1
      rw [toT_abs d0] at d2
      rw [d2]
      split at h
      · cases h
      · rename_i s₀ d3
        show ((fenceModules? p u₁.abs).bind (topFrom treeTable p w N)).map _ = _
        rw [d3]
        show (topFrom treeTable p w N s₀).map _ = _
        unfold topFrom
        split at h
        · cases h
        · rename_i e2
          rw [e2]
          dsimp only
          split at h
          · cases h
          · rename_i t₀ e3
            split at h
            · cases h
            · rename_i t₁ e4
              have e5 := topG_sound e4
              rw [toT_abs e3] at e5
              rw [e5]
              have h' := Option.some.inj h
              have a1 := congrArg Prod.fst h'
              have a2 := congrArg Prod.snd h'
              dsimp only at a1 a2
              show (match staticsOk (importedModules p.main.body) s₀.heap t₁.abs.heap && namesBound p t₁.abs.heap && gensDone t₁.abs && laidKept s₀.heap t₁.abs.heap with | true => some t₁.abs | false => none).map _ = _
              rw [a1]
              exact congrArg some a2
theorem headC_tw {α : Type} {p q : Program} {loose : List Str} {Xt : Shared → Bool} {Yf : Shared → α} {N : Nat} {w : World} :
    headC start fenceModules? stepT denote stepOk Heap.nsMap importedModules openSeen treeTable p q loose Xt Yf N w =
    headC Fast.tw1435165496053646825 Fast.tw14289696077712309145 Fast.tw10156331382660048174 Fast.tw11892475500146522536 Fast.tw6613529449190102663 Fast.tw8920871248978507458 Fast.tw5923862056798008813 Fast.tw4187177175401517315 Fast.tw14364793385576792824 p q loose Xt Yf N w := by
  rw [Fast.te1435165496053646825, Fast.te14289696077712309145, Fast.te10156331382660048174, Fast.te11892475500146522536, Fast.te6613529449190102663, Fast.te8920871248978507458, Fast.te5923862056798008813, Fast.te4187177175401517315, Fast.te14364793385576792824]
end Mine

open PySem PySem.W
set_option Elab.async false
set_option maxRecDepth 100000
set_option maxHeartbeats 8000000
namespace Mine
section
local macro_rules | `(tactic| o_head $H) => `(tactic| (have := $H; assumption))
/-- this lays the written part of the heap, no more -/
theorem lay02 (h : PySem.Challenge.rw_oz0058_02.row.Holds) : PySem.Challenge.rw_oz0058_02.row.Holds := by k_head
end
theorem lays02 : (PySem.Challenge.pw_oz0058_02.main.body.length == 8) = true := by k_qdec
noncomputable def view02 : Program := PySem.W.view PySem.Challenge.pw_oz0058_02 [0, 1, 3, 4, 6, 7]
def as02 : List Addr := [2, 3, 43, 45, 46, 48, 49, 50, 57, 58, 59, 60, 70, 71, 72, 74, 75, 77, 78, 79, 81, 82, 84, 85, 86, 87, 88, 89, 90, 92, 93, 95, 96, 97, 99, 100, 102, 103, 104, 106, 107, 109, 110, 111, 113, 114, 116, 117, 118, 119, 121, 122, 124, 125, 126, 128, 129, 131, 132, 133, 135, 136, 138, 139, 140, 142, 143, 145, 146, 147, 148, 150, 151, 153, 154, 155, 156, 158, 159, 161, 162, 163, 164, 166, 167, 169, 170, 171, 172, 174, 175, 177, 178, 179, 180, 182, 183, 185, 186, 187, 189, 190, 192, 193, 194, 196, 197, 199, 200, 201, 203, 204, 206, 207, 208, 210, 211, 213, 214, 215, 217, 218, 220, 221, 222, 224, 225, 227, 228, 229, 231, 232, 234, 235, 236, 238, 239, 241, 242, 243, 245, 246, 248, 249, 250, 252, 253, 255, 256, 257, 259, 260, 262, 263, 264, 269, 270, 271, 272, 275, 277, 278, 280, 281, 282, 285, 286]
theorem as02_eq (P : Params) : as02 = (lay02.heap_1 P).map (·.1) := by kernel_rfl
/-- the run of the top, by the one answer that it asks of the world -/
theorem run02f : ∀ w : World, headC Fast.tw1435165496053646825 Fast.tw14289696077712309145 Fast.tw10156331382660048174 Fast.tw11892475500146522536 Fast.tw6613529449190102663 Fast.tw8920871248978507458 Fast.tw5923862056798008813 Fast.tw4187177175401517315 Fast.tw14364793385576792824
    PySem.Challenge.rw_oz0058_02.row.toRowW.prog view02 [(Str.ofString "NormalDist")] (fun s => xlAt view02 [] s && recOk (RowW.records (OpenRow.toRowW PySem.Challenge.rw_oz0058_02.row)) s) (Hook.obs (kHook lay02.heap_1 as02 as02_eq)) 3908 (w.withFollow "special-get-raises" false) =
    some (true, openGood view02 [(Str.ofString "NormalDist")], Hook.val (kHook lay02.heap_1 as02 as02_eq) (w.withFollow "special-get-raises" false)) := by
  rw [show PySem.Challenge.rw_oz0058_02.row.toRowW.prog = PySem.Challenge.pw_oz0058_02 from rfl]
  unfold view02
  rw [PySem.W.Fast.te11359732767971284161]
  intro w
  kernel_rfl
theorem run02t : ∀ w : World, headC Fast.tw1435165496053646825 Fast.tw14289696077712309145 Fast.tw10156331382660048174 Fast.tw11892475500146522536 Fast.tw6613529449190102663 Fast.tw8920871248978507458 Fast.tw5923862056798008813 Fast.tw4187177175401517315 Fast.tw14364793385576792824
    PySem.Challenge.rw_oz0058_02.row.toRowW.prog view02 [(Str.ofString "NormalDist")] (fun s => xlAt view02 [] s && recOk (RowW.records (OpenRow.toRowW PySem.Challenge.rw_oz0058_02.row)) s) (Hook.obs (kHook lay02.heap_1 as02 as02_eq)) 3908 (w.withFollow "special-get-raises" true) =
    some (true, openGood view02 [(Str.ofString "NormalDist")], Hook.val (kHook lay02.heap_1 as02 as02_eq) (w.withFollow "special-get-raises" true)) := by
  rw [show PySem.Challenge.rw_oz0058_02.row.toRowW.prog = PySem.Challenge.pw_oz0058_02 from rfl]
  unfold view02
  rw [PySem.W.Fast.te11359732767971284161]
  intro w
  kernel_rfl
section
local macro_rules | `(tactic| k_head) => `(tactic| (refine PySem.W.holds_open (q := view02) (loose := [(Str.ofString "NormalDist")]) (Xt := (fun s => xlAt view02 [] s && recOk (RowW.records (OpenRow.toRowW PySem.Challenge.rw_oz0058_02.row)) s)) (XP := XL view02 []) (Yf := Hook.obs (kHook lay02.heap_1 as02 as02_eq)) (Ya := Hook.val (kHook lay02.heap_1 as02 as02_eq)) (YP := Hook.says (kHook lay02.heap_1 as02 as02_eq)) (N := 3908) ?hl (Hook.of (kHook lay02.heap_1 as02 as02_eq)) (Hook.keeps (kHook lay02.heap_1 as02 as02_eq)) (fun s e => xl_of s (Bool.and_eq_true_iff.mp e).1) XL.keeps (by rfl) (by rfl) (by rfl) (fun s e => recFacts_of (Bool.and_eq_true_iff.mp e).2) (by rfl) (by assumption) (by decide +kernel) ⟨rfl, rfl, rfl, rfl, rfl, by decide +kernel⟩ ?hw ?hc; (case hl => (refine left_of (fun w => headC_tw.trans ?_); revert w; exact byRow2 "special-get-raises" run02f run02t))))
open_top hd02 for PySem.Challenge.rw_oz0058_02
end
end Mine

open PySem PySem.W PySem.Calls PyProof.Rows
set_option Elab.async false
set_option maxRecDepth 100000
set_option maxHeartbeats 4000000
namespace Mine

def hyp (a b : UInt64) : UInt64 := Builtin.Math.vectorNorm [Float64.abs a, Float64.abs b]

theorem kind_hyp : builtinKind "math.hypot" = none := by decide +kernel
theorem plain_hyp : plainId "math.hypot" = true := by decide +kernel
theorem entry_hyp : entryFor table "math.hypot" = some Builtin.«math.hypot» := entryFor_of_fast (by kernel_rfl)
theorem args_hyp (a b : Value) : argsOk "math.hypot" ⟨[a, b], []⟩ := by unfold argsOk; kernel_rfl

section
variable {prog : Program} {w : World} {A : Around} {E : Value → Shared → Prop} {s : Shared} {x y : UInt64} {t u : Tok} {Q : Value → Shared → Prop}
theorem call_hyp (h : Q (.float (hyp x y) s.toks) { s with toks := s.toks + 1 }) : wpAny (model prog w) A (call (.builtin "math.hypot") [.float x t, .float y u]) Q E s := by
  refine call_function_entry kind_hyp plain_hyp entry_hyp (args_hyp _ _) ?_
  show wpAny _ _ (Builtin.Float.retFloat (hyp x y)) _ _ s
  exact wpAny_bind (wpAny_mkFloat (wpAny_pure ⟨_, rfl, h⟩))
end

/-- nothing that stands is lost -/
abbrev Stays (h h' : Heap) : Prop := ∀ b o, h.get? b = some o → h'.get? b = some o
theorem Stays.refl (h : Heap) : Stays h h := fun _ _ e => e
theorem Stays.trans {a b c : Heap} (x : Stays a b) (y : Stays b c) : Stays a c := fun _ _ e => y _ _ (x _ _ e)
theorem Fr.grow {h₀ h h' : Heap} {L : Addr} {m : Str → Option Value} (F : Fr h₀ L h m) (k : Stays h h') : Fr h₀ L h' m := ⟨F.ns.keeps k, fun b o e => k b o (F.keep b o e), F.above⟩
theorem News.grow {h₀ h h' : Heap} {L : Addr} {news : List (Addr × Obj)} (N : News h₀ L h news) (k : Stays h h') : News h₀ L h' news := fun p hp => ⟨k _ _ (N p hp).1, (N p hp).2⟩
theorem fresh_of {h h' : Heap} {r : Addr} (k : Stays h h') (f : h'.get? r = none) : h.get? r = none := by
  cases e : h.get? r with
  | none => rfl
  | some o => rw [k _ _ e] at f; cases f
theorem get_propS {prog : Program} {w : World} {A : Around} {E : Value → Shared → Prop} {s : Shared} {K : Frag} {x C L : Addr} {h₀ : Heap} {m : Str → Option Value} {ox : Obj} {name : Str} {expr : Bool} {Q : Value → Shared → Prop} {p fget : Addr} {rest : List Value} {od : Obj} (F : Fr h₀ L s.heap m) (X₀ : K.In h₀) (I : W.InstAt s.heap x ox C (some od)) (hg : plainGet K C name = true) (hc : isClsIn K C = true)
    (ha : findIn K (.ref C) name = some (some (.ref p))) (hn : specialIn K (.ref p) "__get__" = some (some (.builtin "property.__get__"))) (ht : takesIn K (.ref p) = some true) (hp : recIn K p "property" = some (.ref fget :: rest))
    (h : codeAny (model prog w) A.in1 (.call (.ref fget) ⟨[.ref x], []⟩) (fun r s' => match r with | .ok (.ret v) => wpAny (model prog w) A (handedOut v) Q E s' | .ok _ => False | .error e => wpAny (model prog w) A (noteIf true (.ref x) (.str name s.toks) e) (fun _ s'' => E e s'') E s') { s with toks := s.toks + 1 }) :
    wpAny (model prog w) A (getAttr (.ref x) name expr) Q E s :=
  get_bind (X₀.keeps F.keep) I (plainGet_of hg).1 (findObj_data hc ha hn ht) (plainGet_of hg).2 (wpAny_call (prop_get (s := { s with toks := s.toks + 1 }) (X₀.keeps F.keep) hp h))
theorem InstAt.grow {h h' : Heap} {x C : Addr} {ox : Obj} {od : Option Obj} (I : W.InstAt h x ox C od) (k : Stays h h') : W.InstAt h' x ox C od := by
  obtain ⟨a, b, c, d⟩ := I
  refine ⟨k _ _ a, b, c, ?_⟩
  revert d
  cases ox.dict <;> cases od <;> intro d
  · exact d
  · exact d
  · exact d
  · exact k _ _ d


theorem fits_le8 {n : Int} (h : n.natAbs ≤ 8) : n.natAbs < 2 ^ 1023 := Nat.lt_of_le_of_lt h (by decide +kernel)
theorem notOver_le8 {n : Int} (h : n.natAbs ≤ 8) : ¬ Flt.Over n := by
  intro o
  have : (2 : Nat) ^ 1024 - 2 ^ 970 ≤ 8 := Nat.le_trans o h
  revert this; decide +kernel
section
variable {prog : Program} {w : World} {A : Around} {E : Value → Shared → Prop} {s : Shared} {x y : UInt64} {t u : Tok} {n : Int} {Q : Value → Shared → Prop}
theorem div_ff (h0 : Float64.isZero y = false) (h : Q (.float (Float64.div x y) s.toks) { s with toks := s.toks + 1 }) : wpAny (model prog w) A (binaryOp .Div (.float x t) (.float y u)) Q E s :=
  AutoFloatOps.truediv_1 (by rw [h0]; decide) h
theorem div_fi (h8 : n.natAbs ≤ 8) (h0 : n ≠ 0) (h : Q (.float (Float64.div x (Float64.ofInt n)) s.toks) { s with toks := s.toks + 1 }) : wpAny (model prog w) A (binaryOp .Div (.float x t) (.int n u)) Q E s :=
  AutoFloatOps.truediv_fi_2 (Float64.ofInt_fits (fits_le8 h8)) (fun z => h0 ((Flt.isZero_ofInt n).mp z)) h
end
section
variable {M : Model} {A : Around} {E : Value → Shared → Prop} {s : Shared} {x C : Addr} {a : UInt64} {n : Int} {t : Tok} {ox : Obj} {od : Option Obj} {Q : Fin → Shared → Prop}
theorem flt_declines (name : String) (f : UInt64 → UInt64 → Sem Value) (hx : s.heap.get? x = some ox) (hd : ox.data = .plain) (h : Q (.done (.ret .notImplemented)) s) :
    wpAny M A (Builtin.Float.floatBin name f false ⟨[.float a t, .ref x], []⟩) Q E s := by
  obtain ⟨c, d, da, sl⟩ := ox
  dsimp only at hd; subst hd
  unfold Builtin.Float.floatBin Builtin.Float.floatSlot
  repeat (first | exact h | wp_step)
theorem int_declines (name : String) (f : Int → Int → Sem Fin) (hx : s.heap.get? x = some ox) (hd : ox.data = .plain) (h : Q (.done (.ret .notImplemented)) s) :
    wpAny M A (Builtin.Int.intBinary name f false ⟨[.int n t, .ref x], []⟩) Q E s := by
  obtain ⟨c, d, da, sl⟩ := ox
  dsimp only at hd; subst hd
  unfold Builtin.Int.intBinary
  repeat (first | exact h | wp_step)
end

section
variable {M : Model} {A : Around} {E : Value → Shared → Prop} {s : Shared} {K : Frag} {x C L f : Addr} {h₀ : Heap} {m : Str → Option Value} {ox : Obj} {od : Option Obj} {nm T : String} {prog : Program} {w : World}

/-- a built-in number on the left declines, the object's own reflected method takes it -/
theorem bin_refl {op : Operator} {a : Value} {idl : String} {B : Builtin} {Q : Value → Shared → Prop} (F : Fr h₀ L s.heap m) (X₀ : K.In h₀) (I : W.InstAt s.heap x ox C od) (ha : s.TypeIs a T)
    (hc : selfFirst K C = true) (hp : findIn K (.ref C) (PySem.dunder op.info.2) = some (some (.ref f))) 
    (hs : findIn K (.ref C) (dunderR op.info.2) = some (some (.ref f'))) (hf : isFn K (.ref f') = true)
    (fills : fillsNumberSlot (.type T) op.info.2 = pure true) (hsub : subIn K (.ref C) (.type T) = some false)
    (slot : Slot T (dunder op.info.2) idl) (entry : entryFor table idl = some B) (args : argsOk idl ⟨[a, .ref x], []⟩)
    (g : ∀ (A' : Around) (E' : Value → Shared → Prop) (Q' : Fin → Shared → Prop), Q' (.done (.ret .notImplemented)) s → wpAny (model prog w) A' (B ⟨[a, .ref x], []⟩) Q' E' s)
    (h : wpAny (model prog w) A (call (.ref f') [.ref x, a]) (W.CmpBack Q) E s) : wpAny (model prog w) A (binaryOp op a (.ref x)) Q E s := by
  have X := X₀.keeps F.keep
  obtain ⟨cd, rest, hcd, hm⟩ := ksp_first hc
  rcases hi : op.info with ⟨sym, nm'⟩
  rw [hi] at hp hs fills slot
  dsimp only at hp hs fills slot
  have two := ksp_try X I hs hf h
  have L1 : Looks (model prog w) s.heap (typeOf (.ref x)) (.ref C) := I.type
  have L3 : Looks (model prog w) s.heap (fillsNumberSlot (.ref C) nm') true := fills_K X hcd hm hp
  have L5 : Looks (model prog w) s.heap (isSubtype (.ref C) (.type T)) false := looks_subIn X hsub
  have hne : (Value.type T == Value.ref C) = false := Bool.eq_false_iff.mpr fun q => by cases beq_iff_eq.mp q
  have hpy : numberSlotInPython (.type T) nm' = pure false := rfl
  simp only [binaryOp, hi]
  refine wpAny_holding (wpAny_bind ?_)
  unfold binaryOp1
  refine wpAny_bind (wpAny_typeOf ha (wpAny_bind (L1.here (wpAny_bind (wpAny_of_eq fills ?_)))))
  simp only [hne, Bool.false_eq_true, if_false]
  refine wpAny_bind (L3.here ?_)
  simp only [Bool.and_self, if_true]
  refine wpAny_bind (L5.here ?_)
  simp only [Bool.false_eq_true, if_false, pure_bind, Bool.not_false, Bool.and_self, if_true, hpy]
  refine wpAny_bind (wpAny_tryMethod_declines ha slot (wpAny_call (codeAny_call_builtin slot.plain entry (slot.check _ _ _ _ _ _ _ _ ha args (g _ _ _ ?_)))) )
  refine ⟨rfl, ?_⟩
  refine wpAny_bind (wpAny_mono two (fun r s' hr' => ?_) fun _ _ e => e)
  obtain ⟨v, rfl, hq⟩ := hr'
  exact wpAny_bind (wpAny_rule (wpAny_pure (wpAny_pure hq)))
end

end Mine

open PySem PySem.W PySem.Calls PyProof.Rows
set_option Elab.async false
set_option maxRecDepth 100000
set_option maxHeartbeats 8000000
namespace Mine

theorem fill_ (w : World) (h : Heap) : (lay02.heap_1 w.params).In h → Challenge.rw_oz0058_02.row.prog = Challenge.rw_oz0058_02.row.prog := by
  k_fill
  intros; rfl

abbrev ndObj (dx : Addr) (a b : Value) : Obj := { cls := .ref 270, dict := some dx, data := .plain, slots := #[some a, some b] }
/-- not below nought -/
abbrev Nn (f : UInt64) : Prop := (Float64.cmp f 0 == some Ordering.lt) = false

/-- the world of the text stands in the heap -/
def Wd (w : World) (h : Heap) : Prop := ∃ (h₀ : Heap) (L : Addr) (m : Str → Option Value) (loose : List Str) (mean : ExcName → Option Value) (mg mb : Str → Option Value),
  Fr h₀ L h m ∧ (lay02.heap_1 w.params).In h₀ ∧ Top view02 loose mean mg mb h₀
theorem Wd.grow {w : World} {h h' : Heap} (W : Wd w h) (k : Stays h h') : Wd w h' := by
  obtain ⟨h₀, L, m, l, me, mg, mb, F, X, T⟩ := W
  exact ⟨h₀, L, m, l, me, mg, mb, Fr.grow F k, X, T⟩
theorem Wd.inK {w : World} {h : Heap} (W : Wd w h) : (lay02.heap_1 w.params).In h := by
  obtain ⟨h₀, L, m, l, me, mg, mb, F, X, T⟩ := W
  exact X.keeps F.keep

/-- a normal stands at x -/
structure ND (h : Heap) (x : Addr) (mu sg : UInt64) : Prop where
  ex : ∃ dx t1 t2, h.get? x = some (ndObj dx (.float mu t1) (.float sg t2)) ∧ h.get? dx = some (dictOf [] 0) ∧ t1 ≠ 0 ∧ t2 ≠ 0
  nn : Nn sg
theorem ND.grow {h h' : Heap} {x : Addr} {mu sg : UInt64} (D : ND h x mu sg) (k : Stays h h') : ND h' x mu sg := by
  obtain ⟨⟨dx, t1, t2, a, b, c⟩, n⟩ := D
  exact ⟨⟨dx, t1, t2, k _ _ a, k _ _ b, c⟩, n⟩

theorem allLt_ne {d x : Nat} : ∀ {l : List (Addr × Obj)}, AllLt d l → @LE.le Nat _ d x → ∀ p ∈ l, p.1 ≠ x
  | [], _, _, _, h => nomatch h
  | p :: r, ⟨a, b⟩, hd, q, hq => by
    rcases List.mem_cons.mp hq with rfl | hq
    · exact Nat.ne_of_lt (Nat.lt_of_lt_of_le a hd)
    · exact allLt_ne b hd q hq

section
variable {w : World} {A : Around} {E : Value → Shared → Prop} {s : Shared} {Q : Value → Shared → Prop}

/-- a def of the text is entered over the heap as it stands -/
theorem enterD {g : Heap} {news : List (Addr × Obj)} {loose : List Str} {mean : ExcName → Option Value} {mg mb : Str → Option Value} {R : Result → Shared → Prop} {name qual : Str} {params : Arguments} {body : List Stmt} {scope : Scope} {dV kV doc pm cdv ct oc : Value} {an od : Option Addr} {osl : Array (Option Value)} {f : Addr} {args : Args} {binds : List (Str × Value)} {K : Frag}
    (X : K.In g) (T : Top view02 loose mean mg mb g) (k : Stays g s.heap) (hz : g.objs.size ≤ s.heap.objs.size) (N : ∀ p ∈ news, s.heap.get? p.1 = some p.2 ∧ g.get? p.1 = none)
    (ho : K.lookup f = some ⟨oc, od, .func (fnOf name qual params body scope dV kV doc pm an cdv ct), osl⟩) (hcd : codeIn K cdv qual = true) (hroom : A.depth < recursionLimit)
    (hbind : BindsTo s (fnOf name qual params body scope dV kV doc pm an cdv ct) args binds) (hloc : ∀ y ∈ binds, scope.names.lookup y.1 = some .local)
    (h : ∀ h₁ L', Fr g L' h₁ (fun y => binds.reverse.lookup y) → News g L' h₁ news → K.In g → Top view02 loose mean mg mb g →
      wpAny (model Challenge.rw_oz0058_02.row.prog w) (A.deeper (envOf qual scope L' f cdv)) (execs body (envOf qual scope L' f cdv))
        (fun fl s' => R (.ok (.ret (match fl with | .ret v => v | _ => .none))) s')
        (fun e s' => wpAny (model Challenge.rw_oz0058_02.row.prog w) (A.deeper (envOf qual scope L' f cdv)) (leaving (envOf qual scope L' f cdv) e) (fun _ s'' => R (.error e) s'') (fun e' s'' => R (.error e') s'') s')
        { s with heap := h₁, toks := s.toks + binds.length })
    (hco : scope.isCoroutine = false) (hgen : scope.isGenerator = false) (hk : scope.kind = .function)
    (hcell : ∀ x ∈ scope.names, x.2 ≠ .cell) : codeAny (model Challenge.rw_oz0058_02.row.prog w) A (.call (.ref f) args) R s := by
  refine codeAny_call_def (fd := fnOf name qual params body scope dV kV doc pm an cdv ct) (body := body) (binds := binds) hroom (X.keeps k _ _ ho) rfl (T.nolimit.keeps k) (codeRec_of (X.keeps k) hcd) rfl hbind hcell hloc (fun h₁ hns hk₁ => ?_) hco hgen hk
  refine h h₁ s.heap.objs.size ⟨hns, fun b o e => hk₁ _ _ (k _ _ e), hz⟩ (fun p hp => ⟨hk₁ _ _ (N p hp).1, Nat.ne_of_lt (Heap.lt_size (N p hp).1), (N p hp).2⟩) X T


local macro_rules | `(tactic| k_all) => `(tactic| exact allLt_ne (by assumption) (by omega))

theorem c_mkF {mu sg : UInt64} {t1 t2 : Tok} (W : Wd w s.heap) (hroom : A.depth + 2 < recursionLimit) (hs : Nn sg) (z1 : t1 ≠ 0) (z2 : t2 ≠ 0)
    (hQ : ∀ x dx t1 t2 h' tk, Stays s.heap h' → s.heap.get? x = none → s.heap.get? dx = none → h'.get? x = some (ndObj dx (.float mu t1) (.float sg t2)) → h'.get? dx = some (dictOf [] 0) → t1 ≠ 0 → t2 ≠ 0 → Q (.ref x) { s with heap := h', toks := tk }) :
    wpAny (model Challenge.rw_oz0058_02.row.prog w) A (call (.ref 270) [.float mu t1, .float sg t2] []) Q E s := by
  have X₀ := W.inK
  obtain ⟨h₀, L, m, l, me, mg, mb, F, X, T⟩ := W
  obtain ⟨hh, gg, dr, tk, os⟩ := s
  dsimp only at F X₀ hQ ⊢
  have T₀ := T.keeps F.keep
  refine wpAny_call (make_core (makes_of X₀ (by k_is)) (looks_findIn X₀ (by k_is)) (fun self => bind_fn X₀ self (by k_is)) (.inl rfl) ?_)
  have n0 : hh.get? hh.objs.size = none := by
    cases e : hh.get? hh.objs.size with
    | none => rfl
    | some o => exact absurd (Heap.lt_size e) (Nat.lt_irrefl _)
  have n1 : hh.get? (hh.objs.size + 1) = none := by
    cases e : hh.get? (hh.objs.size + 1) with
    | none => rfl
    | some o => exact absurd (Heap.lt_size e) (by have : @LE.le Nat _ hh.objs.size (hh.objs.size + 1) := Nat.le_succ _; exact Nat.not_lt.mpr this)
  have k1 : Stays hh ((hh.push emptyDict).push (instObj 270 hh.objs.size)) := fun b o e => Heap.get?_push_of_some _ (Heap.get?_push_of_some _ e)
  have i0 : ((hh.push emptyDict).push (instObj 270 hh.objs.size)).get? hh.objs.size = some emptyDict := Heap.get?_push_of_some _ (Heap.get?_push_size _ rfl)
  have i1 : ((hh.push emptyDict).push (instObj 270 hh.objs.size)).get? (hh.objs.size + 1) = some (instObj 270 hh.objs.size) := by
    have := Heap.get?_push_size (h := hh.push emptyDict) (o := instObj 270 hh.objs.size) rfl
    rwa [Heap.size_push] at this
  generalize hx : hh.objs.size + 1 = x at *
  have hlt : @LT.lt Nat _ hh.objs.size x := hx ▸ Nat.lt_succ_self _
  generalize hdx : hh.objs.size = dx at *
  refine' enterD (g := hh) (news := [(x, instObj 270 dx), (dx, dictOf [] 0)]) (od := none) X₀ T₀ k1 (by rw [Heap.size_push, Heap.size_push]; exact Nat.le_succ_of_le (Nat.le_succ _)) ?nw ?k6 ?k7 ?k8 ?k9 ?kB ?_ ?c2 ?c3 ?c4 ?c5
  case nw =>
    intro p hp
    simp only [List.mem_cons, List.not_mem_nil, or_false] at hp
    rcases hp with rfl | rfl
    · exact ⟨i1, n1⟩
    · exact ⟨i0, n0⟩
  (case k6 => k_is); (case k7 => k_is); (case k8 => (simp only [depth_under_make]; omega));  (case k9 => exact binds_K (X₀.keeps k1) rfl (by k_is) rfl rfl rfl); (case c5 => decide); (case kB => exact locs rfl); (case c2 => exact rfl); (case c3 => exact rfl); (case c4 => exact rfl)
  intro h' L' F' N' X' T'
  dsimp only
  repeat' (first | walk1 | (dsimp only; walk1))
  refine ⟨rfl, ?_⟩
  dsimp only
  rename Fr hh L' _ _ => F1
  rename News hh L' _ _ => N1
  exact hQ _ _ _ _ _ _ F1.keep n1 n0 (N1 _ (.head _)).1 (N1 _ (.tail _ (.head _))).1 z1 z2
theorem c_mk {mu sg : UInt64} {t1 t2 : Tok} (W : Wd w s.heap) (hroom : A.depth + 2 < recursionLimit) (hs : Nn sg) (z1 : t1 ≠ 0) (z2 : t2 ≠ 0)
    (hQ : ∀ x h' tk, Stays s.heap h' → s.heap.get? x = none → ND h' x mu sg → Q (.ref x) { s with heap := h', toks := tk }) :
    wpAny (model Challenge.rw_oz0058_02.row.prog w) A (call (.ref 270) [.float mu t1, .float sg t2] []) Q E s :=
  c_mkF W hroom hs z1 z2 fun x dx t1 t2 h' tk k n1 _ e1 e2 y1 y2 => hQ x h' tk k n1 ⟨⟨dx, t1, t2, e1, e2, y1, y2⟩, hs⟩

--CONTRACTS
theorem flt_cls {f : UInt64} {u : Tok} {prog : Program} {w : World} {A : Around} {E : Value → Shared → Prop} {Q : Option Value → Shared → Prop} {s : Shared} (_ : True) (h : Q (some (.type "float")) { s with toks := s.toks + 1 }) : wpAny (model prog w) A (getAttr? (.float f u) "__class__") Q E s := class_attr_float h
local macro_rules | `(tactic| walk_at "call builtin:isinstance") => `(tactic| (k_here; (with_reducible show wpAny _ _ (call _ [Value.float _ _, Value.ref _]) _ _ _); k_dflt (refine' isn_call (T := "float") (P := fun _ => True) ?k1 ?k2 ?k3 ?k4 ?k5 flt_cls ?_; (case k1 => k_in); (case k2 => (intro M; exact Looks.of_pure rfl)); (case k3 => k_not); (case k4 => intro e; cases e); (case k5 => trivial); k_whole)))
local macro_rules | `(tactic| k_inst) => `(tactic| exact InstAt.grow (by with_reducible assumption) (Fr.keep (by k_asm)))
local macro_rules | `(tactic| walk_at "call ref") => `(tactic| (k_here; (with_reducible show wpAny _ _ (call (Value.ref 270) [Value.float _ _, Value.float _ _] []) _ _ _); (refine' c_mk ?W ?r ?n ?z1 ?z2 ?_); (case W => exact ⟨_, _, _, _, _, _, _, by with_reducible assumption, by with_reducible assumption, by with_reducible assumption⟩); (case r => (simp only [depth_deeper, depth_in1]; omega)); (case n => assumption); (case z1 => first | assumption | exact Nat.succ_ne_zero _); (case z2 => first | assumption | exact Nat.succ_ne_zero _); intro x' h' tk' S' f' D'; (rename Fr _ _ _ _ => kF); (have F2' := Fr.grow kF S')))
local macro_rules | `(tactic| walk_at "call builtin:math.hypot") => `(tactic| (refine call_hyp ?_))
local macro_rules | `(tactic| walk_at "call builtin:math.fabs") => `(tactic| ((with_reducible show wpAny _ _ (call _ [Value.int _ _]) _ _ _); refine Flt.call_fabs_int (by assumption) (fun o => absurd o (notOver_le8 (by assumption))) (fun _ => ?_)))
local macro_rules | `(tactic| walk_at "binaryOp Add float int") => `(tactic| refine add_fi_fits (fits_le8 (by assumption)) ?_)
local macro_rules | `(tactic| walk_at "binaryOp Sub float int") => `(tactic| refine sub_fi_fits (fits_le8 (by assumption)) ?_)
local macro_rules | `(tactic| walk_at "binaryOp Mult float int") => `(tactic| refine mul_fi_fits (fits_le8 (by assumption)) ?_)
local macro_rules | `(tactic| walk_at "binaryOp Div float float") => `(tactic| refine div_ff (by assumption) ?_)
local macro_rules | `(tactic| walk_at "binaryOp Div float int") => `(tactic| refine div_fi (by assumption) (by assumption) ?_)

--MORE
theorem c_addnn {a b c d : UInt64} {x y : Addr} (W : Wd w s.heap) (hx : ND s.heap x a b) (hy : ND s.heap y c d) (hn : Nn (hyp b d)) (hroom : A.depth + 12 < recursionLimit)
    (hQ : ∀ r h' tk, Stays s.heap h' → s.heap.get? r = none → ND h' r (Float64.add a c) (hyp b d) → Q (.ref r) { s with heap := h', toks := tk }) :
    wpAny (model Challenge.rw_oz0058_02.row.prog w) A (binaryOp .Add (.ref x) (.ref y)) Q E s := by
  have X₀ := W.inK
  obtain ⟨h₀, L, m, l, me, mg, mb, F, X, T⟩ := W
  have T₀ := T.keeps F.keep
  obtain ⟨⟨dx, t1x, t2x, h1x, h2x, z1x, z2x⟩, nx⟩ := hx
  have Ix : W.InstAt s.heap x (ndObj dx (.float _ t1x) (.float _ t2x)) 270 (some (dictOf [] 0)) := ⟨h1x, rfl, rfl, h2x⟩
  obtain ⟨⟨dy, t1y, t2y, h1y, h2y, z1y, z2y⟩, ny⟩ := hy
  have Iy : W.InstAt s.heap y (ndObj dy (.float _ t1y) (.float _ t2y)) 270 (some (dictOf [] 0)) := ⟨h1y, rfl, rfl, h2y⟩
  refine' binop_K F X Ix Iy.type ?k5 ?k6' ?k7' ?_
  (case k5 => k_is); (case k6' => k_is); (case k7' => k_is)
  refine wpAny_call ?_
  refine' enterD (g := s.heap) (news := []) (od := none) X₀ T₀ (Stays.refl _) (Nat.le_refl _) (fun p hp => nomatch hp) ?k6 ?k7 ?k8 ?k9 ?kB ?_ ?c2 ?c3 ?c4 ?c5
  (case k6 => k_is); (case k7 => k_is); (case k8 => omega); (case k9 => first | exact BindsTo.of_eq rfl | exact binds_K X₀ rfl (by k_is) rfl rfl rfl); (case c5 => decide); (case kB => exact locs rfl); (case c2 => exact rfl); (case c3 => exact rfl); (case c4 => exact rfl)
  intro h' L' F' N' X' T'
  dsimp only
  repeat' (first | walk1 | (dsimp only; walk1))
  all_goals dsimp only [W.CmpBack]
  rename ND _ _ _ _ => D1
  rename Fr s.heap L' _ _ => F1
  refine hQ _ _ _ F1.keep ?_ D1
  rename (Heap.get? _ _ = none) => f1
  exact fresh_of (Fr.keep (by assumption)) f1

theorem c_subnn {a b c d : UInt64} {x y : Addr} (W : Wd w s.heap) (hx : ND s.heap x a b) (hy : ND s.heap y c d) (hn : Nn (hyp b d)) (hroom : A.depth + 12 < recursionLimit)
    (hQ : ∀ r h' tk, Stays s.heap h' → s.heap.get? r = none → ND h' r (Float64.sub a c) (hyp b d) → Q (.ref r) { s with heap := h', toks := tk }) :
    wpAny (model Challenge.rw_oz0058_02.row.prog w) A (binaryOp .Sub (.ref x) (.ref y)) Q E s := by
  have X₀ := W.inK
  obtain ⟨h₀, L, m, l, me, mg, mb, F, X, T⟩ := W
  have T₀ := T.keeps F.keep
  obtain ⟨⟨dx, t1x, t2x, h1x, h2x, z1x, z2x⟩, nx⟩ := hx
  have Ix : W.InstAt s.heap x (ndObj dx (.float _ t1x) (.float _ t2x)) 270 (some (dictOf [] 0)) := ⟨h1x, rfl, rfl, h2x⟩
  obtain ⟨⟨dy, t1y, t2y, h1y, h2y, z1y, z2y⟩, ny⟩ := hy
  have Iy : W.InstAt s.heap y (ndObj dy (.float _ t1y) (.float _ t2y)) 270 (some (dictOf [] 0)) := ⟨h1y, rfl, rfl, h2y⟩
  refine' binop_K F X Ix Iy.type ?k5 ?k6' ?k7' ?_
  (case k5 => k_is); (case k6' => k_is); (case k7' => k_is)
  refine wpAny_call ?_
  refine' enterD (g := s.heap) (news := []) (od := none) X₀ T₀ (Stays.refl _) (Nat.le_refl _) (fun p hp => nomatch hp) ?k6 ?k7 ?k8 ?k9 ?kB ?_ ?c2 ?c3 ?c4 ?c5
  (case k6 => k_is); (case k7 => k_is); (case k8 => omega); (case k9 => first | exact BindsTo.of_eq rfl | exact binds_K X₀ rfl (by k_is) rfl rfl rfl); (case c5 => decide); (case kB => exact locs rfl); (case c2 => exact rfl); (case c3 => exact rfl); (case c4 => exact rfl)
  intro h' L' F' N' X' T'
  dsimp only
  repeat' (first | walk1 | (dsimp only; walk1))
  all_goals dsimp only [W.CmpBack]
  rename ND _ _ _ _ => D1
  rename Fr s.heap L' _ _ => F1
  refine hQ _ _ _ F1.keep ?_ D1
  rename (Heap.get? _ _ = none) => f1
  exact fresh_of (Fr.keep (by assumption)) f1

theorem c_addnf {a b f : UInt64} {t : Tok} {x : Addr} (W : Wd w s.heap) (hx : ND s.heap x a b) (hh : A.handled = none) (hroom : A.depth + 12 < recursionLimit)
    (hQ : ∀ r h' tk, Stays s.heap h' → s.heap.get? r = none → ND h' r (Float64.add a f) b → Q (.ref r) { s with heap := h', toks := tk }) :
    wpAny (model Challenge.rw_oz0058_02.row.prog w) A (binaryOp .Add (.ref x) (.float f t)) Q E s := by
  have X₀ := W.inK
  obtain ⟨h₀, L, m, l, me, mg, mb, F, X, T⟩ := W
  have T₀ := T.keeps F.keep
  obtain ⟨⟨dx, t1x, t2x, h1x, h2x, z1x, z2x⟩, nx⟩ := hx
  have Ix : W.InstAt s.heap x (ndObj dx (.float _ t1x) (.float _ t2x)) 270 (some (dictOf [] 0)) := ⟨h1x, rfl, rfl, h2x⟩
  refine' ksp_binT (T := "float") F X Ix ?hB ?hC ?hS ?hF ?hR ?hP ?h1 ?h2 ?hU ?_; (case hB => exact rfl); (case hS => k_is); (case hF => k_is); (case hC => k_is); (case hR => k_is); (case hP => first | exact .inl rfl | exact .inr ⟨_, rfl⟩); (case h1 => k_is); (case h2 => k_is); (case hU => k_is)
  refine wpAny_call ?_
  refine' enterD (g := s.heap) (news := []) (od := none) X₀ T₀ (Stays.refl _) (Nat.le_refl _) (fun p hp => nomatch hp) ?k6 ?k7 ?k8 ?k9 ?kB ?_ ?c2 ?c3 ?c4 ?c5
  (case k6 => k_is); (case k7 => k_is); (case k8 => omega); (case k9 => first | exact BindsTo.of_eq rfl | exact binds_K X₀ rfl (by k_is) rfl rfl rfl); (case c5 => decide); (case kB => exact locs rfl); (case c2 => exact rfl); (case c3 => exact rfl); (case c4 => exact rfl)
  intro h' L' F' N' X' T'
  dsimp only
  repeat' (first | walk1 | (dsimp only; walk1))
  all_goals dsimp only [W.CmpBack]
  rename ND _ _ _ _ => D1
  rename Fr s.heap L' _ _ => F1
  refine hQ _ _ _ F1.keep ?_ D1
  rename (Heap.get? _ _ = none) => f1
  exact fresh_of (Fr.keep (by assumption)) f1

theorem c_subnf {a b f : UInt64} {t : Tok} {x : Addr} (W : Wd w s.heap) (hx : ND s.heap x a b) (hh : A.handled = none) (hroom : A.depth + 12 < recursionLimit)
    (hQ : ∀ r h' tk, Stays s.heap h' → s.heap.get? r = none → ND h' r (Float64.sub a f) b → Q (.ref r) { s with heap := h', toks := tk }) :
    wpAny (model Challenge.rw_oz0058_02.row.prog w) A (binaryOp .Sub (.ref x) (.float f t)) Q E s := by
  have X₀ := W.inK
  obtain ⟨h₀, L, m, l, me, mg, mb, F, X, T⟩ := W
  have T₀ := T.keeps F.keep
  obtain ⟨⟨dx, t1x, t2x, h1x, h2x, z1x, z2x⟩, nx⟩ := hx
  have Ix : W.InstAt s.heap x (ndObj dx (.float _ t1x) (.float _ t2x)) 270 (some (dictOf [] 0)) := ⟨h1x, rfl, rfl, h2x⟩
  refine' ksp_binT (T := "float") F X Ix ?hB ?hC ?hS ?hF ?hR ?hP ?h1 ?h2 ?hU ?_; (case hB => exact rfl); (case hS => k_is); (case hF => k_is); (case hC => k_is); (case hR => k_is); (case hP => first | exact .inl rfl | exact .inr ⟨_, rfl⟩); (case h1 => k_is); (case h2 => k_is); (case hU => k_is)
  refine wpAny_call ?_
  refine' enterD (g := s.heap) (news := []) (od := none) X₀ T₀ (Stays.refl _) (Nat.le_refl _) (fun p hp => nomatch hp) ?k6 ?k7 ?k8 ?k9 ?kB ?_ ?c2 ?c3 ?c4 ?c5
  (case k6 => k_is); (case k7 => k_is); (case k8 => omega); (case k9 => first | exact BindsTo.of_eq rfl | exact binds_K X₀ rfl (by k_is) rfl rfl rfl); (case c5 => decide); (case kB => exact locs rfl); (case c2 => exact rfl); (case c3 => exact rfl); (case c4 => exact rfl)
  intro h' L' F' N' X' T'
  dsimp only
  repeat' (first | walk1 | (dsimp only; walk1))
  all_goals dsimp only [W.CmpBack]
  rename ND _ _ _ _ => D1
  rename Fr s.heap L' _ _ => F1
  refine hQ _ _ _ F1.keep ?_ D1
  rename (Heap.get? _ _ = none) => f1
  exact fresh_of (Fr.keep (by assumption)) f1

theorem c_mulnf {a b f : UInt64} {t : Tok} {x : Addr} (W : Wd w s.heap) (hx : ND s.heap x a b) (hh : A.handled = none) (hn : Nn (Float64.mul b (Float64.abs f))) (hroom : A.depth + 12 < recursionLimit)
    (hQ : ∀ r h' tk, Stays s.heap h' → s.heap.get? r = none → ND h' r (Float64.mul a f) (Float64.mul b (Float64.abs f)) → Q (.ref r) { s with heap := h', toks := tk }) :
    wpAny (model Challenge.rw_oz0058_02.row.prog w) A (binaryOp .Mult (.ref x) (.float f t)) Q E s := by
  have X₀ := W.inK
  obtain ⟨h₀, L, m, l, me, mg, mb, F, X, T⟩ := W
  have T₀ := T.keeps F.keep
  obtain ⟨⟨dx, t1x, t2x, h1x, h2x, z1x, z2x⟩, nx⟩ := hx
  have Ix : W.InstAt s.heap x (ndObj dx (.float _ t1x) (.float _ t2x)) 270 (some (dictOf [] 0)) := ⟨h1x, rfl, rfl, h2x⟩
  refine' ksp_binT (T := "float") F X Ix ?hB ?hC ?hS ?hF ?hR ?hP ?h1 ?h2 ?hU ?_; (case hB => exact rfl); (case hS => k_is); (case hF => k_is); (case hC => k_is); (case hR => k_is); (case hP => first | exact .inl rfl | exact .inr ⟨_, rfl⟩); (case h1 => k_is); (case h2 => k_is); (case hU => k_is)
  refine wpAny_call ?_
  refine' enterD (g := s.heap) (news := []) (od := none) X₀ T₀ (Stays.refl _) (Nat.le_refl _) (fun p hp => nomatch hp) ?k6 ?k7 ?k8 ?k9 ?kB ?_ ?c2 ?c3 ?c4 ?c5
  (case k6 => k_is); (case k7 => k_is); (case k8 => omega); (case k9 => first | exact BindsTo.of_eq rfl | exact binds_K X₀ rfl (by k_is) rfl rfl rfl); (case c5 => decide); (case kB => exact locs rfl); (case c2 => exact rfl); (case c3 => exact rfl); (case c4 => exact rfl)
  intro h' L' F' N' X' T'
  dsimp only
  repeat' (first | walk1 | (dsimp only; walk1))
  all_goals dsimp only [W.CmpBack]
  rename ND _ _ _ _ => D1
  rename Fr s.heap L' _ _ => F1
  refine hQ _ _ _ F1.keep ?_ D1
  rename (Heap.get? _ _ = none) => f1
  exact fresh_of (Fr.keep (by assumption)) f1

theorem c_divnf {a b f : UInt64} {t : Tok} {x : Addr} (W : Wd w s.heap) (hx : ND s.heap x a b) (hh : A.handled = none) (hz : Float64.isZero f = false) (hz2 : Float64.isZero (Float64.abs f) = false) (hn : Nn (Float64.div b (Float64.abs f))) (hroom : A.depth + 12 < recursionLimit)
    (hQ : ∀ r h' tk, Stays s.heap h' → s.heap.get? r = none → ND h' r (Float64.div a f) (Float64.div b (Float64.abs f)) → Q (.ref r) { s with heap := h', toks := tk }) :
    wpAny (model Challenge.rw_oz0058_02.row.prog w) A (binaryOp .Div (.ref x) (.float f t)) Q E s := by
  have X₀ := W.inK
  obtain ⟨h₀, L, m, l, me, mg, mb, F, X, T⟩ := W
  have T₀ := T.keeps F.keep
  obtain ⟨⟨dx, t1x, t2x, h1x, h2x, z1x, z2x⟩, nx⟩ := hx
  have Ix : W.InstAt s.heap x (ndObj dx (.float _ t1x) (.float _ t2x)) 270 (some (dictOf [] 0)) := ⟨h1x, rfl, rfl, h2x⟩
  refine' ksp_binT (T := "float") F X Ix ?hB ?hC ?hS ?hF ?hR ?hP ?h1 ?h2 ?hU ?_; (case hB => exact rfl); (case hS => k_is); (case hF => k_is); (case hC => k_is); (case hR => k_is); (case hP => first | exact .inl rfl | exact .inr ⟨_, rfl⟩); (case h1 => k_is); (case h2 => k_is); (case hU => k_is)
  refine wpAny_call ?_
  refine' enterD (g := s.heap) (news := []) (od := none) X₀ T₀ (Stays.refl _) (Nat.le_refl _) (fun p hp => nomatch hp) ?k6 ?k7 ?k8 ?k9 ?kB ?_ ?c2 ?c3 ?c4 ?c5
  (case k6 => k_is); (case k7 => k_is); (case k8 => omega); (case k9 => first | exact BindsTo.of_eq rfl | exact binds_K X₀ rfl (by k_is) rfl rfl rfl); (case c5 => decide); (case kB => exact locs rfl); (case c2 => exact rfl); (case c3 => exact rfl); (case c4 => exact rfl)
  intro h' L' F' N' X' T'
  dsimp only
  repeat' (first | walk1 | (dsimp only; walk1))
  all_goals dsimp only [W.CmpBack]
  rename ND _ _ _ _ => D1
  rename Fr s.heap L' _ _ => F1
  refine hQ _ _ _ F1.keep ?_ D1
  rename (Heap.get? _ _ = none) => f1
  exact fresh_of (Fr.keep (by assumption)) f1

theorem c_addni {a b : UInt64} {n : Int} {t : Tok} {x : Addr} (W : Wd w s.heap) (hx : ND s.heap x a b) (hi : n.natAbs ≤ 8) (hh : A.handled = none) (hroom : A.depth + 12 < recursionLimit)
    (hQ : ∀ r h' tk, Stays s.heap h' → s.heap.get? r = none → ND h' r (Float64.add a (Float64.ofInt n)) b → Q (.ref r) { s with heap := h', toks := tk }) :
    wpAny (model Challenge.rw_oz0058_02.row.prog w) A (binaryOp .Add (.ref x) (.int n t)) Q E s := by
  have X₀ := W.inK
  obtain ⟨h₀, L, m, l, me, mg, mb, F, X, T⟩ := W
  have T₀ := T.keeps F.keep
  obtain ⟨⟨dx, t1x, t2x, h1x, h2x, z1x, z2x⟩, nx⟩ := hx
  have Ix : W.InstAt s.heap x (ndObj dx (.float _ t1x) (.float _ t2x)) 270 (some (dictOf [] 0)) := ⟨h1x, rfl, rfl, h2x⟩
  refine' ksp_binT (T := "int") F X Ix ?hB ?hC ?hS ?hF ?hR ?hP ?h1 ?h2 ?hU ?_; (case hB => exact rfl); (case hS => k_is); (case hF => k_is); (case hC => k_is); (case hR => k_is); (case hP => first | exact .inl rfl | exact .inr ⟨_, rfl⟩); (case h1 => k_is); (case h2 => k_is); (case hU => k_is)
  refine wpAny_call ?_
  refine' enterD (g := s.heap) (news := []) (od := none) X₀ T₀ (Stays.refl _) (Nat.le_refl _) (fun p hp => nomatch hp) ?k6 ?k7 ?k8 ?k9 ?kB ?_ ?c2 ?c3 ?c4 ?c5
  (case k6 => k_is); (case k7 => k_is); (case k8 => omega); (case k9 => first | exact BindsTo.of_eq rfl | exact binds_K X₀ rfl (by k_is) rfl rfl rfl); (case c5 => decide); (case kB => exact locs rfl); (case c2 => exact rfl); (case c3 => exact rfl); (case c4 => exact rfl)
  intro h' L' F' N' X' T'
  dsimp only
  repeat' (first | walk1 | (dsimp only; walk1))
  all_goals dsimp only [W.CmpBack]
  rename ND _ _ _ _ => D1
  rename Fr s.heap L' _ _ => F1
  refine hQ _ _ _ F1.keep ?_ D1
  rename (Heap.get? _ _ = none) => f1
  exact fresh_of (Fr.keep (by assumption)) f1

theorem c_subni {a b : UInt64} {n : Int} {t : Tok} {x : Addr} (W : Wd w s.heap) (hx : ND s.heap x a b) (hi : n.natAbs ≤ 8) (hh : A.handled = none) (hroom : A.depth + 12 < recursionLimit)
    (hQ : ∀ r h' tk, Stays s.heap h' → s.heap.get? r = none → ND h' r (Float64.sub a (Float64.ofInt n)) b → Q (.ref r) { s with heap := h', toks := tk }) :
    wpAny (model Challenge.rw_oz0058_02.row.prog w) A (binaryOp .Sub (.ref x) (.int n t)) Q E s := by
  have X₀ := W.inK
  obtain ⟨h₀, L, m, l, me, mg, mb, F, X, T⟩ := W
  have T₀ := T.keeps F.keep
  obtain ⟨⟨dx, t1x, t2x, h1x, h2x, z1x, z2x⟩, nx⟩ := hx
  have Ix : W.InstAt s.heap x (ndObj dx (.float _ t1x) (.float _ t2x)) 270 (some (dictOf [] 0)) := ⟨h1x, rfl, rfl, h2x⟩
  refine' ksp_binT (T := "int") F X Ix ?hB ?hC ?hS ?hF ?hR ?hP ?h1 ?h2 ?hU ?_; (case hB => exact rfl); (case hS => k_is); (case hF => k_is); (case hC => k_is); (case hR => k_is); (case hP => first | exact .inl rfl | exact .inr ⟨_, rfl⟩); (case h1 => k_is); (case h2 => k_is); (case hU => k_is)
  refine wpAny_call ?_
  refine' enterD (g := s.heap) (news := []) (od := none) X₀ T₀ (Stays.refl _) (Nat.le_refl _) (fun p hp => nomatch hp) ?k6 ?k7 ?k8 ?k9 ?kB ?_ ?c2 ?c3 ?c4 ?c5
  (case k6 => k_is); (case k7 => k_is); (case k8 => omega); (case k9 => first | exact BindsTo.of_eq rfl | exact binds_K X₀ rfl (by k_is) rfl rfl rfl); (case c5 => decide); (case kB => exact locs rfl); (case c2 => exact rfl); (case c3 => exact rfl); (case c4 => exact rfl)
  intro h' L' F' N' X' T'
  dsimp only
  repeat' (first | walk1 | (dsimp only; walk1))
  all_goals dsimp only [W.CmpBack]
  rename ND _ _ _ _ => D1
  rename Fr s.heap L' _ _ => F1
  refine hQ _ _ _ F1.keep ?_ D1
  rename (Heap.get? _ _ = none) => f1
  exact fresh_of (Fr.keep (by assumption)) f1

theorem c_mulni {a b : UInt64} {n : Int} {t : Tok} {x : Addr} (W : Wd w s.heap) (hx : ND s.heap x a b) (hi : n.natAbs ≤ 8) (hh : A.handled = none) (hn : Nn (Float64.mul b (Float64.abs (Float64.ofInt n)))) (hroom : A.depth + 12 < recursionLimit)
    (hQ : ∀ r h' tk, Stays s.heap h' → s.heap.get? r = none → ND h' r (Float64.mul a (Float64.ofInt n)) (Float64.mul b (Float64.abs (Float64.ofInt n))) → Q (.ref r) { s with heap := h', toks := tk }) :
    wpAny (model Challenge.rw_oz0058_02.row.prog w) A (binaryOp .Mult (.ref x) (.int n t)) Q E s := by
  have X₀ := W.inK
  obtain ⟨h₀, L, m, l, me, mg, mb, F, X, T⟩ := W
  have T₀ := T.keeps F.keep
  obtain ⟨⟨dx, t1x, t2x, h1x, h2x, z1x, z2x⟩, nx⟩ := hx
  have Ix : W.InstAt s.heap x (ndObj dx (.float _ t1x) (.float _ t2x)) 270 (some (dictOf [] 0)) := ⟨h1x, rfl, rfl, h2x⟩
  refine' ksp_binT (T := "int") F X Ix ?hB ?hC ?hS ?hF ?hR ?hP ?h1 ?h2 ?hU ?_; (case hB => exact rfl); (case hS => k_is); (case hF => k_is); (case hC => k_is); (case hR => k_is); (case hP => first | exact .inl rfl | exact .inr ⟨_, rfl⟩); (case h1 => k_is); (case h2 => k_is); (case hU => k_is)
  refine wpAny_call ?_
  refine' enterD (g := s.heap) (news := []) (od := none) X₀ T₀ (Stays.refl _) (Nat.le_refl _) (fun p hp => nomatch hp) ?k6 ?k7 ?k8 ?k9 ?kB ?_ ?c2 ?c3 ?c4 ?c5
  (case k6 => k_is); (case k7 => k_is); (case k8 => omega); (case k9 => first | exact BindsTo.of_eq rfl | exact binds_K X₀ rfl (by k_is) rfl rfl rfl); (case c5 => decide); (case kB => exact locs rfl); (case c2 => exact rfl); (case c3 => exact rfl); (case c4 => exact rfl)
  intro h' L' F' N' X' T'
  dsimp only
  repeat' (first | walk1 | (dsimp only; walk1))
  all_goals dsimp only [W.CmpBack]
  rename ND _ _ _ _ => D1
  rename Fr s.heap L' _ _ => F1
  refine hQ _ _ _ F1.keep ?_ D1
  rename (Heap.get? _ _ = none) => f1
  exact fresh_of (Fr.keep (by assumption)) f1

theorem c_divni {a b : UInt64} {n : Int} {t : Tok} {x : Addr} (W : Wd w s.heap) (hx : ND s.heap x a b) (hi : n.natAbs ≤ 8) (hh : A.handled = none) (hz : n ≠ 0) (hz2 : Float64.isZero (Float64.abs (Float64.ofInt n)) = false) (hn : Nn (Float64.div b (Float64.abs (Float64.ofInt n)))) (hroom : A.depth + 12 < recursionLimit)
    (hQ : ∀ r h' tk, Stays s.heap h' → s.heap.get? r = none → ND h' r (Float64.div a (Float64.ofInt n)) (Float64.div b (Float64.abs (Float64.ofInt n))) → Q (.ref r) { s with heap := h', toks := tk }) :
    wpAny (model Challenge.rw_oz0058_02.row.prog w) A (binaryOp .Div (.ref x) (.int n t)) Q E s := by
  have X₀ := W.inK
  obtain ⟨h₀, L, m, l, me, mg, mb, F, X, T⟩ := W
  have T₀ := T.keeps F.keep
  obtain ⟨⟨dx, t1x, t2x, h1x, h2x, z1x, z2x⟩, nx⟩ := hx
  have Ix : W.InstAt s.heap x (ndObj dx (.float _ t1x) (.float _ t2x)) 270 (some (dictOf [] 0)) := ⟨h1x, rfl, rfl, h2x⟩
  refine' ksp_binT (T := "int") F X Ix ?hB ?hC ?hS ?hF ?hR ?hP ?h1 ?h2 ?hU ?_; (case hB => exact rfl); (case hS => k_is); (case hF => k_is); (case hC => k_is); (case hR => k_is); (case hP => first | exact .inl rfl | exact .inr ⟨_, rfl⟩); (case h1 => k_is); (case h2 => k_is); (case hU => k_is)
  refine wpAny_call ?_
  refine' enterD (g := s.heap) (news := []) (od := none) X₀ T₀ (Stays.refl _) (Nat.le_refl _) (fun p hp => nomatch hp) ?k6 ?k7 ?k8 ?k9 ?kB ?_ ?c2 ?c3 ?c4 ?c5
  (case k6 => k_is); (case k7 => k_is); (case k8 => omega); (case k9 => first | exact BindsTo.of_eq rfl | exact binds_K X₀ rfl (by k_is) rfl rfl rfl); (case c5 => decide); (case kB => exact locs rfl); (case c2 => exact rfl); (case c3 => exact rfl); (case c4 => exact rfl)
  intro h' L' F' N' X' T'
  dsimp only
  repeat' (first | walk1 | (dsimp only; walk1))
  all_goals dsimp only [W.CmpBack]
  rename ND _ _ _ _ => D1
  rename Fr s.heap L' _ _ => F1
  refine hQ _ _ _ F1.keep ?_ D1
  rename (Heap.get? _ _ = none) => f1
  exact fresh_of (Fr.keep (by assumption)) f1

theorem c_neg {a b : UInt64} {x : Addr} (W : Wd w s.heap) (hx : ND s.heap x a b) (hroom : A.depth + 6 < recursionLimit)
    (hQ : ∀ r h' tk, Stays s.heap h' → s.heap.get? r = none → ND h' r (Float64.neg a) b → Q (.ref r) { s with heap := h', toks := tk }) :
    wpAny (model Challenge.rw_oz0058_02.row.prog w) A (unaryOp .USub (.ref x)) Q E s := by
  have X₀ := W.inK
  obtain ⟨h₀, L, m, l, me, mg, mb, F, X, T⟩ := W
  have T₀ := T.keeps F.keep
  obtain ⟨⟨dx, t1x, t2x, h1x, h2x, z1x, z2x⟩, nx⟩ := hx
  have Ix : W.InstAt s.heap x (ndObj dx (.float _ t1x) (.float _ t2x)) 270 (some (dictOf [] 0)) := ⟨h1x, rfl, rfl, h2x⟩
  refine' ksp_neg F X Ix ?hS ?hF ?_; (case hS => k_is); (case hF => k_is)
  refine wpAny_call ?_
  refine' enterD (g := s.heap) (news := []) (od := none) X₀ T₀ (Stays.refl _) (Nat.le_refl _) (fun p hp => nomatch hp) ?k6 ?k7 ?k8 ?k9 ?kB ?_ ?c2 ?c3 ?c4 ?c5
  (case k6 => k_is); (case k7 => k_is); (case k8 => omega); (case k9 => first | exact BindsTo.of_eq rfl | exact binds_K X₀ rfl (by k_is) rfl rfl rfl); (case c5 => decide); (case kB => exact locs rfl); (case c2 => exact rfl); (case c3 => exact rfl); (case c4 => exact rfl)
  intro h' L' F' N' X' T'
  dsimp only
  repeat' (first | walk1 | (dsimp only; walk1))
  all_goals dsimp only [W.CmpBack]
  rename ND _ _ _ _ => D1
  rename Fr s.heap L' _ _ => F1
  refine hQ _ _ _ F1.keep ?_ D1
  rename (Heap.get? _ _ = none) => f1
  exact fresh_of (Fr.keep (by assumption)) f1

theorem c_pos {a b : UInt64} {x : Addr} (W : Wd w s.heap) (hx : ND s.heap x a b) (hroom : A.depth + 6 < recursionLimit)
    (hQ : ∀ r h' tk, Stays s.heap h' → s.heap.get? r = none → ND h' r a b → Q (.ref r) { s with heap := h', toks := tk }) :
    wpAny (model Challenge.rw_oz0058_02.row.prog w) A (unaryOp .UAdd (.ref x)) Q E s := by
  have X₀ := W.inK
  obtain ⟨h₀, L, m, l, me, mg, mb, F, X, T⟩ := W
  have T₀ := T.keeps F.keep
  obtain ⟨⟨dx, t1x, t2x, h1x, h2x, z1x, z2x⟩, nx⟩ := hx
  have Ix : W.InstAt s.heap x (ndObj dx (.float _ t1x) (.float _ t2x)) 270 (some (dictOf [] 0)) := ⟨h1x, rfl, rfl, h2x⟩
  refine' ksp_pos F X Ix ?hS ?hF ?_; (case hS => k_is); (case hF => k_is)
  refine wpAny_call ?_
  refine' enterD (g := s.heap) (news := []) (od := none) X₀ T₀ (Stays.refl _) (Nat.le_refl _) (fun p hp => nomatch hp) ?k6 ?k7 ?k8 ?k9 ?kB ?_ ?c2 ?c3 ?c4 ?c5
  (case k6 => k_is); (case k7 => k_is); (case k8 => omega); (case k9 => first | exact BindsTo.of_eq rfl | exact binds_K X₀ rfl (by k_is) rfl rfl rfl); (case c5 => decide); (case kB => exact locs rfl); (case c2 => exact rfl); (case c3 => exact rfl); (case c4 => exact rfl)
  intro h' L' F' N' X' T'
  dsimp only
  repeat' (first | walk1 | (dsimp only; walk1))
  all_goals dsimp only [W.CmpBack]
  rename ND _ _ _ _ => D1
  rename Fr s.heap L' _ _ => F1
  refine hQ _ _ _ F1.keep ?_ D1
  rename (Heap.get? _ _ = none) => f1
  exact fresh_of (Fr.keep (by assumption)) f1

theorem c_addfn {a b f : UInt64} {t : Tok} {x : Addr} (W : Wd w s.heap) (hx : ND s.heap x a b) (hh : A.handled = none) (hroom : A.depth + 12 < recursionLimit)
    (hQ : ∀ r h' tk, Stays s.heap h' → s.heap.get? r = none → ND h' r (Float64.add a f) b → Q (.ref r) { s with heap := h', toks := tk }) :
    wpAny (model Challenge.rw_oz0058_02.row.prog w) A (binaryOp .Add (.float f t) (.ref x)) Q E s := by
  have X₀ := W.inK
  obtain ⟨h₀, L, m, l, me, mg, mb, F, X, T⟩ := W
  have T₀ := T.keeps F.keep
  obtain ⟨⟨dx, t1x, t2x, h1x, h2x, z1x, z2x⟩, nx⟩ := hx
  have Ix : W.InstAt s.heap x (ndObj dx (.float _ t1x) (.float _ t2x)) 270 (some (dictOf [] 0)) := ⟨h1x, rfl, rfl, h2x⟩
  refine' bin_refl (T := "float") F X Ix ?hB ?hC ?hP ?hS ?hF PySem.F.fills_float_add ?hU PySem.F.slot_float_add PySem.F.entry_float_add (PySem.F.args_float_add_2 _ _) ?hG ?_; (case hB => exact rfl); (case hP => k_is); (case hS => k_is); (case hF => k_is); (case hC => k_is); (case hU => k_is); (case hG => exact fun _ _ _ q => flt_declines _ _ h1x rfl q)
  refine wpAny_call ?_
  refine' enterD (g := s.heap) (news := []) (od := none) X₀ T₀ (Stays.refl _) (Nat.le_refl _) (fun p hp => nomatch hp) ?k6 ?k7 ?k8 ?k9 ?kB ?_ ?c2 ?c3 ?c4 ?c5
  (case k6 => k_is); (case k7 => k_is); (case k8 => omega); (case k9 => first | exact BindsTo.of_eq rfl | exact binds_K X₀ rfl (by k_is) rfl rfl rfl); (case c5 => decide); (case kB => exact locs rfl); (case c2 => exact rfl); (case c3 => exact rfl); (case c4 => exact rfl)
  intro h' L' F' N' X' T'
  dsimp only
  repeat' (first | walk1 | (dsimp only; walk1))
  all_goals dsimp only [W.CmpBack]
  rename ND _ _ _ _ => D1
  rename Fr s.heap L' _ _ => F1
  refine hQ _ _ _ F1.keep ?_ D1
  rename (Heap.get? _ _ = none) => f1
  exact fresh_of (Fr.keep (by assumption)) f1

theorem c_addin {a b : UInt64} {n : Int} {t : Tok} {x : Addr} (W : Wd w s.heap) (hx : ND s.heap x a b) (hi : n.natAbs ≤ 8) (hh : A.handled = none) (hroom : A.depth + 12 < recursionLimit)
    (hQ : ∀ r h' tk, Stays s.heap h' → s.heap.get? r = none → ND h' r (Float64.add a (Float64.ofInt n)) b → Q (.ref r) { s with heap := h', toks := tk }) :
    wpAny (model Challenge.rw_oz0058_02.row.prog w) A (binaryOp .Add (.int n t) (.ref x)) Q E s := by
  have X₀ := W.inK
  obtain ⟨h₀, L, m, l, me, mg, mb, F, X, T⟩ := W
  have T₀ := T.keeps F.keep
  obtain ⟨⟨dx, t1x, t2x, h1x, h2x, z1x, z2x⟩, nx⟩ := hx
  have Ix : W.InstAt s.heap x (ndObj dx (.float _ t1x) (.float _ t2x)) 270 (some (dictOf [] 0)) := ⟨h1x, rfl, rfl, h2x⟩
  refine' bin_refl (T := "int") F X Ix ?hB ?hC ?hP ?hS ?hF PySem.F.fills_int_add ?hU PySem.F.slot_int_add PySem.F.entry_int_add (PySem.F.args_int_add_2 _ _) ?hG ?_; (case hB => exact rfl); (case hP => k_is); (case hS => k_is); (case hF => k_is); (case hC => k_is); (case hU => k_is); (case hG => exact fun _ _ _ q => int_declines _ _ h1x rfl q)
  refine wpAny_call ?_
  refine' enterD (g := s.heap) (news := []) (od := none) X₀ T₀ (Stays.refl _) (Nat.le_refl _) (fun p hp => nomatch hp) ?k6 ?k7 ?k8 ?k9 ?kB ?_ ?c2 ?c3 ?c4 ?c5
  (case k6 => k_is); (case k7 => k_is); (case k8 => omega); (case k9 => first | exact BindsTo.of_eq rfl | exact binds_K X₀ rfl (by k_is) rfl rfl rfl); (case c5 => decide); (case kB => exact locs rfl); (case c2 => exact rfl); (case c3 => exact rfl); (case c4 => exact rfl)
  intro h' L' F' N' X' T'
  dsimp only
  repeat' (first | walk1 | (dsimp only; walk1))
  all_goals dsimp only [W.CmpBack]
  rename ND _ _ _ _ => D1
  rename Fr s.heap L' _ _ => F1
  refine hQ _ _ _ F1.keep ?_ D1
  rename (Heap.get? _ _ = none) => f1
  exact fresh_of (Fr.keep (by assumption)) f1

theorem c_mulfn {a b f : UInt64} {t : Tok} {x : Addr} (W : Wd w s.heap) (hx : ND s.heap x a b) (hh : A.handled = none) (hn : Nn (Float64.mul b (Float64.abs f))) (hroom : A.depth + 12 < recursionLimit)
    (hQ : ∀ r h' tk, Stays s.heap h' → s.heap.get? r = none → ND h' r (Float64.mul a f) (Float64.mul b (Float64.abs f)) → Q (.ref r) { s with heap := h', toks := tk }) :
    wpAny (model Challenge.rw_oz0058_02.row.prog w) A (binaryOp .Mult (.float f t) (.ref x)) Q E s := by
  have X₀ := W.inK
  obtain ⟨h₀, L, m, l, me, mg, mb, F, X, T⟩ := W
  have T₀ := T.keeps F.keep
  obtain ⟨⟨dx, t1x, t2x, h1x, h2x, z1x, z2x⟩, nx⟩ := hx
  have Ix : W.InstAt s.heap x (ndObj dx (.float _ t1x) (.float _ t2x)) 270 (some (dictOf [] 0)) := ⟨h1x, rfl, rfl, h2x⟩
  refine' bin_refl (T := "float") F X Ix ?hB ?hC ?hP ?hS ?hF PySem.F.fills_float_mul ?hU PySem.F.slot_float_mul PySem.F.entry_float_mul (PySem.F.args_float_mul_2 _ _) ?hG ?_; (case hB => exact rfl); (case hP => k_is); (case hS => k_is); (case hF => k_is); (case hC => k_is); (case hU => k_is); (case hG => exact fun _ _ _ q => flt_declines _ _ h1x rfl q)
  refine wpAny_call ?_
  refine' enterD (g := s.heap) (news := []) (od := none) X₀ T₀ (Stays.refl _) (Nat.le_refl _) (fun p hp => nomatch hp) ?k6 ?k7 ?k8 ?k9 ?kB ?_ ?c2 ?c3 ?c4 ?c5
  (case k6 => k_is); (case k7 => k_is); (case k8 => omega); (case k9 => first | exact BindsTo.of_eq rfl | exact binds_K X₀ rfl (by k_is) rfl rfl rfl); (case c5 => decide); (case kB => exact locs rfl); (case c2 => exact rfl); (case c3 => exact rfl); (case c4 => exact rfl)
  intro h' L' F' N' X' T'
  dsimp only
  repeat' (first | walk1 | (dsimp only; walk1))
  all_goals dsimp only [W.CmpBack]
  rename ND _ _ _ _ => D1
  rename Fr s.heap L' _ _ => F1
  refine hQ _ _ _ F1.keep ?_ D1
  rename (Heap.get? _ _ = none) => f1
  exact fresh_of (Fr.keep (by assumption)) f1

theorem c_mulin {a b : UInt64} {n : Int} {t : Tok} {x : Addr} (W : Wd w s.heap) (hx : ND s.heap x a b) (hi : n.natAbs ≤ 8) (hh : A.handled = none) (hn : Nn (Float64.mul b (Float64.abs (Float64.ofInt n)))) (hroom : A.depth + 12 < recursionLimit)
    (hQ : ∀ r h' tk, Stays s.heap h' → s.heap.get? r = none → ND h' r (Float64.mul a (Float64.ofInt n)) (Float64.mul b (Float64.abs (Float64.ofInt n))) → Q (.ref r) { s with heap := h', toks := tk }) :
    wpAny (model Challenge.rw_oz0058_02.row.prog w) A (binaryOp .Mult (.int n t) (.ref x)) Q E s := by
  have X₀ := W.inK
  obtain ⟨h₀, L, m, l, me, mg, mb, F, X, T⟩ := W
  have T₀ := T.keeps F.keep
  obtain ⟨⟨dx, t1x, t2x, h1x, h2x, z1x, z2x⟩, nx⟩ := hx
  have Ix : W.InstAt s.heap x (ndObj dx (.float _ t1x) (.float _ t2x)) 270 (some (dictOf [] 0)) := ⟨h1x, rfl, rfl, h2x⟩
  refine' bin_refl (T := "int") F X Ix ?hB ?hC ?hP ?hS ?hF PySem.F.fills_int_mul ?hU PySem.F.slot_int_mul PySem.F.entry_int_mul (PySem.F.args_int_mul_2 _ _) ?hG ?_; (case hB => exact rfl); (case hP => k_is); (case hS => k_is); (case hF => k_is); (case hC => k_is); (case hU => k_is); (case hG => exact fun _ _ _ q => int_declines _ _ h1x rfl q)
  refine wpAny_call ?_
  refine' enterD (g := s.heap) (news := []) (od := none) X₀ T₀ (Stays.refl _) (Nat.le_refl _) (fun p hp => nomatch hp) ?k6 ?k7 ?k8 ?k9 ?kB ?_ ?c2 ?c3 ?c4 ?c5
  (case k6 => k_is); (case k7 => k_is); (case k8 => omega); (case k9 => first | exact BindsTo.of_eq rfl | exact binds_K X₀ rfl (by k_is) rfl rfl rfl); (case c5 => decide); (case kB => exact locs rfl); (case c2 => exact rfl); (case c3 => exact rfl); (case c4 => exact rfl)
  intro h' L' F' N' X' T'
  dsimp only
  repeat' (first | walk1 | (dsimp only; walk1))
  all_goals dsimp only [W.CmpBack]
  rename ND _ _ _ _ => D1
  rename Fr s.heap L' _ _ => F1
  refine hQ _ _ _ F1.keep ?_ D1
  rename (Heap.get? _ _ = none) => f1
  exact fresh_of (Fr.keep (by assumption)) f1

end
end Mine

open PySem PySem.W PySem.Calls PyProof.Rows
set_option Elab.async false
set_option maxRecDepth 100000
set_option maxHeartbeats 8000000
namespace Mine
theorem fill2_ (w : World) (h : Heap) : (lay02.heap_1 w.params).In h → Challenge.rw_oz0058_02.row.prog = Challenge.rw_oz0058_02.row.prog := by
  k_fill
  intros; rfl
section
variable {w : World} {A : Around} {E : Value → Shared → Prop} {s : Shared} {Q : Value → Shared → Prop}
local macro_rules | `(tactic| walk_at "call builtin:isinstance") => `(tactic| (k_here; (with_reducible show wpAny _ _ (call _ [Value.float _ _, Value.ref _]) _ _ _); k_dflt (refine' isn_call (T := "float") (P := fun _ => True) ?k1 ?k2 ?k3 ?k4 ?k5 flt_cls ?_; (case k1 => k_in); (case k2 => (intro M; exact Looks.of_pure rfl)); (case k3 => k_not); (case k4 => intro e; cases e); (case k5 => trivial); k_whole)))
local macro_rules | `(tactic| k_inst) => `(tactic| exact InstAt.grow (by with_reducible assumption) (Fr.keep (by k_asm)))
local macro_rules | `(tactic| walk_at "call ref") => `(tactic| (k_here; (with_reducible show wpAny _ _ (call (Value.ref 270) [Value.float _ _, Value.float _ _] []) _ _ _); (refine' c_mk ?W ?r ?n ?z1 ?z2 ?_); (case W => exact ⟨_, _, _, _, _, _, _, by with_reducible assumption, by with_reducible assumption, by with_reducible assumption⟩); (case r => (simp only [depth_deeper, depth_in1]; omega)); (case n => assumption); (case z1 => first | assumption | exact Nat.succ_ne_zero _); (case z2 => first | assumption | exact Nat.succ_ne_zero _); intro x' h' tk' S' f' D'; (rename Fr _ _ _ _ => kF); (have F2' := Fr.grow kF S')))
local macro_rules | `(tactic| walk_at "call builtin:math.hypot") => `(tactic| (refine call_hyp ?_))
local macro_rules | `(tactic| walk_at "call builtin:math.fabs") => `(tactic| ((with_reducible show wpAny _ _ (call _ [Value.int _ _]) _ _ _); refine Flt.call_fabs_int (by assumption) (fun o => absurd o (notOver_le8 (by assumption))) (fun _ => ?_)))
local macro_rules | `(tactic| walk_at "binaryOp Add float int") => `(tactic| refine add_fi_fits (fits_le8 (by assumption)) ?_)
local macro_rules | `(tactic| walk_at "binaryOp Sub float int") => `(tactic| refine sub_fi_fits (fits_le8 (by assumption)) ?_)
local macro_rules | `(tactic| walk_at "binaryOp Mult float int") => `(tactic| refine mul_fi_fits (fits_le8 (by assumption)) ?_)
local macro_rules | `(tactic| walk_at "binaryOp Div float float") => `(tactic| refine div_ff (by assumption) ?_)
local macro_rules | `(tactic| walk_at "binaryOp Div float int") => `(tactic| refine div_fi (by assumption) (by assumption) ?_)

local macro_rules | `(tactic| walk_at "binaryOp Sub ref float") => `(tactic| ((refine' c_subnf ?W ?hx ?hh ?r ?_); (case W => exact ⟨_, _, _, _, _, _, _, by with_reducible assumption, by with_reducible assumption, by with_reducible assumption⟩); (case hx => exact ND.grow (by with_reducible assumption) (Fr.keep (by with_reducible assumption))); (case hh => assumption);  (case r => (simp only [depth_deeper, depth_in1]; omega)); intro x' h' tk' S' f' D'; (rename Fr _ _ _ _ => kF); (have F2' := Fr.grow kF S')))
local macro_rules | `(tactic| walk_at "binaryOp Sub ref int") => `(tactic| ((refine' c_subni ?W ?hx ?hi ?hh ?r ?_); (case W => exact ⟨_, _, _, _, _, _, _, by with_reducible assumption, by with_reducible assumption, by with_reducible assumption⟩); (case hx => exact ND.grow (by with_reducible assumption) (Fr.keep (by with_reducible assumption))); (case hi => assumption); (case hh => assumption);  (case r => (simp only [depth_deeper, depth_in1]; omega)); intro x' h' tk' S' f' D'; (rename Fr _ _ _ _ => kF); (have F2' := Fr.grow kF S')))
local macro_rules | `(tactic| walk_at "unaryOp USub ref") => `(tactic| ((refine' c_neg ?W ?hx ?r ?_); (case W => exact ⟨_, _, _, _, _, _, _, by with_reducible assumption, by with_reducible assumption, by with_reducible assumption⟩); (case hx => with_reducible assumption); (case r => (simp only [depth_deeper, depth_in1]; omega)); intro x' h' tk' S' f' D'; (rename Fr _ _ _ _ => kF); (have F2' := Fr.grow kF S')))
theorem c_subfn {a b f : UInt64} {t : Tok} {x : Addr} (W : Wd w s.heap) (hx : ND s.heap x a b) (hh : A.handled = none) (hroom : A.depth + 30 < recursionLimit)
    (hQ : ∀ r h' tk, Stays s.heap h' → s.heap.get? r = none → ND h' r (Float64.neg (Float64.sub a f)) b → Q (.ref r) { s with heap := h', toks := tk }) :
    wpAny (model Challenge.rw_oz0058_02.row.prog w) A (binaryOp .Sub (.float f t) (.ref x)) Q E s := by
  have hD := hx
  have X₀ := W.inK
  obtain ⟨h₀, L, m, l, me, mg, mb, F, X, T⟩ := W
  have T₀ := T.keeps F.keep
  obtain ⟨⟨dx, t1x, t2x, h1x, h2x, z1x, z2x⟩, nx⟩ := hx
  have Ix : W.InstAt s.heap x (ndObj dx (.float _ t1x) (.float _ t2x)) 270 (some (dictOf [] 0)) := ⟨h1x, rfl, rfl, h2x⟩
  refine' bin_refl (T := "float") F X Ix ?hB ?hC ?hP ?hS ?hF PySem.F.fills_float_sub ?hU PySem.F.slot_float_sub PySem.F.entry_float_sub (PySem.F.args_float_sub_2 _ _) ?hG ?_; (case hB => exact rfl); (case hP => k_is); (case hS => k_is); (case hF => k_is); (case hC => k_is); (case hU => k_is); (case hG => exact fun _ _ _ q => flt_declines _ _ h1x rfl q)
  refine wpAny_call ?_
  refine' enterD (g := s.heap) (news := []) (od := none) X₀ T₀ (Stays.refl _) (Nat.le_refl _) (fun p hp => nomatch hp) ?k6 ?k7 ?k8 ?k9 ?kB ?_ ?c2 ?c3 ?c4 ?c5
  (case k6 => k_is); (case k7 => k_is); (case k8 => omega); (case k9 => first | exact BindsTo.of_eq rfl | exact binds_K X₀ rfl (by k_is) rfl rfl rfl); (case c5 => decide); (case kB => exact locs rfl); (case c2 => exact rfl); (case c3 => exact rfl); (case c4 => exact rfl)
  intro h' L' F' N' X' T'
  dsimp only
  repeat' (first | walk1 | (dsimp only; walk1))
  all_goals dsimp only [W.CmpBack]
  rename ND _ _ _ _ => D1
  rename Fr s.heap L' _ _ => F1
  refine hQ _ _ _ F1.keep ?_ D1
  rename (Heap.get? _ _ = none) => f1
  exact fresh_of (Fr.keep (by assumption)) f1

theorem c_subin {a b : UInt64} {n : Int} {t : Tok} {x : Addr} (W : Wd w s.heap) (hx : ND s.heap x a b) (hi : n.natAbs ≤ 8) (hh : A.handled = none) (hroom : A.depth + 30 < recursionLimit)
    (hQ : ∀ r h' tk, Stays s.heap h' → s.heap.get? r = none → ND h' r (Float64.neg (Float64.sub a (Float64.ofInt n))) b → Q (.ref r) { s with heap := h', toks := tk }) :
    wpAny (model Challenge.rw_oz0058_02.row.prog w) A (binaryOp .Sub (.int n t) (.ref x)) Q E s := by
  have hD := hx
  have X₀ := W.inK
  obtain ⟨h₀, L, m, l, me, mg, mb, F, X, T⟩ := W
  have T₀ := T.keeps F.keep
  obtain ⟨⟨dx, t1x, t2x, h1x, h2x, z1x, z2x⟩, nx⟩ := hx
  have Ix : W.InstAt s.heap x (ndObj dx (.float _ t1x) (.float _ t2x)) 270 (some (dictOf [] 0)) := ⟨h1x, rfl, rfl, h2x⟩
  refine' bin_refl (T := "int") F X Ix ?hB ?hC ?hP ?hS ?hF PySem.F.fills_int_sub ?hU PySem.F.slot_int_sub PySem.F.entry_int_sub (PySem.F.args_int_sub_2 _ _) ?hG ?_; (case hB => exact rfl); (case hP => k_is); (case hS => k_is); (case hF => k_is); (case hC => k_is); (case hU => k_is); (case hG => exact fun _ _ _ q => int_declines _ _ h1x rfl q)
  refine wpAny_call ?_
  refine' enterD (g := s.heap) (news := []) (od := none) X₀ T₀ (Stays.refl _) (Nat.le_refl _) (fun p hp => nomatch hp) ?k6 ?k7 ?k8 ?k9 ?kB ?_ ?c2 ?c3 ?c4 ?c5
  (case k6 => k_is); (case k7 => k_is); (case k8 => omega); (case k9 => first | exact BindsTo.of_eq rfl | exact binds_K X₀ rfl (by k_is) rfl rfl rfl); (case c5 => decide); (case kB => exact locs rfl); (case c2 => exact rfl); (case c3 => exact rfl); (case c4 => exact rfl)
  intro h' L' F' N' X' T'
  dsimp only
  repeat' (first | walk1 | (dsimp only; walk1))
  all_goals dsimp only [W.CmpBack]
  rename ND _ _ _ _ => D1
  rename Fr s.heap L' _ _ => F1
  refine hQ _ _ _ F1.keep ?_ D1
  rename (Heap.get? _ _ = none) => f1
  exact fresh_of (Fr.keep (by assumption)) f1


theorem showv {α : Type} {x : α} {P : Prop} {y : α} (e : x = y) (h : x = y → P) : P := h e
theorem nsv_of {K : Frag} {h : Heap} {N : Addr} {mg : Str → Option Value} {n : Str} {v : Value} (X : K.In h) (G : h.Ns N mg) (e : nsIn K N n = some (some v)) : mg n = some v := by
  obtain ⟨o, es, ep, ho, hd, _, hf⟩ := G
  unfold nsIn at e
  split at e
  · rename_i c d es' n' sl q
    have := X _ _ q
    rw [ho] at this
    cases this
    cases hd
    split at e
    · rename_i en he
      cases e
      rw [← hf]
      unfold nsFind findBy
      rw [← Array.find?_toList, he]
      rfl
    · split at e <;> cases e
  · cases e

abbrev feq (x y : UInt64) : Bool := Float64.cmp x y == some Ordering.eq

theorem c_eq {a b c d : UInt64} {x y : Addr} (W : Wd w s.heap) (hx : ND s.heap x a b) (hy : ND s.heap y c d) (hroom : A.depth + 6 < recursionLimit) (hu : A.units + 1 < cLine)
    (hQ : ∀ h' tk, Stays s.heap h' → Q (.bool (feq a c && feq b d)) { s with heap := h', toks := tk }) :
    wpAny (model Challenge.rw_oz0058_02.row.prog w) A (compareOp .Eq (.ref x) (.ref y)) Q E s := by
  have X₀ := W.inK
  obtain ⟨h₀, L, m, l, me, mg, mb, F, X, T⟩ := W
  have T₀ := T.keeps F.keep
  obtain ⟨⟨dx, t1x, t2x, h1x, h2x, z1x, z2x⟩, nx⟩ := hx
  have Ix : W.InstAt s.heap x (ndObj dx (.float _ t1x) (.float _ t2x)) 270 (some (dictOf [] 0)) := ⟨h1x, rfl, rfl, h2x⟩
  obtain ⟨⟨dy, t1y, t2y, h1y, h2y, z1y, z2y⟩, ny⟩ := hy
  have Iy : W.InstAt s.heap y (ndObj dy (.float _ t1y) (.float _ t2y)) 270 (some (dictOf [] 0)) := ⟨h1y, rfl, rfl, h2y⟩
  refine cmp_ofEq ?_
  refine' cmp_K (Nat.lt_of_succ_lt hu) F X Ix Iy.type ?n ?k5 ?k6' ?_
  (case n => k_is); (case k5 => k_is); (case k6' => k_is)
  refine wpAny_call ?_
  refine' enterD (g := s.heap) (news := []) (od := none) X₀ T₀ (Stays.refl _) (Nat.le_refl _) (fun p hp => nomatch hp) ?k6 ?k7 ?k8 ?k9 ?kB ?_ ?c2 ?c3 ?c4 ?c5
  (case k6 => k_is); (case k7 => k_is); (case k8 => omega); (case k9 => first | exact BindsTo.of_eq rfl | exact binds_K X₀ rfl (by k_is) rfl rfl rfl); (case c5 => decide); (case kB => exact locs rfl); (case c2 => exact rfl); (case c3 => exact rfl); (case c4 => exact rfl)
  intro h' L' F' N' X' T'
  dsimp only
  repeat' (first | walk1 | (dsimp only; walk1))
  all_goals dsimp only [W.CmpBack]
  all_goals (rename Fr s.heap L' _ _ => F1)
  · have e : feq a c = true := ‹_›
    have := fun h' tk k => hQ h' tk k
    rw [e, Bool.true_and] at this
    exact this _ _ F1.keep
  · have e : feq a c = false := ‹_›
    have := fun h' tk k => hQ h' tk k
    rw [e, Bool.false_and] at this
    dsimp only [feq] at e
    rw [e]
    exact this _ _ F1.keep

theorem c_ne {a b c d : UInt64} {x y : Addr} (W : Wd w s.heap) (hx : ND s.heap x a b) (hy : ND s.heap y c d) (hroom : A.depth + 6 < recursionLimit) (hu : A.units + 1 < cLine)
    (hQ : ∀ h' tk, Stays s.heap h' → Q (.bool (!(feq a c && feq b d))) { s with heap := h', toks := tk }) :
    wpAny (model Challenge.rw_oz0058_02.row.prog w) A (compareOp .NotEq (.ref x) (.ref y)) Q E s := by
  have X₀ := W.inK
  obtain ⟨h₀, L, m, l, me, mg, mb, F, X, T⟩ := W
  have T₀ := T.keeps F.keep
  obtain ⟨⟨dx, t1x, t2x, h1x, h2x, z1x, z2x⟩, nx⟩ := hx
  have Ix : W.InstAt s.heap x (ndObj dx (.float _ t1x) (.float _ t2x)) 270 (some (dictOf [] 0)) := ⟨h1x, rfl, rfl, h2x⟩
  obtain ⟨⟨dy, t1y, t2y, h1y, h2y, z1y, z2y⟩, ny⟩ := hy
  have Iy : W.InstAt s.heap y (ndObj dy (.float _ t1y) (.float _ t2y)) 270 (some (dictOf [] 0)) := ⟨h1y, rfl, rfl, h2y⟩
  obtain ⟨hp, gg, dr, tk, os⟩ := s
  dsimp only at X₀ T₀ F hQ h1x h2x h1y h2y Ix Iy ⊢
  refine' showv (x := (lay02.heap_1 w.params).lookup 270) ?e ?_; (case e => k_is); intro hC
  refine' showv (x := (lay02.heap_1 w.params).lookup 269) ?e ?_; (case e => k_is); intro hNs
  have hN := Heap.Ns.of_isNs (isNs_of_in (N := 269) X₀ (by unfold nsOkIn; rw [hNs]; kernel_rfl))
  have hE : findIn (lay02.heap_1 w.params) (.ref 270) "__eq__" = some (some (.ref 235)) := by k_is
  refine' showv (x := (lay02.heap_1 w.params).lookup 235) ?e ?_; (case e => k_is); intro hEf
  refine' showv (x := nsIn (lay02.heap_1 w.params) 269 "__eq__") ?e ?_; (case e => k_is); intro hE1
  refine' showv (x := nsIn (lay02.heap_1 w.params) 269 "__ne__") ?e ?_; (case e => k_is); intro hE2
  have hcall : wpAny (model Challenge.rw_oz0058_02.row.prog w) A.in1 (call (.ref 235) [.ref x, .ref y]) (fun v s' => ∃ b', v = .bool b' ∧ Q (.bool (!b')) s') E ⟨hp, gg, dr, tk, os⟩ := by
    refine wpAny_call ?_
    refine' enterD (g := hp) (news := []) (od := none) X₀ T₀ (Stays.refl _) (Nat.le_refl _) (fun p hp => nomatch hp) ?k6 ?k7 ?k8 ?k9 ?kB ?_ ?c2 ?c3 ?c4 ?c5
    (case k6 => k_is); (case k7 => k_is); (case k8 => (simp only [depth_in1]; omega)); (case k9 => first | exact BindsTo.of_eq rfl | exact binds_K X₀ rfl (by k_is) rfl rfl rfl); (case c5 => decide); (case kB => exact locs rfl); (case c2 => exact rfl); (case c3 => exact rfl); (case c4 => exact rfl)
    intro h' L' F' N' X' T'
    dsimp only
    repeat' (first | walk1 | (dsimp only; walk1))
    all_goals dsimp only
    all_goals (rename Fr hp L' _ _ => F1)
    · have e : feq a c = true := ‹_›
      have := fun h' tk k => hQ h' tk k
      rw [e, Bool.true_and] at this
      exact this _ _ F1.keep
    · have e : feq a c = false := ‹_›
      have := fun h' tk k => hQ h' tk k
      rw [e, Bool.false_and] at this
      dsimp only [feq] at e
      rw [e]
      exact this _ _ F1.keep
  exact compareOp_ne_ownEq PySem.F.cmp_object ⟨_, _, _, _, _, _, _, _, _, _, _, _, _, _, _, _, _, _, _, _, h1x, rfl, X₀ _ _ hC, hN, nsv_of X₀ hN hE1, X₀ _ _ hEf, rfl, PySem.F.cmp_object.mro, PySem.F.cmp_object.eq.lookup, ns_none_of X₀ hN hE2⟩ h1y rfl hu hcall
local macro_rules | `(tactic| k_all) => `(tactic| exact allLt_ne (by assumption) (by omega))
local macro_rules | `(tactic| walk_at "execs cons") => `(tactic| refine wpAny_execs_cons ?_)
local macro_rules | `(tactic| walk_at "execs nil") => `(tactic| refine wpAny_execs_nil ?_)
theorem c_mk0 (W : Wd w s.heap) (hroom : A.depth + 2 < recursionLimit)
    (hQ : ∀ x h' tk, Stays s.heap h' → s.heap.get? x = none → ND h' x 0 4607182418800017408 → Q (.ref x) { s with heap := h', toks := tk }) :
    wpAny (model Challenge.rw_oz0058_02.row.prog w) A (call (.ref 270) [] []) Q E s := by
  have X₀ := W.inK
  obtain ⟨h₀, L, m, l, me, mg, mb, F, X, T⟩ := W
  obtain ⟨hh, gg, dr, tk, os⟩ := s
  dsimp only at F X₀ hQ ⊢
  have T₀ := T.keeps F.keep
  refine wpAny_call (make_core (makes_of X₀ (by k_is)) (looks_findIn X₀ (by k_is)) (fun self => bind_fn X₀ self (by k_is)) (.inl rfl) ?_)
  have n0 : hh.get? hh.objs.size = none := by
    cases e : hh.get? hh.objs.size with
    | none => rfl
    | some o => exact absurd (Heap.lt_size e) (Nat.lt_irrefl _)
  have n1 : hh.get? (hh.objs.size + 1) = none := by
    cases e : hh.get? (hh.objs.size + 1) with
    | none => rfl
    | some o => exact absurd (Heap.lt_size e) (by have : @LE.le Nat _ hh.objs.size (hh.objs.size + 1) := Nat.le_succ _; exact Nat.not_lt.mpr this)
  have k1 : Stays hh ((hh.push emptyDict).push (instObj 270 hh.objs.size)) := fun b o e => Heap.get?_push_of_some _ (Heap.get?_push_of_some _ e)
  have i0 : ((hh.push emptyDict).push (instObj 270 hh.objs.size)).get? hh.objs.size = some emptyDict := Heap.get?_push_of_some _ (Heap.get?_push_size _ rfl)
  have i1 : ((hh.push emptyDict).push (instObj 270 hh.objs.size)).get? (hh.objs.size + 1) = some (instObj 270 hh.objs.size) := by
    have := Heap.get?_push_size (h := hh.push emptyDict) (o := instObj 270 hh.objs.size) rfl
    rwa [Heap.size_push] at this
  generalize hx : hh.objs.size + 1 = x at *
  have hlt : @LT.lt Nat _ hh.objs.size x := hx ▸ Nat.lt_succ_self _
  generalize hdx : hh.objs.size = dx at *
  refine' enterD (g := hh) (news := [(x, instObj 270 dx), (dx, dictOf [] 0)]) (od := none) X₀ T₀ k1 (by rw [Heap.size_push, Heap.size_push]; exact Nat.le_succ_of_le (Nat.le_succ _)) ?nw ?k6 ?k7 ?k8 ?k9 ?kB ?_ ?c2 ?c3 ?c4 ?c5
  case nw =>
    intro p hp
    simp only [List.mem_cons, List.not_mem_nil, or_false] at hp
    rcases hp with rfl | rfl
    · exact ⟨i1, n1⟩
    · exact ⟨i0, n0⟩
  (case k6 => k_is); (case k7 => k_is); (case k8 => (simp only [depth_under_make]; omega));  (case k9 => exact binds_K (X₀.keeps k1) rfl (by k_is) rfl rfl rfl); (case c5 => decide); (case kB => exact locs rfl); (case c2 => exact rfl); (case c3 => exact rfl); (case c4 => exact rfl)
  intro h' L' F' N' X' T'
  dsimp only
  repeat' (first | walk1 | (dsimp only; walk1))
  · rename ((_ == _) = true) => hb; exact absurd hb (by decide +kernel)
  refine ⟨rfl, ?_⟩
  dsimp only
  rename Fr hh L' _ _ => F1
  rename News hh L' _ _ => N1
  exact hQ _ _ _ F1.keep n1 ⟨⟨_, _, _, (N1 _ (.head _)).1, (N1 _ (.tail _ (.head _))).1, by first | decide | exact Nat.succ_ne_zero _, by first | decide | exact Nat.succ_ne_zero _⟩, by decide +kernel⟩

theorem c_mkii {t1 t2 : Tok} (W : Wd w s.heap) (hroom : A.depth + 2 < recursionLimit)
    (hQ : ∀ x h' tk, Stays s.heap h' → s.heap.get? x = none → ND h' x (Float64.ofInt 0) (Float64.ofInt 0) → Q (.ref x) { s with heap := h', toks := tk }) :
    wpAny (model Challenge.rw_oz0058_02.row.prog w) A (call (.ref 270) [.int 0 t1, .int 0 t2] []) Q E s := by
  have X₀ := W.inK
  obtain ⟨h₀, L, m, l, me, mg, mb, F, X, T⟩ := W
  obtain ⟨hh, gg, dr, tk, os⟩ := s
  dsimp only at F X₀ hQ ⊢
  have T₀ := T.keeps F.keep
  refine wpAny_call (make_core (makes_of X₀ (by k_is)) (looks_findIn X₀ (by k_is)) (fun self => bind_fn X₀ self (by k_is)) (.inl rfl) ?_)
  have n0 : hh.get? hh.objs.size = none := by
    cases e : hh.get? hh.objs.size with
    | none => rfl
    | some o => exact absurd (Heap.lt_size e) (Nat.lt_irrefl _)
  have n1 : hh.get? (hh.objs.size + 1) = none := by
    cases e : hh.get? (hh.objs.size + 1) with
    | none => rfl
    | some o => exact absurd (Heap.lt_size e) (by have : @LE.le Nat _ hh.objs.size (hh.objs.size + 1) := Nat.le_succ _; exact Nat.not_lt.mpr this)
  have k1 : Stays hh ((hh.push emptyDict).push (instObj 270 hh.objs.size)) := fun b o e => Heap.get?_push_of_some _ (Heap.get?_push_of_some _ e)
  have i0 : ((hh.push emptyDict).push (instObj 270 hh.objs.size)).get? hh.objs.size = some emptyDict := Heap.get?_push_of_some _ (Heap.get?_push_size _ rfl)
  have i1 : ((hh.push emptyDict).push (instObj 270 hh.objs.size)).get? (hh.objs.size + 1) = some (instObj 270 hh.objs.size) := by
    have := Heap.get?_push_size (h := hh.push emptyDict) (o := instObj 270 hh.objs.size) rfl
    rwa [Heap.size_push] at this
  generalize hx : hh.objs.size + 1 = x at *
  have hlt : @LT.lt Nat _ hh.objs.size x := hx ▸ Nat.lt_succ_self _
  generalize hdx : hh.objs.size = dx at *
  refine' enterD (g := hh) (news := [(x, instObj 270 dx), (dx, dictOf [] 0)]) (od := none) X₀ T₀ k1 (by rw [Heap.size_push, Heap.size_push]; exact Nat.le_succ_of_le (Nat.le_succ _)) ?nw ?k6 ?k7 ?k8 ?k9 ?kB ?_ ?c2 ?c3 ?c4 ?c5
  case nw =>
    intro p hp
    simp only [List.mem_cons, List.not_mem_nil, or_false] at hp
    rcases hp with rfl | rfl
    · exact ⟨i1, n1⟩
    · exact ⟨i0, n0⟩
  (case k6 => k_is); (case k7 => k_is); (case k8 => (simp only [depth_under_make]; omega));  (case k9 => exact binds_K (X₀.keeps k1) rfl (by k_is) rfl rfl rfl); (case c5 => decide); (case kB => exact locs rfl); (case c2 => exact rfl); (case c3 => exact rfl); (case c4 => exact rfl)
  intro h' L' F' N' X' T'
  dsimp only
  repeat' (first | walk1 | (dsimp only; walk1))
  · rename ((_ == _) = true) => hb; exact absurd hb (by decide +kernel)
  refine ⟨rfl, ?_⟩
  dsimp only
  rename Fr hh L' _ _ => F1
  rename News hh L' _ _ => N1
  exact hQ _ _ _ F1.keep n1 ⟨⟨_, _, _, (N1 _ (.head _)).1, (N1 _ (.tail _ (.head _))).1, by first | decide | exact Nat.succ_ne_zero _, by first | decide | exact Nat.succ_ne_zero _⟩, by decide +kernel⟩


theorem c_mean {a b : UInt64} {x : Addr} {pl : Bool} (W : Wd w s.heap) (hx : ND s.heap x a b) (hroom : A.depth + 6 < recursionLimit)
    (hQ : ∀ h' t tk, Stays s.heap h' → t ≠ 0 → Q (.float a t) { s with heap := h', toks := tk }) :
    wpAny (model Challenge.rw_oz0058_02.row.prog w) A (getAttr (.ref x) "mean" pl) Q E s := by
  have X₀ := W.inK
  obtain ⟨h₀, L, m, l, me, mg, mb, F, X, T⟩ := W
  have T₀ := T.keeps F.keep
  obtain ⟨⟨dx, t1x, t2x, h1x, h2x, z1x, z2x⟩, nx⟩ := hx
  have Ix : W.InstAt s.heap x (ndObj dx (.float _ t1x) (.float _ t2x)) 270 (some (dictOf [] 0)) := ⟨h1x, rfl, rfl, h2x⟩
  refine' get_propS ?k1 ?k2 ?k3 ?k4 ?k5 ?k6 ?k7 ?k8 ?k9 ?_; (case k1 => exact F); (case k2 => exact X); (case k3 => exact Ix); (case k4 => k_is); (case k5 => k_is); (case k6 => k_is); (case k7 => k_is); (case k8 => k_is); (case k9 => k_is)
  refine' enterD (g := s.heap) (news := []) (od := none) X₀ T₀ (Stays.refl _) (Nat.le_refl _) (fun p hp => nomatch hp) ?k6 ?k7 ?k8 ?k9 ?kB ?_ ?c2 ?c3 ?c4 ?c5
  (case k6 => k_is); (case k7 => k_is); (case k8 => (simp only [depth_in1]; omega)); (case k9 => first | exact BindsTo.of_eq rfl | exact binds_K X₀ rfl (by k_is) rfl rfl rfl); (case c5 => decide); (case kB => exact locs rfl); (case c2 => exact rfl); (case c3 => exact rfl); (case c4 => exact rfl)
  intro h' L' F' N' X' T'
  dsimp only
  repeat' (first | walk1 | (dsimp only; walk1))
  dsimp only
  refine handed_on rfl ?_
  rename Fr s.heap L' _ _ => F1
  exact hQ _ _ _ F1.keep (by assumption)

theorem c_stdev {a b : UInt64} {x : Addr} {pl : Bool} (W : Wd w s.heap) (hx : ND s.heap x a b) (hroom : A.depth + 6 < recursionLimit)
    (hQ : ∀ h' t tk, Stays s.heap h' → t ≠ 0 → Q (.float b t) { s with heap := h', toks := tk }) :
    wpAny (model Challenge.rw_oz0058_02.row.prog w) A (getAttr (.ref x) "stdev" pl) Q E s := by
  have X₀ := W.inK
  obtain ⟨h₀, L, m, l, me, mg, mb, F, X, T⟩ := W
  have T₀ := T.keeps F.keep
  obtain ⟨⟨dx, t1x, t2x, h1x, h2x, z1x, z2x⟩, nx⟩ := hx
  have Ix : W.InstAt s.heap x (ndObj dx (.float _ t1x) (.float _ t2x)) 270 (some (dictOf [] 0)) := ⟨h1x, rfl, rfl, h2x⟩
  refine' get_propS ?k1 ?k2 ?k3 ?k4 ?k5 ?k6 ?k7 ?k8 ?k9 ?_; (case k1 => exact F); (case k2 => exact X); (case k3 => exact Ix); (case k4 => k_is); (case k5 => k_is); (case k6 => k_is); (case k7 => k_is); (case k8 => k_is); (case k9 => k_is)
  refine' enterD (g := s.heap) (news := []) (od := none) X₀ T₀ (Stays.refl _) (Nat.le_refl _) (fun p hp => nomatch hp) ?k6 ?k7 ?k8 ?k9 ?kB ?_ ?c2 ?c3 ?c4 ?c5
  (case k6 => k_is); (case k7 => k_is); (case k8 => (simp only [depth_in1]; omega)); (case k9 => first | exact BindsTo.of_eq rfl | exact binds_K X₀ rfl (by k_is) rfl rfl rfl); (case c5 => decide); (case kB => exact locs rfl); (case c2 => exact rfl); (case c3 => exact rfl); (case c4 => exact rfl)
  intro h' L' F' N' X' T'
  dsimp only
  repeat' (first | walk1 | (dsimp only; walk1))
  dsimp only
  refine handed_on rfl ?_
  rename Fr s.heap L' _ _ => F1
  exact hQ _ _ _ F1.keep (by assumption)
end
end Mine

open PySem PySem.W PySem.Calls PyProof.Rows
set_option Elab.async false
set_option maxRecDepth 100000
set_option maxHeartbeats 4000000
namespace Mine

structure EnvF (env : Env) : Prop where
  kind : env.scope.kind = .function
  glob : env.globals = mainGlobals
  bui : env.builtins = builtinsNs

abbrev HP := Heap → Value → Prop
def Mono (R : HP) : Prop := ∀ h h' u, Stays h h' → R h u → R h' u
/-- what a frame's store may turn: a filled dict, a cell -/
def soft (o : Obj) : Bool := match o.data with
  | .cell _ => true
  | .dict es _ => !es.isEmpty
  | _ => false
/-- an iterator besides -/
def soft2 (o : Obj) : Bool := soft o || (match o.cls with
  | .type "list_iterator" => true
  | .type "range_iterator" => true
  | _ => false)
def KeepD (h h' : Heap) : Prop := ∀ a o, h.get? a = some o → soft2 o = false → h'.get? a = some o
theorem KeepD.refl (h : Heap) : KeepD h h := fun _ _ e _ => e
theorem KeepD.trans {a b c : Heap} (x : KeepD a b) (y : KeepD b c) : KeepD a c := fun _ _ e s => y _ _ (x _ _ e s) s
theorem KeepD.of {h h' : Heap} (k : Stays h h') : KeepD h h' := fun _ _ e _ => k _ _ e
def Stab (R : HP) : Prop := ∀ h h' u, KeepD h h' → R h u → R h' u
theorem Stab.mono {R : HP} (x : Stab R) : Mono R := fun h h' u k r => x h h' u (.of k) r

def IsF (f : UInt64) : HP := fun _ u => ∃ t, u = .float f t ∧ t ≠ 0
def IsI (n : Int) : HP := fun _ u => ∃ t, u = .int n t
def IsB (b : Bool) : HP := fun _ u => u = .bool b
def IsN (mu sg : UInt64) : HP := fun h u => ∃ x, u = .ref x ∧ ND h x mu sg
def All2 : List HP → Heap → List Value → Prop
  | [], _, [] => True
  | R :: Rs, h, v :: vs => R h v ∧ All2 Rs h vs
  | _, _, _ => False
def IsL (Rs : List HP) : HP := fun h u => ∃ l vs, u = .ref l ∧ h.IsList l vs.toArray ∧ All2 Rs h vs
def StabL : List HP → Prop
  | [] => True
  | R :: Rs => Stab R ∧ StabL Rs

theorem sF {f} : Stab (IsF f) := fun _ _ _ _ r => r
theorem sI {n} : Stab (IsI n) := fun _ _ _ _ r => r
theorem sB {b} : Stab (IsB b) := fun _ _ _ _ r => r
theorem sN {a b} : Stab (IsN a b) := by
  rintro h h' u k ⟨x, rfl, ⟨⟨dx, t1, t2, e1, e2, z⟩, n⟩⟩
  exact ⟨x, rfl, ⟨⟨dx, t1, t2, k _ _ e1 rfl, k _ _ e2 rfl, z⟩, n⟩⟩
theorem All2.stab : ∀ {Rs : List HP} {h h' : Heap} {vs : List Value}, StabL Rs → KeepD h h' → All2 Rs h vs → All2 Rs h' vs
  | [], _, _, [], _, _, _ => trivial
  | _ :: _, _, _, _ :: _, s, k, r => ⟨s.1 _ _ _ k r.1, All2.stab s.2 k r.2⟩
theorem All2.length : ∀ {Rs : List HP} {h : Heap} {vs : List Value}, All2 Rs h vs → vs.length = Rs.length
  | [], _, [], _ => rfl
  | _ :: _, _, _ :: _, r => by rw [List.length_cons, List.length_cons, All2.length r.2]
theorem All2.get : ∀ {Rs : List HP} {h : Heap} {vs : List Value} {i : Nat} {R : HP}, All2 Rs h vs → Rs[i]? = some R → ∃ v, vs[i]? = some v ∧ R h v
  | [], _, _, _, _, _, e => by simp at e
  | R :: Rs, h, v :: vs, 0, R', r, e => by simp at e; subst e; exact ⟨v, rfl, r.1⟩
  | R :: Rs, h, v :: vs, i + 1, R', r, e => by
    obtain ⟨u, a, b⟩ := All2.get (i := i) r.2 (by simpa using e)
    exact ⟨u, by simpa using a, b⟩
theorem IsList.keepD {h h' : Heap} {l : Addr} {items : Array Value} (k : KeepD h h') (x : h.IsList l items) : h'.IsList l items := by
  obtain ⟨o, e, c, n, d⟩ := x
  exact ⟨o, k _ _ e (by unfold soft2 soft; rw [d, c]; rfl), c, n, d⟩
theorem sL {Rs} (s : StabL Rs) : Stab (IsL Rs) := by
  rintro h h' u k ⟨l, vs, rfl, hl, ha⟩
  exact ⟨l, vs, rfl, IsList.keepD k hl, All2.stab s k ha⟩

def VarAt (env : Env) (h : Heap) (x : Str) (R : HP) : Prop :=
  (env.kindOf x = some .local ∧ ∃ m v, h.Ns env.locals m ∧ m x = some v ∧ R h v) ∨
  (env.kindOf x = some .cell ∧ ∃ c v, env.cells.lookup x = some c ∧ h.IsCell c (some v) ∧ R h v)
def Vars (env : Env) (h : Heap) (Γ : List (Str × HP)) : Prop := ∀ x R, Γ.lookup x = some R → VarAt env h x R
theorem Vars.grow {env : Env} {h h' : Heap} {Γ : List (Str × HP)} (V : Vars env h Γ) (s : ∀ x R, Γ.lookup x = some R → Stab R) (k : Stays h h') : Vars env h' Γ := by
  intro x R e
  rcases V x R e with ⟨hk, m, v, hn, hv, hr⟩ | ⟨hk, c, v, hc, hcell, hr⟩
  · exact .inl ⟨hk, m, v, hn.keeps k, hv, (s x R e).mono _ _ _ k hr⟩
  · exact .inr ⟨hk, c, v, hc, hcell.keeps k, (s x R e).mono _ _ _ k hr⟩

def Ev (w : World) (A : Around) (env : Env) (H : Heap) (e : Expr) (R : HP) : Prop :=
  ∀ (s : Shared) (Q : Value → Shared → Prop) (E : Value → Shared → Prop), Stays H s.heap → 0 < s.toks →
    (∀ v h' tk, Stays s.heap h' → 0 < tk → R h' v → Q v { s with heap := h', toks := tk }) → wpAny (model Challenge.rw_oz0058_02.row.prog w) A (eval e env) Q E s
def EvT (w : World) (A : Around) (env : Env) (H : Heap) (e : Expr) (b : Bool) : Prop :=
  ∀ (s : Shared) (Q : Bool → Shared → Prop) (E : Value → Shared → Prop), Stays H s.heap → 0 < s.toks →
    (∀ h' tk, Stays s.heap h' → 0 < tk → Q b { s with heap := h', toks := tk }) → wpAny (model Challenge.rw_oz0058_02.row.prog w) A (PySem.isTrue e env (eval e env)) Q E s
def EvL (w : World) (A : Around) (env : Env) (H : Heap) (es : List Expr) (Rs : List HP) : Prop :=
  ∀ (pos : Pos) (s : Shared) (Q : List Value → Shared → Prop) (E : Value → Shared → Prop), Stays H s.heap → 0 < s.toks →
    (∀ vs h' tk, Stays s.heap h' → 0 < tk → All2 Rs h' vs → Q vs { s with heap := h', toks := tk }) → wpAny (model Challenge.rw_oz0058_02.row.prog w) A (spliced (backTo pos (starEach es env))) Q E s
def Op1 (w : World) (A : Around) (t : Value → Sem Value) (R R' : HP) : Prop :=
  ∀ (s : Shared) (a : Value) (Q : Value → Shared → Prop) (E : Value → Shared → Prop), Wd w s.heap → 0 < s.toks → R s.heap a →
    (∀ v h' tk, Stays s.heap h' → 0 < tk → R' h' v → Q v { s with heap := h', toks := tk }) → wpAny (model Challenge.rw_oz0058_02.row.prog w) A (t a) Q E s
def Op2 (w : World) (A : Around) (t : Value → Value → Sem Value) (Ra Rb R' : HP) : Prop :=
  ∀ (s : Shared) (a b : Value) (Q : Value → Shared → Prop) (E : Value → Shared → Prop), Wd w s.heap → 0 < s.toks → Ra s.heap a → Rb s.heap b →
    (∀ v h' tk, Stays s.heap h' → 0 < tk → R' h' v → Q v { s with heap := h', toks := tk }) → wpAny (model Challenge.rw_oz0058_02.row.prog w) A (t a b) Q E s
def OpN (w : World) (A : Around) (f : Value) (Rs : List HP) (R' : HP) : Prop :=
  ∀ (s : Shared) (vs : List Value) (Q : Value → Shared → Prop) (E : Value → Shared → Prop), Wd w s.heap → 0 < s.toks → All2 Rs s.heap vs →
    (∀ v h' tk, Stays s.heap h' → 0 < tk → R' h' v → Q v { s with heap := h', toks := tk }) → wpAny (model Challenge.rw_oz0058_02.row.prog w) A (call f vs) Q E s

section
variable {w : World} {A : Around} {env : Env} {H : Heap}

theorem ev_name {Γ : List (Str × HP)} {x : Str} {pos : Pos} {R : HP} (F : EnvF env) (V : Vars env H Γ) (hl : Γ.lookup x = some R) (hm : Stab R) (hd : (x == ("__debug__" : Str)) = false) : Ev w A env H (.Name x pos) R := by
  intro s Q E k p hQ
  rcases V x R hl with ⟨hk, m, v, hn, hv, hr⟩ | ⟨hk, c, v, hc, hcell, hr⟩
  · exact wpAny_Name (wpAny_loadName_local F.kind hk (hn.keeps k) hv (hQ v s.heap s.toks (Stays.refl _) p (hm.mono _ _ _ k hr))) hd
  · exact wpAny_Name (wpAny_loadName_cell F.kind hk hc (hcell.keeps k) (hQ v s.heap s.toks (Stays.refl _) p (hm.mono _ _ _ k hr))) hd
theorem ev_int {n : Int} {k : Nat} {pos : Pos} : Ev w A env H (.Constant (.int n) k pos) (IsI n) :=
  fun s _ _ _ _ hQ => wpAny_Constant_int (hQ _ s.heap _ (Stays.refl _) (Nat.succ_pos _) ⟨_, rfl⟩)
theorem ev_flt {f : UInt64} {k : Nat} {pos : Pos} : Ev w A env H (.Constant (.float f) k pos) (IsF f) :=
  fun s _ _ _ p hQ => AutoFloatOps.wpAny_Constant_float (hQ _ s.heap _ (Stays.refl _) (Nat.succ_pos _) ⟨_, rfl, Nat.ne_of_gt p⟩)
theorem ev_un {op : UnaryOp} {e : Expr} {pos : Pos} {R R' : HP} (W : Wd w H) (h : Ev w A env H e R) (ho : Op1 w A (unaryOp op) R R') : Ev w A env H (.UnaryOp op e pos) R' :=
  fun s _ _ k p hQ => UnaryOp_ (h s _ _ k p fun _ _ _ k1 p1 r => ho _ _ _ _ (W.grow (k.trans k1)) p1 r fun v h3 tk3 k3 p3 rv => hQ v h3 tk3 (k1.trans k3) p3 rv)
theorem ev_bin {op : Operator} {l r : Expr} {pos : Pos} {Ra Rb R' : HP} (W : Wd w H) (hl : Ev w A env H l Ra) (hr : Ev w A env H r Rb) (sa : Stab Ra) (ho : Op2 w A (binaryOp op) Ra Rb R') : Ev w A env H (.BinOp l op r pos) R' :=
  fun s _ _ k p hQ => wpAny_BinOp (hl s _ _ k p fun _ _ _ k1 p1 ra => hr _ _ _ (k.trans k1) p1 fun _ _ _ k2 p2 rb => ho _ _ _ _ _ (W.grow (k.trans (k1.trans k2))) p2 (sa.mono _ _ _ k2 ra) rb
    fun v h3 tk3 k3 p3 rv => hQ v h3 tk3 (k1.trans (k2.trans k3)) p3 rv)
theorem ev_cmp {op : CmpOp} {l r : Expr} {pos : Pos} {Ra Rb R' : HP} (W : Wd w H) (hl : Ev w A env H l Ra) (hr : Ev w A env H r Rb) (sa : Stab Ra) (ho : Op2 w A (compareOp op) Ra Rb R') (hb : behindInMarks op r = false) : Ev w A env H (.Compare l [op] [r] pos) R' :=
  fun s _ _ k p hQ => wpAny_Compare1 (hl s _ _ k p fun _ _ _ k1 p1 ra => hr _ _ _ (k.trans k1) p1 fun _ _ _ k2 p2 rb => ho _ _ _ _ _ (W.grow (k.trans (k1.trans k2))) p2 (sa.mono _ _ _ k2 ra) rb
    fun v h3 tk3 k3 p3 rv => hQ v h3 tk3 (k1.trans (k2.trans k3)) p3 rv) hb
theorem ev_attr {e : Expr} {attr : Str} {pos : Pos} {R R' : HP} (W : Wd w H) (h : Ev w A env H e R) (ho : Op1 w A (fun v => getAttr v attr true) R R')
    (he : eval (.Attribute e attr pos) env = (do let o ← eval e env; standAt pos.atName; let r ← holding [o] (getAttr o attr true); letTemporaryGo e o r; pure r)) : Ev w A env H (.Attribute e attr pos) R' :=
  fun s _ _ k p hQ => Attribute_any_ (h s _ _ k p fun _ _ _ k1 p1 r => ho _ _ _ _ (W.grow (k.trans k1)) p1 r fun v h3 tk3 k3 p3 rv => hQ v h3 tk3 (k1.trans k3) p3 rv) he
theorem evl_nil : EvL w A env H [] [] := fun _ s _ _ _ p hQ => spliced_none (hQ [] s.heap s.toks (Stays.refl _) p trivial)
theorem evl_cons {e : Expr} {es : List Expr} {R : HP} {Rs : List HP} (h : Ev w A env H e R) (sR : Stab R) (hs : EvL w A env H es Rs) (he : starEach (e :: es) env = (false, eval e env) :: starEach es env) : EvL w A env H (e :: es) (R :: Rs) :=
  fun pos s _ _ k p hQ => spliced_more (h s _ _ k p fun v _ _ k1 p1 r => hs pos _ _ _ (k.trans k1) p1 fun vs h2 tk2 k2 p2 rs => hQ (v :: vs) h2 tk2 (k1.trans k2) p2 ⟨sR.mono _ _ _ k2 r, rs⟩) he
theorem ev_list {es : List Expr} {pos : Pos} {Rs : List HP} (h : EvL w A env H es Rs) (sR : StabL Rs) (hz : Rs.length ≤ 1000) : Ev w A env H (.List es pos) (IsL Rs) := by
  intro s Q E k p hQ
  refine List_ (h pos s _ _ k p fun vs h1 tk1 k1 p1 rs => ?_)
  have hk : Stays h1 (h1.push { cls := .type "list", data := .seq vs.toArray }) := fun b o e => Heap.get?_push_of_some _ e
  refine wpAny_newObj_type (hQ _ _ tk1 (k1.trans hk) p1 ⟨_, vs, rfl, ⟨_, Heap.get?_push_size _ rfl, rfl, 0, rfl⟩, All2.stab sR (.of hk) rs⟩) ?_
  show vs.toArray.size ≤ sizeLine
  rw [List.size_toArray, rs.length, sizeLine_eq]; omega
theorem ev_and {e1 e2 : Expr} {pos : Pos} {b1 b2 : Bool} (h1 : Ev w A env H e1 (IsB b1)) (h2 : b1 = true → Ev w A env H e2 (IsB b2)) : Ev w A env H (.BoolOp .And [e1, e2] pos) (IsB (b1 && b2)) := by
  intro s Q E k p hQ
  refine BoolOp_and (h1 s _ _ k p fun v h' tk k1 p1 r => ?_)
  cases r
  refine wpAny_truthy_bool ?_
  cases b1 with
  | true => rw [if_pos rfl]; exact BoolOp_one (h2 rfl _ _ _ (k.trans k1) p1 fun v h3 tk3 k3 p3 rv => hQ v h3 tk3 (k1.trans k3) p3 (by simpa using rv))
  | false => rw [if_neg (by decide)]; exact hQ _ h' tk k1 p1 (by simp [IsB])
theorem ev_ite {t b o : Expr} {pos : Pos} {c : Bool} {R : HP} (ht : EvT w A env H t c) (hb : c = true → Ev w A env H b R) (ho : c = false → Ev w A env H o R) : Ev w A env H (.IfExp t b o pos) R := by
  intro s Q E k p hQ
  refine IfExp_ (ht s _ _ k p fun h' tk k1 p1 => ?_)
  cases c with
  | true => rw [if_pos rfl]; exact hb rfl _ _ _ (k.trans k1) p1 fun v h3 tk3 k3 p3 rv => hQ v h3 tk3 (k1.trans k3) p3 rv
  | false => rw [if_neg (by decide)]; exact ho rfl _ _ _ (k.trans k1) p1 fun v h3 tk3 k3 p3 rv => hQ v h3 tk3 (k1.trans k3) p3 rv
theorem evt_cmp {op : CmpOp} {l r : Expr} {pos : Pos} {Ra Rb : HP} {b : Bool} (W : Wd w H) (hl : Ev w A env H l Ra) (hr : Ev w A env H r Rb) (sa : Stab Ra) (ho : Op2 w A (compareOp op) Ra Rb (IsB b)) (hb : behindInMarks op r = false) : EvT w A env H (.Compare l [op] [r] pos) b :=
  fun s _ _ k p hQ => wpAny_isTrue_Compare1 (hl s _ _ k p fun _ _ _ k1 p1 ra => hr _ _ _ (k.trans k1) p1 fun _ _ _ k2 p2 rb => ho _ _ _ _ _ (W.grow (k.trans (k1.trans k2))) p2 (sa.mono _ _ _ k2 ra) rb
    fun v h3 tk3 k3 p3 rv => by cases rv; exact wpAny_truthy_bool (hQ h3 tk3 (k1.trans (k2.trans k3)) p3)) hb
theorem evt_or {e : Expr} {es : List Expr} {pos : Pos} (h1 : EvT w A env H e false) (h2 : ∀ (s : Shared) (Q : Bool → Shared → Prop) (E : Value → Shared → Prop) (whole : Sem Value), Stays H s.heap → 0 < s.toks →
    (∀ h' tk, Stays s.heap h' → 0 < tk → Q false { s with heap := h', toks := tk }) → wpAny (model Challenge.rw_oz0058_02.row.prog w) A (PySem.isTrue (.BoolOp .Or es pos) env whole) Q E s) :
    ∀ (s : Shared) (Q : Bool → Shared → Prop) (E : Value → Shared → Prop) (whole : Sem Value), Stays H s.heap → 0 < s.toks →
    (∀ h' tk, Stays s.heap h' → 0 < tk → Q false { s with heap := h', toks := tk }) → wpAny (model Challenge.rw_oz0058_02.row.prog w) A (PySem.isTrue (.BoolOp .Or (e :: es) pos) env whole) Q E s := by
  intro s Q E whole k p hQ
  refine isTrue_or (h1 s _ _ k p fun h' tk k1 p1 => ?_)
  first
    | exact h2 _ _ _ _ (k.trans k1) p1 fun h3 tk3 k3 p3 => hQ h3 tk3 (k1.trans k3) p3
    | (rw [if_neg (by decide)]; exact h2 _ _ _ _ (k.trans k1) p1 fun h3 tk3 k3 p3 => hQ h3 tk3 (k1.trans k3) p3)
theorem evt_or_nil {pos : Pos} : ∀ (s : Shared) (Q : Bool → Shared → Prop) (E : Value → Shared → Prop) (whole : Sem Value), Stays H s.heap → 0 < s.toks →
    (∀ h' tk, Stays s.heap h' → 0 < tk → Q false { s with heap := h', toks := tk }) → wpAny (model Challenge.rw_oz0058_02.row.prog w) A (PySem.isTrue (.BoolOp .Or [] pos) env whole) Q E s :=
  fun s _ _ _ _ p hQ => isTrue_or_nil (hQ s.heap s.toks (Stays.refl _) p)
theorem evt_of_or {es : List Expr} {pos : Pos} (h : ∀ (s : Shared) (Q : Bool → Shared → Prop) (E : Value → Shared → Prop) (whole : Sem Value), Stays H s.heap → 0 < s.toks →
    (∀ h' tk, Stays s.heap h' → 0 < tk → Q false { s with heap := h', toks := tk }) → wpAny (model Challenge.rw_oz0058_02.row.prog w) A (PySem.isTrue (.BoolOp .Or es pos) env whole) Q E s) : EvT w A env H (.BoolOp .Or es pos) false :=
  fun s Q E k p hQ => h s Q E _ k p hQ
theorem evt_plain {e : Expr} {b : Bool} (h : Ev w A env H e (IsB b)) (he : ∀ whole, PySem.isTrue e env whole = (do let v ← whole; standAt e.pos; holding [v] (truthy v))) : EvT w A env H e b :=
  fun s _ _ k p hQ => isTrue_plain (h s _ _ k p fun v h3 tk3 k3 p3 rv => by cases rv; exact wpAny_truthy_bool (hQ h3 tk3 k3 p3)) (he _)
theorem ev_glob {x : Str} {pos : Pos} {v : Value} (F : EnvF env) (W : Wd w H) (hx : env.kindOf x = some .globalImplicit) (e : nsIn (lay02.heap_1 w.params) mainGlobals x = some (some v)) (hd : (x == ("__debug__" : Str)) = false) : Ev w A env H (.Name x pos) (fun _ u => u = v) := by
  intro s Q E k p hQ
  obtain ⟨h₀, L, m, l, me, mg, mb, Fr0, X, T⟩ := W.grow k
  exact Name_function_global F.kind hx (loadGlobal_global (by rw [F.glob]; exact T.g.keeps Fr0.keep) (mg_of X T.g e) (hQ v s.heap s.toks (Stays.refl _) p rfl)) hd
theorem ev_boot {x : Str} {pos : Pos} {v : Value} (F : EnvF env) (W : Wd w H) (hx : env.kindOf x = some .globalImplicit) (e : nsIn (lay02.heap_1 w.params) mainGlobals x = some none) (hv : bootBuiltins x = some v) (hn : x ≠ "__name__") (hd : (x == ("__debug__" : Str)) = false) : Ev w A env H (.Name x pos) (fun _ u => u = v) := by
  intro s Q E k p hQ
  obtain ⟨h₀, L, m, l, me, mg, mb, Fr0, X, T⟩ := W.grow k
  exact Name_function_global F.kind hx (loadGlobal_builtin (by rw [F.glob]; exact T.g.keeps Fr0.keep) (mg_none_of X T.g e) (by rw [F.bui]; exact T.b.keeps Fr0.keep) ((T.builtins x hn).trans hv) (hQ v s.heap s.toks (Stays.refl _) p rfl)) hd
theorem ev_callK {f : Expr} {fv : Value} {a : Expr} {es : List Expr} {pos : Pos} {Rs : List HP} {R : HP} (W : Wd w H) (hf : Ev w A env H f (fun _ u => u = fv)) (hk : keepIn (lay02.heap_1 w.params) fv = true) (ha : EvL w A env H (a :: es) Rs) (ho : OpN w A fv Rs R)
    (h1 : starEach (a :: es) env = (false, eval a env) :: starEach es env) (h2 : (backTo pos (starEach es env)).any (·.1) = false)
    (h3 : eval (.Call f (a :: es) [] pos) env = (do let g ← eval f env; callWith pos g [] (backTo pos (starEach (a :: es) env)) (backToKw pos (keywordEach [] env)))) : Ev w A env H (.Call f (a :: es) [] pos) R := by
  intro s Q E k p hQ
  refine Call_ (hf s _ _ k p fun v h' tk k1 p1 r => ?_) h3
  subst r
  refine callWith_K (W.grow (k.trans k1)).inK hk (ha pos _ _ _ (k.trans k1) p1 fun vs h2 tk2 k2 p2 rs => ⟨(W.grow (k.trans (k1.trans k2))).inK, ?_⟩) h1 h2
  exact ho _ _ _ _ (W.grow (k.trans (k1.trans k2))) p2 rs fun v h3 tk3 k3 p3 rv => hQ v h3 tk3 (k1.trans (k2.trans k3)) p3 rv
theorem ev_callK0 {f : Expr} {fv : Value} {pos : Pos} {R : HP} (W : Wd w H) (hf : Ev w A env H f (fun _ u => u = fv)) (hk : keepIn (lay02.heap_1 w.params) fv = true) (ho : OpN w A fv [] R)
    (h3 : eval (.Call f [] [] pos) env = (do let g ← eval f env; callWith pos g [] (backTo pos (starEach [] env)) (backToKw pos (keywordEach [] env)))) : Ev w A env H (.Call f [] [] pos) R := by
  intro s Q E k p hQ
  refine Call_ (hf s _ _ k p fun v h' tk k1 p1 r => ?_) h3
  subst r
  exact callWith_K0 (W.grow (k.trans k1)).inK hk (ho _ _ _ _ (W.grow (k.trans k1)) p1 trivial fun v h3 tk3 k3 p3 rv => hQ v h3 tk3 (k1.trans k3) p3 rv)
theorem ev_callB {f : Expr} {id : String} {a : Expr} {es : List Expr} {pos : Pos} {Rs : List HP} {R : HP} (W : Wd w H) (hf : Ev w A env H f (fun _ u => u = .builtin id)) (ha : EvL w A env H (a :: es) Rs) (ho : OpN w A (.builtin id) Rs R)
    (h1 : starEach (a :: es) env = (false, eval a env) :: starEach es env) (h2 : (backTo pos (starEach es env)).any (·.1) = false)
    (h3 : eval (.Call f (a :: es) [] pos) env = (do let g ← eval f env; callWith pos g [] (backTo pos (starEach (a :: es) env)) (backToKw pos (keywordEach [] env)))) : Ev w A env H (.Call f (a :: es) [] pos) R := by
  intro s Q E k p hQ
  refine Call_ (hf s _ _ k p fun v h' tk k1 p1 r => ?_) h3
  subst r
  refine PyProof.Rows.callWith_builtin1 (ha pos _ _ _ (k.trans k1) p1 fun vs h2 tk2 k2 p2 rs => ?_) h1 h2
  exact ho _ _ _ _ (W.grow (k.trans (k1.trans k2))) p2 rs fun v h3 tk3 k3 p3 rv => hQ v h3 tk3 (k1.trans (k2.trans k3)) p3 rv
theorem ev_callT {f : Expr} {id : String} {a : Expr} {es : List Expr} {pos : Pos} {Rs : List HP} {R : HP} (W : Wd w H) (hf : Ev w A env H f (fun _ u => u = .type id)) (ha : EvL w A env H (a :: es) Rs) (ho : OpN w A (.type id) Rs R)
    (h1 : starEach (a :: es) env = (false, eval a env) :: starEach es env) (h2 : (backTo pos (starEach es env)).any (·.1) = false)
    (h3 : eval (.Call f (a :: es) [] pos) env = (do let g ← eval f env; callWith pos g [] (backTo pos (starEach (a :: es) env)) (backToKw pos (keywordEach [] env)))) : Ev w A env H (.Call f (a :: es) [] pos) R := by
  intro s Q E k p hQ
  refine Call_ (hf s _ _ k p fun v h' tk k1 p1 r => ?_) h3
  subst r
  refine PyProof.Rows.callWith_type1 (ha pos _ _ _ (k.trans k1) p1 fun vs h2 tk2 k2 p2 rs => ?_) h1 h2
  exact ho _ _ _ _ (W.grow (k.trans (k1.trans k2))) p2 rs fun v h3 tk3 k3 p3 rv => hQ v h3 tk3 (k1.trans (k2.trans k3)) p3 rv
end
end Mine

open PySem PySem.W PySem.Calls PyProof.Rows
set_option Elab.async false
set_option maxRecDepth 100000
set_option maxHeartbeats 4000000
namespace Mine

/-- room for calls -/
structure Rm (A : Around) : Prop where
  hh : A.handled = none
  depth : A.depth + 60 < recursionLimit
  units : A.units + 600 < cLine

section
variable {w : World} {A : Around} {env : Env} {H : Heap} {a b c d f : UInt64} {n k : Int}

-- floats, ints
theorem o_addff : Op2 w A (binaryOp .Add) (IsF a) (IsF b) (IsF (Float64.add a b)) := by
  rintro s _ _ Q E W p ⟨t, rfl, zt⟩ ⟨u, rfl, zu⟩ h; exact add_float (h _ s.heap _ (Stays.refl _) (Nat.succ_pos _) ⟨_, rfl, Nat.ne_of_gt p⟩)
theorem o_subff : Op2 w A (binaryOp .Sub) (IsF a) (IsF b) (IsF (Float64.sub a b)) := by
  rintro s _ _ Q E W p ⟨t, rfl, zt⟩ ⟨u, rfl, zu⟩ h; exact sub_float (h _ s.heap _ (Stays.refl _) (Nat.succ_pos _) ⟨_, rfl, Nat.ne_of_gt p⟩)
theorem o_mulff : Op2 w A (binaryOp .Mult) (IsF a) (IsF b) (IsF (Float64.mul a b)) := by
  rintro s _ _ Q E W p ⟨t, rfl, zt⟩ ⟨u, rfl, zu⟩ h; exact mul_float (h _ s.heap _ (Stays.refl _) (Nat.succ_pos _) ⟨_, rfl, Nat.ne_of_gt p⟩)
theorem o_divff (hz : Float64.isZero b = false) : Op2 w A (binaryOp .Div) (IsF a) (IsF b) (IsF (Float64.div a b)) := by
  rintro s _ _ Q E W p ⟨t, rfl, zt⟩ ⟨u, rfl, zu⟩ h; exact div_ff hz (h _ s.heap _ (Stays.refl _) (Nat.succ_pos _) ⟨_, rfl, Nat.ne_of_gt p⟩)
theorem o_mulfi (hi : n.natAbs ≤ 8) : Op2 w A (binaryOp .Mult) (IsF a) (IsI n) (IsF (Float64.mul a (Float64.ofInt n))) := by
  rintro s _ _ Q E W p ⟨t, rfl, zt⟩ ⟨u, rfl⟩ h; exact mul_fi_fits (fits_le8 hi) (h _ s.heap _ (Stays.refl _) (Nat.succ_pos _) ⟨_, rfl, Nat.ne_of_gt p⟩)
theorem o_negf : Op1 w A (unaryOp .USub) (IsF a) (IsF (Float64.neg a)) := by
  rintro s _ Q E W p ⟨t, rfl, zt⟩ h; exact AutoFloatOps.neg_0 (h _ s.heap _ (Stays.refl _) (Nat.succ_pos _) ⟨_, rfl, Nat.ne_of_gt p⟩)
theorem o_addii : Op2 w A (binaryOp .Add) (IsI n) (IsI k) (IsI (n + k)) := by
  rintro s _ _ Q E W p ⟨t, rfl⟩ ⟨u, rfl⟩ h; exact add_int (h _ s.heap _ (Stays.refl _) (Nat.succ_pos _) ⟨_, rfl⟩)
theorem o_subii : Op2 w A (binaryOp .Sub) (IsI n) (IsI k) (IsI (n - k)) := by
  rintro s _ _ Q E W p ⟨t, rfl⟩ ⟨u, rfl⟩ h; exact sub_int (h _ s.heap _ (Stays.refl _) (Nat.succ_pos _) ⟨_, rfl⟩)
theorem o_negi : Op1 w A (unaryOp .USub) (IsI n) (IsI (-n)) := by
  rintro s _ Q E W p ⟨t, rfl⟩ h; exact neg_int (h _ s.heap _ (Stays.refl _) (Nat.succ_pos _) ⟨_, rfl⟩)
theorem o_eqff : Op2 w A (compareOp .Eq) (IsF a) (IsF b) (IsB (feq a b)) := by
  rintro s _ _ Q E W p ⟨t, rfl, zt⟩ ⟨u, rfl, zu⟩ h; exact AutoFloatOps.eq_0 (h _ s.heap s.toks (Stays.refl _) p rfl)
theorem o_eqfi : Op2 w A (compareOp .Eq) (IsF a) (IsI n) (IsB (Float64.cmpInt a n == some .eq)) := by
  rintro s _ _ Q E W p ⟨t, rfl, zt⟩ ⟨u, rfl⟩ h; exact eq_fi (h _ s.heap s.toks (Stays.refl _) p rfl)
theorem o_nefi : Op2 w A (compareOp .NotEq) (IsF a) (IsI n) (IsB (Float64.cmpInt a n != some .eq)) := by
  rintro s _ _ Q E W p ⟨t, rfl, zt⟩ ⟨u, rfl⟩ h; exact ne_fi (h _ s.heap s.toks (Stays.refl _) p rfl)
theorem o_nebb {p q : Bool} : Op2 w A (compareOp .NotEq) (IsB p) (IsB q) (IsB (p != q)) := by
  rintro s _ _ Q E W p rfl rfl h; exact ne_bool (h _ s.heap s.toks (Stays.refl _) p rfl)
theorem o_eqbb {p q : Bool} : Op2 w A (compareOp .Eq) (IsB p) (IsB q) (IsB (p == q)) := by
  rintro s _ _ Q E W p rfl rfl h; exact eq_bool (h _ s.heap s.toks (Stays.refl _) p rfl)

-- normals
theorem o_addnn (R : Rm A) (hn : Nn (hyp b d)) : Op2 w A (binaryOp .Add) (IsN a b) (IsN c d) (IsN (Float64.add a c) (hyp b d)) := by
  rintro s _ _ Q E W p ⟨x, rfl, hx⟩ ⟨y, rfl, hy⟩ h
  exact wpAny_with_toks (n := 1) p (c_addnn W hx hy hn (by have := R.depth; omega) fun r h' tk k _ D q => h _ h' tk k q ⟨r, rfl, D⟩)
theorem o_subnn (R : Rm A) (hn : Nn (hyp b d)) : Op2 w A (binaryOp .Sub) (IsN a b) (IsN c d) (IsN (Float64.sub a c) (hyp b d)) := by
  rintro s _ _ Q E W p ⟨x, rfl, hx⟩ ⟨y, rfl, hy⟩ h
  exact wpAny_with_toks (n := 1) p (c_subnn W hx hy hn (by have := R.depth; omega) fun r h' tk k _ D q => h _ h' tk k q ⟨r, rfl, D⟩)
theorem o_addnf (R : Rm A) : Op2 w A (binaryOp .Add) (IsN a b) (IsF f) (IsN (Float64.add a f) b) := by
  rintro s _ _ Q E W p ⟨x, rfl, hx⟩ ⟨t, rfl, zt⟩ h
  exact wpAny_with_toks (n := 1) p (c_addnf W hx R.hh (by have := R.depth; omega) fun r h' tk k _ D q => h _ h' tk k q ⟨r, rfl, D⟩)
theorem o_subnf (R : Rm A) : Op2 w A (binaryOp .Sub) (IsN a b) (IsF f) (IsN (Float64.sub a f) b) := by
  rintro s _ _ Q E W p ⟨x, rfl, hx⟩ ⟨t, rfl, zt⟩ h
  exact wpAny_with_toks (n := 1) p (c_subnf W hx R.hh (by have := R.depth; omega) fun r h' tk k _ D q => h _ h' tk k q ⟨r, rfl, D⟩)
theorem o_mulnf (R : Rm A) (hn : Nn (Float64.mul b (Float64.abs f))) : Op2 w A (binaryOp .Mult) (IsN a b) (IsF f) (IsN (Float64.mul a f) (Float64.mul b (Float64.abs f))) := by
  rintro s _ _ Q E W p ⟨x, rfl, hx⟩ ⟨t, rfl, zt⟩ h
  exact wpAny_with_toks (n := 1) p (c_mulnf W hx R.hh hn (by have := R.depth; omega) fun r h' tk k _ D q => h _ h' tk k q ⟨r, rfl, D⟩)
theorem o_divnf (R : Rm A) (hz : Float64.isZero f = false) (hz2 : Float64.isZero (Float64.abs f) = false) (hn : Nn (Float64.div b (Float64.abs f))) : Op2 w A (binaryOp .Div) (IsN a b) (IsF f) (IsN (Float64.div a f) (Float64.div b (Float64.abs f))) := by
  rintro s _ _ Q E W p ⟨x, rfl, hx⟩ ⟨t, rfl, zt⟩ h
  exact wpAny_with_toks (n := 1) p (c_divnf W hx R.hh hz hz2 hn (by have := R.depth; omega) fun r h' tk k _ D q => h _ h' tk k q ⟨r, rfl, D⟩)
theorem o_addni (R : Rm A) (hi : n.natAbs ≤ 8) : Op2 w A (binaryOp .Add) (IsN a b) (IsI n) (IsN (Float64.add a (Float64.ofInt n)) b) := by
  rintro s _ _ Q E W p ⟨x, rfl, hx⟩ ⟨t, rfl⟩ h
  exact wpAny_with_toks (n := 1) p (c_addni W hx hi R.hh (by have := R.depth; omega) fun r h' tk k _ D q => h _ h' tk k q ⟨r, rfl, D⟩)
theorem o_subni (R : Rm A) (hi : n.natAbs ≤ 8) : Op2 w A (binaryOp .Sub) (IsN a b) (IsI n) (IsN (Float64.sub a (Float64.ofInt n)) b) := by
  rintro s _ _ Q E W p ⟨x, rfl, hx⟩ ⟨t, rfl⟩ h
  exact wpAny_with_toks (n := 1) p (c_subni W hx hi R.hh (by have := R.depth; omega) fun r h' tk k _ D q => h _ h' tk k q ⟨r, rfl, D⟩)
theorem o_mulni (R : Rm A) (hi : n.natAbs ≤ 8) (hn : Nn (Float64.mul b (Float64.abs (Float64.ofInt n)))) : Op2 w A (binaryOp .Mult) (IsN a b) (IsI n) (IsN (Float64.mul a (Float64.ofInt n)) (Float64.mul b (Float64.abs (Float64.ofInt n)))) := by
  rintro s _ _ Q E W p ⟨x, rfl, hx⟩ ⟨t, rfl⟩ h
  exact wpAny_with_toks (n := 1) p (c_mulni W hx hi R.hh hn (by have := R.depth; omega) fun r h' tk k _ D q => h _ h' tk k q ⟨r, rfl, D⟩)
theorem o_divni (R : Rm A) (hi : n.natAbs ≤ 8) (hz : n ≠ 0) (hz2 : Float64.isZero (Float64.abs (Float64.ofInt n)) = false) (hn : Nn (Float64.div b (Float64.abs (Float64.ofInt n)))) : Op2 w A (binaryOp .Div) (IsN a b) (IsI n) (IsN (Float64.div a (Float64.ofInt n)) (Float64.div b (Float64.abs (Float64.ofInt n)))) := by
  rintro s _ _ Q E W p ⟨x, rfl, hx⟩ ⟨t, rfl⟩ h
  exact wpAny_with_toks (n := 1) p (c_divni W hx hi R.hh hz hz2 hn (by have := R.depth; omega) fun r h' tk k _ D q => h _ h' tk k q ⟨r, rfl, D⟩)
theorem o_negn (R : Rm A) : Op1 w A (unaryOp .USub) (IsN a b) (IsN (Float64.neg a) b) := by
  rintro s _ Q E W p ⟨x, rfl, hx⟩ h
  exact wpAny_with_toks (n := 1) p (c_neg W hx (by have := R.depth; omega) fun r h' tk k _ D q => h _ h' tk k q ⟨r, rfl, D⟩)
theorem o_posn (R : Rm A) : Op1 w A (unaryOp .UAdd) (IsN a b) (IsN a b) := by
  rintro s _ Q E W p ⟨x, rfl, hx⟩ h
  exact wpAny_with_toks (n := 1) p (c_pos W hx (by have := R.depth; omega) fun r h' tk k _ D q => h _ h' tk k q ⟨r, rfl, D⟩)
theorem o_addfn (R : Rm A) : Op2 w A (binaryOp .Add) (IsF f) (IsN a b) (IsN (Float64.add a f) b) := by
  rintro s _ _ Q E W p ⟨t, rfl, zt⟩ ⟨x, rfl, hx⟩ h
  exact wpAny_with_toks (n := 1) p (c_addfn W hx R.hh (by have := R.depth; omega) fun r h' tk k _ D q => h _ h' tk k q ⟨r, rfl, D⟩)
theorem o_addin (R : Rm A) (hi : n.natAbs ≤ 8) : Op2 w A (binaryOp .Add) (IsI n) (IsN a b) (IsN (Float64.add a (Float64.ofInt n)) b) := by
  rintro s _ _ Q E W p ⟨t, rfl⟩ ⟨x, rfl, hx⟩ h
  exact wpAny_with_toks (n := 1) p (c_addin W hx hi R.hh (by have := R.depth; omega) fun r h' tk k _ D q => h _ h' tk k q ⟨r, rfl, D⟩)
theorem o_mulfn (R : Rm A) (hn : Nn (Float64.mul b (Float64.abs f))) : Op2 w A (binaryOp .Mult) (IsF f) (IsN a b) (IsN (Float64.mul a f) (Float64.mul b (Float64.abs f))) := by
  rintro s _ _ Q E W p ⟨t, rfl, zt⟩ ⟨x, rfl, hx⟩ h
  exact wpAny_with_toks (n := 1) p (c_mulfn W hx R.hh hn (by have := R.depth; omega) fun r h' tk k _ D q => h _ h' tk k q ⟨r, rfl, D⟩)
theorem o_mulin (R : Rm A) (hi : n.natAbs ≤ 8) (hn : Nn (Float64.mul b (Float64.abs (Float64.ofInt n)))) : Op2 w A (binaryOp .Mult) (IsI n) (IsN a b) (IsN (Float64.mul a (Float64.ofInt n)) (Float64.mul b (Float64.abs (Float64.ofInt n)))) := by
  rintro s _ _ Q E W p ⟨t, rfl⟩ ⟨x, rfl, hx⟩ h
  exact wpAny_with_toks (n := 1) p (c_mulin W hx hi R.hh hn (by have := R.depth; omega) fun r h' tk k _ D q => h _ h' tk k q ⟨r, rfl, D⟩)
theorem o_subfn (R : Rm A) : Op2 w A (binaryOp .Sub) (IsF f) (IsN a b) (IsN (Float64.neg (Float64.sub a f)) b) := by
  rintro s _ _ Q E W p ⟨t, rfl, zt⟩ ⟨x, rfl, hx⟩ h
  exact wpAny_with_toks (n := 1) p (c_subfn W hx R.hh (by have := R.depth; omega) fun r h' tk k _ D q => h _ h' tk k q ⟨r, rfl, D⟩)
theorem o_subin (R : Rm A) (hi : n.natAbs ≤ 8) : Op2 w A (binaryOp .Sub) (IsI n) (IsN a b) (IsN (Float64.neg (Float64.sub a (Float64.ofInt n))) b) := by
  rintro s _ _ Q E W p ⟨t, rfl⟩ ⟨x, rfl, hx⟩ h
  exact wpAny_with_toks (n := 1) p (c_subin W hx hi R.hh (by have := R.depth; omega) fun r h' tk k _ D q => h _ h' tk k q ⟨r, rfl, D⟩)
theorem o_eqnn (R : Rm A) : Op2 w A (compareOp .Eq) (IsN a b) (IsN c d) (IsB (feq a c && feq b d)) := by
  rintro s _ _ Q E W p ⟨x, rfl, hx⟩ ⟨y, rfl, hy⟩ h
  exact wpAny_with_toks (n := 1) p (c_eq W hx hy (by have := R.depth; omega) (by have := R.units; omega) fun h' tk k q => h _ h' tk k q rfl)
theorem o_nenn (R : Rm A) : Op2 w A (compareOp .NotEq) (IsN a b) (IsN c d) (IsB (!(feq a c && feq b d))) := by
  rintro s _ _ Q E W p ⟨x, rfl, hx⟩ ⟨y, rfl, hy⟩ h
  exact wpAny_with_toks (n := 1) p (c_ne W hx hy (by have := R.depth; omega) (by have := R.units; omega) fun h' tk k q => h _ h' tk k q rfl)
theorem o_mean (R : Rm A) : Op1 w A (fun v => getAttr v "mean" true) (IsN a b) (IsF a) := by
  rintro s _ Q E W p ⟨x, rfl, hx⟩ h
  exact wpAny_with_toks (n := 1) p (c_mean W hx (by have := R.depth; omega) fun h' t tk k z q => h _ h' tk k q ⟨t, rfl, z⟩)
theorem o_stdev (R : Rm A) : Op1 w A (fun v => getAttr v "stdev" true) (IsN a b) (IsF b) := by
  rintro s _ Q E W p ⟨x, rfl, hx⟩ h
  exact wpAny_with_toks (n := 1) p (c_stdev W hx (by have := R.depth; omega) fun h' t tk k z q => h _ h' tk k q ⟨t, rfl, z⟩)
theorem o_mk (R : Rm A) (hn : Nn b) : OpN w A (.ref 270) [IsF a, IsF b] (IsN a b) := by
  rintro s vs Q E W p hv h
  match vs, hv with
  | [_, _], ⟨⟨t, rfl, zt⟩, ⟨u, rfl, zu⟩, _⟩ => exact wpAny_with_toks (n := 1) p (c_mk W (by have := R.depth; omega) hn zt zu fun r h' tk k _ D q => h _ h' tk k q ⟨r, rfl, D⟩)
theorem o_mkii (R : Rm A) : OpN w A (.ref 270) [IsI 0, IsI 0] (IsN (Float64.ofInt 0) (Float64.ofInt 0)) := by
  rintro s vs Q E W p hv h
  match vs, hv with
  | [_, _], ⟨⟨t, rfl⟩, ⟨u, rfl⟩, _⟩ => exact wpAny_with_toks (n := 1) p (c_mkii W (by have := R.depth; omega) fun r h' tk k _ D q => h _ h' tk k q ⟨r, rfl, D⟩)
theorem o_mk0 (R : Rm A) : OpN w A (.ref 270) [] (IsN 0 4607182418800017408) := by
  rintro s vs Q E W p hv h
  match vs, hv with
  | [], _ => exact wpAny_with_toks (n := 1) p (c_mk0 W (by have := R.depth; omega) fun r h' tk k _ D q => h _ h' tk k q ⟨r, rfl, D⟩)
theorem o_absf : OpN w A (.builtin "abs") [IsF a] (IsF (Float64.abs a)) := by
  rintro s vs Q E W p hv h
  match vs, hv with
  | [_], ⟨⟨t, rfl, zt⟩, _⟩ => exact Flt.call_abs_float (h _ s.heap _ (Stays.refl _) (Nat.succ_pos _) ⟨_, rfl, Nat.ne_of_gt p⟩)
theorem o_len {Rs : List HP} (hz : Rs.length ≤ 1000) : OpN w A (.builtin "len") [IsL Rs] (IsI (Rs.length : Int)) := by
  intro s vs Q E W p hv h
  cases vs with
  | nil => exact hv.elim
  | cons v r =>
    cases r with
    | cons _ _ => exact hv.2.elim
    | nil =>
      obtain ⟨⟨l, us, e, hl, hu⟩, _⟩ := hv
      subst e
      have hsz : us.toArray.size = Rs.length := by rw [List.size_toArray, hu.length]
      have h63 : ((1000 : Nat) : Int) < 2 ^ 63 := by decide
      have hlt : (us.toArray.size : Int) < 2 ^ 63 := by rw [hsz]; exact Int.lt_of_le_of_lt (Int.ofNat_le.mpr hz) h63
      refine len_list hl hlt ?_
      rw [hsz]
      exact h _ s.heap _ (Stays.refl _) (Nat.succ_pos _) ⟨_, rfl⟩
/-- range(n) -/
def IsR (n : Int) : HP := fun h u => ∃ r t1 t2 t3, u = .ref r ∧ IsRange h r 0 n 1 t1 t2 t3
theorem sR {n} : Stab (IsR n) := by
  rintro h h' u k ⟨r, t1, t2, t3, rfl, e⟩
  exact ⟨r, t1, t2, t3, rfl, k _ _ e rfl⟩
theorem o_range : OpN w A (.type "range") [IsI n] (IsR n) := by
  rintro s vs Q E W p hv h
  obtain ⟨h₀, L, m, l, me, mg, mb, F, X, T⟩ := W
  match vs, hv with
  | [_], ⟨⟨t, rfl⟩, _⟩ => exact wpAny_with_toks (n := 1) p (range1_rows F News.nil fun h' tk t1 t2 t3 hr _ _ k q => h _ h' tk k q ⟨_, _, _, _, rfl, hr⟩)
theorem All2.append : ∀ {Rs Rs' : List HP} {h : Heap} {vs vs' : List Value}, All2 Rs h vs → All2 Rs' h vs' → All2 (Rs ++ Rs') h (vs ++ vs')
  | [], _, _, [], _, _, b => b
  | _ :: _, _, _, _ :: _, _, a, b => ⟨a.1, All2.append a.2 b⟩
theorem StabL.append : ∀ {Rs Rs' : List HP}, StabL Rs → StabL Rs' → StabL (Rs ++ Rs')
  | [], _, _, b => b
  | _ :: _, _, a, b => ⟨a.1, StabL.append a.2 b⟩
theorem o_addll {Rs Rs' : List HP} (hz : Rs.length + Rs'.length ≤ 1000) (s1 : StabL Rs) (s2 : StabL Rs') : Op2 w A (binaryOp .Add) (IsL Rs) (IsL Rs') (IsL (Rs ++ Rs')) := by
  rintro s _ _ Q E W p ⟨l, vs, rfl, hl, hv⟩ ⟨l', vs', rfl, hl', hv'⟩ h
  obtain ⟨h₀, L, m, lo, me, mg, mb, F, X, T⟩ := W
  obtain ⟨⟨cls, dd, data, sl⟩, ho, hc, n, hd⟩ := id hl
  obtain ⟨⟨cls2, dd2, data2, sl2⟩, ho2, hc2, n2, hd2⟩ := id hl'
  simp only at hc hd hc2 hd2
  subst hc hd hc2 hd2
  have e : vs.toArray ++ vs'.toArray = (vs ++ vs').toArray := by simp
  refine concat_meets ⟨_, ho, rfl⟩ ⟨_, ho2, rfl⟩ noFill_list_add seq_list_add PySem.F.slot_list_add PySem.F.entry_list_add (PySem.F.args_list_add_2 _ _) (list_addW l l' vs.toArray vs'.toArray n n2 dd dd2 sl sl2 (by
    rw [List.size_toArray, List.size_toArray, hv.length, hv'.length, sizeLine_eq]; omega)) ⟨ho, ho2, ?_⟩
  rw [e]
  have hk : Stays s.heap (s.heap.push { cls := .type "list", data := .seq (vs ++ vs').toArray }) := fun b o e => Heap.get?_push_of_some _ e
  exact h _ _ s.toks hk p ⟨_, _, rfl, ⟨_, Heap.get?_push_size _ rfl, rfl, 0, rfl⟩, All2.stab (s1.append s2) (.of hk) (hv.append hv')⟩
/-- an item by an index that may be below nought -/
theorem ev_item {e i : Expr} {pos : Pos} {Rs : List HP} {R : HP} {k : Int} (W : Wd w H) (he : Ev w A env H e (IsL Rs)) (hi : Ev w A env H i (IsI k)) (sL' : StabL Rs) (hz : Rs.length ≤ 1000)
    (h0 : -(Rs.length : Int) ≤ k) (h1 : k < Rs.length) (hR : Rs[(if k < 0 then k + Rs.length else k).toNat]? = some R)
    (hsub : ∀ l t, subscripted i false (.ref l) (.int k t) = operate [.ref l, .int k t] (getItem (.ref l) (.int k t))) : Ev w A env H (.Subscript e i pos) R := by
  intro s Q E kk p hQ
  refine Subscript_ (he s _ _ kk p fun v h1' tk1 k1 p1 r => hi _ _ _ (kk.trans k1) p1 fun v2 h2 tk2 k2 p2 r2 => ?_)
  obtain ⟨l, vs, rfl, hl, hv⟩ := r
  obtain ⟨t, rfl⟩ := r2
  have hl2 := IsList.keepD (.of k2) hl
  have hv2 := All2.stab sL' (.of k2) hv
  have hsz : vs.toArray.size = Rs.length := by rw [List.size_toArray, hv.length]
  obtain ⟨u, hu, hr⟩ := hv2.get hR
  have hx : vs.toArray[(if k < 0 then k + Rs.length else k).toNat]? = some u := by simpa using hu
  refine tail_any hl2.typeIs slot_list_getitem.lookup ?_ (hsub l t)
  by_cases hk : k < 0
  · rw [if_pos hk] at hx
    exact wpAny_getItem_list_neg hl2 hk (by rw [hsz]; exact h0) (by omega) (by rw [hsz]; exact hx) (hQ u h2 tk2 (k1.trans k2) p2 hr)
  · rw [if_neg hk] at hx
    exact wpAny_getItem_list hl2 (by omega) (by omega) hx (hQ u h2 tk2 (k1.trans k2) p2 hr)
end
end Mine

open PySem PySem.W PySem.Calls PyProof.Rows
set_option Elab.async false
set_option maxRecDepth 100000
set_option maxHeartbeats 400000
namespace Mine

def KeepE (h h' : Heap) : Prop := ∀ a o, h.get? a = some o → soft o = false → h'.get? a = some o
theorem KeepE.refl (h : Heap) : KeepE h h := fun _ _ e _ => e
theorem KeepE.trans {a b c : Heap} (x : KeepE a b) (y : KeepE b c) : KeepE a c := fun _ _ e s => y _ _ (x _ _ e s) s
theorem KeepE.of {h h' : Heap} (k : Stays h h') : KeepE h h' := fun _ _ e _ => k _ _ e
theorem KeepE.d {h h' : Heap} (k : KeepE h h') : KeepD h h' := fun a o e s => k a o e (by
  unfold soft2 at s
  exact (Bool.or_eq_false_iff.mp s).1)
/-- what stays so for the whole call -/
structure Cx (w : World) (env : Env) (h₀ : Heap) : Prop where
  inK : (lay02.heap_1 w.params).In h₀
  top : ∃ (loose : List Str) (mean : ExcName → Option Value) (mg mb : Str → Option Value), Top view02 loose mean mg mb h₀
  envF : EnvF env
  cell : ∀ x c, env.cells.lookup x = some c → h₀.get? c = none
  inj : ∀ x y c, env.cells.lookup x = some c → env.cells.lookup y = some c → x = y

/-- a state of the frame -/
structure Sto (env : Env) (h₀ : Heap) (Γ : List (Str × HP)) (h : Heap) : Prop where
  fr : ∃ m, Fr h₀ env.locals h m ∧ ∃ y v, m y = some v
  vars : Vars env h Γ
  cel : ∀ x c, env.cells.lookup x = some c → ∃ v, h.IsCell c v
def StabΓ (Γ : List (Str × HP)) : Prop := ∀ x R, Γ.lookup x = some R → Stab R

theorem Sto.wd {w : World} {env : Env} {h₀ h : Heap} {Γ : List (Str × HP)} (C : Cx w env h₀) (S : Sto env h₀ Γ h) : Wd w h := by
  obtain ⟨m, F, _⟩ := S.fr
  obtain ⟨l, me, mg, mb, T⟩ := C.top
  exact ⟨h₀, _, m, l, me, mg, mb, F, C.inK, T⟩
theorem Sto.grow {env : Env} {h₀ h h' : Heap} {Γ : List (Str × HP)} (S : Sto env h₀ Γ h) (sΓ : StabΓ Γ) (k : Stays h h') : Sto env h₀ Γ h' := by
  obtain ⟨⟨m, F, y⟩, V, Ce⟩ := S
  exact ⟨⟨m, Fr.grow F k, y⟩, V.grow sΓ k, fun x c e => by obtain ⟨v, hc⟩ := Ce x c e; exact ⟨v, hc.keeps k⟩⟩

theorem StabΓ.cons {Γ : List (Str × HP)} {x : Str} {R : HP} (s : StabΓ Γ) (r : Stab R) : StabΓ ((x, R) :: Γ) := by
  intro y R' e
  rw [List.lookup_cons] at e
  split at e
  · cases e; exact r
  · exact s y R' e
theorem StabΓ.nil : StabΓ [] := fun _ _ e => by cases e

/-- the frame's own dict is filled -/
theorem soft_frame {h : Heap} {L : Addr} {m : Str → Option Value} {o : Obj} (n : h.Ns L m) {y : Str} {v : Value} (hy : m y = some v) (e : h.get? L = some o) : soft o = true := by
  obtain ⟨o', es, ep, e', d, _, f⟩ := n
  rw [e] at e'; cases e'
  unfold soft
  rw [d]
  have : es.isEmpty = false := by
    cases hh : es.isEmpty with
    | false => rfl
    | true =>
      have h1 := f y
      have h2 : es = #[] := by simpa using hh
      subst h2
      rw [hy] at h1
      simp [nsFind, findBy] at h1
  simp [this]
theorem soft_cell {h : Heap} {c : Addr} {v : Option Value} {o : Obj} (n : h.IsCell c v) (e : h.get? c = some o) : soft o = true := by
  obtain ⟨o', e', d⟩ := n
  rw [e] at e'; cases e'
  unfold soft; rw [d]

def IsVar (env : Env) (x : Str) (h : Heap) : Prop := env.kindOf x = some .local ∨ (env.kindOf x = some .cell ∧ ∃ c v, env.cells.lookup x = some c ∧ h.IsCell c v)

theorem store_any {w : World} {A : Around} {env : Env} {h₀ : Heap} {Γ : List (Str × HP)} {x : Str} {v : Value} {R : HP} {s : Shared} {Q : Unit → Shared → Prop} {E : Value → Shared → Prop} (C : Cx w env h₀) (sΓ : StabΓ Γ) (sR : Stab R)
    (S : Sto env h₀ Γ s.heap) (r : R s.heap v) (hx : IsVar env x s.heap) (hp0 : 0 < s.toks)
    (hQ : ∀ h' tk, KeepE s.heap h' → 0 < tk → Heap.SameBut (match env.kindOf x with | some .cell => (env.cells.lookup x).getD 0 | _ => env.locals) s.heap h' → Sto env h₀ ((x, R) :: Γ) h' → Q () { s with heap := h', toks := tk }) :
    wpAny (model Challenge.rw_oz0058_02.row.prog w) A (storeName env x v) Q E s := by
  obtain ⟨⟨m, F, y, vy, hy⟩, V, Ce⟩ := S
  have cne : ∀ c v, s.heap.IsCell c v → c ≠ env.locals := by
    rintro c v ⟨o1, e1, d1⟩ rfl
    obtain ⟨o2, es2, ep2, e2, d2, _⟩ := F.ns
    rw [e1] at e2; cases e2; rw [d1] at d2; cases d2
  have hp : (env.scope.kind == .class || (env.scope.kind == .module && env.locals != env.globals)) = false := by rw [C.envF.kind]; rfl
  rcases hx with hk | ⟨hk, c, v₀, hc, hcell⟩
  · refine wpAny_storeName_local hk F.ns (fun h' hn hs => ?_) hp
    have kd : KeepE s.heap h' := fun a o e so => by
      by_cases ha : a = env.locals
      · subst ha; rw [soft_frame F.ns hy e] at so; cases so
      · exact (hs.2 a ha).trans e
    refine hQ h' _ kd (Nat.succ_pos _) (by rw [hk]; exact hs) ⟨⟨_, F.set hn hs, if y = x then x else y, ?_⟩, ?_, fun z c e => by obtain ⟨v', hc⟩ := Ce z c e; exact ⟨v', hc.sameBut hs (cne c v' hc)⟩⟩
    · by_cases e : y = x
      · exact ⟨v, by simp [e]⟩
      · exact ⟨vy, by simp [e, hy]⟩
    · intro z R' e
      rw [List.lookup_cons] at e
      split at e
      · rename_i hz
        cases e
        have hz' : z = x := by simpa using hz
        subst hz'
        exact .inl ⟨hk, _, v, hn, by simp, sR _ _ _ kd.d r⟩
      · rename_i hz
        have hz' : z ≠ x := by simpa using hz
        rcases V z R' e with ⟨hk', m', v', hn', hv', hr'⟩ | ⟨hk', c', v', hc', hcell', hr'⟩
        · refine .inl ⟨hk', _, v', hn, ?_, sΓ z R' e _ _ _ kd.d hr'⟩
          have : m z = some v' := by
            obtain ⟨o1, es1, ep1, e1, d1, _, f1⟩ := F.ns
            obtain ⟨o2, es2, ep2, e2, d2, _, f2⟩ := hn'
            rw [e1] at e2; cases e2; rw [d1] at d2; cases d2
            rw [← f1, f2, hv']
          simp [hz', this]
        · refine .inr ⟨hk', c', v', hc', hcell'.sameBut hs ?_, sΓ z R' e _ _ _ kd.d hr'⟩
          rintro rfl
          obtain ⟨o1, e1, d1⟩ := hcell'
          obtain ⟨o2, es2, ep2, e2, d2, _⟩ := F.ns
          rw [e1] at e2; cases e2; rw [d1] at d2; cases d2
  · refine wpAny_storeName_cell C.envF.kind hk hc hcell (fun h' hcell' hs => ?_)
    have hcL : c ≠ env.locals := by
      rintro rfl
      obtain ⟨o1, e1, d1⟩ := hcell
      obtain ⟨o2, es2, ep2, e2, d2, _⟩ := F.ns
      rw [e1] at e2; cases e2; rw [d1] at d2; cases d2
    have kd : KeepE s.heap h' := fun a o e so => by
      by_cases ha : a = c
      · subst ha; rw [soft_cell hcell e] at so; cases so
      · exact (hs.2 a ha).trans e
    refine hQ h' s.toks kd hp0 (by rw [hk, hc]; exact hs) ⟨⟨m, ⟨F.ns.sameBut hs (Ne.symm hcL), fun b o e => ?_, F.above⟩, y, vy, hy⟩, ?_, fun z c' e => by
      by_cases hcc : c' = c
      · subst hcc; exact ⟨_, hcell'⟩
      · obtain ⟨v', hc'⟩ := Ce z c' e; exact ⟨v', hc'.sameBut hs hcc⟩⟩
    · have hb : b ≠ c := by rintro rfl; rw [C.cell x b hc] at e; cases e
      exact (hs.2 b hb).trans (F.keep b o e)
    · intro z R' e
      rw [List.lookup_cons] at e
      split at e
      · rename_i hz
        cases e
        have hz' : z = x := by simpa using hz
        subst hz'
        exact .inr ⟨hk, c, v, hc, hcell', sR _ _ _ kd.d r⟩
      · rename_i hz
        have hz' : z ≠ x := by simpa using hz
        rcases V z R' e with ⟨hk', m', v', hn', hv', hr'⟩ | ⟨hk', c', v', hc', hcell2, hr'⟩
        · exact .inl ⟨hk', m', v', hn'.sameBut hs (Ne.symm hcL), hv', sΓ z R' e _ _ _ kd.d hr'⟩
        · refine .inr ⟨hk', c', v', hc', hcell2.sameBut hs ?_, sΓ z R' e _ _ _ kd.d hr'⟩
          rintro rfl
          exact hz' (C.inj z x c' hc' hc)

/-- a tree of a statement that goes on -/
def Tr (w : World) (A : Around) (env : Env) (h₀ : Heap) (t : Sem Flow) (Γ Γ' : List (Str × HP)) : Prop :=
  ∀ (s : Shared) (Q : Flow → Shared → Prop), Sto env h₀ Γ s.heap → 0 < s.toks →
    (∀ h' tk, KeepE s.heap h' → 0 < tk → Sto env h₀ Γ' h' → Q .next { s with heap := h', toks := tk }) → wpAny (model Challenge.rw_oz0058_02.row.prog w) A t Q (fun _ _ => False) s
/-- every name of the first is so in the second -/
def Sub : List (Str × HP) → List (Str × HP) → Prop
  | [], _ => True
  | p :: r, Γ => Γ.lookup p.1 = some p.2 ∧ Sub r Γ
theorem Sub.get : ∀ {Γ Γ' : List (Str × HP)} {x : Str} {R : HP}, Sub Γ Γ' → Γ.lookup x = some R → Γ'.lookup x = some R
  | [], _, _, _, _, e => by cases e
  | (y, R') :: r, Γ', x, R, s, e => by
    rw [List.lookup_cons] at e
    split at e
    · rename_i hz
      cases e
      have : x = y := by simpa using hz
      subst this
      exact s.1
    · exact Sub.get s.2 e
theorem Sto.sub {env : Env} {h₀ h : Heap} {Γ Γ' : List (Str × HP)} (S : Sto env h₀ Γ' h) (s : Sub Γ Γ') : Sto env h₀ Γ h := ⟨S.fr, fun x R e => S.vars x R (s.get e), S.cel⟩

section
variable {w : World} {A : Around} {env : Env} {h₀ : Heap} {Γ Γ₁ Γ₂ : List (Str × HP)}
theorem tr_nil : Tr w A env h₀ (execs [] env) Γ Γ := fun s _ S p hQ => wpAny_execs_nil (hQ s.heap s.toks (KeepE.refl _) p S)
theorem tr_cons {st : Stmt} {rest : List Stmt} (h : Tr w A env h₀ (exec st env) Γ Γ₁) (hr : Tr w A env h₀ (execs rest env) Γ₁ Γ₂) : Tr w A env h₀ (execs (st :: rest) env) Γ Γ₂ :=
  fun s _ S p hQ => wpAny_execs_cons (h s _ S p fun _ _ k p1 S1 => hr _ _ S1 p1 fun h2 tk2 k2 p2 S2 => hQ h2 tk2 (k.trans k2) p2 S2)
theorem tr_sub {t : Sem Flow} (h : Tr w A env h₀ t Γ Γ₁) (s : Sub Γ₂ Γ₁) : Tr w A env h₀ t Γ Γ₂ := fun _ _ S p hQ => h _ _ S p fun h2 tk2 k2 p2 S2 => hQ h2 tk2 k2 p2 (S2.sub s)
theorem tr_if {t : Expr} {b : List Stmt} {pos : Pos} (C : Cx w env h₀) (sΓ : StabΓ Γ) (h : ∀ H, Wd w H → Vars env H Γ → EvT w A env H t false) : Tr w A env h₀ (exec (.If t b [] pos) env) Γ Γ := by
  intro s Q S p hQ
  refine wpAny_If (h s.heap (S.wd C) S.vars s _ _ (Stays.refl _) p fun h' tk k p1 => ?_)
  rw [if_neg (by decide)]
  exact wpAny_execs_nil (hQ h' tk (.of k) p1 (S.grow sΓ k))
theorem tr_assign {x : Str} {p pos : Pos} {e : Expr} {R : HP} (C : Cx w env h₀) (sΓ : StabΓ Γ) (sR : Stab R) (h : ∀ H, Wd w H → Vars env H Γ → Ev w A env H e R)
    (hx : ∀ h, Sto env h₀ Γ h → IsVar env x h) (hsw : swapsWith e (some (.Name x p)) pos.line env = pure false) : Tr w A env h₀ (exec (.Assign [.Name x p] e pos) env) Γ ((x, R) :: Γ) := by
  intro s Q S p hQ
  refine wpAny_Assign_Name (h s.heap (S.wd C) S.vars s _ _ (Stays.refl _) p fun v h' tk k p1 r => ?_) hsw
  have S1 := S.grow sΓ k
  exact store_any C sΓ sR S1 r (hx _ S1) p1 fun h2 tk2 k2 p2 _ S2 => hQ h2 tk2 ((KeepE.of k).trans k2) p2 S2

theorem store_list (C : Cx w env h₀) : ∀ (ps : List (Str × HP)) (vs : List Value) (Γ : List (Str × HP)) (s : Shared) (Q : Unit → Shared → Prop) (E : Value → Shared → Prop), StabΓ Γ → StabL (ps.map (·.2)) → (∀ p ∈ ps, env.kindOf p.1 = some .local) →
    Sto env h₀ Γ s.heap → 0 < s.toks → All2 (ps.map (·.2)) s.heap vs → (∀ h' tk, KeepE s.heap h' → 0 < tk → Sto env h₀ (ps.reverse ++ Γ) h' → Q () { s with heap := h', toks := tk }) →
    wpAny (model Challenge.rw_oz0058_02.row.prog w) A (assignInOrder (ps.map fun p => bindName env p.1) vs) Q E s
  | [], [], Γ, s, Q, E, _, _, _, S, p, _, hQ => assignInOrder_nil (hQ s.heap s.toks (KeepE.refl _) p S)
  | (x, R) :: ps, v :: vs, Γ, s, Q, E, sΓ, sP, hk, S, p, hv, hQ => by
    refine assignInOrder_cons ?_
    refine wpAny_bindName (store_any C sΓ sP.1 S hv.1 (.inl (hk _ (.head _))) p fun h2 tk2 k2 p2 _ S2 => ?_)
    refine store_list C ps vs ((x, R) :: Γ) _ _ _ (sΓ.cons sP.1) sP.2 (fun p hp => hk p (.tail _ hp)) S2 p2 (All2.stab sP.2 k2.d hv.2) fun h3 tk3 k3 p3 S3 => hQ h3 tk3 (k2.trans k3) p3 ?_
    rw [List.reverse_cons, List.append_assoc]
    exact S3
  | [], _ :: _, _, _, _, _, _, _, _, _, _, hv, _ => hv.elim
  | _ :: _, [], _, _, _, _, _, _, _, _, _, hv, _ => hv.elim
theorem All2.reverse : ∀ {Rs : List HP} {h : Heap} {vs : List Value}, All2 Rs h vs → All2 Rs.reverse h vs.reverse
  | [], _, [], _ => trivial
  | _ :: _, _, _ :: _, r => by
    rw [List.reverse_cons, List.reverse_cons]
    exact All2.append (All2.reverse r.2) ⟨r.1, trivial⟩
theorem StabL.reverse : ∀ {Rs : List HP}, StabL Rs → StabL Rs.reverse
  | [], _ => trivial
  | _ :: _, r => by rw [List.reverse_cons]; exact StabL.append (StabL.reverse r.2) ⟨r.1, trivial⟩
theorem tr_tuple {elts es : List Expr} {k k' : Nat} {tpos vpos pos : Pos} (ps : List (Str × HP)) (C : Cx w env h₀) (hA : A.handled = none) (sΓ : StabΓ Γ) (sP : StabL (ps.map (·.2))) (h : ∀ H, Wd w H → Vars env H Γ → EvL w A env H es (ps.map (·.2)))
    (hk : ∀ p ∈ ps, env.kindOf p.1 = some .local) (hz : ps.length ≤ 1000)
    (hs : swapsWithSole [.Tuple elts k tpos] (.Tuple es k' vpos) pos.line env = pure false)
    (hw : swappedStores [.Tuple elts k tpos] (.Tuple es k' vpos) env = pure (some (ps.map (·.1)))) :
    Tr w A env h₀ (exec (.Assign [.Tuple elts k tpos] (.Tuple es k' vpos) pos) env) Γ (ps ++ Γ) := by
  intro s Q S p hQ
  refine Assign_Tuple_swapped (names := ps.map (·.1)) ?_ hs hw
  refine Tuple_ (h s.heap (S.wd C) S.vars vpos s _ _ (Stays.refl _) p fun vs h1 tk1 k1 p1 rs => ?_)
  have hk1 : Stays h1 (h1.push { cls := .type "tuple", data := .seq vs.toArray }) := fun b o e => Heap.get?_push_of_some _ e
  have hlen : vs.length = ps.length := by rw [rs.length, List.length_map]
  refine wpAny_newObj_type ?_ (by show vs.toArray.size ≤ sizeLine; rw [List.size_toArray, hlen, sizeLine_eq]; omega)
  have ht : (h1.push { cls := .type "tuple", data := .seq vs.toArray }).IsTuple h1.objs.size vs.toArray := ⟨_, Heap.get?_push_size _ rfl, rfl, 0, rfl⟩
  have e1 : (ps.map (·.1)).length = vs.toArray.size := by rw [List.length_map, List.size_toArray, hlen]
  rw [e1]
  refine wpAny_unpackItems_tuple hA ht fun h2 x2 => ?_
  have k2 : Stays (h1.push { cls := .type "tuple", data := .seq vs.toArray }) h2 := fun b o e => x2 b o (fun q => by subst q; exact absurd (Heap.lt_size e) (Nat.lt_irrefl _)) e
  have k3 := (k1.trans hk1).trans k2
  have r3 := (All2.stab sP (KeepD.of (hk1.trans k2)) rs).reverse
  rw [← List.map_reverse] at r3
  have e2 : ((ps.map (·.1)).reverse.map fun n => bindName env n) = ps.reverse.map fun p => bindName env p.1 := by rw [← List.map_reverse, List.map_map]; rfl
  rw [e2]
  refine store_list C ps.reverse _ Γ _ _ _ sΓ (by rw [List.map_reverse]; exact sP.reverse) (fun p hp => hk p (List.mem_reverse.mp hp)) (S.grow sΓ k3) p1 (by simpa using r3) fun h4 tk4 k4 p4 S4 => hQ h4 tk4 ((KeepE.of k3).trans k4) p4 (by simpa using S4)

/-- a loop over what the walk W hands on -/
theorem tr_for {x : Str} {px pos : Pos} {iter : Expr} {body : List Stmt} {Rit : HP} {n : Nat} {Rs : Nat → HP} (C : Cx w env h₀) (sΓ : StabΓ Γ) (sR : ∀ i, i < n → Stab (Rs i))
    (h : ∀ H, Wd w H → Vars env H Γ → Ev w A env H iter Rit) (hx : ∀ h, Sto env h₀ Γ h → IsVar env x h)
    (hit : ∀ (s : Shared) (u : Value) (Q : Value → Shared → Prop) (E : Value → Shared → Prop), Rit s.heap u → (∀ I fp P St h' tk, s.heap.get? I = none → Stays s.heap h' → Walks Challenge.rw_oz0058_02.row.prog w A I fp [I] n P St → St 0 h' →
      (∀ i hh, St i hh → ∀ b ∈ fp, ∀ o, hh.get? b = some o → soft o = false) → (∀ i hh o, St i hh → hh.get? I = some o → soft2 o = true) → I ∈ fp → (∀ i v, P i v → Rs i h' v) → Q (.ref I) { s with heap := h', toks := tk }) → wpAny (model Challenge.rw_oz0058_02.row.prog w) A (pyIter u) Q E s)
    (hb : ∀ i, i < n → Tr w A env h₀ (execs body env) ((x, Rs i) :: Γ) Γ)
    (hs : ∀ x, foldedSetIterable iter env x = pure x) : Tr w A env h₀ (exec (.For (.Name x px) iter body [] pos) env) Γ Γ := by
  intro s Q S p hQ
  refine wpAny_For (h s.heap (S.wd C) S.vars s _ _ (Stays.refl _) p fun u h1 tk1 k1 p1 ru => wpAny_with_toks (n := 1) p1 (hit _ _ _ _ ru fun I fp P St h2 tk2 nI k2 W st soI s2I Ifp hR p2 => ?_)) hs
  have S2 := S.grow sΓ (k1.trans k2)
  have nIs : s.heap.get? I = none := fresh_of k1 nI
  have hI0 : h₀.get? I = none := by
    cases e : h₀.get? I with
    | none => rfl
    | some o =>
      obtain ⟨m0, F0, _⟩ := S.fr
      rw [F0.keep _ _ e] at nIs; cases nIs
  refine codeAny_forLoop
    (fun j s' => ∃ h' tk i, s' = { s with heap := h', toks := tk } ∧ 0 < tk ∧ St i h' ∧ Sto env h₀ Γ h' ∧ (∀ a o, a ≠ I → h2.get? a = some o → soft o = false → h'.get? a = some o) ∧ KeepD h2 h' ∧ i ≤ n ∧ j = n + 1 - i) ?_ (n + 1)
    ⟨h2, tk2, 0, rfl, p2, st, S2, fun _ _ _ e _ => e, KeepD.refl _, Nat.zero_le _, rfl⟩
  rintro j s' ⟨h', tk, i, rfl, p', st', S', K', D', hi, rfl⟩
  have adv : ∀ h₁ : Heap, (∀ b o, b ∉ [I] → h'.get? b = some o → h₁.get? b = some o) → Sto env h₀ Γ h₁ ∧ KeepD h' h₁ := by
    intro h₁ hk₁
    have kd : KeepD h' h₁ := fun a o e so => by
      by_cases ha : a = I
      · subst ha; rw [s2I i h' o st' e] at so; cases so
      · exact hk₁ a o (by simpa using ha) e
    have keepne : ∀ a o, h'.get? a = some o → soft o = true → h₁.get? a = some o := fun a o e so => hk₁ a o (by
      intro hm
      have ha : a = I := by simpa using hm
      subst ha
      rw [soI i h' st' a Ifp o e] at so; cases so) e
    obtain ⟨⟨m, F, y, vy, hy⟩, V, Ce⟩ := S'
    refine ⟨⟨⟨m, ⟨F.ns.at' fun o e => keepne _ _ e (soft_frame F.ns hy e), fun b o e => hk₁ b o (by
      intro hm
      have hb : b = I := by simpa using hm
      subst hb
      rw [hI0] at e; cases e) (F.keep b o e), F.above⟩, y, vy, hy⟩, ?_, fun z c e => by
      obtain ⟨v', o, e1, d1⟩ := Ce z c e
      exact ⟨v', o, keepne _ _ e1 (soft_cell ⟨o, e1, d1⟩ e1), d1⟩⟩, kd⟩
    intro z R e
    rcases V z R e with ⟨hk', m', v', hn', hv', hr'⟩ | ⟨hk', c', v', hc', hcell2, hr'⟩
    · refine .inl ⟨hk', m', v', ?_, hv', sΓ z R e _ _ _ kd hr'⟩
      exact hn'.at' fun o e => keepne _ _ e (soft_frame hn' hv' e)
    · refine .inr ⟨hk', c', v', hc', ?_, sΓ z R e _ _ _ kd hr'⟩
      obtain ⟨o, e1, d1⟩ := hcell2
      exact ⟨o, keepne _ _ e1 (soft_cell ⟨o, e1, d1⟩ e1), d1⟩
  by_cases hlt : i < n
  · refine wpAny_with_toks (n := 1) p' (W.item i _ _ _ hlt st' fun v h3 tk3 pv st3 k3 p3 => ?_)
    obtain ⟨S3, D3⟩ := adv h3 k3
    refine wpAny_assign_Name ?_
    refine store_any C sΓ (sR i hlt) S3 (sR i hlt _ _ _ (D'.trans D3) (hR i v pv)) (hx _ S3) p3 fun h4 tk4 k4 p4 _ S4 => ?_
    refine wpAny_noRaise (hb i hlt _ _ S4 p4 fun h5 tk5 k5 p5 S5 => ?_)
    refine ⟨n + 1 - (i + 1), by omega, h5, tk5, i + 1, rfl, p5, ?_, S5, ?_, ?_, hlt, rfl⟩
    · exact W.frame _ _ _ st3 fun b hb o e => (k4.trans k5) b o e (soI _ _ st3 b hb o e)
    · intro a o ha e so
      exact (k4.trans k5) a o (k3 a o (by simpa using ha) (K' a o ha e so)) so
    · exact D'.trans (D3.trans (k4.trans k5).d)
  · have hin : i = n := by omega
    subst hin
    refine wpAny_with_toks (n := 1) p' (W.done _ _ _ st' fun h3 tk3 k3 p3 => wpAny_execs_nil ?_)
    obtain ⟨S3, D3⟩ := adv h3 k3
    refine hQ h3 tk3 ?_ p3 S3
    intro a o e so
    have ha : a ≠ I := by rintro rfl; rw [nIs] at e; cases e
    exact k3 a o (by simpa using ha) (K' a o ha ((k1.trans k2) a o e) so)
end
end Mine

open PySem PySem.W PySem.Calls PyProof.Rows
set_option Elab.async false
set_option maxRecDepth 100000
set_option maxHeartbeats 400000
namespace Mine

/-- what an iterable hands on: n items, the i-th is Rs i -/
def Hands (w : World) (A : Around) (R : HP) (n : Nat) (Rs : Nat → HP) : Prop :=
  ∀ (s : Shared) (u : Value) (Q : Value → Shared → Prop) (E : Value → Shared → Prop), R s.heap u → (∀ I fp P St h' tk, s.heap.get? I = none → Stays s.heap h' → Walks Challenge.rw_oz0058_02.row.prog w A I fp [I] n P St → St 0 h' →
      (∀ i hh, St i hh → ∀ b ∈ fp, ∀ o, hh.get? b = some o → soft o = false) → (∀ i hh o, St i hh → hh.get? I = some o → soft2 o = true) → I ∈ fp → (∀ b ∈ fp, b < h'.objs.size) → (∀ i v, P i v → Rs i h' v) → Q (.ref I) { s with heap := h', toks := tk }) → wpAny (model Challenge.rw_oz0058_02.row.prog w) A (pyIter u) Q E s

section
variable {w : World} {A : Around} {env : Env} {H : Heap}

theorem getNone {h : Heap} : h.get? h.objs.size = none := by
  cases e : h.get? h.objs.size with
  | none => rfl
  | some o => exact absurd (Heap.lt_size e) (Nat.lt_irrefl _)
theorem hands_list {Rs : List HP} (hh : A.handled = none) (sR : StabL Rs) : Hands w A (IsL Rs) Rs.length (fun i => Rs.getD i fun _ _ => True) := by
  rintro s u Q E ⟨l, vs, rfl, hl, hv⟩ hQ
  have hlt : l < s.heap.objs.size := by obtain ⟨o, e, _⟩ := hl; exact Heap.lt_size e
  have hne : l ≠ s.heap.objs.size := Nat.ne_of_lt hlt
  refine wpAny_pyIter_list hl ?_
  have W := Walks.list (prog := Challenge.rw_oz0058_02.row.prog) (w := w) hh s.heap.objs.size l hne vs.toArray
  have hsz : vs.toArray.size = Rs.length := by rw [List.size_toArray, hv.length]
  rw [hsz] at W
  refine hQ s.heap.objs.size _ _ _ _ s.toks getNone (fun b o e => Heap.get?_push_of_some _ e) W ⟨⟨_, Heap.get?_push_size _ rfl, rfl, rfl⟩, hl.at fun o e => Heap.get?_push_of_some _ e⟩ ?_ ?_ (by simp) ?_ ?_
  · rintro i hh ⟨⟨o1, e1, _, d1⟩, ⟨o2, e2, _, n2, d2⟩⟩ b hb o e
    simp only [List.mem_cons, List.not_mem_nil, or_false] at hb
    rcases hb with rfl | rfl
    · rw [e1] at e; cases e; unfold soft; rw [d1]
    · rw [e2] at e; cases e; unfold soft; rw [d2]
  · rintro i hh o ⟨⟨o1, e1, c1, d1⟩, _⟩ e
    rw [e1] at e; cases e; unfold soft2; rw [c1]; simp
  · intro b hb
    rw [Heap.size_push]
    simp only [List.mem_cons, List.not_mem_nil, or_false] at hb
    rcases hb with rfl | rfl
    · exact Nat.lt_succ_self _
    · exact Nat.lt_succ_of_lt hlt
  · intro i v hp
    have hlt : i < vs.length := by
      rcases Nat.lt_or_ge i vs.length with h | h
      · exact h
      · have : vs.toArray[i]? = none := by simp; exact h
        rw [this] at hp; cases hp
    have hi : i < Rs.length := by rw [← hv.length]; exact hlt
    obtain ⟨v', e', r'⟩ := hv.get (i := i) (R := Rs[i]) (by simp [hi])
    have : v = v' := by
      have h1 : vs[i]? = some v := by simpa using hp
      rw [e'] at h1; exact (Option.some.inj h1).symm
    subst this
    rw [List.getD_eq_getElem?_getD, List.getElem?_eq_getElem hi, Option.getD_some]
    have st : ∀ {Rs : List HP} {i : Nat} (h : i < Rs.length), StabL Rs → Stab Rs[i] := by
      intro Rs
      induction Rs with
      | nil => intro i h; exact absurd h (Nat.not_lt_zero _)
      | cons a r ih => intro i h s; cases i with
        | zero => exact s.1
        | succ j => exact ih (i := j) (by simpa using h) s.2
    exact (st hi sR).mono _ _ _ (fun b o e => Heap.get?_push_of_some _ e) r'
theorem hands_range {n : Nat} (hh : A.handled = none) (hz : n ≤ 1000) : Hands w A (IsR n) n (fun i => IsI (i : Int)) := by
  rintro s u Q E ⟨r, t1, t2, t3, rfl, hr⟩ hQ
  have hs : Builtin.Range.rangeSize 0 n 1 = (n : Int) := by
    unfold Builtin.Range.rangeSize
    rw [if_pos (by decide)]
    split <;> omega
  have hsm : Builtin.Range.small 0 n 1 = true := by
    have fit : ∀ k : Int, 0 ≤ k → k ≤ 1000 → Builtin.Range.rangeFitsLong k = true := by
      intro k h1 h2
      have a : (1000 : Int) < 2 ^ 63 := by decide
      have b : -(2 : Int) ^ 63 ≤ 0 := by decide
      unfold Builtin.Range.rangeFitsLong
      simp only [Bool.and_eq_true, decide_eq_true_eq]
      constructor
      · exact Int.le_trans b h1
      · exact Int.lt_of_le_of_lt h2 a
    unfold Builtin.Range.small
    simp only [hs, fit 0 (by decide) (by decide), fit 1 (by decide) (by decide), fit (n : Int) (by omega) (by omega), Int.zero_add, Int.mul_one, Bool.and_true, Bool.true_and]
    simp
    first | done | (right; exact fit _ (by omega) (by omega)) | (intro _; exact fit _ (by omega) (by omega))
  refine wpAny_pyIter_range hr hsm ?_
  have W := Walks.range (prog := Challenge.rw_oz0058_02.row.prog) (w := w) hh s.heap.objs.size 0 1 n
  refine hQ s.heap.objs.size _ _ _ _ s.toks getNone (fun b o e => Heap.get?_push_of_some _ e) W ?_ ?_ ?_ (by simp) ?_ ?_
  · show IsRangeIter _ _ _ _ _
    rw [hs]
    have := Heap.get?_push_size (h := s.heap) (o := { cls := .type "range_iterator", dict := none, data := .fields #[rawInt 0, rawInt n, rawInt 1], slots := #[] }) rfl
    simpa [IsRangeIter] using this
  · intro i hh st b hb o e
    have hb' : b = s.heap.objs.size := by simpa using hb
    subst hb'
    rw [st] at e; cases e; rfl
  · intro i hh o st e
    rw [st] at e; cases e; rfl
  · intro b hb
    have hb' : b = s.heap.objs.size := by simpa using hb
    subst hb'
    rw [Heap.size_push]; exact Nat.lt_succ_self _
  · rintro i v ⟨t, rfl⟩
    exact ⟨t, by simp⟩

theorem tr_loop {h₀ : Heap} {Γ : List (Str × HP)} {x : Str} {px pos : Pos} {iter : Expr} {body : List Stmt} {Rit : HP} {n : Nat} {Rs : Nat → HP} (C : Cx w env h₀) (sΓ : StabΓ Γ) (sR : ∀ i, i < n → Stab (Rs i))
    (h : ∀ H, Wd w H → Vars env H Γ → Ev w A env H iter Rit) (hx : ∀ h, Sto env h₀ Γ h → IsVar env x h) (hit : Hands w A Rit n Rs)
    (hb : ∀ i, i < n → Tr w A env h₀ (execs body env) ((x, Rs i) :: Γ) Γ)
    (hs : ∀ x, foldedSetIterable iter env x = pure x) : Tr w A env h₀ (exec (.For (.Name x px) iter body [] pos) env) Γ Γ :=
  tr_for C sΓ sR h hx (fun s u Q E r hQ => hit s u Q E r fun I fp P St h' tk a1 a2 a3 a4 a5 a6 a7 _ a9 => hQ I fp P St h' tk a1 a2 a3 a4 a5 a6 a7 a9) hb hs

/-- no list either -/
def KeepH (h h' : Heap) : Prop := ∀ a o, h.get? a = some o → soft2 o = false → o.cls ≠ .type "list" → h'.get? a = some o
def StabH (R : HP) : Prop := ∀ h h' u, KeepH h h' → R h u → R h' u
theorem StabH.stab {R : HP} (s : StabH R) : Stab R := fun h h' u k r => s h h' u (fun a o e so _ => k a o e so) r
theorem hF {f} : StabH (IsF f) := fun _ _ _ _ r => r
theorem hN {a b} : StabH (IsN a b) := by
  rintro h h' u k ⟨x, rfl, ⟨⟨dx, t1, t2, e1, e2, z⟩, n⟩⟩
  exact ⟨x, rfl, ⟨⟨dx, t1, t2, k _ _ e1 rfl (by simp), k _ _ e2 rfl (by simp), z⟩, n⟩⟩
theorem All2.stabH : ∀ {Rs : List HP} {h h' : Heap} {vs : List Value}, (∀ R ∈ Rs, StabH R) → KeepH h h' → All2 Rs h vs → All2 Rs h' vs
  | [], _, _, [], _, _, _ => trivial
  | _ :: _, _, _, _ :: _, s, k, r => ⟨s _ (.head _) _ _ _ k r.1, All2.stabH (fun R hR => s R (.tail _ hR)) k r.2⟩

/-- a comprehension's start: an empty list D and a frame C are laid, both new -/
theorem comp_open {elt iter : Expr} {x : Str} {px : Pos} {ifs : List Expr} {scope : Scope} {cl : List (Str × Addr)} {pos : Pos} {s : Shared} {I : Addr} {fp : List Addr} {RR : Value → Addr → Result → Shared → Prop} {E : Value → Shared → Prop}
    (nocell : ∀ y ∈ scope.names, y.2 ≠ .cell) (isf : scope.kind = .function) (inside : ∀ b ∈ fp, b < s.heap.objs.size)
    (go : ∀ (D C : Addr) (h : Heap), s.heap.get? D = none → s.heap.get? C = none → D ≠ C → D ∉ fp → C ∉ fp → Stays s.heap h → h.Ns C (fun _ => none) → h.PlainList D #[] →
      codeAny (model Challenge.rw_oz0058_02.row.prog w) A (.compStart (.ListComp elt [⟨.Name x px, iter, ifs, 0⟩] scope pos) 0 (.ref I) (.ref D) (compEnvC scope cl C env)) (RR (.ref D) C) { s with heap := h }) :
    wpAny (model Challenge.rw_oz0058_02.row.prog w) A (newList []) (fun acc s₁ => wpAny (model Challenge.rw_oz0058_02.row.prog w) A (newFunctionEnv scope env.globals cl [] env.qual none .none (some env)) (fun cenv s₂ =>
      codeAny (model Challenge.rw_oz0058_02.row.prog w) A (.compStart (.ListComp elt [⟨.Name x px, iter, ifs, 0⟩] scope pos) 0 (.ref I) acc { cenv with scope := relabel scope env }) (RR acc cenv.locals) s₂) E s₁) E s := by
  have beyond : ∀ a, ¬ a < s.heap.objs.size → s.heap.get? a = none := fun a ha => by
    cases q : s.heap.get? a with
    | none => rfl
    | some _ => exact absurd (Heap.lt_size q) ha
  refine wpAny_newObj_type (wpAny_newFunctionEnv nocell (fun _ z => nomatch z) (fun h ns same => ?_) isf)
  dsimp only at ns same
  have one : Stays s.heap (s.heap.push { cls := .type "list", data := .seq ([] : List Value).toArray }) := fun _ _ q => Heap.get?_push_of_some _ q
  have two : Stays (s.heap.push { cls := .type "list", data := .seq ([] : List Value).toArray }) h := fun _ _ q => same.extBut _ _ (Nat.ne_of_lt (Heap.lt_size q)) (Heap.get?_push_of_some _ q)
  have more : s.heap.objs.size < (s.heap.push { cls := .type "list", data := .seq ([] : List Value).toArray }).objs.size := by
    rw [Heap.size_push]; exact Nat.lt_succ_self _
  exact go _ _ h (beyond _ (Nat.lt_irrefl _)) (beyond _ (Nat.lt_asymm more)) (Nat.ne_of_lt more) (fun q => Nat.lt_irrefl _ (inside _ q)) (fun q => Nat.lt_asymm more (inside _ q)) (one.trans two) ns ⟨_, two _ _ (Heap.get?_push_size _ rfl)⟩

/-- a list comprehension without tests, its items told in the heap that it leaves -/
theorem comp_core {elt iter : Expr} {x : Str} {px : Pos} {scope : Scope} {cl : List (Str × Addr)} {pos : Pos} {s₂ : Shared} {I : Addr} {fp : List Addr} {n : Nat} {P : Nat → Value → Prop}
    {St : Nat → Heap → Prop} {Rs : Nat → HP} (W : Walks Challenge.rw_oz0058_02.row.prog w A I fp [I] n P St) (hz : n ≤ 1000) (h0 : 0 < n) (sR : ∀ i, i < n → StabH (Rs i)) {RR : Value → Addr → Result → Shared → Prop}
    (hcell : ∀ y ∈ scope.names, y.2 ≠ .cell) (hkind : scope.kind = .function) (hx : scope.names.lookup x = some .local) (hst : St 0 s₂.heap) (hp0 : 0 < s₂.toks) (hfp : ∀ b ∈ fp, b < s₂.heap.objs.size) (Ifp : I ∈ fp)
    (s2I : ∀ i hh o, St i hh → hh.get? I = some o → soft2 o = true)
    (helt : ∀ i v C H' m, i < n → P i v → s₂.heap.get? C = none → (∀ a o, a ≠ I → s₂.heap.get? a = some o → H'.get? a = some o) → H'.Ns C m → m x = some v → Ev w A (compEnvC scope cl C env) H' elt (Rs i))
    (hRR : ∀ D C h' tk m' (ys : List Value), s₂.heap.get? D = none → s₂.heap.get? C = none → D ≠ C → h'.Ns C m' → (∃ v, m' x = some v) → h'.PlainList D ys.toArray → All2 ((List.range n).map Rs) h' ys →
      (∀ a o, a ≠ I → s₂.heap.get? a = some o → h'.get? a = some o) → 0 < tk → RR (.ref D) C (.ok .next) { s₂ with heap := h', toks := tk }) (E : Value → Shared → Prop) :
    wpAny (model Challenge.rw_oz0058_02.row.prog w) A (newList []) (fun acc s₃ => wpAny (model Challenge.rw_oz0058_02.row.prog w) A (newFunctionEnv scope env.globals cl [] env.qual none .none (some env)) (fun cenv s₄ =>
      codeAny (model Challenge.rw_oz0058_02.row.prog w) A (.compStart (.ListComp elt [⟨.Name x px, iter, [], 0⟩] scope pos) 0 (.ref I) acc { cenv with scope := relabel scope env }) (RR acc cenv.locals) s₄) E s₃) E s₂ := by
  refine comp_open hcell hkind hfp fun D Cc h₁ freshD freshC hDC hDf hCf old hns₁ hacc => ?_
  have hst₁ : St 0 h₁ := W.frame _ _ _ hst fun b _ o e => old b o e
  have kx : (compEnvC scope cl Cc env).kindOf x = some .local := lookup_relabel_local hx
  have kp : ((compEnvC scope cl Cc env).scope.kind == .class || ((compEnvC scope cl Cc env).scope.kind == .module && (compEnvC scope cl Cc env).locals != (compEnvC scope cl Cc env).globals)) = false := by simp [compEnvC, relabel, hkind]
  have loop : ∀ s₃ : Shared, s₃ = { s₂ with heap := h₁ } →
      codeAny (model Challenge.rw_oz0058_02.row.prog w) A (.compLoop (.ListComp elt [⟨.Name x px, iter, [], 0⟩] scope pos) 0 (.ref I) (.ref D) (compEnvC scope cl Cc env))
        (RR (.ref D) Cc) s₃ := by
    rintro s₃ rfl
    refine codeAny_compLoop_tests
      (fun j s' => ∃ h' tk m' i, ∃ ys : List Value, s' = { s₂ with heap := h', toks := tk } ∧ 0 < tk ∧ St i h' ∧ h'.PlainList D ys.toArray ∧ h'.Ns Cc m' ∧ (0 < i → ∃ v, m' x = some v) ∧ All2 ((List.range i).map Rs) h' ys ∧
        (∀ a o, a ≠ I → s₂.heap.get? a = some o → h'.get? a = some o) ∧ i ≤ n ∧ j = n + 1 - i) ?_ (n + 1)
      ⟨h₁, _, _, 0, [], rfl, hp0, hst₁, hacc, hns₁, (fun h => absurd h (Nat.lt_irrefl _)), trivial, fun a o _ e => old a o e, Nat.zero_le _, rfl⟩
    rintro j s' ⟨h', tk, m', i, ys, rfl, p', st', hl', hn', hv', ha', hk', hi, rfl⟩
    have hCI : Cc ≠ I := fun e => hCf (e ▸ Ifp)
    have hDI : D ≠ I := fun e => hDf (e ▸ Ifp)
    by_cases hlt : i < n
    · refine wpAny_with_toks (n := 1) p' (W.item i _ _ _ hlt st' fun v h2 tk2 pv st2 k2 p2 => ?_)
      have k2' : ∀ a o, a ≠ I → h'.get? a = some o → h2.get? a = some o := fun a o ha e => k2 a o (by simpa using ha) e
      refine wpAny_assign_Name (wpAny_storeName_local kx (hn'.at' fun o e => k2' _ o hCI e) (fun h3 hn3 hs3 => ?_) kp)
      have e3 : ∀ a o, a ≠ I → a ≠ Cc → h'.get? a = some o → h3.get? a = some o := fun a o hI hc e => (hs3.2 a hc).trans (k2' a o hI e)
      have s3 : ∀ a o, a ≠ I → s₂.heap.get? a = some o → h3.get? a = some o := fun a o hI e => e3 a o hI (by rintro rfl; rw [freshC] at e; cases e) (hk' a o hI e)
      refine wpAny_pure ?_
      rw [if_pos rfl]
      refine helt i v Cc h3 _ hlt pv freshC s3 hn3 (by simp) _ _ _ (Stays.refl _) (Nat.succ_pos _) fun y h4 tk4 k4 p4 r4 => ?_
      have hl4 : h4.PlainList D ys.toArray := hl'.at fun o e => k4 _ _ (e3 D o hDI hDC e)
      have hlen : ys.length = i := by have := ha'.length; simpa using this
      refine wpAny_list_append_plain (hsz := by rw [List.size_toArray, hlen, sizeLine_eq]; omega) hl4 fun h5 hl5 hs5 => ?_
      have hns5 : h5.Ns Cc _ := ((hn3.keeps k4).sameBut hs5 (Ne.symm hDC))
      have sAll : ∀ R ∈ (List.range i).map Rs, StabH R := by
        intro R hR
        obtain ⟨j, hj, rfl⟩ := List.mem_map.mp hR
        exact sR j (Nat.lt_trans (List.mem_range.mp hj) hlt)
      have k45 : KeepH h4 h5 := fun a o e _ hc => (hs5.2 a (by
        rintro rfl
        obtain ⟨n', e'⟩ := hl4
        rw [e'] at e; cases e; exact hc rfl)).trans e
      have hold : All2 ((List.range i).map Rs) h5 ys := by
        cases i with
        | zero =>
          have : ys = [] := List.length_eq_zero_iff.mp hlen
          subst this; trivial
        | succ i' =>
          obtain ⟨v0, hv0⟩ := hv' (Nat.succ_pos _)
          refine All2.stabH sAll (fun a o e so hc => ?_) ha'
          have hI : a ≠ I := by rintro rfl; rw [s2I _ h' o st' e] at so; cases so
          have hCc' : a ≠ Cc := by
            rintro rfl
            have := soft_frame hn' hv0 e
            unfold soft2 at so; rw [this] at so; cases so
          exact k45 a o (k4 _ _ (e3 a o hI hCc' e)) so hc
      refine ⟨n + 1 - (i + 1), by omega, h5, tk4, _, i + 1, ys ++ [y], rfl, p4, ?_, ?_, hns5, fun _ => ⟨v, by simp⟩, ?_, ?_, hlt, rfl⟩
      · refine W.frame _ _ _ st2 fun b hb o e => ?_
        have hbD : b ≠ D := fun q => hDf (q ▸ hb)
        have hbC : b ≠ Cc := fun q => hCf (q ▸ hb)
        exact (hs5.2 b hbD).trans (k4 _ _ ((hs3.2 b hbC).trans e))
      · simpa using hl5
      · rw [List.range_succ, List.map_append]
        exact All2.append hold ⟨sR i hlt _ _ _ k45 r4, trivial⟩
      · intro a o hI e
        exact (hs5.2 a (by rintro rfl; rw [freshD] at e; cases e)).trans (k4 _ _ (s3 a o hI e))
    · have hin : i = n := by omega
      subst hin
      refine wpAny_with_toks (n := 1) p' (W.done _ _ _ st' fun h2 tk2 k2 p2 => ?_)
      have k2' : ∀ a o, a ≠ I → h'.get? a = some o → h2.get? a = some o := fun a o ha e => k2 a o (by simpa using ha) e
      have sAll : ∀ R ∈ (List.range i).map Rs, StabH R := by
        intro R hR
        obtain ⟨j, hj, rfl⟩ := List.mem_map.mp hR
        exact sR j (List.mem_range.mp hj)
      exact hRR D Cc h2 tk2 m' ys freshD freshC hDC (hn'.at' fun o e => k2' _ o hCI e) (hv' h0) (hl'.at fun o e => k2' _ o hDI e)
        (All2.stabH sAll (fun a o e so _ => k2' a o (by rintro rfl; rw [s2I i h' o st' e] at so; cases so) e) ha') (fun a o hI e => k2' a o hI (hk' a o hI e)) p2
  exact codeAny_compStart_list (loop _ rfl) (W.self 0 _ _ _ hst₁ (loop _ rfl))
end
end Mine

open PySem PySem.W PySem.Calls PyProof.Rows
set_option Elab.async false
set_option maxRecDepth 100000
set_option maxHeartbeats 400000
namespace Mine
section
variable {w : World} {A : Around} {env : Env} {H : Heap}

/-- the item's expression in the comprehension's own frame -/
def Elt (w : World) (A : Around) (env : Env) (H : Heap) (scope : Scope) (cl : List (Str × Addr)) (x : Str) (elt : Expr) (Ri R : HP) : Prop :=
  ∀ C H' m v, (∀ a o, H.get? a = some o → H'.get? a = some o) → H'.Ns C m → m x = some v → Ri H' v → Ev w A (compEnvC scope cl C env) H' elt R

theorem ev_comp {elt iter : Expr} {x : Str} {px : Pos} {scope : Scope} {cl : List (Str × Addr)} {pos : Pos} {n : Nat} {Rit : HP} {Ri Rs : Nat → HP} (hz : n ≤ 1000) (h0 : 0 < n) (sR : ∀ i, i < n → StabH (Rs i)) (sI : ∀ i, i < n → StabH (Ri i))
    (hclos : closureFor scope env = pure cl) (hcell : ∀ y ∈ scope.names, y.2 ≠ .cell) (hkind : scope.kind = .function) (hnames : ∀ y ∈ scope.names, y.2 = .local → scope.names.lookup y.1 = some .local) (hx : scope.names.lookup x = some .local)
    (hi : Ev w A env H iter Rit) (hit : Hands w A Rit n Ri)
    (helt : ∀ i, i < n → Elt w A env H scope cl x elt (Ri i) (Rs i))
    (hs : ∀ x, foldedSetIterable iter env x = pure x) : Ev w A env H (.ListComp elt [⟨.Name x px, iter, [], 0⟩] scope pos) (IsL ((List.range n).map Rs)) := by
  intro s Q E k p hQ
  rw [eval_ListComp]
  refine wpAny_comprehension_free (use := none) rfl hs hclos hkind hnames (hi s _ _ k p fun u h1 tk1 k1 p1 ru => wpAny_with_toks (n := 1) p1 (hit _ _ _ _ ru fun I fp P St h2 tk2 nI k2 W st soI s2I Ifp fpb hR p2 => ?_))
  have nIs : s.heap.get? I = none := fresh_of k1 nI
  refine comp_core W hz h0 sR (RR := fun acc C => compPost (model Challenge.rw_oz0058_02.row.prog w) A E none Q acc C) hcell hkind hx st p2 fpb Ifp s2I (fun i v C H' m hi' pv hC kH hn hm => ?_) ?_ _
  · refine helt i hi' C H' m v (fun a o e => kH a o (by rintro rfl; have := k _ _ e; rw [nIs] at this; cases this) ((k1.trans k2) a o (k _ _ e))) hn hm ?_
    exact sI i hi' _ _ _ (fun a o e so _ => kH a o (by rintro rfl; rw [s2I 0 h2 o st e] at so; cases so) e) (hR i v pv)
  · intro D C h' tk m' ys hD hC hDC hn hv hl ha hk ptk
    obtain ⟨v, hv⟩ := hv
    refine ⟨m', hn, fun h'' hs'' => hQ (.ref D) h'' tk (fun a o e => ?_) ptk ⟨D, ys, rfl, hl.isList.extBut hs''.extBut hDC, ?_⟩⟩
    · have e2 := (k1.trans k2) a o e
      exact (hs''.2 a (by rintro rfl; rw [hC] at e2; cases e2)).trans (hk a o (by rintro rfl; rw [nIs] at e; cases e) e2)
    · refine All2.stabH ?_ (fun a o e so _ => (hs''.2 a ?_).trans e) ha
      · intro R hR
        obtain ⟨j, hj, rfl⟩ := List.mem_map.mp hR
        exact sR j (List.mem_range.mp hj)
      · rintro rfl
        have := soft_frame hn hv e
        unfold soft2 at so; rw [this] at so; cases so

theorem tr_comp {h₀ : Heap} {Γ : List (Str × HP)} {y : Str} {py spos : Pos} {elt iter : Expr} {x : Str} {px : Pos} {scope : Scope} {cl : List (Str × Addr)} {pos : Pos} {n : Nat} {Rit : HP} {Ri Rs : Nat → HP} (Cc : Cx w env h₀) (sΓ : StabΓ Γ) (hz : n ≤ 1000) (h0 : 0 < n) (sR : ∀ i, i < n → StabH (Rs i)) (sI : ∀ i, i < n → StabH (Ri i))
    (hsw : swapsWith (.ListComp elt [⟨.Name x px, iter, [], 0⟩] scope pos) (some (.Name y py)) spos.line env = pure true)
    (hclos : closureFor scope env = pure cl) (hcell : ∀ y ∈ scope.names, y.2 ≠ .cell) (hkind : scope.kind = .function) (hnames : ∀ y ∈ scope.names, y.2 = .local → scope.names.lookup y.1 = some .local) (hx : scope.names.lookup x = some .local)
    (hy : env.kindOf y = some .local)
    (hi : ∀ H, Wd w H → Vars env H Γ → Ev w A env H iter Rit) (hit : Hands w A Rit n Ri)
    (helt : ∀ H, Stays h₀ H → Wd w H → Vars env H Γ → ∀ i, i < n → Elt w A env H scope cl x elt (Ri i) (Rs i))
    (hs : ∀ x, foldedSetIterable iter env x = pure x) : Tr w A env h₀ (exec (.Assign [.Name y py] (.ListComp elt [⟨.Name x px, iter, [], 0⟩] scope pos) spos) env) Γ ((y, IsL ((List.range n).map Rs)) :: Γ) := by
  intro s Q S p hQ
  rw [exec_Assign_Name_used _ _ _ _ hsw]
  refine wpAny_bind (wpAny_standAt (wpAny_bind ?_))
  show wpAny _ A (do let _ ← comprehension (.ListComp elt [⟨.Name x px, iter, [], 0⟩] scope pos) scope env _ (newList []) false (eval iter env) (some (assign (.Name y py) env))) _ _ s
  refine wpAny_bind (wpAny_mono (wpAny_comprehension_free (use := some (assign (.Name y py) env)) (Q := fun _ s' => Q .next s') rfl hs hclos hkind hnames
    (hi s.heap (S.wd Cc) S.vars s _ _ (Stays.refl _) p fun u h1 tk1 k1 p1 ru => wpAny_with_toks (n := 1) p1 (hit _ _ _ _ ru fun I fp P St h2 tk2 nI k2 W st soI s2I Ifp fpb hR p2 => ?_))) (fun _ s' hq => wpAny_pure (wpAny_pure hq)) fun _ _ e => e)
  have nIs : s.heap.get? I = none := fresh_of k1 nI
  refine comp_core W hz h0 sR (RR := fun acc C => compPost (model Challenge.rw_oz0058_02.row.prog w) A (fun _ _ => False) (some (assign (.Name y py) env)) (fun _ s' => Q .next s') acc C) hcell hkind hx st p2 fpb Ifp s2I (fun i v C H' m hi' pv hC kH hn hm => ?_) ?_ _
  · refine helt s.heap (by obtain ⟨_, F0, _⟩ := S.fr; exact F0.keep) (S.wd Cc) S.vars i hi' C H' m v (fun a o e => kH a o (by rintro rfl; rw [nIs] at e; cases e) ((k1.trans k2) a o e)) hn hm ?_
    exact sI i hi' _ _ _ (fun a o e so _ => kH a o (by rintro rfl; rw [s2I 0 h2 o st e] at so; cases so) e) (hR i v pv)
  · intro D C h' tk m' ys hD hC hDC hn hv hl ha hk ptk
    obtain ⟨v, hv⟩ := hv
    have ks : Stays s.heap h' := fun a o e => hk a o (by rintro rfl; rw [nIs] at e; cases e) ((k1.trans k2) a o e)
    have S' := S.grow sΓ ks
    have sAll : ∀ R ∈ (List.range n).map Rs, StabH R := by
      intro R hR
      obtain ⟨j, hj, rfl⟩ := List.mem_map.mp hR
      exact sR j (List.mem_range.mp hj)
    have sAllL : StabL ((List.range n).map Rs) := by
      have : ∀ {l : List HP}, (∀ R ∈ l, StabH R) → StabL l := by
        intro l
        induction l with
        | nil => intro _; trivial
        | cons a r ih => intro h; exact ⟨(h a (.head _)).stab, ih fun R hR => h R (.tail _ hR)⟩
      exact this sAll
    have nCs : s.heap.get? C = none := by
      cases e : s.heap.get? C with
      | none => rfl
      | some o => have := (k1.trans k2) _ _ e; rw [hC] at this; cases this
    have hCL : C ≠ env.locals := by
      rintro rfl
      obtain ⟨mm, F, _⟩ := S.fr
      obtain ⟨o, _, _, e, _⟩ := F.ns
      rw [nCs] at e; cases e
    show wpAny _ A (assign (.Name y py) env (.ref D)) _ _ _
    refine wpAny_assign_Name (store_any Cc sΓ (sL sAllL) S' ⟨D, ys, rfl, hl.isList, ha⟩ (.inl hy) ptk fun h3 tk3 k3 p3 hs3 S3 => ?_)
    rw [hy] at hs3
    dsimp only at hs3
    refine ⟨m', hn.sameBut hs3 hCL, fun h4 hs4 => ?_⟩
    have keC : ∀ o, h3.get? C = some o → soft o = true := fun o e => soft_frame (hn.sameBut hs3 hCL) hv e
    have kd4 : KeepD h3 h4 := fun a o e so => (hs4.2 a (by rintro rfl; unfold soft2 at so; rw [keC o e] at so; cases so)).trans e
    refine hQ h4 tk3 (fun a o e so => (hs4.2 a (by rintro rfl; rw [nCs] at e; cases e)).trans (((KeepE.of ks).trans k3) a o e so)) p3 ?_
    obtain ⟨⟨mm, F, z, vz, hz'⟩, V, Ce⟩ := S3
    have hc0 : h₀.get? C = none := by
      cases e : h₀.get? C with
      | none => rfl
      | some o => obtain ⟨m0, F0, _⟩ := S.fr; rw [F0.keep _ _ e] at nCs; cases nCs
    refine ⟨⟨mm, ⟨F.ns.sameBut hs4 (Ne.symm hCL), fun b o e => (hs4.2 b (by rintro rfl; rw [hc0] at e; cases e)).trans (F.keep b o e), F.above⟩, z, vz, hz'⟩, ?_, fun z' c' e => by
      obtain ⟨v', hc'⟩ := Ce z' c' e
      refine ⟨v', hc'.sameBut hs4 ?_⟩
      rintro rfl
      obtain ⟨o, e1, d1⟩ := hc'
      obtain ⟨o2, es2, ep2, e2, d2, _⟩ := hn.sameBut hs3 hCL
      rw [e1] at e2; cases e2; rw [d1] at d2; cases d2⟩
    have sΓ' := sΓ.cons (x := y) (sL sAllL)
    intro z R e
    rcases V z R e with ⟨hk', m'', v', hn', hv', hr'⟩ | ⟨hk', c', v', hc', hcell2, hr'⟩
    · exact .inl ⟨hk', m'', v', hn'.sameBut hs4 (Ne.symm hCL), hv', sΓ' z R e _ _ _ kd4 hr'⟩
    · refine .inr ⟨hk', c', v', hc', hcell2.sameBut hs4 ?_, sΓ' z R e _ _ _ kd4 hr'⟩
      rintro rfl
      obtain ⟨o, e1, d1⟩ := hcell2
      obtain ⟨o2, es2, ep2, e2, d2, _⟩ := hn.sameBut hs3 hCL
      rw [e1] at e2; cases e2; rw [d1] at d2; cases d2
end
end Mine

open PySem PySem.W PySem.Calls PyProof.Rows
set_option Elab.async false
set_option maxRecDepth 100000
set_option maxHeartbeats 400000
namespace Mine
/-- two that are equal -/
def EqT (w : World) (A : Around) (R R' : HP) : Prop :=
  ∀ (s : Shared) (v u : Value) (Q : Bool → Shared → Prop) (E : Value → Shared → Prop), Wd w s.heap → R s.heap v → R' s.heap u →
    (∀ h' tk, Stays s.heap h' → Q true { s with heap := h', toks := tk }) → wpAny (model Challenge.rw_oz0058_02.row.prog w) A (eqBool v u) Q E s
def EqTs (w : World) (A : Around) : List HP → List HP → Prop
  | [], [] => True
  | R :: r, R' :: r' => EqT w A R R' ∧ EqTs w A r r'
  | _, _ => False
theorem fill3_ (w : World) (h : Heap) : (lay02.heap_1 w.params).In h → Challenge.rw_oz0058_02.row.prog = Challenge.rw_oz0058_02.row.prog := by
  k_fill
  intros; rfl
section
variable {w : World} {A : Around} {a b c d : UInt64}
theorem eqT_bb {p : Bool} : EqT w A (IsB p) (IsB p) := by
  rintro s _ _ Q E W rfl rfl h
  unfold eqBool
  refine wpAny_holding ?_
  refine wpAny_ite_split (fun _ => ?_) (fun hab => absurd (beq_self_eq_true _) hab)
  exact wpAny_bind (wpAny_rule (wpAny_pure (h s.heap s.toks (Stays.refl _))))
theorem eqT_nn (R : A.depth + 6 < recursionLimit) (hu : A.units + 1 < cLine) (he : (feq a c && feq b d) = true) : EqT w A (IsN a b) (IsN c d) := by
  rintro s _ _ Q E W ⟨x, rfl, hx⟩ ⟨y, rfl, hy⟩ h
  unfold eqBool
  refine wpAny_holding ?_
  refine wpAny_ite_split (fun _ => wpAny_bind (wpAny_rule (wpAny_pure (h s.heap s.toks (Stays.refl _))))) (fun _ => ?_)
  have key : wpAny (model Challenge.rw_oz0058_02.row.prog w) A (richCompare .Eq (.ref x) (.ref y)) (fun v s' => wpAny (model Challenge.rw_oz0058_02.row.prog w) A (truthOfDropped v) Q E s') E s :=
    c_eq W hx hy R hu fun h' tk k => by rw [he]; exact wpAny_truthy_bool (h h' tk k)
  exact wpAny_bind key
theorem notTold (X : (lay02.heap_1 w.params).In H) : Looks (model Challenge.rw_oz0058_02.row.prog w) H (sharingNotTold t) false := by
  have e : nsIn (lay02.heap_1 w.params) cStatics sharingNotToldKey = some none := by k_is
  exact (looks_nsIn X e).andThen (Looks.of_pure rfl)
theorem eqT_ff (he : feq a c = true) : EqT w A (IsF a) (IsF c) := by
  rintro s _ _ Q E W ⟨t, rfl, zt⟩ ⟨u, rfl, zu⟩ h
  have X := W.inK
  unfold eqBool
  refine wpAny_holding ?_
  refine wpAny_ite_split (fun _ => wpAny_bind (wpAny_rule (wpAny_pure (h s.heap s.toks (Stays.refl _))))) (fun _ => ?_)
  have hok := h s.heap s.toks (Stays.refl _)
  have last : wpAny (model Challenge.rw_oz0058_02.row.prog w) A (do truthOfDropped (← richCompare .Eq (.float a t) (.float c u))) Q E s :=
    wpAny_bind (AutoFloatOps.eq_0 (show wpAny _ _ (truthOfDropped (.bool (feq a c))) _ _ _ by rw [he]; exact wpAny_truthy_bool hok))
  have both : ∀ r : Bool, wpAny (model Challenge.rw_oz0058_02.row.prog w) A (if r = true then pure true else (fun _ : Unit => do truthOfDropped (← richCompare .Eq (.float a t) (.float c u))) ()) Q E s := fun r => by
    cases r with
    | true => rw [if_pos rfl]; exact wpAny_pure hok
    | false => rw [if_neg (by decide)]; exact last
  dsimp only
  refine wpAny_bind (m := isSame (.float a t) (.float c u)) ?_
  unfold isSame
  dsimp only
  unfold isSame.created
  rw [if_neg (by simp [zt, zu])]
  refine wpAny_ite_split (fun _ => wpAny_pure (both true)) (fun _ => wpAny_ite_split (fun _ => wpAny_pure (both false)) (fun _ => ?_))
  refine wpAny_bind ((notTold X).here ?_)
  rw [if_neg (by decide)]
  refine wpAny_bind ((notTold X).here ?_)
  rw [if_neg (by decide)]
  exact wpAny_bind (wpAny_rule (wpAny_bind (wpAny_askSetting (wpAny_pure (both _)))))

theorem EqTs.get : ∀ {Rs Rs' : List HP} {i : Nat} {R R' : HP}, EqTs w A Rs Rs' → Rs[i]? = some R → Rs'[i]? = some R' → EqT w A R R'
  | [], [], i, _, _, _, e, _ => by simp at e
  | R :: r, R' :: r', 0, _, _, h, e, e' => by simp at e e'; subst e; subst e'; exact h.1
  | R :: r, R' :: r', i + 1, _, _, h, e, e' => EqTs.get (i := i) h.2 (by simpa using e) (by simpa using e')
  | [], _ :: _, _, _, _, h, _, _ => h.elim
  | _ :: _, [], _, _, _, h, _, _ => h.elim
theorem EqTs.length : ∀ {Rs Rs' : List HP}, EqTs w A Rs Rs' → Rs.length = Rs'.length
  | [], [], _ => rfl
  | R :: r, R' :: r', h => by rw [List.length_cons, List.length_cons, EqTs.length h.2]
  | [], _ :: _, h => h.elim
  | _ :: _, [], h => h.elim
open PySem.SeqAt MeetsSeq MeetsSeq2 MeetsSeq3 in
theorem ne_loopE (l b : Addr) {Rs Rs' : List HP} (sR : StabL Rs) (sR' : StabL Rs') (he : EqTs w A.in1 Rs Rs') {dd dd2 : Option Addr} {sl sl2 : Array (Option Value)} {n n2 : Nat} (items items2 : List Value) (k : Nat) :
    ∀ i : Nat, items.length - i = k → ∀ (s : Shared) (RR : Result → Shared → Prop), Wd w s.heap → s.heap.get? l = some { cls := .type "list", dict := dd, data := .seq items.toArray n, slots := sl } →
      s.heap.get? b = some { cls := .type "list", dict := dd2, data := .seq items2.toArray n2, slots := sl2 } → All2 Rs s.heap items → All2 Rs' s.heap items2 →
      (∀ h' tk, Stays s.heap h' → RR (.ok (.ret (.bool false))) { s with heap := h', toks := tk }) →
      wpAny (model Challenge.rw_oz0058_02.row.prog w) A.in1 (Builtin.«list.__eq__.loop» ⟨[.ref l, .ref b, rawInt i, rawInt 3], []⟩)
        (fun fin s' => match fin with | .done f => RR (.ok f) s' | .again c' => c'.quiet = true ∧ codeAny (model Challenge.rw_oz0058_02.row.prog w) A c' RR s') (fun e s' => RR (.error e) s') s := by
  induction k with
  | zero =>
    intro i hk s RR W hl hb ha ha' h
    have hsz : items.toArray.size = items2.toArray.size := by rw [List.size_toArray, List.size_toArray, ha.length, ha'.length, he.length]
    obtain ⟨hp, g, d, tk, os⟩ := s
    wp_walk using AutoSeq1.wpAny_loadPart' hl, AutoSeq1.wpAny_loadPart' hb
    have hi1 : items.toArray[((i : Nat) : Int).toNat]? = none := by simp; omega
    have hi2 : items2.toArray[((i : Nat) : Int).toNat]? = none := by
      have : items.length = items2.length := by simpa using hsz
      simp; omega
    rw [hi1, hi2]
    wp_walk using AutoSeq1.wpAny_loadPart' hl, AutoSeq1.wpAny_loadPart' hb
    show RR (.ok (.ret (.bool (items.toArray.size != items2.toArray.size)))) _
    rw [hsz]
    simpa using h hp tk (Stays.refl _)
  | succ k ih =>
    intro i hk s RR W hl hb ha ha' h
    have hlen : items.length = items2.length := by rw [ha.length, ha'.length, he.length]
    have hlt : i < items.length := by omega
    have hlt2 : i < items2.length := by omega
    obtain ⟨hp, g, d, tk, os⟩ := s
    wp_walk using AutoSeq1.wpAny_loadPart' hl, AutoSeq1.wpAny_loadPart' hb
    have hi1 : items.toArray[((i : Nat) : Int).toNat]? = some items[i] := by simp [hlt]
    have hi2 : items2.toArray[((i : Nat) : Int).toNat]? = some items2[i] := by simp [hlt2]
    have hc : ((i : Int) + 1) = ((i + 1 : Nat) : Int) := by push_cast; rfl
    rw [hi1, hi2]
    have r1 : i < Rs.length := by rw [← ha.length]; exact hlt
    have r2 : i < Rs'.length := by rw [← ha'.length]; exact hlt2
    obtain ⟨v1, e1, q1⟩ := ha.get (i := i) (R := Rs[i]) (by simp [r1])
    obtain ⟨v2, e2, q2⟩ := ha'.get (i := i) (R := Rs'[i]) (by simp [r2])
    have e1' : v1 = items[i] := by rw [List.getElem?_eq_getElem hlt] at e1; exact (Option.some.inj e1).symm
    have e2' : v2 = items2[i] := by rw [List.getElem?_eq_getElem hlt2] at e2; exact (Option.some.inj e2).symm
    subst e1'; subst e2'
    have E1 := he.get (i := i) (R := Rs[i]) (R' := Rs'[i]) (by simp [r1]) (by simp [r2])
    refine wpAny_bind (E1 _ _ _ _ _ W q1 q2 fun h' tk' k' => ?_)
    wp_walk
    rw [hc]
    exact ⟨plainId_quiet plain_eq_loop _, codeAny_builtin entry_eq_loop (by
      rw [Around.under_plainId plain_eq_loop _]
      exact ih (i + 1) (by omega) _ RR (W.grow k') (k' _ _ hl) (k' _ _ hb) (All2.stab sR (.of k') ha) (All2.stab sR' (.of k') ha') fun h'' tk'' k'' => h h'' tk'' (k'.trans k''))⟩
open PySem.SeqAt MeetsSeq MeetsSeq2 MeetsSeq3 in
theorem o_nell {Rs Rs' : List HP} (sR : StabL Rs) (sR' : StabL Rs') (he : EqTs w A.in1 Rs Rs') (hu : A.units < cLine) : Op2 w A (compareOp .NotEq) (IsL Rs) (IsL Rs') (IsB false) := by
  rintro s _ _ Q E W p ⟨l, vs, rfl, hl, hv⟩ ⟨b, us, rfl, hb, hv'⟩ hQ
  have hsz : vs.toArray.size = us.toArray.size := by rw [List.size_toArray, List.size_toArray, hv.length, hv'.length, he.length]
  obtain ⟨⟨cls, dd, data, sl⟩, ho, hc, n, hd⟩ := id hl
  obtain ⟨⟨cls2, dd2, data2, sl2⟩, ho2, hc2, n2, hd2⟩ := id hb
  simp only at hc hd hc2 hd2
  subst hc hd hc2 hd2
  refine cmp_ofNotEq (wpAny_richCompare_same_room (op := .NotEq) (T := "list") ⟨_, ho, rfl⟩ ⟨_, ho2, rfl⟩ PySem.F.slot_list_ne ?_ hu)
  refine wpAny_with_toks (n := 1) p (wpAny_call (codeAny_call_builtin PySem.F.slot_list_ne.plain PySem.F.entry_list_ne (PySem.F.slot_list_ne.check _ _ _ _ _ _ _ _ ⟨_, ho, rfl⟩ (PySem.F.args_list_ne_2 _ _) ?_)))
  have fin : ∀ (RR : Result → Shared → Prop), (∀ h' tk, Stays s.heap h' → RR (.ok (.ret (.bool false))) { s with heap := h', toks := tk }) →
      wpAny (model Challenge.rw_oz0058_02.row.prog w) A.in1 (Builtin.«list.__ne__» ⟨[.ref l, .ref b], []⟩) (fun fin s' => match fin with | .done f => RR (.ok f) s' | .again c' => c'.quiet = true ∧ codeAny (model Challenge.rw_oz0058_02.row.prog w) A c' RR s') (fun e s' => RR (.error e) s') s := by
    intro RR hRR
    obtain ⟨hp, g, d, tk, os⟩ := s
    have f3 := AutoSeq1.sub_list_list
    have hne : ¬ (vs.toArray.size != us.toArray.size) = true := by simp [hsz]
    wp_walk using AutoSeq1.wpAny_loadPart' ho, AutoSeq1.wpAny_loadPart' ho2
    exact ⟨plainId_quiet plain_eq_loop _, codeAny_builtin entry_eq_loop (by
      rw [Around.under_plainId plain_eq_loop _]
      exact ne_loopE l b sR sR' he vs us _ 0 rfl _ RR W ho ho2 hv hv' hRR)⟩
  refine fin (fun r s' => match r with | .ok (.ret v) => 1 ≤ s'.toks → v ≠ .notImplemented ∧ Q v s' | .ok _ => False | .error e => 1 ≤ s'.toks → E e s') fun h' tk k => ?_
  exact fun q => ⟨(fun x => nomatch x), hQ _ h' tk k q rfl⟩
end
end Mine

open PySem PySem.W PySem.Calls PyProof.Rows
set_option Elab.async false
set_option maxRecDepth 100000
set_option maxHeartbeats 1000000
namespace Mine
theorem fill4_ (w : World) (h : Heap) : (lay02.heap_1 w.params).In h → Challenge.rw_oz0058_02.row.prog = Challenge.rw_oz0058_02.row.prog := by
  k_fill
  intros; rfl
local macro_rules | `(tactic| walk_at "stab") => `(tactic| first | exact sF | exact sI | exact sB | exact sN | exact sR | assumption | (refine sL ?_; walk_at "stabl"))
local macro_rules | `(tactic| walk_at "stabl") => `(tactic| first | assumption | exact True.intro | (refine And.intro ?_ ?_; (walk_at "stab"); (walk_at "stabl")))
local macro_rules | `(tactic| walk_at "op") => `(tactic| first
  | with_reducible exact o_addff | with_reducible exact o_subff | with_reducible exact o_mulff | with_reducible exact o_negf
  | with_reducible exact o_addii | with_reducible exact o_subii | with_reducible exact o_negi
  | with_reducible exact o_eqff | with_reducible exact o_eqfi | with_reducible exact o_nebb | with_reducible exact o_eqbb | with_reducible exact o_nefi
  | with_reducible exact o_addnf (by assumption) | with_reducible exact o_subnf (by assumption)
  | with_reducible exact o_negn (by assumption) | with_reducible exact o_posn (by assumption)
  | with_reducible exact o_addfn (by assumption) | with_reducible exact o_subfn (by assumption)
  | with_reducible exact o_eqnn (by assumption) | with_reducible exact o_nenn (by assumption)
  | with_reducible exact o_mean (by assumption) | with_reducible exact o_stdev (by assumption)
  | (with_reducible refine o_mulfi ?_; decide)
  | (with_reducible refine o_divff ?_; walk_at "side")
  | (with_reducible refine o_addni (by assumption) ?_; decide) | (with_reducible refine o_subni (by assumption) ?_; decide)
  | (with_reducible refine o_addin (by assumption) ?_; decide) | (with_reducible refine o_subin (by assumption) ?_; decide)
  | (with_reducible refine o_addnn (by assumption) ?_; walk_at "side") | (with_reducible refine o_subnn (by assumption) ?_; walk_at "side")
  | (with_reducible refine o_mulnf (by assumption) ?_; walk_at "side") | (with_reducible refine o_mulfn (by assumption) ?_; walk_at "side")
  | (with_reducible refine' o_mulni (by assumption) ?h8 ?_; (case h8 => decide); walk_at "side") | (with_reducible refine' o_mulin (by assumption) ?h8 ?_; (case h8 => decide); walk_at "side")
  | (with_reducible refine' o_divnf (by assumption) ?z1 ?z2 ?z3; (case z1 => walk_at "side"); (case z2 => walk_at "side"); (case z3 => walk_at "side"))
  | (with_reducible refine' o_divni (by assumption) ?h8 ?hz ?z2 ?z3; (case h8 => decide); (case hz => decide); (case z2 => walk_at "side"); (case z3 => walk_at "side"))
  | walk_at "op2")
local macro_rules | `(tactic| walk_at "ev") => `(tactic| first
  | with_reducible exact ev_int | with_reducible exact ev_flt
  | ((with_reducible show Ev _ _ _ _ (Expr.Name _ _) _); exact ev_name (by assumption) (by assumption) rfl (by walk_at "stab") rfl)
  | ((with_reducible refine' ev_un (by assumption) ?e ?o); (case e => walk_at "ev"); (case o => walk_at "op"))
  | ((with_reducible refine' ev_bin (by assumption) ?l ?r ?sa ?o); (case l => walk_at "ev"); (case r => walk_at "ev"); (case sa => walk_at "stab"); (case o => walk_at "op"))
  | ((with_reducible refine' ev_cmp (by assumption) ?l ?r ?sa ?o ?hb); (case l => walk_at "ev"); (case r => walk_at "ev"); (case sa => walk_at "stab"); (case o => walk_at "op"); (case hb => rfl))
  | ((with_reducible refine' ev_attr (by assumption) ?e ?o ?he); (case e => walk_at "ev"); (case o => walk_at "op"); (case he => rfl))
  | ((with_reducible refine' ev_list ?l ?s ?z); (case l => walk_at "evl"); (case s => walk_at "stabl"); (case z => (simp only [List.length_cons, List.length_nil]; decide)))
  | ((with_reducible refine' ev_and ?a ?b); (case a => walk_at "ev"); (case b => (intro _; walk_at "ev")))
  | walk_at "ev2")
local macro_rules | `(tactic| walk_at "evl") => `(tactic| first
  | with_reducible exact evl_nil
  | ((with_reducible refine' evl_cons ?a ?s ?b ?he); (case a => walk_at "ev"); (case s => walk_at "stab"); (case b => walk_at "evl"); (case he => rfl)))
local macro_rules | `(tactic| walk_at "evt") => `(tactic| first
  | ((with_reducible refine' evt_cmp (by assumption) ?l ?r ?sa ?o ?hb); (case l => walk_at "ev"); (case r => walk_at "ev"); (case sa => walk_at "stab"); (case o => walk_at "op"); (case hb => rfl))
  | walk_at "evt2")

section
variable {w : World} {A : Around} {env : Env} {H : Heap} {n k : Int}
theorem o_powii (h0 : 0 ≤ k) (h1 : k ≤ 1000000) : Op2 w A (binaryOp .Pow) (IsI 2) (IsI k) (IsI (2 ^ k.toNat)) := by
  rintro s _ _ Q E W p ⟨t, rfl⟩ ⟨u, rfl⟩ h; exact pow_int_small h0 h1 (by decide) (h _ s.heap _ (Stays.refl _) (Nat.succ_pos _) ⟨_, rfl⟩)
theorem o_mulii (hm : IntMulOk n k) : Op2 w A (binaryOp .Mult) (IsI n) (IsI k) (IsI (n * k)) := by
  rintro s _ _ Q E W p ⟨t, rfl⟩ ⟨u, rfl⟩ h; exact mul_int (hm := hm) (h _ s.heap _ (Stays.refl _) (Nat.succ_pos _) ⟨_, rfl⟩)
theorem o_modii (hk : k ≠ 0) : Op2 w A (binaryOp .Mod) (IsI n) (IsI k) (IsI (n.fmod k)) := by
  rintro s _ _ Q E W p ⟨t, rfl⟩ ⟨u, rfl⟩ h; exact mod_int' hk (h _ s.heap _ (Stays.refl _) (Nat.succ_pos _) ⟨_, rfl⟩)
abbrev quo (n k : Int) : UInt64 := Float64.ofFrac (decide (n < 0) != decide (k < 0)) n.natAbs k.natAbs
theorem o_divii (hk : k ≠ 0) (hi : Float64.isInf (quo n k) = false) : Op2 w A (binaryOp .Div) (IsI n) (IsI k) (IsF (quo n k)) := by
  rintro s _ _ Q E W p ⟨t, rfl⟩ ⟨u, rfl⟩ h; exact AutoIntOps.truediv_2 (by simpa using hk) (by rw [show Float64.isInf _ = _ from hi]; decide) (h _ s.heap _ (Stays.refl _) (Nat.succ_pos _) ⟨_, rfl, Nat.ne_of_gt p⟩)
/-- a < b < c over ints -/
theorem evt_chain {a b c : Expr} {pos : Pos} {i j k : Int} (ha : Ev w A env H a (IsI i)) (hb : Ev w A env H b (IsI j)) (hc : Ev w A env H c (IsI k)) (hl : lastMarks [CmpOp.Lt, CmpOp.Lt] [b, c] = false) :
    EvT w A env H (.Compare a [.Lt, .Lt] [b, c] pos) (decide (i < j) && decide (j < k)) := by
  intro s Q E kk p hQ
  refine isTrue_chain (ha s _ _ kk p fun v1 h1 tk1 k1 p1 r1 => ?_) hl
  obtain ⟨t1, rfl⟩ := r1
  refine test_link (hb _ _ _ (kk.trans k1) p1 fun v2 h2 tk2 k2 p2 r2 => ?_)
  obtain ⟨t2, rfl⟩ := r2
  refine lt_int (wpAny_truthy_bool ?_)
  by_cases hij : i < j
  · rw [if_pos (by simpa using hij)]
    refine test_last (hc _ _ _ (kk.trans (k1.trans k2)) p2 fun v3 h3 tk3 k3 p3 r3 => ?_)
    obtain ⟨t3, rfl⟩ := r3
    refine lt_int (wpAny_truthy_bool ?_)
    have := hQ h3 tk3 (k1.trans (k2.trans k3)) p3
    rw [decide_eq_true hij, Bool.true_and] at this
    exact this
  · rw [if_neg (by simpa using hij)]
    have := hQ h2 tk2 (k1.trans k2) p2
    rw [decide_eq_false hij, Bool.false_and] at this
    exact this
end
end Mine

open PySem PySem.W PySem.Calls PyProof.Rows
set_option Elab.async false
set_option maxRecDepth 100000
set_option maxHeartbeats 1000000
namespace Mine
theorem fill5_ (w : World) (h : Heap) : (lay02.heap_1 w.params).In h → Challenge.rw_oz0058_02.row.prog = Challenge.rw_oz0058_02.row.prog := by
  k_fill
  intros; rfl
local macro_rules | `(tactic| walk_at "stab") => `(tactic| first | exact sF | exact sI | exact sB | exact sN | exact sR | assumption | (refine sL ?_; walk_at "stabl"))
local macro_rules | `(tactic| walk_at "stabl") => `(tactic| first | assumption | exact True.intro | (refine And.intro ?_ ?_; (walk_at "stab"); (walk_at "stabl")))
local macro_rules | `(tactic| walk_at "op") => `(tactic| first
  | with_reducible exact o_addff | with_reducible exact o_subff | with_reducible exact o_mulff | with_reducible exact o_negf
  | with_reducible exact o_addii | with_reducible exact o_subii | with_reducible exact o_negi
  | with_reducible exact o_eqff | with_reducible exact o_eqfi | with_reducible exact o_nebb | with_reducible exact o_eqbb | with_reducible exact o_nefi
  | with_reducible exact o_addnf (by assumption) | with_reducible exact o_subnf (by assumption)
  | with_reducible exact o_negn (by assumption) | with_reducible exact o_posn (by assumption)
  | with_reducible exact o_addfn (by assumption) | with_reducible exact o_subfn (by assumption)
  | with_reducible exact o_eqnn (by assumption) | with_reducible exact o_nenn (by assumption)
  | with_reducible exact o_mean (by assumption) | with_reducible exact o_stdev (by assumption)
  | (with_reducible refine o_mulfi ?_; decide)
  | (with_reducible refine o_divff ?_; walk_at "side")
  | (with_reducible refine o_addni (by assumption) ?_; decide) | (with_reducible refine o_subni (by assumption) ?_; decide)
  | (with_reducible refine o_addin (by assumption) ?_; decide) | (with_reducible refine o_subin (by assumption) ?_; decide)
  | (with_reducible refine o_addnn (by assumption) ?_; walk_at "side") | (with_reducible refine o_subnn (by assumption) ?_; walk_at "side")
  | (with_reducible refine o_mulnf (by assumption) ?_; walk_at "side") | (with_reducible refine o_mulfn (by assumption) ?_; walk_at "side")
  | (with_reducible refine' o_mulni (by assumption) ?h8 ?_; (case h8 => decide); walk_at "side") | (with_reducible refine' o_mulin (by assumption) ?h8 ?_; (case h8 => decide); walk_at "side")
  | (with_reducible refine' o_divnf (by assumption) ?z1 ?z2 ?z3; (case z1 => walk_at "side"); (case z2 => walk_at "side"); (case z3 => walk_at "side"))
  | (with_reducible refine' o_divni (by assumption) ?h8 ?hz ?z2 ?z3; (case h8 => decide); (case hz => decide); (case z2 => walk_at "side"); (case z3 => walk_at "side"))
  | walk_at "op2")
local macro_rules | `(tactic| walk_at "ev") => `(tactic| first
  | with_reducible exact ev_int | with_reducible exact ev_flt
  | ((with_reducible show Ev _ _ _ _ (Expr.Name _ _) _); exact ev_name (by assumption) (by assumption) rfl (by walk_at "stab") rfl)
  | ((with_reducible refine' ev_un (by assumption) ?e ?o); (case e => walk_at "ev"); (case o => walk_at "op"))
  | ((with_reducible refine' ev_bin (by assumption) ?l ?r ?sa ?o); (case l => walk_at "ev"); (case r => walk_at "ev"); (case sa => walk_at "stab"); (case o => walk_at "op"))
  | ((with_reducible refine' ev_cmp (by assumption) ?l ?r ?sa ?o ?hb); (case l => walk_at "ev"); (case r => walk_at "ev"); (case sa => walk_at "stab"); (case o => walk_at "op"); (case hb => rfl))
  | ((with_reducible refine' ev_attr (by assumption) ?e ?o ?he); (case e => walk_at "ev"); (case o => walk_at "op"); (case he => rfl))
  | ((with_reducible refine' ev_list ?l ?s ?z); (case l => walk_at "evl"); (case s => walk_at "stabl"); (case z => (simp only [List.length_cons, List.length_nil]; decide)))
  | ((with_reducible refine' ev_and ?a ?b); (case a => walk_at "ev"); (case b => (intro _; walk_at "ev")))
  | walk_at "ev2")
local macro_rules | `(tactic| walk_at "evl") => `(tactic| first
  | with_reducible exact evl_nil
  | ((with_reducible refine' evl_cons ?a ?s ?b ?he); (case a => walk_at "ev"); (case s => walk_at "stab"); (case b => walk_at "evl"); (case he => rfl)))
local macro_rules | `(tactic| walk_at "evt") => `(tactic| first
  | ((with_reducible refine' evt_cmp (by assumption) ?l ?r ?sa ?o ?hb); (case l => walk_at "ev"); (case r => walk_at "ev"); (case sa => walk_at "stab"); (case o => walk_at "op"); (case hb => rfl))
  | walk_at "evt2")
abbrev p53 : Int := (2 : Int) ^ (53 : Int).toNat
abbrev p1074 : Int := (2 : Int) ^ (1074 : Int).toNat
def whole (x : Int) : Int := if (decide (-p53 < x) && decide (x < p53)) = true then x else x.fmod p53
def lawp (x y : Int) : Int := whole x * (2 : Int) ^ ((y + 1074).fmod 2000).toNat
def lf (x y : Int) : UInt64 := quo (lawp x y) p1074

theorem p53_eq : p53 = 9007199254740992 := by decide
theorem whole_lt (x : Int) : (whole x).natAbs < 9007199254740992 := by
  unfold whole
  rw [p53_eq]
  split
  · rename_i h
    simp only [Bool.and_eq_true, decide_eq_true_eq] at h
    omega
  · have h1 := Int.fmod_nonneg_of_pos x (show (0 : Int) < 9007199254740992 by decide)
    have h2 := Int.fmod_lt_of_pos x (show (0 : Int) < 9007199254740992 by decide)
    omega
theorem expo (y : Int) : 0 ≤ (y + 1074).fmod 2000 ∧ (y + 1074).fmod 2000 < 2000 :=
  ⟨Int.fmod_nonneg_of_pos _ (by decide), Int.fmod_lt_of_pos _ (by decide)⟩
theorem p1074_ne : p1074 ≠ 0 := by decide +kernel
theorem lf_fin (x y : Int) : Float64.isInf (lf x y) = false := by
  unfold lf quo
  have hd : p1074.natAbs = 2 ^ 1074 := by decide +kernel
  rw [hd]
  refine Flt.notInf_ofFrac (Nat.two_pow_pos _) ?_
  have hw := whole_lt x
  have he := expo y
  have h1 : (lawp x y).natAbs = (whole x).natAbs * 2 ^ ((y + 1074).fmod 2000).toNat := by
    unfold lawp
    rw [Int.natAbs_mul, Int.natAbs_pow]; rfl
  rw [h1]
  have h2 : 2 ^ ((y + 1074).fmod 2000).toNat ≤ 2 ^ 1999 := Nat.pow_le_pow_right (by decide) (by omega)
  have h3 : (whole x).natAbs * 2 ^ ((y + 1074).fmod 2000).toNat ≤ 9007199254740991 * 2 ^ 1999 := Nat.mul_le_mul (by omega) h2
  generalize (whole x).natAbs * 2 ^ ((y + 1074).fmod 2000).toNat = N at h3
  have h4 : 2 * (N * 2 ^ 1074) ≤ 2 * (9007199254740991 * 2 ^ 1999 * 2 ^ 1074) := Nat.mul_le_mul_left _ (Nat.mul_le_mul_right _ h3)
  refine Nat.lt_of_le_of_lt h4 ?_
  decide +kernel
theorem mulok (x y : Int) : IntMulOk (whole x) ((2 : Int) ^ ((y + 1074).fmod 2000).toNat) :=
  IntMulOk.of_left (intBits_le (Nat.lt_trans (whole_lt x) (by decide)))

section
variable {w : World} {A : Around}
theorem o_lawf {x y : Int} (Rm0 : Rm A) : OpN w A (.ref 281) [IsI x, IsI y] (IsF (lf x y)) := by
  intro s vs Q E W p hv h
  match vs, hv with
  | [_, _], ⟨⟨t, rfl⟩, ⟨u, rfl⟩, _⟩ =>
  have X₀ := W.inK
  obtain ⟨h₀, L, m, l, me, mg, mb, F, X, T⟩ := W
  have T₀ := T.keeps F.keep
  have hdep := Rm0.depth
  refine wpAny_call ?_
  refine' enterD (g := s.heap) (news := []) (od := none) X₀ T₀ (Stays.refl _) (Nat.le_refl _) (fun p hp => nomatch hp) ?k6 ?k7 ?k8 ?k9 ?kB ?_ ?c2 ?c3 ?c4 ?c5
  (case k6 => k_is); (case k7 => k_is); (case k8 => omega); (case k9 => first | exact BindsTo.of_eq rfl | exact binds_K X₀ rfl (by k_is) rfl rfl rfl); (case c5 => decide); (case kB => exact locs rfl); (case c2 => exact rfl); (case c3 => exact rfl); (case c4 => exact rfl)
  intro h' L' F' N' X' T'
  dsimp only
  generalize henv : envOf _ _ L' 281 _ = env'
  have EF : EnvF env' := by subst henv; exact ⟨rfl, rfl, rfl⟩
  have C : Cx w env' s.heap := ⟨X', ⟨_, _, _, _, T'⟩, EF, fun _ _ e => (by subst henv; cases e), fun _ _ _ e => (by subst henv; cases e)⟩
  have S : Sto env' s.heap [("x", IsI x), ("y", IsI y)] h' := by
    subst henv
    refine ⟨⟨_, F', "x", _, rfl⟩, fun z R e => ?_, fun _ _ e => by cases e⟩
    rw [List.lookup_cons] at e
    split at e
    · rename_i hz
      have hz' : z = "x" := by simpa using hz
      subst hz'; cases e
      exact .inl ⟨rfl, _, _, F'.ns, rfl, ⟨_, rfl⟩⟩
    · rw [List.lookup_cons] at e
      split at e
      · rename_i hz
        have hz' : z = "y" := by simpa using hz
        subst hz'; cases e
        exact .inl ⟨rfl, _, _, F'.ns, rfl, ⟨_, rfl⟩⟩
      · cases e
  have sΓ : StabΓ [("x", IsI x), ("y", IsI y)] := (StabΓ.nil.cons sI).cons sI
  refine wpAny_execs_cons (wpAny_noRaise (tr_assign (R := IsI (whole x)) C sΓ sI ?e1 ?e2 ?e3 _ _ S (Nat.succ_pos _) fun h2 tk2 k2 p2 S2 => ?_))
  case e2 => subst henv; exact fun _ _ => .inl rfl
  case e3 => subst henv; rfl
  case e1 =>
    intro H WH V
    refine ev_ite (c := decide (-p53 < x) && decide (x < p53)) (evt_chain (i := -p53) (j := x) (k := p53) ?a ?b ?c rfl) (fun hc => ?x1) (fun hc => ?x2)
    case a => exact ev_un WH (ev_bin WH ev_int ev_int sI (o_powii (by decide) (by decide))) o_negi
    case b => exact ev_name EF V rfl sI rfl
    case c => exact ev_bin WH ev_int ev_int sI (o_powii (by decide) (by decide))
    case x1 =>
      have : whole x = x := by unfold whole; rw [if_pos hc]
      rw [this]
      exact ev_name EF V rfl sI rfl
    case x2 =>
      have : whole x = x.fmod p53 := by unfold whole; rw [if_neg (by rw [hc]; decide)]
      rw [this]
      exact ev_bin WH (ev_name EF V rfl sI rfl) (ev_bin WH ev_int ev_int sI (o_powii (by decide) (by decide))) sI (o_modii (by decide))
  dsimp only
  have WH := S2.wd C
  have V := S2.vars
  have e0 := expo y
  have fin : Float64.isInf (quo (whole x * (2 : Int) ^ ((y + 1074).fmod 2000).toNat) ((2 : Int) ^ (1074 : Int).toNat)) = false := by
    have := lf_fin x y
    unfold lf lawp at this
    exact this
  generalize hE : (y + 1074).fmod 2000 = ex at *
  generalize hT : (2 : Int) ^ (1074 : Int).toNat = tt at *
  have z2 : tt ≠ 0 := hT ▸ p1074_ne
  have mo : IntMulOk (whole x) ((2 : Int) ^ ex.toNat) := hE ▸ mulok x y
  have oT : Op2 w (A.deeper env') (binaryOp .Pow) (IsI 2) (IsI 1074) (IsI tt) := hT ▸ o_powii (by decide) (by decide)
  have oE : Op2 w (A.deeper env') (binaryOp .Mod) (IsI (y + 1074)) (IsI 2000) (IsI ex) := hE ▸ o_modii (by decide)
  refine wpAny_execs_cons (wpAny_Return_some ((ev_bin (R' := IsF (quo (whole x * (2 : Int) ^ ex.toNat) tt)) (Ra := IsI (whole x * (2 : Int) ^ ex.toNat)) (Rb := IsI tt) WH ?l ?r sI (o_divii z2 fin)) _ _ _ (Stays.refl _) p2 fun v h3 tk3 k3 p3 r3 => ?_))
  case r => exact ev_bin WH ev_int ev_int sI oT
  case l =>
    refine ev_bin (Ra := IsI (whole x)) (Rb := IsI ((2 : Int) ^ ex.toNat)) WH (ev_name EF V rfl sI rfl) ?_ sI (o_mulii mo)
    refine ev_bin (Ra := IsI 2) (Rb := IsI ex) WH ev_int ?_ sI (o_powii e0.1 (by omega))
    refine ev_bin (Ra := IsI (y + 1074)) (Rb := IsI 2000) WH ?_ ev_int sI oE
    exact ev_bin (Ra := IsI y) (Rb := IsI 1074) WH (ev_name EF V rfl sI rfl) ev_int sI o_addii
  obtain ⟨_, F2, _⟩ := S2.fr
  refine h v h3 tk3 (fun b o e => k3 _ _ (F2.keep b o e)) p3 ?_
  unfold lf lawp
  rw [hE]
  show IsF (quo (whole x * (2 : Int) ^ ex.toNat) ((2 : Int) ^ (1074 : Int).toNat)) h3 v
  rw [hT]
  exact r3
end
end Mine

open PySem
set_option Elab.async false
set_option maxRecDepth 100000
set_option maxHeartbeats 400000
namespace Mine
open PySem.Float64 (Right V dist pack infMag val decode decode_pack val_pack V_lt V_mono V_at V_zero sgn)

theorem v_inj {t u : Nat} (h : V t = V u) : t = u := by
  rcases Nat.lt_trichotomy t u with x | x | x
  · have := V_lt x; omega
  · exact x
  · have := V_lt x; omega
theorem v_max {t : Nat} (h : t < infMag) : V t ≤ (2 ^ 53 - 1) * 2 ^ 2045 := by
  have e : infMag - 1 = 2045 * 2 ^ 52 + (2 ^ 53 - 1) := by decide
  have h1 : V t ≤ V (infMag - 1) := V_mono (by omega)
  rw [e, V_at (by decide) (.inl (by decide))] at h1
  exact h1
theorem v_pos {t : Nat} (h : 0 < t) : 0 < V t := by have := V_lt h; rw [V_zero] at this; exact this
theorem no_over {t D : Nat} (hD : 0 < D) (h : t < infMag) : ¬ D * ((2 ^ 54 - 1) * 2 ^ 2045) ≤ 2 * (D * V t) := by
  intro hc
  have h1 := v_max h
  have hP : 0 < 2 ^ 2045 := Nat.two_pow_pos _
  generalize 2 ^ 2045 = P at *
  have h2 : D * ((2 ^ 54 - 1) * P) ≤ D * (2 * ((2 ^ 53 - 1) * P)) := by
    refine Nat.le_trans hc ?_
    rw [Nat.mul_left_comm]
    exact Nat.mul_le_mul_left _ (Nat.mul_le_mul_left _ h1)
  have h3 := Nat.le_of_mul_le_mul_left h2 hD
  omega
theorem right_exact {r : UInt64} {neg : Bool} {W D t : Nat} (hD : 0 < D) (h : Right r neg W D) (ht : t < infMag) (hW : W = D * V t) : r = pack neg t := by
  obtain ⟨u, rfl, hu, ho, hn⟩ := h
  have h1 : u ≠ infMag := fun e => no_over hD ht (by have := ho.mp e; rwa [hW] at this)
  have h2 := (hn (by omega) t).1
  rw [hW] at h2
  have h3 : dist (D * V t) (D * V t) = 0 := by unfold dist; omega
  rw [h3] at h2
  have h4 : D * V t = D * V u := by unfold dist at h2; omega
  have h5 : V t = V u := Nat.eq_of_mul_eq_mul_left hD h4
  rw [v_inj h5]
theorem dist_mul_l (m a b : Nat) : dist (m * a) (m * b) = m * dist a b := by
  unfold dist
  rw [Nat.mul_add, Nat.mul_sub, Nat.mul_sub]
/-- one right rounding alone -/
theorem right_one {r r' : UInt64} {neg : Bool} {W D W' D' : Nat} (hD : 0 < D) (hD' : 0 < D') (h : Right r neg W D) (h' : Right r' neg W' D') (hW : W * D' = W' * D) : r = r' := by
  obtain ⟨t, rfl, ht, ho, hn⟩ := h
  obtain ⟨u, rfl, hu, ho', hn'⟩ := h'
  have hov : (t = infMag) ↔ (u = infMag) := by
    rw [ho, ho']
    generalize (2 ^ 54 - 1) * 2 ^ 2045 = P
    have e1 : D * D' * P ≤ 2 * (W * D') ↔ D * P ≤ 2 * W := by
      have a1 : D * D' * P = D' * (D * P) := by ac_rfl
      have a2 : 2 * (W * D') = D' * (2 * W) := by ac_rfl
      rw [a1, a2]
      exact ⟨fun x => Nat.le_of_mul_le_mul_left x hD', fun x => Nat.mul_le_mul_left _ x⟩
    have e2 : D * D' * P ≤ 2 * (W' * D) ↔ D' * P ≤ 2 * W' := by
      have a1 : D * D' * P = D * (D' * P) := by ac_rfl
      have a2 : 2 * (W' * D) = D * (2 * W') := by ac_rfl
      rw [a1, a2]
      exact ⟨fun x => Nat.le_of_mul_le_mul_left x hD, fun x => Nat.mul_le_mul_left _ x⟩
    rw [← e1, ← e2, hW]
  by_cases hi : t = infMag
  · rw [hi, hov.mp hi]
  · have hj : u ≠ infMag := fun e => hi (hov.mpr e)
    by_cases hne : t = u
    · rw [hne]
    · exfalso
      have s1 : ∀ x, D' * dist W (D * V x) = dist (W * D') (D * D' * V x) := fun x => by
        rw [← dist_mul_l]; congr 1 <;> ac_rfl
      have s2 : ∀ x, D * dist W' (D' * V x) = dist (W * D') (D * D' * V x) := fun x => by
        rw [← dist_mul_l, hW]; congr 1 <;> ac_rfl
      have h1 : ∀ x, dist (W * D') (D * D' * V t) ≤ dist (W * D') (D * D' * V x) := fun x => by
        rw [← s1, ← s1]; exact Nat.mul_le_mul_left _ (hn (by omega) x).1
      have h2 : ∀ x, dist (W * D') (D * D' * V u) ≤ dist (W * D') (D * D' * V x) := fun x => by
        rw [← s2, ← s2]; exact Nat.mul_le_mul_left _ (hn' (by omega) x).1
      have he := Nat.le_antisymm (h1 u) (h2 t)
      have p1 : t % 2 = 0 := (hn (by omega) u).2 (fun e => hne (v_inj e.symm)) (by
        have := he; rw [← s1, ← s1] at this; exact Nat.eq_of_mul_eq_mul_left hD' this)
      have p2 : u % 2 = 0 := (hn' (by omega) t).2 (fun e => hne (v_inj e)) (by
        have := he.symm; rw [← s2, ← s2] at this; exact Nat.eq_of_mul_eq_mul_left hD this)
      have hP : 0 < D * D' := Nat.mul_pos hD hD'
      have key : ∀ a b, a < b → a % 2 = 0 → b % 2 = 0 → dist (W * D') (D * D' * V a) = dist (W * D') (D * D' * V b) → (∀ x, dist (W * D') (D * D' * V a) ≤ dist (W * D') (D * D' * V x)) → False := by
        intro a b hab ha hb heq hmin
        have hm := hmin (a + 1)
        have l1 : D * D' * V a < D * D' * V (a + 1) := Nat.mul_lt_mul_of_pos_left (V_lt (Nat.lt_succ_self _)) hP
        have l2 : D * D' * V (a + 1) < D * D' * V b := Nat.mul_lt_mul_of_pos_left (V_lt (by omega)) hP
        unfold dist at heq hm
        omega
      rcases Nat.lt_or_gt_of_ne hne with l | l
      · exact key t u l p1 p2 he h1
      · exact key u t l p2 p1 he.symm h2

/-- a finite float, by sign and size -/
theorem fin_of {a : Bool} {t : Nat} (h : t < infMag) : ∃ m e, decode (pack a t) = .fin a m e ∧ m * 2 ^ (e + 1074).toNat = V t := decode_pack a h
theorem isZero_pack {a : Bool} {t : Nat} (h : t < infMag) : Float64.isZero (pack a t) = decide (t = 0) := by
  obtain ⟨m, e, hd, hv⟩ := decode_pack a h
  unfold Float64.isZero
  rw [hd]
  by_cases ht : t = 0
  · subst ht
    rw [V_zero] at hv
    rcases Nat.mul_eq_zero.mp hv with h0 | h0
    · subst h0; rfl
    · exact absurd h0 (Nat.ne_of_gt (Nat.two_pow_pos _))
  · have := v_pos (Nat.pos_of_ne_zero ht)
    cases m with
    | zero => rw [Nat.zero_mul] at hv; omega
    | succ m => simp [ht]
theorem isNaN_pack' (a : Bool) {t : Nat} (h : t ≤ infMag) : Float64.isNaN (pack a t) = false := W.isNaN_pack a h
theorem pack_ext {x y : UInt64} (h : x.toNat = y.toNat) : x = y := UInt64.toNat_inj.mp h
theorem abs_pack {a : Bool} {t : Nat} (h : t ≤ infMag) : Float64.abs (pack a t) = pack false t := by
  unfold Float64.abs
  rw [isNaN_pack' a h, if_neg (by decide)]
  have hi : infMag = 2047 * 2 ^ 52 := rfl
  rw [Float64.pack_toNat a (by omega)]
  congr 1
  cases a <;> simp <;> omega
theorem neg_pack {a : Bool} {t : Nat} (h : t ≤ infMag) : Float64.neg (pack a t) = pack (!a) t := by
  have hi : infMag = 2047 * 2 ^ 52 := rfl
  have hN := Float64.neg_toNat (isNaN_pack' a h)
  have e1 := Float64.pack_toNat a (t := t) (by omega)
  have e2 := Float64.pack_toNat (!a) (t := t) (by omega)
  refine pack_ext ?_
  rw [e2]
  rw [e1] at hN
  have hlt := (Float64.neg (pack a t)).toNat_lt
  generalize (Float64.neg (pack a t)).toNat = N at *
  have i1 : (if true = true then 2 ^ 63 else 0) = 9223372036854775808 := rfl
  have i0 : (if false = true then 2 ^ 63 else 0) = 0 := rfl
  cases a
  · rw [i0] at hN
    have nt : (!false) = true := rfl
    rw [nt, i1]
    have q1 : (0 + t) / 2 ^ 63 = 0 := by omega
    rw [q1] at hN
    have q2 : N / 2 ^ 63 = 1 := by have := hN.2; simpa using this
    omega
  · rw [i1] at hN
    have nt : (!true) = false := rfl
    rw [nt, i0]
    have q1 : (9223372036854775808 + t) / 2 ^ 63 = 1 := by omega
    rw [q1] at hN
    have q2 : N / 2 ^ 63 ≠ 1 := by have := hN.2; simpa using this
    omega
theorem feq_pack {a b : Bool} {t u : Nat} (h : t < infMag) (h' : u < infMag) : (Float64.cmp (pack a t) (pack b u) == some Ordering.eq) = decide (sgn a (V t) = sgn b (V u)) := by
  obtain ⟨m, e, hd, hv⟩ := decode_pack a h
  obtain ⟨m', e', hd', hv'⟩ := decode_pack b h'
  rw [Float64.cmp_right hd hd', val_pack a h, val_pack b h']
  rcases Int.lt_trichotomy (sgn a (V t)) (sgn b (V u)) with x | x | x
  · rw [Int.compare_eq_lt.mpr x]; simp; omega
  · rw [x]; simp
  · rw [Int.compare_eq_gt.mpr x]; simp; omega
theorem feq_same {x : UInt64} (h : Float64.isNaN x = false) : (Float64.cmp x x == some Ordering.eq) = true := by
  unfold Float64.isNaN at h
  unfold Float64.cmp
  cases hd : decode x with
  | nan => rw [hd] at h; cases h
  | inf a => simp
  | fin a m e =>
    show (some (compare (Float64.align a m e a m e).1 (Float64.align a m e a m e).2.1) == some Ordering.eq) = true
    have : (Float64.align a m e a m e).1 = (Float64.align a m e a m e).2.1 := rfl
    rw [this]; simp
theorem nn_pack {t : Nat} (h : t ≤ infMag) : (Float64.cmp (pack false t) 0 == some .lt) = false := by
  rw [Flt.cmp_zero_r]
  rcases Nat.lt_or_eq_of_le h with x | x
  · obtain ⟨m, e, hd, hv⟩ := decode_pack false x
    rw [Float64.cmpInt_right hd, val_pack false x]
    have h0 : (0 : Int) * 2 ^ 1074 = 0 := Int.zero_mul _
    rw [h0]
    have h1 : sgn false (V t) = (V t : Int) := rfl
    rw [h1]
    rcases Nat.eq_zero_or_pos (V t) with z | z
    · rw [z]; rfl
    · rw [Int.compare_eq_gt.mpr (by omega)]; rfl
  · subst x; decide +kernel
theorem cmpInt_pack {a : Bool} {t : Nat} (h : t < infMag) : (Float64.cmpInt (pack a t) 0 == some .eq) = decide (t = 0) := by
  rw [← Flt.isZero_eq, isZero_pack h]

section
variable {a b : Bool} {t u : Nat}
theorem mul_pack (ht : t < infMag) (hu : u < infMag) : Right (Float64.mul (pack a t) (pack b u)) (a != b) (V t * V u) (2 ^ 1074) := by
  obtain ⟨m, e, hd, hv⟩ := decode_pack a ht
  obtain ⟨m', e', hd', hv'⟩ := decode_pack b hu
  have := Float64.mul_right hd hd'
  rwa [Float64.val_natAbs hd, Float64.val_natAbs hd', hv, hv'] at this
theorem div_pack (ht : t < infMag) (hu : u < infMag) (h0 : u ≠ 0) : Right (Float64.div (pack a t) (pack b u)) (a != b) (V t * 2 ^ 1074) (V u) := by
  obtain ⟨m, e, hd, hv⟩ := decode_pack a ht
  obtain ⟨m', e', hd', hv'⟩ := decode_pack b hu
  have hk : m' ≠ 0 := by
    rintro rfl
    rw [Nat.zero_mul] at hv'
    have := v_pos (Nat.pos_of_ne_zero h0)
    omega
  have := Float64.div_right hd hd' hk
  rwa [Float64.val_natAbs hd, Float64.val_natAbs hd', hv, hv'] at this
theorem add_pack (ht : t < infMag) (hu : u < infMag) : (sgn a (V t) + sgn b (V u) = 0 → Float64.add (pack a t) (pack b u) = pack (a && b) 0) ∧
    (sgn a (V t) + sgn b (V u) ≠ 0 → Right (Float64.add (pack a t) (pack b u)) (decide (sgn a (V t) + sgn b (V u) < 0)) (sgn a (V t) + sgn b (V u)).natAbs 1) := by
  obtain ⟨m, e, hd, hv⟩ := decode_pack a ht
  obtain ⟨m', e', hd', hv'⟩ := decode_pack b hu
  have := Float64.add_right hd hd'
  rwa [val_pack a ht, val_pack b hu] at this
theorem inf_pos : 0 < infMag := by decide
theorem mul_zero_l (hu : u < infMag) : Float64.mul (pack a 0) (pack b u) = pack (a != b) 0 :=
  right_exact (Nat.two_pow_pos _) (mul_pack inf_pos hu) inf_pos (by rw [V_zero, Nat.zero_mul, Nat.mul_zero])
theorem div_zero_l (hu : u < infMag) (h0 : u ≠ 0) : Float64.div (pack a 0) (pack b u) = pack (a != b) 0 :=
  right_exact (v_pos (Nat.pos_of_ne_zero h0)) (div_pack inf_pos hu h0) inf_pos (by rw [V_zero, Nat.zero_mul, Nat.mul_zero])
theorem v_one : V (1023 * 2 ^ 52) = 2 ^ 1074 := by
  have : (1023 : Nat) * 2 ^ 52 = 1022 * 2 ^ 52 + 2 ^ 52 := by decide
  rw [this, V_at (by decide) (.inl (by decide)), ← Nat.pow_add]
theorem one_lt : 1023 * 2 ^ 52 < infMag := by decide
theorem div_self (ht : t < infMag) (h0 : t ≠ 0) : Float64.div (pack a t) (pack b t) = pack (a != b) (1023 * 2 ^ 52) :=
  right_exact (v_pos (Nat.pos_of_ne_zero h0)) (div_pack ht ht h0) one_lt (by rw [v_one])
theorem mul_one_l (hu : u < infMag) : Float64.mul (pack false (1023 * 2 ^ 52)) (pack b u) = pack b u := by
  have := right_exact (Nat.two_pow_pos _) (mul_pack (a := false) (b := b) one_lt hu) hu (by rw [v_one])
  simpa using this
theorem sgn_zero (a : Bool) : sgn a 0 = 0 := by cases a <;> rfl
theorem sgn_nat (a : Bool) (n : Nat) : (sgn a n).natAbs = n := Float64.sgn_natAbs a n
theorem sgn_neg (a : Bool) {n : Nat} (h : 0 < n) : decide (sgn a n < 0) = a := by
  unfold sgn
  cases a
  · simp
  · simp; omega
theorem add_zero_l (hu : u < infMag) : Float64.add (pack a 0) (pack b u) = (if u = 0 then pack (a && b) 0 else pack b u) := by
  have h := add_pack (a := a) (b := b) inf_pos hu
  rw [V_zero, sgn_zero, Int.zero_add] at h
  split
  · rename_i e
    subst e
    rw [V_zero, sgn_zero] at h
    exact h.1 rfl
  · rename_i e
    have hv := v_pos (Nat.pos_of_ne_zero e)
    have hne : sgn b (V u) ≠ 0 := fun z => by have := sgn_nat b (V u); rw [z] at this; simp at this; omega
    have h2 := h.2 hne
    rw [sgn_neg b hv, sgn_nat] at h2
    exact right_exact (by decide) h2 hu (by rw [Nat.one_mul])
theorem sub_self (ht : t < infMag) : Float64.sub (pack a t) (pack a t) = pack false 0 := by
  unfold Float64.sub
  rw [neg_pack (Nat.le_of_lt ht)]
  have h := (add_pack (a := a) (b := !a) ht ht).1 (by unfold sgn; cases a <;> simp <;> omega)
  rw [h]
  cases a <;> rfl
theorem eight : Float64.ofInt 8 = pack false (1026 * 2 ^ 52) := by decide +kernel
theorem two : Float64.ofInt 2 = pack false (1024 * 2 ^ 52) := by decide +kernel
theorem v_eight : V (1026 * 2 ^ 52) = 2 ^ 1077 := by
  have : (1026 : Nat) * 2 ^ 52 = 1025 * 2 ^ 52 + 2 ^ 52 := by decide
  rw [this, V_at (by decide) (.inl (by decide)), ← Nat.pow_add]
theorem v_two : V (1024 * 2 ^ 52) = 2 ^ 1075 := by
  have : (1024 : Nat) * 2 ^ 52 = 1023 * 2 ^ 52 + 2 ^ 52 := by decide
  rw [this, V_at (by decide) (.inl (by decide)), ← Nat.pow_add]
theorem v_eighth : V (1020 * 2 ^ 52) = 2 ^ 1071 := by
  have : (1020 : Nat) * 2 ^ 52 = 1019 * 2 ^ 52 + 2 ^ 52 := by decide
  rw [this, V_at (by decide) (.inl (by decide)), ← Nat.pow_add]
theorem div_eight (ht : t < infMag) : Float64.div (pack a t) (pack false (1026 * 2 ^ 52)) = Float64.mul (pack a t) (pack false (1020 * 2 ^ 52)) := by
  refine right_one (Nat.two_pow_pos 1077) (Nat.two_pow_pos 1074) (v_eight ▸ div_pack ht (by decide) (by decide)) (mul_pack ht (by decide)) ?_
  rw [v_eighth, Nat.mul_assoc, Nat.mul_assoc, ← Nat.pow_add, ← Nat.pow_add]
theorem add_self (ht : t < infMag) : Float64.add (pack a t) (pack a t) = Float64.mul (pack a t) (pack false (1024 * 2 ^ 52)) := by
  have h := add_pack (a := a) (b := a) ht ht
  have hm := mul_pack (a := a) (b := false) (u := 1024 * 2 ^ 52) ht (by decide)
  have e1 : (a != false) = a := by cases a <;> rfl
  rw [e1, v_two] at hm
  by_cases e : t = 0
  · subst e
    rw [V_zero, sgn_zero] at h
    rw [h.1 rfl, Bool.and_self]
    exact (right_exact (Nat.two_pow_pos _) hm inf_pos (by rw [V_zero, Nat.zero_mul, Nat.mul_zero])).symm
  · have hv := v_pos (Nat.pos_of_ne_zero e)
    have e2 : sgn a (V t) + sgn a (V t) = sgn a (V t * 2) := by unfold sgn; cases a <;> simp <;> omega
    have h2v : 0 < V t * 2 := by omega
    rw [e2] at h
    have h2 := h.2 (fun z => by have := sgn_nat a (V t * 2); rw [z] at this; simp at this; omega)
    rw [sgn_neg a h2v, sgn_nat] at h2
    refine right_one (by decide) (Nat.two_pow_pos 1074) h2 hm ?_
    rw [Nat.mul_one, Nat.mul_assoc, ← Nat.pow_succ']
theorem right_nan {r : UInt64} {neg : Bool} {W D : Nat} (h : Right r neg W D) : Float64.isNaN r = false := by
  obtain ⟨t, rfl, ht, _⟩ := h; exact isNaN_pack' neg ht
theorem right_nn {r : UInt64} {W D : Nat} (h : Right r false W D) : (Float64.cmp r 0 == some .lt) = false := by
  obtain ⟨t, rfl, ht, _⟩ := h; exact nn_pack ht
end
end Mine

open PySem
set_option Elab.async false
set_option maxRecDepth 100000
set_option maxHeartbeats 400000
namespace Mine
open PySem.Float64 (Right V dist pack infMag val decode decode_pack val_pack V_lt V_mono V_at V_zero sgn)
abbrev fq (x y : UInt64) : Bool := Float64.cmp x y == some Ordering.eq
abbrev Nn' (f : UInt64) : Prop := (Float64.cmp f 0 == some Ordering.lt) = false
/-- finite -/
def Fin' (f : UInt64) : Prop := ∃ a t, t < infMag ∧ f = pack a t
/-- finite, its sign +  -/
def Pos' (f : UInt64) : Prop := ∃ t, t < infMag ∧ f = pack false t
theorem Pos'.fin {f} (h : Pos' f) : Fin' f := by obtain ⟨t, h, e⟩ := h; exact ⟨false, t, h, e⟩
theorem Pos'.abs {f} (h : Pos' f) : Float64.abs f = f := by obtain ⟨t, h, rfl⟩ := h; rw [abs_pack (Nat.le_of_lt h)]
theorem Fin'.abs {f} (h : Fin' f) : Pos' (Float64.abs f) := by obtain ⟨a, t, h, rfl⟩ := h; rw [abs_pack (Nat.le_of_lt h)]; exact ⟨t, h, rfl⟩
theorem Fin'.neg {f} (h : Fin' f) : Fin' (Float64.neg f) := by obtain ⟨a, t, h, rfl⟩ := h; rw [neg_pack (Nat.le_of_lt h)]; exact ⟨!a, t, h, rfl⟩
theorem Fin'.nan {f} (h : Fin' f) : Float64.isNaN f = false := by obtain ⟨a, t, h, rfl⟩ := h; exact isNaN_pack' a (Nat.le_of_lt h)
theorem Pos'.nn {f} (h : Pos' f) : Nn' f := by obtain ⟨t, h, rfl⟩ := h; exact nn_pack (Nat.le_of_lt h)
theorem abs_neg {f} (h : Fin' f) : Float64.abs (Float64.neg f) = Float64.abs f := by
  obtain ⟨a, t, h, rfl⟩ := h
  rw [neg_pack (Nat.le_of_lt h), abs_pack (Nat.le_of_lt h), abs_pack (Nat.le_of_lt h)]
theorem neg_neg {f} (h : Fin' f) : Float64.neg (Float64.neg f) = f := by
  obtain ⟨a, t, h, rfl⟩ := h
  rw [neg_pack (Nat.le_of_lt h), neg_pack (Nat.le_of_lt h), Bool.not_not]
theorem isZero_neg {f} (h : Fin' f) : Float64.isZero (Float64.neg f) = Float64.isZero f := by
  obtain ⟨a, t, h, rfl⟩ := h
  rw [neg_pack (Nat.le_of_lt h), isZero_pack h, isZero_pack h]
theorem isZero_abs {f} (h : Fin' f) : Float64.isZero (Float64.abs f) = Float64.isZero f := by
  obtain ⟨a, t, h, rfl⟩ := h
  rw [abs_pack (Nat.le_of_lt h), isZero_pack h, isZero_pack h]
theorem one_pack : (4607182418800017408 : UInt64) = pack false (1023 * 2 ^ 52) := by decide +kernel
theorem eighth_pack : (4593671619917905920 : UInt64) = pack false (1020 * 2 ^ 52) := by decide +kernel
theorem zero_pack : (0 : UInt64) = pack false 0 := by decide +kernel
theorem pos_one : Pos' 4607182418800017408 := ⟨_, one_lt, one_pack⟩
theorem pos_zero : Pos' 0 := ⟨_, inf_pos, zero_pack⟩
theorem pos_eighth : Pos' 4593671619917905920 := ⟨_, by decide, eighth_pack⟩
theorem pos_eight : Pos' (Float64.ofInt 8) := ⟨_, by decide, eight⟩
theorem pos_two : Pos' (Float64.ofInt 2) := ⟨_, by decide, two⟩
/-- the sign is plain: what two of these make by * is + -/
theorem mul_nn {f g} (h : Pos' f) (h' : Pos' g) : Nn' (Float64.mul f g) := by
  obtain ⟨t, h, rfl⟩ := h; obtain ⟨u, h', rfl⟩ := h'
  exact right_nn (mul_pack h h')
theorem div_nn {f g} (h : Pos' f) (h' : Pos' g) (hz : Float64.isZero g = false) : Nn' (Float64.div f g) := by
  obtain ⟨t, h, rfl⟩ := h; obtain ⟨u, h', rfl⟩ := h'
  exact right_nn (div_pack h h' (by rw [isZero_pack h'] at hz; simpa using hz))
theorem div_nan {f g} (h : Fin' f) (h' : Fin' g) (hz : Float64.isZero g = false) : Float64.isNaN (Float64.div f g) = false := by
  obtain ⟨a, t, h, rfl⟩ := h; obtain ⟨b, u, h', rfl⟩ := h'
  exact right_nan (div_pack h h' (by rw [isZero_pack h'] at hz; simpa using hz))
theorem mul_nan {f g} (h : Fin' f) (h' : Fin' g) : Float64.isNaN (Float64.mul f g) = false := by
  obtain ⟨a, t, h, rfl⟩ := h; obtain ⟨b, u, h', rfl⟩ := h'
  exact right_nan (mul_pack h h')
theorem eighth_eq {m} (hm : Fin' m) : Float64.div m (Float64.ofInt 8) = Float64.mul m 4593671619917905920 := by
  obtain ⟨a, t, h, rfl⟩ := hm
  rw [eight, eighth_pack, div_eight h]
theorem double_eq {m} (hm : Fin' m) : Float64.add m m = Float64.mul m (Float64.ofInt 2) := by
  obtain ⟨a, t, h, rfl⟩ := hm
  rw [two, add_self h]
theorem fq_refl {x} (h : Float64.isNaN x = false) : fq x x = true := feq_same h
theorem fq_of {x y} (e : x = y) (h : Float64.isNaN x = false) : fq x y = true := e ▸ feq_same h
theorem sub_zero {m} (hm : Fin' m) : Float64.sub m m = 0 := by
  obtain ⟨a, t, h, rfl⟩ := hm
  rw [sub_self h, zero_pack]
theorem div_one {s g} (hs : Pos' s) (hg : Pos' g) (e : s = g) (hz : Float64.isZero s = false) : Float64.div s g = 4607182418800017408 := by
  subst e
  obtain ⟨t, h, rfl⟩ := hs
  rw [isZero_pack h] at hz
  rw [div_self h (by simpa using hz), one_pack]
  rfl
/-- nought, of either sign -/
def Zr (f : UInt64) : Prop := ∃ a, f = pack a 0
theorem Zr.fin {f} (h : Zr f) : Fin' f := by obtain ⟨a, rfl⟩ := h; exact ⟨a, 0, inf_pos, rfl⟩
theorem zr_zero : Zr 0 := ⟨false, zero_pack⟩
theorem zr_of {f} (h : Fin' f) (hz : Float64.isZero f = true) : Zr f := by
  obtain ⟨a, t, h, rfl⟩ := h
  rw [isZero_pack h] at hz
  exact ⟨a, by rw [of_decide_eq_true hz]⟩
theorem zr_neg {f} (h : Zr f) : Zr (Float64.neg f) := by obtain ⟨a, rfl⟩ := h; rw [neg_pack (Nat.le_of_lt inf_pos)]; exact ⟨_, rfl⟩
theorem zr_mul {f g} (h : Zr f) (hg : Fin' g) : Zr (Float64.mul f g) := by
  obtain ⟨a, rfl⟩ := h; obtain ⟨b, u, hu, rfl⟩ := hg
  rw [mul_zero_l hu]; exact ⟨_, rfl⟩
theorem zr_div {f g} (h : Zr f) (hg : Fin' g) (hz : Float64.isZero g = false) : Zr (Float64.div f g) := by
  obtain ⟨a, rfl⟩ := h; obtain ⟨b, u, hu, rfl⟩ := hg
  rw [isZero_pack hu] at hz
  rw [div_zero_l hu (by simpa using hz)]; exact ⟨_, rfl⟩
theorem fq_zr {f g} (h : Zr f) (hg : Zr g) : fq f g = true := by
  obtain ⟨a, rfl⟩ := h; obtain ⟨b, rfl⟩ := hg
  unfold fq
  rw [feq_pack inf_pos inf_pos, V_zero, sgn_zero, sgn_zero]; rfl
theorem fq_zr_l {f g x} (h : Zr f) (hg : Zr g) (hx : Fin' x) : fq f x = fq g x := by
  obtain ⟨a, rfl⟩ := h; obtain ⟨b, rfl⟩ := hg; obtain ⟨d, u, hu, rfl⟩ := hx
  unfold fq
  rw [feq_pack inf_pos hu, feq_pack inf_pos hu, V_zero, sgn_zero, sgn_zero]
theorem fq_zr_int {f x} (h : Zr f) (hx : Fin' x) : fq f x = (Float64.cmpInt x 0 == some .eq) := by
  obtain ⟨a, rfl⟩ := h; obtain ⟨d, u, hu, rfl⟩ := hx
  unfold fq
  rw [feq_pack inf_pos hu, cmpInt_pack hu, V_zero, sgn_zero]
  apply decide_eq_decide.mpr
  constructor
  · intro e
    rcases Nat.eq_zero_or_pos u with z | z
    · exact z
    · have hv := v_pos z
      have := sgn_nat d (V u)
      rw [← e] at this
      simp at this
      omega
  · rintro rfl
    rw [V_zero, sgn_zero]
/-- nought added: no other number -/
theorem zr_add {z q} (h : Zr z) (hq : Fin' q) : (∃ a b, q = pack b 0 ∧ Float64.add z q = pack a 0) ∨ Float64.add z q = q := by
  obtain ⟨a, rfl⟩ := h; obtain ⟨b, u, hu, rfl⟩ := hq
  rw [add_zero_l hu]
  split
  · rename_i e; subst e; exact .inl ⟨_, _, rfl, rfl⟩
  · exact .inr rfl
theorem fq_add {z q c} (h : Zr z) (hq : Fin' q) (hc : Fin' c) : fq (Float64.add z q) c = fq q c := by
  rcases zr_add h hq with ⟨a, b, e, e'⟩ | e
  · rw [e', e]; exact fq_zr_l ⟨_, rfl⟩ ⟨_, rfl⟩ hc
  · rw [e]
theorem fq_add_self {z q} (h : Zr z) (hq : Fin' q) : fq (Float64.add z q) q = true := by
  rw [fq_add h hq hq]; exact fq_refl hq.nan
/-- nought + q, q without end or not -/
theorem fq_add_any {q} (hq : ∃ a t, t ≤ infMag ∧ q = pack a t) : fq q (Float64.add 0 q) = true := by
  obtain ⟨a, t, ht, rfl⟩ := hq
  rcases Nat.lt_or_eq_of_le ht with h | h
  · rcases zr_add zr_zero ⟨a, t, h, rfl⟩ with ⟨b, d, e, e'⟩ | e
    · rw [e', e]; exact fq_zr ⟨_, rfl⟩ ⟨_, rfl⟩
    · rw [e]; exact fq_refl (isNaN_pack' a ht)
  · subst h
    cases a <;> decide +kernel
theorem div_form {f g} (h : Fin' f) (h' : Fin' g) (hz : Float64.isZero g = false) : ∃ a t, t ≤ infMag ∧ Float64.div f g = pack a t := by
  obtain ⟨a, t, h, rfl⟩ := h; obtain ⟨b, u, h', rfl⟩ := h'
  obtain ⟨r, e, hr, _⟩ := div_pack (a := a) (b := b) h h' (by rw [isZero_pack h'] at hz; simpa using hz)
  exact ⟨_, r, hr, e⟩
theorem one_mul {k} (hk : Fin' k) : Float64.mul 4607182418800017408 k = k := by
  obtain ⟨a, t, h, rfl⟩ := hk
  rw [one_pack, mul_one_l h]
theorem sub_eq (x y : UInt64) : Float64.sub x y = Float64.add x (Float64.neg y) := by unfold Float64.sub; rfl
theorem fq_neg_sub {z c} (h : Zr z) (hc : Fin' c) : fq (Float64.neg (Float64.sub z c)) c = true := by
  rw [sub_eq]
  rcases zr_add h hc.neg with ⟨a, b, e, e'⟩ | e
  · rw [e']
    have : c = pack (!b) 0 := by rw [← neg_neg hc, e, neg_pack (Nat.le_of_lt inf_pos)]
    rw [this]
    exact fq_zr (zr_neg ⟨_, rfl⟩) ⟨_, rfl⟩
  · rw [e, neg_neg hc]; exact fq_refl hc.nan
theorem fq_sub_neg {z c} (h : Zr z) (hc : Fin' c) : fq (Float64.sub z (Float64.neg c)) c = true := by
  rw [sub_eq, neg_neg hc]; exact fq_add_self h hc
end Mine

open PySem
set_option Elab.async false
set_option maxRecDepth 100000
set_option maxHeartbeats 400000
namespace Mine
open PySem.Float64 (Right V dist pack infMag val decode decode_pack val_pack V_lt V_mono V_at V_zero sgn V_form)

/-- the size of one; the floats' values are told in its parts, 2 ** -1074 -/
def PI : Int := ((2 ^ 1074 : Nat) : Int)
def Rep (k : Int) : Prop := ∃ t, t < infMag ∧ k.natAbs = V t
/-- a finite float and its value -/
def Fv (f : UInt64) (v : Int) : Prop := ∃ a t, t < infMag ∧ f = pack a t ∧ v = sgn a (V t)
theorem Fv.rep {f v} (h : Fv f v) : Rep v := by
  obtain ⟨a, t, ht, _, rfl⟩ := h; exact ⟨t, ht, sgn_nat _ _⟩
theorem Fv.fin {f v} (h : Fv f v) : Fin' f := by obtain ⟨a, t, ht, e, _⟩ := h; exact ⟨a, t, ht, e⟩
theorem rep_aux (k : Nat) : ∀ j : Nat, j < 2 ^ 53 → ∃ t, t < k * 2 ^ 52 + 2 ^ 53 ∧ V t = j * 2 ^ k := by
  induction k with
  | zero =>
    intro j h
    have := V_at (k := 0) (q := j) (Nat.le_of_lt h) (.inr rfl)
    rw [Nat.zero_mul, Nat.zero_add] at this
    refine ⟨j, ?_, this⟩
    rw [Nat.zero_mul, Nat.zero_add]; exact h
  | succ k ih =>
    intro j h
    by_cases hj : 2 ^ 52 ≤ j
    · exact ⟨(k + 1) * 2 ^ 52 + j, Nat.add_lt_add_left h _, V_at (Nat.le_of_lt h) (.inl hj)⟩
    · obtain ⟨t, ht, e⟩ := ih (2 * j) (by omega)
      refine ⟨t, Nat.lt_of_lt_of_le ht (Nat.add_le_add_right (Nat.mul_le_mul_right _ (Nat.le_succ k)) _), ?_⟩
      rw [e, Nat.pow_succ]
      generalize (2 : Nat) ^ k = b; ac_rfl
theorem inf_eq : infMag = 2047 * 2 ^ 52 := rfl
theorem rep_nat {j k : Nat} (hj : j ≤ 2 ^ 53) (hk : k ≤ 2044) : ∃ t, t < infMag ∧ V t = j * 2 ^ k := by
  rcases Nat.lt_or_eq_of_le hj with x | x
  · obtain ⟨t, ht, e⟩ := rep_aux k j x
    exact ⟨t, by rw [inf_eq]; omega, e⟩
  · obtain ⟨t, ht, e⟩ := rep_aux (k + 1) (2 ^ 52) (by decide)
    refine ⟨t, by rw [inf_eq]; omega, ?_⟩
    rw [e, x, show (2 : Nat) ^ 53 = 2 ^ 52 * 2 by decide, Nat.pow_succ 2 k]
    generalize (2 : Nat) ^ 52 = a; generalize (2 : Nat) ^ k = b; ac_rfl
theorem natAbs_pow2 (j : Int) (k : Nat) : (j * ((2 ^ k : Nat) : Int)).natAbs = j.natAbs * 2 ^ k := by rw [Int.natAbs_mul, Int.natAbs_natCast]
theorem rep_mul {j : Int} {k : Nat} (hj : j.natAbs ≤ 2 ^ 53) (hk : k ≤ 2044) : Rep (j * ((2 ^ k : Nat) : Int)) := by
  obtain ⟨t, ht, e⟩ := rep_nat hj hk
  exact ⟨t, ht, by rw [natAbs_pow2, e]⟩
theorem rep_zero : Rep 0 := ⟨0, inf_pos, by rw [V_zero]; rfl⟩
theorem Rep.neg {k} (h : Rep k) : Rep (-k) := by obtain ⟨t, ht, e⟩ := h; exact ⟨t, ht, by rw [Int.natAbs_neg]; exact e⟩
/-- a value is a small whole number times a power of two -/
theorem Rep.form {k} (h : Rep k) : ∃ (q : Int) (j : Nat), k = q * ((2 ^ j : Nat) : Int) ∧ q.natAbs < 2 ^ 53 ∧ (2 ^ 52 ≤ q.natAbs ∨ j = 0) := by
  obtain ⟨t, ht, e⟩ := h
  obtain ⟨j, q, _, hq, hj, hV⟩ := V_form t
  rcases Int.natAbs_eq k with x | x
  · exact ⟨q, j, by rw [x, e, hV, Int.natCast_mul], by simpa using hq, by simpa using hj⟩
  · exact ⟨-q, j, by rw [x, e, hV, Int.natCast_mul, Int.neg_mul], by simpa using hq, by simpa using hj⟩
/-- a value so big is a multiple -/
theorem Rep.dvd {k} (h : Rep k) {c : Nat} (hc : 2 ^ 52 * 2 ^ c ≤ k.natAbs) : ∃ j : Int, k = j * ((2 ^ c : Nat) : Int) := by
  obtain ⟨q, j, rfl, hq, hj⟩ := h.form
  rw [natAbs_pow2] at hc
  have hjc : c ≤ j := by
    rcases Nat.lt_or_ge j c with x | x
    · exfalso
      have h2 : 2 ^ j * 2 ≤ 2 ^ c := by rw [← Nat.pow_succ]; exact Nat.pow_le_pow_right (by decide) x
      have h3 : q.natAbs * 2 ^ j < 2 ^ 53 * 2 ^ j := Nat.mul_lt_mul_of_pos_right hq (Nat.two_pow_pos _)
      have h4 : 2 ^ 52 * (2 ^ j * 2) ≤ 2 ^ 52 * 2 ^ c := Nat.mul_le_mul_left _ h2
      generalize q.natAbs * 2 ^ j = A at *
      generalize 2 ^ j = B at *
      generalize 2 ^ c = C at *
      omega
    · exact x
  refine ⟨q * ((2 ^ (j - c) : Nat) : Int), ?_⟩
  rw [Int.mul_assoc, ← Int.natCast_mul, ← Nat.pow_add]
  congr 3
  omega

/-- v is what W / D is rounded to -/
def Near (v W D : Int) : Prop := Rep v ∧ ∀ k, Rep k → (W - D * v).natAbs ≤ (W - D * k).natAbs
section
variable {v W D k : Int}
theorem Near.le (h : Near v W D) (hD : 0 < D) (hk : Rep k) (hw : W ≤ D * k) : v ≤ k := by
  rcases (by omega : k < v ∨ v ≤ k) with x | x
  · exfalso
    have h1 := h.2 k hk
    have h2 : D * (k + 1) ≤ D * v := Int.mul_le_mul_of_nonneg_left x (Int.le_of_lt hD)
    rw [Int.mul_add, Int.mul_one] at h2
    omega
  · exact x
theorem Near.ge (h : Near v W D) (hD : 0 < D) (hk : Rep k) (hw : D * k ≤ W) : k ≤ v := by
  rcases (by omega : v < k ∨ k ≤ v) with x | x
  · exfalso
    have h1 := h.2 k hk
    have h2 : D * (v + 1) ≤ D * k := Int.mul_le_mul_of_nonneg_left x (Int.le_of_lt hD)
    rw [Int.mul_add, Int.mul_one] at h2
    omega
  · exact x
theorem Near.exact (h : Near v W D) (hD : 0 < D) (hk : Rep k) (hw : W = D * k) : v = k :=
  Int.le_antisymm (h.le hD hk (Int.le_of_eq hw)) (h.ge hD hk (Int.le_of_eq hw.symm))
/-- by a grid of values: half a step at most -/
theorem Near.err (h : Near v W D) (hD : 0 < D) {g : Int} (hg : 0 < g) {J : Nat} (hr : ∀ j : Int, j.natAbs ≤ J → Rep (j * g)) (hw : (W.natAbs : Int) < (J : Int) * (D * g)) :
    -(D * g) ≤ 2 * (W - D * v) ∧ 2 * (W - D * v) ≤ D * g := by
  have hDg : 0 < D * g := Int.mul_pos hD hg
  have e0 := Int.mul_ediv_add_emod W (D * g)
  have m0 := Int.emod_nonneg W (Int.ne_of_gt hDg)
  have m1 := Int.emod_lt_of_pos W hDg
  generalize W / (D * g) = j at *
  generalize W % (D * g) = m at *
  have e1 : D * (j * g) = D * g * j := by rw [Int.mul_comm j g, Int.mul_assoc]
  have e2 : D * ((j + 1) * g) = D * g * j + D * g := by rw [Int.mul_comm (j + 1) g, ← Int.mul_assoc, Int.mul_add, Int.mul_one]
  have lo : -(J : Int) ≤ j := by
    rcases (by omega : -(J : Int) ≤ j ∨ j + 1 ≤ -(J : Int)) with x | x
    · exact x
    · exfalso
      have := Int.mul_le_mul_of_nonneg_left x (Int.le_of_lt hDg)
      rw [Int.mul_neg, Int.mul_comm (D * g) (J : Int), Int.mul_add, Int.mul_one] at this
      omega
  have hi : j < J := by
    rcases (by omega : j < (J : Int) ∨ (J : Int) ≤ j) with x | x
    · exact x
    · exfalso
      have := Int.mul_le_mul_of_nonneg_left x (Int.le_of_lt hDg)
      rw [Int.mul_comm (D * g) (J : Int)] at this
      omega
  have h1 := h.2 _ (hr j (by omega))
  have h2 := h.2 _ (hr (j + 1) (by omega))
  rw [e1] at h1
  rw [e2] at h2
  generalize D * g * j = A at *
  generalize D * v = B at *
  generalize D * g = C at *
  omega
end
theorem big_rep : ∃ u, u < infMag ∧ V u = 2 ^ 2090 := by
  obtain ⟨u, hu, e⟩ := rep_nat (j := 2 ^ 50) (k := 2040) (by decide) (by decide)
  exact ⟨u, hu, by rw [e, ← Nat.pow_add]⟩
theorem near_of_right {r : UInt64} {neg : Bool} {W D : Nat} (hD : 0 < D) (h : Right r neg W D) (hb : W ≤ D * 2 ^ 2090) : ∃ v, Fv r v ∧ Near v (sgn neg W) D := by
  obtain ⟨t, rfl, ht, ho, hn⟩ := h
  obtain ⟨u, hu, eu⟩ := big_rep
  have h1 : t ≠ infMag := fun e => no_over hD hu (Nat.le_trans (ho.mp e) (Nat.mul_le_mul_left _ (by rw [eu]; exact hb)))
  have h2 : t < infMag := by omega
  refine ⟨sgn neg (V t), ⟨neg, t, h2, rfl, rfl⟩, ⟨t, h2, sgn_nat _ _⟩, fun k ⟨t', ht', e⟩ => ?_⟩
  have h3 := (hn h2 t').1
  have e1 : (D : Int) * sgn neg (V t) = sgn neg (D * V t) := by unfold sgn; cases neg <;> simp [Int.mul_neg]
  have e2 : ((D : Int) * k).natAbs = D * V t' := by rw [Int.natAbs_mul, Int.natAbs_natCast, e]
  rw [e1]
  generalize (D : Int) * k = K at *
  generalize D * V t' = K' at *
  generalize D * V t = T at *
  unfold dist at h3
  unfold sgn
  cases neg <;> simp only [if_true, if_false, Bool.false_eq_true] <;> omega
theorem sgn_dec (s : Int) : sgn (decide (s < 0)) s.natAbs = s := by
  unfold sgn
  by_cases h : s < 0
  · rw [decide_eq_true h]; simp only [if_true]; omega
  · rw [decide_eq_false h]; simp only [Bool.false_eq_true, if_false]; omega
theorem sgn_mul2 (a b : Bool) (m n : Nat) : sgn (a != b) (m * n) = sgn a m * sgn b n := by
  unfold sgn
  cases a <;> cases b <;> simp [Int.mul_neg, Int.neg_mul]
section
variable {x y z : UInt64} {v w u : Int}
theorem Fv.neg (h : Fv x v) : Fv (Float64.neg x) (-v) := by
  obtain ⟨a, t, ht, rfl, rfl⟩ := h
  exact ⟨!a, t, ht, neg_pack (Nat.le_of_lt ht), by unfold sgn; cases a <;> simp⟩
theorem add_near (hx : Fv x v) (hy : Fv y w) (hb : (v + w).natAbs ≤ 2 ^ 2090) : ∃ r, Fv (Float64.add x y) r ∧ Near r (v + w) 1 := by
  obtain ⟨a, t, ht, rfl, rfl⟩ := hx
  obtain ⟨b, u, hu, rfl, rfl⟩ := hy
  have h := add_pack (a := a) (b := b) ht hu
  generalize sgn a (V t) + sgn b (V u) = s at *
  by_cases hs : s = 0
  · rw [h.1 hs]
    exact ⟨0, ⟨_, 0, inf_pos, rfl, by rw [V_zero, sgn_zero]⟩, rep_zero, fun k _ => by subst hs; omega⟩
  · have := near_of_right (by decide) (h.2 hs) (by rw [Nat.one_mul]; exact hb)
    rw [sgn_dec] at this
    exact this
theorem sub_near (hx : Fv x v) (hy : Fv y w) (hb : (v - w).natAbs ≤ 2 ^ 2090) : ∃ r, Fv (Float64.sub x y) r ∧ Near r (v - w) 1 := by
  rw [sub_eq]
  exact add_near hx hy.neg hb
theorem mul_near (hx : Fv x v) (hy : Fv y w) (hb : (v * w).natAbs ≤ 2 ^ 1074 * 2 ^ 2090) : ∃ r, Fv (Float64.mul x y) r ∧ Near r (v * w) PI := by
  obtain ⟨a, t, ht, rfl, rfl⟩ := hx
  obtain ⟨b, u, hu, rfl, rfl⟩ := hy
  have e := sgn_mul2 a b (V t) (V u)
  have := near_of_right (Nat.two_pow_pos _) (mul_pack (a := a) (b := b) ht hu) (by rw [← e, sgn_nat] at hb; exact hb)
  rw [e] at this
  exact this
theorem div_near (hx : Fv x v) (hy : Fv y w) (h0 : 0 < w) (hb : (v.natAbs * 2 ^ 1074 : Nat) ≤ w.natAbs * 2 ^ 2090) : ∃ r, Fv (Float64.div x y) r ∧ Near r (v * PI) w := by
  obtain ⟨a, t, ht, rfl, rfl⟩ := hx
  obtain ⟨b, u, hu, rfl, rfl⟩ := hy
  have hbb : b = false := by cases b with
    | false => rfl
    | true => exfalso; unfold sgn at h0; simp at h0; omega
  subst hbb
  have e1 : sgn false (V u) = (V u : Int) := rfl
  rw [e1] at h0 hb ⊢
  rw [sgn_nat, Int.natAbs_natCast] at hb
  have hu0 : u ≠ 0 := by rintro rfl; rw [V_zero] at h0; exact absurd h0 (by decide)
  have := near_of_right (by omega) (div_pack (a := a) (b := false) ht hu hu0) hb
  have e2 : sgn (a != false) (V t * 2 ^ 1074) = sgn a (V t) * PI := by unfold sgn PI; cases a <;> simp [Int.neg_mul]
  rw [e2] at this
  exact this
theorem sqrt_near (hx : Fv x v) (h0 : 0 < v) : ∃ r, Fv (Float64.sqrt x) r ∧ 0 ≤ r ∧ (∀ k, Rep k → r < k → 4 * (v * PI) ≤ (r + k) * (r + k)) ∧ (∀ k, Rep k → 0 ≤ k → k < r → (r + k) * (r + k) ≤ 4 * (v * PI)) := by
  obtain ⟨a, t, ht, rfl, rfl⟩ := hx
  have ha : a = false := by cases a with
    | false => rfl
    | true => exfalso; unfold sgn at h0; simp at h0; omega
  subst ha
  obtain ⟨m, e, hd, hv⟩ := decode_pack false ht
  have hm : m ≠ 0 := by
    rintro rfl
    rw [Nat.zero_mul] at hv
    rw [← hv] at h0
    exact absurd h0 (by decide)
  obtain ⟨s, hs, hs', up, down⟩ := Float64.sqrt_right hd hm
  rw [val_pack false ht, sgn_nat] at up down
  have e1 : ∀ n : Nat, sgn false n = (n : Int) := fun _ => rfl
  rw [e1] at *
  refine ⟨(V s : Int), ⟨false, s, hs', hs, rfl⟩, Int.natCast_nonneg _, fun k ⟨t', ht', ek⟩ hk => ?_, fun k ⟨t', ht', ek⟩ hk0 hk => ?_⟩
  · have hkk : k = (V t' : Int) := by have := Int.natCast_nonneg (V s); omega
    subst hkk
    have hlt : s < t' := by
      rcases Nat.lt_or_ge s t' with x | x
      · exact x
      · have := V_mono x; omega
    have := up t' hlt
    unfold PI
    exact_mod_cast this
  · have hkk : k = (V t' : Int) := by omega
    subst hkk
    have hlt : t' < s := by
      rcases Nat.lt_or_ge t' s with x | x
      · exact x
      · have := V_mono x; omega
    have := down t' hlt
    unfold PI
    exact_mod_cast this
end
/-- x * y + z, rounded once -/
theorem fma_right {x y z : UInt64} {a b c : Bool} {m k n : Nat} {e f g : Int} (hx : decode x = .fin a m e) (hy : decode y = .fin b k f) (hz : decode z = .fin c n g) :
    (val x * val y + val z * PI = 0 → ∃ d, Float64.fma x y z = Float64.zero d) ∧ (val x * val y + val z * PI ≠ 0 → Right (Float64.fma x y z) (decide (val x * val y + val z * PI < 0)) (val x * val y + val z * PI).natAbs (2 ^ 1074)) := by
  have he := Float64.decode_ge hx
  have hf := Float64.decode_ge hy
  have hg := Float64.decode_ge hz
  generalize hh : min (e + f) g = h
  have hp : (sgn (a != b) (m * k * 2 ^ (e + f - h).toNat) + sgn c (n * 2 ^ (g - h).toNat)) * ((2 ^ (h + 2148).toNat : Nat) : Int) = val x * val y + val z * PI := by
    have ez : val z * PI = sgn c (n * 2 ^ (g + 2148).toNat) := by
      have e3 : (g + 2148).toNat = (g + 1074).toNat + 1074 := by omega
      unfold PI
      rw [Float64.val_eq hz, ← Float64.sgn_mul, Nat.mul_assoc, ← Nat.pow_add, e3]
    have exy : val x * val y = sgn (a != b) (m * k * 2 ^ (e + f + 2148).toNat) := by
      have e3 : (e + f + 2148).toNat = (e + 1074).toNat + (f + 1074).toNat := by omega
      rw [Float64.val_eq hx, Float64.val_eq hy, ← sgn_mul2, e3, Nat.pow_add]
      congr 1
      ac_rfl
    rw [Int.add_mul, ← Float64.sgn_mul, ← Float64.sgn_mul, ez, exy, Nat.mul_assoc (m * k), Nat.mul_assoc n, ← Nat.pow_add, ← Nat.pow_add]
    have e1 : (e + f - h).toNat + (h + 2148).toNat = (e + f + 2148).toNat := by omega
    have e2 : (g - h).toNat + (h + 2148).toNat = (g + 2148).toNat := by omega
    rw [e1, e2]
  have hadd : ∃ d, Float64.fma x y z = (if sgn (a != b) (m * k * 2 ^ (e + f - h).toNat) + sgn c (n * 2 ^ (g - h).toNat) == 0 then Float64.zero d else Float64.ofBin (decide (sgn (a != b) (m * k * 2 ^ (e + f - h).toNat) + sgn c (n * 2 ^ (g - h).toNat) < 0)) (sgn (a != b) (m * k * 2 ^ (e + f - h).toNat) + sgn c (n * 2 ^ (g - h).toNat)).natAbs h) := by
    subst hh
    refine ⟨(if m * k == 0 && n == 0 then (a != b) && c else false), ?_⟩
    unfold Float64.fma
    rw [hx, hy, hz]
    rfl
  obtain ⟨d, hadd⟩ := hadd
  generalize sgn (a != b) (m * k * 2 ^ (e + f - h).toNat) + sgn c (n * 2 ^ (g - h).toNat) = s at *
  have hpos : (0 : Int) < ((2 ^ (h + 2148).toNat : Nat) : Int) := Int.ofNat_lt.mpr (Nat.two_pow_pos _)
  constructor
  · intro h0
    have hs : s = 0 := by
      rw [h0] at hp
      rcases Int.mul_eq_zero.mp hp with h | h
      · exact h
      · omega
    exact ⟨d, by rw [hadd, hs]; rfl⟩
  · intro h0
    have hs : s ≠ 0 := by
      intro h
      rw [h, Int.zero_mul] at hp
      exact h0 hp.symm
    have hneg : decide (val x * val y + val z * PI < 0) = decide (s < 0) := by
      rw [← hp]
      apply decide_eq_decide.mpr
      constructor
      · intro h
        by_cases h2 : s < 0
        · exact h2
        · have := Int.mul_nonneg (show 0 ≤ s by omega) (Int.le_of_lt hpos)
          omega
      · intro h
        exact Int.mul_neg_of_neg_of_pos h hpos
    rw [hadd, if_neg (by simpa using hs), hneg]
    unfold Float64.ofBin
    have hW : (val x * val y + val z * PI).natAbs = s.natAbs * 2 ^ (h + 2148).toNat := by rw [← hp, Int.natAbs_mul, Int.natAbs_natCast]
    refine Float64.ofFrac_right (Float64.shift_pos _ _ _ (by decide)) ?_ (Nat.two_pow_pos _)
    have := Float64.shift_one s.natAbs h 2148 (by omega)
    rw [hW, Nat.mul_assoc, ← Nat.pow_add]
    exact this
theorem fma_near {x y z : UInt64} {v w u : Int} (hx : Fv x v) (hy : Fv y w) (hz : Fv z u) (hb : (v * w + u * PI).natAbs ≤ 2 ^ 1074 * 2 ^ 2090) : ∃ r, Fv (Float64.fma x y z) r ∧ Near r (v * w + u * PI) PI := by
  obtain ⟨a, t, ht, rfl, rfl⟩ := hx
  obtain ⟨b, t2, ht2, rfl, rfl⟩ := hy
  obtain ⟨c, t3, ht3, rfl, rfl⟩ := hz
  obtain ⟨m, e, hd, hv⟩ := decode_pack a ht
  obtain ⟨m2, e2, hd2, hv2⟩ := decode_pack b ht2
  obtain ⟨m3, e3, hd3, hv3⟩ := decode_pack c ht3
  have h := fma_right hd hd2 hd3
  rw [val_pack a ht, val_pack b ht2, val_pack c ht3] at h
  generalize sgn a (V t) * sgn b (V t2) + sgn c (V t3) * PI = s at *
  by_cases hs : s = 0
  · obtain ⟨d, e⟩ := h.1 hs
    rw [e]
    exact ⟨0, ⟨_, 0, inf_pos, rfl, by rw [V_zero, sgn_zero]⟩, rep_zero, fun k _ => by subst hs; simp⟩
  · have := near_of_right (Nat.two_pow_pos _) (h.2 hs) hb
    rw [sgn_dec] at this
    exact this
end Mine

open PySem
set_option Elab.async false
set_option maxRecDepth 100000
set_option maxHeartbeats 400000
namespace Mine
open PySem.Float64 (infMag pack V_zero)
open PySem.Builtin.Math (dlFastSum dlMul scaledNorm maxMagnitude vectorNorm)

/-- a step of the grid -/
def GI : Int := ((2 ^ 1050 : Nat) : Int)
theorem GI_pos : 0 < GI := Int.ofNat_lt.mpr (Nat.two_pow_pos _)
theorem PI_eq : PI = 16777216 * GI := by
  unfold PI GI
  rw [show (1074 : Nat) = 24 + 1050 by decide, Nat.pow_add, Int.natCast_mul]
  rfl
theorem PI_pos : 0 < PI := Int.ofNat_lt.mpr (Nat.two_pow_pos _)
theorem rep_grid {j : Int} (hj : j.natAbs ≤ 2 ^ 53) : Rep (j * GI) := rep_mul hj (by decide)
theorem PI_nat : PI.natAbs = 2 ^ 1074 := Int.natAbs_natCast _
theorem lim_le : 16 * 2 ^ 1074 ≤ 2 ^ 2090 := by
  rw [show (16 : Nat) = 2 ^ 4 by decide, ← Nat.pow_add]
  exact Nat.pow_le_pow_right (by decide) (by decide)
theorem lim1 {W : Int} (h : -(16 * PI) ≤ W) (h' : W ≤ 16 * PI) : W.natAbs ≤ 2 ^ 2090 := by
  refine Nat.le_trans ?_ lim_le
  rw [← PI_nat]
  omega
theorem limP {W : Int} (h : -(16 * (PI * PI)) ≤ W) (h' : W ≤ 16 * (PI * PI)) : W.natAbs ≤ 2 ^ 1074 * 2 ^ 2090 := by
  refine Nat.le_trans ?_ (Nat.mul_le_mul_left _ lim_le)
  rw [← PI_nat, Nat.mul_left_comm, ← Int.natAbs_mul]
  omega
theorem Near.errG {v W D : Int} (h : Near v W D) (hD : 0 < D) (h1 : -(16 * (D * PI)) ≤ W) (h2 : W ≤ 16 * (D * PI)) : -(D * GI) ≤ W - D * v ∧ W - D * v ≤ D * GI := by
  have hg : 0 < D * GI := Int.mul_pos hD GI_pos
  have e : D * PI = 16777216 * (D * GI) := by rw [PI_eq]; grind
  have := h.err (J := 2 ^ 53) hD GI_pos (fun j hj => rep_grid hj) (by
    have c : ((2 ^ 53 : Nat) : Int) = 9007199254740992 := by decide
    rw [c]
    generalize D * GI = g at *
    omega)
  generalize D * GI = g at *
  omega
section
variable {x y z : UInt64} {v w u : Int}
theorem add_apx (hx : Fv x v) (hy : Fv y w) (h1 : -(16 * PI) ≤ v + w) (h2 : v + w ≤ 16 * PI) : ∃ r, Fv (Float64.add x y) r ∧ -GI ≤ r - (v + w) ∧ r - (v + w) ≤ GI := by
  obtain ⟨r, hr, hn⟩ := add_near hx hy (lim1 h1 h2)
  have := hn.errG (by decide) (by rw [Int.one_mul]; exact h1) (by rw [Int.one_mul]; exact h2)
  rw [Int.one_mul, Int.one_mul] at this
  exact ⟨r, hr, by omega, by omega⟩
theorem sub_apx (hx : Fv x v) (hy : Fv y w) (h1 : -(16 * PI) ≤ v - w) (h2 : v - w ≤ 16 * PI) : ∃ r, Fv (Float64.sub x y) r ∧ -GI ≤ r - (v - w) ∧ r - (v - w) ≤ GI := by
  rw [sub_eq]
  exact add_apx hx hy.neg h1 h2
theorem mul_apx (hx : Fv x v) (hy : Fv y w) (h1 : -(16 * (PI * PI)) ≤ v * w) (h2 : v * w ≤ 16 * (PI * PI)) : ∃ r, Fv (Float64.mul x y) r ∧ -(PI * GI) ≤ v * w - PI * r ∧ v * w - PI * r ≤ PI * GI := by
  obtain ⟨r, hr, hn⟩ := mul_near hx hy (limP h1 h2)
  have := hn.errG PI_pos h1 h2
  exact ⟨r, hr, this⟩
theorem fma_apx (hx : Fv x v) (hy : Fv y w) (hz : Fv z u) (h1 : -(16 * (PI * PI)) ≤ v * w + u * PI) (h2 : v * w + u * PI ≤ 16 * (PI * PI)) : ∃ r, Fv (Float64.fma x y z) r ∧ -(PI * GI) ≤ v * w + u * PI - PI * r ∧ v * w + u * PI - PI * r ≤ PI * GI := by
  obtain ⟨r, hr, hn⟩ := fma_near hx hy hz (limP h1 h2)
  have := hn.errG PI_pos h1 h2
  exact ⟨r, hr, this⟩
theorem div_apx (hx : Fv x v) (hy : Fv y w) (h0 : 0 < w) (h1 : -(16 * w) ≤ v) (h2 : v ≤ 16 * w) : ∃ r, Fv (Float64.div x y) r ∧ -(w * GI) ≤ v * PI - w * r ∧ v * PI - w * r ≤ w * GI := by
  have h3 : -(16 * (w * PI)) ≤ v * PI := by
    have := Int.mul_le_mul_of_nonneg_right h1 (Int.le_of_lt PI_pos)
    grind
  have h4 : v * PI ≤ 16 * (w * PI) := by
    have := Int.mul_le_mul_of_nonneg_right h2 (Int.le_of_lt PI_pos)
    grind
  obtain ⟨r, hr, hn⟩ := div_near hx hy h0 (by
    have a : v.natAbs ≤ 16 * w.natAbs := by omega
    refine Nat.le_trans (Nat.mul_le_mul_right _ a) ?_
    rw [Nat.mul_assoc, Nat.mul_left_comm]
    exact Nat.mul_le_mul_left _ lim_le)
  exact ⟨r, hr, hn.errG h0 h3 h4⟩
theorem sqrt_apx (hx : Fv x v) (h0 : 0 < v) (h1 : v ≤ 16 * PI) : ∃ r, Fv (Float64.sqrt x) r ∧ 0 ≤ r ∧ r ≤ 16 * PI ∧ 4 * (v * PI) ≤ (2 * r + GI) * (2 * r + GI) ∧ (GI ≤ 2 * r → (2 * r - GI) * (2 * r - GI) ≤ 4 * (v * PI)) := by
  obtain ⟨r, hr, hr0, up, down⟩ := sqrt_near hx h0
  have gp := GI_pos
  have pe := PI_eq
  have top : r ≤ 16 * PI := by
    rcases (by omega : r ≤ 16 * PI ∨ 16 * PI < r) with h | h
    · exact h
    · exfalso
      have h8 : Rep (8 * PI) := by
        have : 8 * PI = 134217728 * GI := by omega
        rw [this]; exact rep_grid (by decide)
      have a := down _ h8 (by omega) (by omega)
      have b : (24 * PI) * (24 * PI) ≤ (r + 8 * PI) * (r + 8 * PI) := Int.mul_self_le_mul_self (by omega) (by omega)
      have c := Int.mul_le_mul_of_nonneg_right h1 (Int.le_of_lt PI_pos)
      have d := Int.mul_pos PI_pos PI_pos
      grind
  refine ⟨r, hr, hr0, top, ?_, fun hg => ?_⟩
  · have e0 := Int.mul_ediv_add_emod r GI
    have m0 := Int.emod_nonneg r (Int.ne_of_gt gp)
    have m1 := Int.emod_lt_of_pos r gp
    have j0 : 0 ≤ r / GI := Int.ediv_nonneg hr0 (Int.le_of_lt gp)
    generalize r / GI = j at *
    generalize r % GI = m at *
    have hj : j ≤ 268435456 := by
      rcases (by omega : j ≤ 268435456 ∨ 268435457 ≤ j) with h | h
      · exact h
      · exfalso
        have := Int.mul_le_mul_of_nonneg_left h (Int.le_of_lt gp)
        omega
    have a := up ((j + 1) * GI) (rep_grid (by omega)) (by grind)
    refine Int.le_trans a (Int.mul_self_le_mul_self (by grind) (by grind))
  · have e0 := Int.mul_ediv_add_emod (r - 1) GI
    have m0 := Int.emod_nonneg (r - 1) (Int.ne_of_gt gp)
    have m1 := Int.emod_lt_of_pos (r - 1) gp
    have j0 : 0 ≤ (r - 1) / GI := Int.ediv_nonneg (by omega) (Int.le_of_lt gp)
    generalize (r - 1) / GI = j at *
    generalize (r - 1) % GI = m at *
    have hj : j ≤ 268435456 := by
      rcases (by omega : j ≤ 268435456 ∨ 268435457 ≤ j) with h | h
      · exact h
      · exfalso
        have := Int.mul_le_mul_of_nonneg_left h (Int.le_of_lt gp)
        omega
    have jg : 0 ≤ j * GI := Int.mul_nonneg j0 (Int.le_of_lt gp)
    have a := down (j * GI) (rep_grid (by omega)) jg (by grind)
    refine Int.le_trans (Int.mul_self_le_mul_self (by grind) (by grind)) a
/-- a product and what it leaves -/
theorem dl_apx (hx : Fv x v) (hy : Fv y w) (h1 : -(8 * (PI * PI)) ≤ v * w) (h2 : v * w ≤ 8 * (PI * PI)) :
    ∃ z e, Fv (dlMul x y).1 z ∧ Fv (dlMul x y).2 e ∧ -(PI * GI) ≤ v * w - PI * z ∧ v * w - PI * z ≤ PI * GI ∧ -(2 * GI) ≤ e ∧ e ≤ 2 * GI := by
  have pp := Int.mul_pos PI_pos PI_pos
  have pg := Int.mul_pos PI_pos GI_pos
  have pe : PI * PI = 16777216 * (PI * GI) := by rw [show PI * PI = PI * (16777216 * GI) from congrArg _ PI_eq]; grind
  obtain ⟨z, hz, a1, a2⟩ := mul_apx hx hy (by omega) (by omega)
  have en : -z * PI = -(PI * z) := by grind
  obtain ⟨e, he, b1, b2⟩ := fma_apx hx hy hz.neg (by rw [en]; omega) (by rw [en]; omega)
  rw [en] at b1 b2
  refine ⟨z, e, hz, he, a1, a2, ?_, ?_⟩
  · refine Int.le_of_mul_le_mul_left (a := PI) ?_ PI_pos
    rw [Int.mul_neg, Int.mul_left_comm]
    omega
  · refine Int.le_of_mul_le_mul_left (a := PI) ?_ PI_pos
    rw [Int.mul_left_comm]
    omega
theorem fs_apx (hx : Fv x v) (hy : Fv y w) (h1 : -(6 * PI) ≤ v) (h2 : v ≤ 6 * PI) (h3 : -(6 * PI) ≤ w) (h4 : w ≤ 6 * PI) :
    ∃ c d, Fv (dlFastSum x y).1 c ∧ Fv (dlFastSum x y).2 d ∧ -GI ≤ c - (v + w) ∧ c - (v + w) ≤ GI ∧ -(3 * GI) ≤ d ∧ d ≤ 3 * GI := by
  have gp := GI_pos
  have pe := PI_eq
  obtain ⟨c, hc, a1, a2⟩ := add_apx hx hy (by omega) (by omega)
  obtain ⟨t, ht, b1, b2⟩ := sub_apx hx hc (by omega) (by omega)
  obtain ⟨d, hd, d1, d2⟩ := add_apx ht hy (by omega) (by omega)
  exact ⟨c, d, hc, hd, a1, a2, by omega, by omega⟩
end
abbrev Tri := UInt64 × UInt64 × UInt64
def stp (st : Tri) (pr : UInt64 × UInt64) : Tri := ((dlFastSum st.1 pr.1).1, Float64.add st.2.1 pr.2, Float64.add st.2.2 (dlFastSum st.1 pr.1).2)
def st2 (x y : UInt64) : Tri := stp (stp (Float64.one, Float64.zero false, Float64.zero false) (dlMul x x)) (dlMul y y)
def tot (st : Tri) : UInt64 := Float64.add (Float64.sub st.1 Float64.one) (Float64.add st.2.1 st.2.2)
def core (x y : UInt64) : UInt64 :=
  Float64.add (Float64.sqrt (tot (st2 x y))) (Float64.div (tot (stp (st2 x y) (dlMul (Float64.neg (Float64.sqrt (tot (st2 x y)))) (Float64.sqrt (tot (st2 x y)))))) (Float64.mul (Float64.ofInt 2) (Float64.sqrt (tot (st2 x y)))))
theorem scaled_eq (a b big : UInt64) : scaledNorm [a, b] big = Float64.div (core (Float64.mul a (Float64.ldexp Float64.one (-(Float64.frexp big).2))) (Float64.mul b (Float64.ldexp Float64.one (-(Float64.frexp big).2)))) (Float64.ldexp Float64.one (-(Float64.frexp big).2)) := rfl
structure St (st : Tri) (c f q : Int) : Prop where
  c : Fv st.1 c
  f : Fv st.2.1 f
  q : Fv st.2.2 q
theorem fv_one : Fv Float64.one PI := ⟨false, _, one_lt, rfl, by rw [v_one]; rfl⟩
theorem fv_zero : Fv (Float64.zero false) 0 := ⟨false, 0, inf_pos, rfl, by rw [V_zero]; rfl⟩
theorem fv_two : Fv (Float64.ofInt 2) (2 * PI) := ⟨false, _, by decide, two, by
  rw [v_two, Nat.pow_succ]
  show 2 * ((2 ^ 1074 : Nat) : Int) = ((2 ^ 1074 * 2 : Nat) : Int)
  omega⟩
theorem stp_apx {st : Tri} {pr : UInt64 × UInt64} {c f q z e : Int} (S : St st c f q) (hz : Fv pr.1 z) (he : Fv pr.2 e) (c1 : -(6 * PI) ≤ c) (c2 : c ≤ 6 * PI) (z1 : -(6 * PI) ≤ z) (z2 : z ≤ 6 * PI) (f1 : -(100 * GI) ≤ f) (f2 : f ≤ 100 * GI) (q1 : -(100 * GI) ≤ q) (q2 : q ≤ 100 * GI) (e1 : -(2 * GI) ≤ e) (e2 : e ≤ 2 * GI) :
    ∃ c' f' q', St (stp st pr) c' f' q' ∧ -GI ≤ c' - (c + z) ∧ c' - (c + z) ≤ GI ∧ -(3 * GI) ≤ f' - f ∧ f' - f ≤ 3 * GI ∧ -(4 * GI) ≤ q' - q ∧ q' - q ≤ 4 * GI := by
  have gp := GI_pos
  have pe := PI_eq
  obtain ⟨c', d, hc, hd, a1, a2, d1, d2⟩ := fs_apx S.c hz c1 c2 z1 z2
  obtain ⟨f', hf, b1, b2⟩ := add_apx S.f he (by omega) (by omega)
  obtain ⟨q', hq, b3, b4⟩ := add_apx S.q hd (by omega) (by omega)
  exact ⟨c', f', q', ⟨hc, hf, hq⟩, a1, a2, by omega, by omega, by omega, by omega⟩
theorem tot_apx {st : Tri} {c f q : Int} (S : St st c f q) (c1 : -(6 * PI) ≤ c) (c2 : c ≤ 6 * PI) (f1 : -(100 * GI) ≤ f) (f2 : f ≤ 100 * GI) (q1 : -(100 * GI) ≤ q) (q2 : q ≤ 100 * GI) :
    ∃ a, Fv (tot st) a ∧ -(3 * GI) ≤ a - (c - PI + f + q) ∧ a - (c - PI + f + q) ≤ 3 * GI := by
  have gp := GI_pos
  have pe := PI_eq
  obtain ⟨s, hs, a1, a2⟩ := sub_apx S.c fv_one (by omega) (by omega)
  obtain ⟨t, ht, b1, b2⟩ := add_apx S.f S.q (by omega) (by omega)
  obtain ⟨a, ha, d1, d2⟩ := add_apx hs ht (by omega) (by omega)
  exact ⟨a, ha, by omega, by omega⟩
end Mine

open PySem
set_option Elab.async false
set_option maxRecDepth 100000
set_option maxHeartbeats 1000000
namespace Mine
open PySem.Float64 (infMag pack V_zero)
open PySem.Builtin.Math (dlFastSum dlMul scaledNorm maxMagnitude vectorNorm)
/-- a square's bounds, by its root's -/
theorem sq_in {X z P G : Int} (P0 : 0 < P) (G0 : 0 < G) (x0 : 0 ≤ X) (x1 : X ≤ P) (z1 : -(P * G) ≤ X * X - P * z) (z2 : X * X - P * z ≤ P * G) : -G ≤ z ∧ z ≤ P + G ∧ (P ≤ 2 * X → P - 4 * G ≤ 4 * z) := by
  have xx : 0 ≤ X * X := Int.mul_nonneg x0 x0
  have xp : X * X ≤ P * P := Int.mul_self_le_mul_self x0 x1
  refine ⟨?_, ?_, fun h => ?_⟩
  · refine Int.le_of_mul_le_mul_left (a := P) ?_ P0
    grind
  · refine Int.le_of_mul_le_mul_left (a := P) ?_ P0
    grind
  · have : P * P ≤ (2 * X) * (2 * X) := Int.mul_self_le_mul_self (Int.le_of_lt P0) h
    refine Int.le_of_mul_le_mul_left (a := P) ?_ P0
    grind
/-- the root's bounds -/
theorem root_in {a h P G : Int} (G0 : 0 < G) (pe : P = 16777216 * G) (a0 : P - 84 * G ≤ 4 * a) (a1 : a ≤ 2 * P + 21 * G) (h0 : 0 ≤ h) (u : 4 * (a * P) ≤ (2 * h + G) * (2 * h + G)) (d : G ≤ 2 * h → (2 * h - G) * (2 * h - G) ≤ 4 * (a * P)) :
    3 * P ≤ 8 * h ∧ h ≤ 2 * P := by
  have P0 : 0 < P := by omega
  have GG := Int.mul_pos G0 G0
  constructor
  · rcases (by omega : 3 * P ≤ 8 * h ∨ 8 * h < 3 * P) with x | x
    · exact x
    · exfalso
      have h1 : (4 * (2 * h + G)) * (4 * (2 * h + G)) ≤ (3 * P + 4 * G) * (3 * P + 4 * G) := Int.mul_self_le_mul_self (by omega) (by omega)
      have h2 := Int.mul_le_mul_of_nonneg_right a0 (Int.le_of_lt P0)
      subst pe
      grind
  · rcases (by omega : h ≤ 2 * P ∨ 2 * P < h) with x | x
    · exact x
    · exfalso
      have h1 : (4 * P - G) * (4 * P - G) ≤ (2 * h - G) * (2 * h - G) := Int.mul_self_le_mul_self (by omega) (by omega)
      have h2 := Int.mul_le_mul_of_nonneg_right a1 (Int.le_of_lt P0)
      have h3 := d (by omega)
      subst pe
      grind
structure Core (X Y z1 z2 a h z3 xx m2 dv g : Int) : Prop where
  z1l : -(PI * GI) ≤ X * X - PI * z1
  z1u : X * X - PI * z1 ≤ PI * GI
  z2l : -(PI * GI) ≤ Y * Y - PI * z2
  z2u : Y * Y - PI * z2 ≤ PI * GI
  al : -(19 * GI) ≤ a - (z1 + z2)
  au : a - (z1 + z2) ≤ 19 * GI
  hl : 3 * PI ≤ 8 * h
  hu : h ≤ 2 * PI
  ru : 4 * (a * PI) ≤ (2 * h + GI) * (2 * h + GI)
  rl : (2 * h - GI) * (2 * h - GI) ≤ 4 * (a * PI)
  z3l : -(PI * GI) ≤ -(h * h) - PI * z3
  z3u : -(h * h) - PI * z3 ≤ PI * GI
  xl : -(27 * GI) ≤ xx - (z1 + z2 + z3)
  xu : xx - (z1 + z2 + z3) ≤ 27 * GI
  ml : -GI ≤ m2 - 2 * h
  mu : m2 - 2 * h ≤ GI
  dl : -(m2 * GI) ≤ xx * PI - m2 * dv
  du : xx * PI - m2 * dv ≤ m2 * GI
  gl : -GI ≤ g - (h + dv)
  gu : g - (h + dv) ≤ GI
theorem core_apx {x y : UInt64} {X Y : Int} (hx : Fv x X) (hy : Fv y Y) (x0 : 0 ≤ X) (x1 : X ≤ PI) (y0 : 0 ≤ Y) (y1 : Y ≤ PI) (big : PI ≤ 2 * X ∨ PI ≤ 2 * Y) :
    ∃ z1 z2 a h z3 xx m2 dv g, Fv (core x y) g ∧ Core X Y z1 z2 a h z3 xx m2 dv g := by
  have gp := GI_pos
  have pp := PI_pos
  have pe := PI_eq
  have xs : X * X ≤ PI * PI := Int.mul_self_le_mul_self x0 x1
  have ys : Y * Y ≤ PI * PI := Int.mul_self_le_mul_self y0 y1
  have xn : 0 ≤ X * X := Int.mul_nonneg x0 x0
  have yn : 0 ≤ Y * Y := Int.mul_nonneg y0 y0
  have pn := Int.mul_pos pp pp
  obtain ⟨z1, e1, hz1, he1, a1, a2, a3, a4⟩ := dl_apx hx hx (by omega) (by omega)
  obtain ⟨z2, e2, hz2, he2, b1, b2, b3, b4⟩ := dl_apx hy hy (by omega) (by omega)
  obtain ⟨q1, q2, q3⟩ := sq_in pp gp x0 x1 a1 a2
  obtain ⟨q4, q5, q6⟩ := sq_in pp gp y0 y1 b1 b2
  obtain ⟨c', f', q', S1, k1, k2, k3, k4, k5, k6⟩ := stp_apx (st := (Float64.one, Float64.zero false, Float64.zero false)) ⟨fv_one, fv_zero, fv_zero⟩ hz1 he1 (by omega) (by omega) (by omega) (by omega) (by omega) (by omega) (by omega) (by omega) a3 a4
  obtain ⟨c2, f2, q2', S2, l1, l2, l3, l4, l5, l6⟩ := stp_apx S1 hz2 he2 (by omega) (by omega) (by omega) (by omega) (by omega) (by omega) (by omega) (by omega) b3 b4
  obtain ⟨a, ha, m1, m2⟩ := tot_apx S2 (by omega) (by omega) (by omega) (by omega) (by omega) (by omega)
  have a0 : PI - 84 * GI ≤ 4 * a := by
    rcases big with h | h
    · have := q3 h; omega
    · have := q6 h; omega
  obtain ⟨h, hh, h0, h1, r1, r2⟩ := sqrt_apx ha (by omega) (by omega)
  obtain ⟨t1, t2⟩ := root_in gp pe a0 (by omega) h0 r1 r2
  have hs : h * h ≤ (2 * PI) * (2 * PI) := Int.mul_self_le_mul_self h0 t2
  have hs' : (2 * PI) * (2 * PI) = 4 * (PI * PI) := by grind
  have hn : 0 ≤ h * h := Int.mul_nonneg h0 h0
  have en : -h * h = -(h * h) := by grind
  obtain ⟨z3, e3, hz3, he3, n1, n2, n3, n4⟩ := dl_apx hh.neg hh (by rw [en]; omega) (by rw [en]; omega)
  rw [en] at n1 n2
  have z3b : -(5 * PI) ≤ z3 ∧ z3 ≤ GI := by
    constructor
    · refine Int.le_of_mul_le_mul_left (a := PI) ?_ pp
      have := Int.mul_le_mul_of_nonneg_left (show GI ≤ PI by omega) (Int.le_of_lt pp)
      grind
    · refine Int.le_of_mul_le_mul_left (a := PI) ?_ pp
      grind
  obtain ⟨c3, f3, q3', S3, o1, o2, o3, o4, o5, o6⟩ := stp_apx S2 hz3 he3 (by omega) (by omega) (by omega) (by omega) (by omega) (by omega) (by omega) (by omega) n3 n4
  obtain ⟨xx, hxx, p1, p2⟩ := tot_apx S3 (by omega) (by omega) (by omega) (by omega) (by omega) (by omega)
  have e2h : 2 * PI * h = PI * (2 * h) := by grind
  have ph : PI * h ≤ PI * (2 * PI) := Int.mul_le_mul_of_nonneg_left t2 (Int.le_of_lt pp)
  have ph0 : 0 ≤ PI * h := Int.mul_nonneg (Int.le_of_lt pp) h0
  obtain ⟨m, hm, s1, s2⟩ := mul_apx fv_two hh (by grind) (by grind)
  rw [e2h] at s1 s2
  have ml : -GI ≤ m - 2 * h := by
    refine Int.le_of_mul_le_mul_left (a := PI) ?_ pp
    grind
  have mu : m - 2 * h ≤ GI := by
    refine Int.le_of_mul_le_mul_left (a := PI) ?_ pp
    grind
  obtain ⟨dv, hdv, d1, d2⟩ := div_apx hxx hm (by omega) (by omega) (by omega)
  have dvb : -(16 * PI) ≤ h + dv ∧ h + dv ≤ 16 * PI := by
    have m0 : 0 < m := by omega
    have mG : m * GI ≤ m * PI := Int.mul_le_mul_of_nonneg_left (by omega) (Int.le_of_lt m0)
    have x3 : xx ≤ 3 * m := by omega
    have x4 : -(7 * m) ≤ xx := by omega
    have x5 := Int.mul_le_mul_of_nonneg_right x3 (Int.le_of_lt pp)
    have x6 := Int.mul_le_mul_of_nonneg_right x4 (Int.le_of_lt pp)
    have y1 : dv ≤ 4 * PI := by
      refine Int.le_of_mul_le_mul_left (a := m) ?_ m0
      grind
    have y2 : -(8 * PI) ≤ dv := by
      refine Int.le_of_mul_le_mul_left (a := m) ?_ m0
      grind
    omega
  obtain ⟨g, hg, g1, g2⟩ := add_apx hh hdv dvb.1 dvb.2
  exact ⟨z1, z2, a, h, z3, xx, m, dv, g, hg, ⟨a1, a2, b1, b2, by omega, by omega, t1, t2, r1, r2 (by omega), n1, n2, by omega, by omega, ml, mu, d1, d2, g1, g2⟩⟩
end Mine

open PySem
set_option Elab.async false
set_option maxRecDepth 100000
set_option maxHeartbeats 1000000
namespace Mine
open PySem.Float64 (infMag pack V_zero)
open PySem.Builtin.Math (dlFastSum dlMul scaledNorm maxMagnitude vectorNorm)
section
variable {X Y z1 z2 a h z3 xx m2 dv g : Int}
theorem core_pos (x0 : 0 ≤ X) (y0 : 0 ≤ Y) (x1 : X ≤ PI) (y1 : Y ≤ PI) (big : PI ≤ 2 * X ∨ PI ≤ 2 * Y) (C : Core X Y z1 z2 a h z3 xx m2 dv g) : PI ≤ 16 * g ∧ g ≤ 20 * PI := by
  obtain ⟨c1, c2, c3, c4, c5, c6, c7, c8, c9, c10, c11, c12, c13, c14, c15, c16, c17, c18, c19, c20⟩ := C
  have gp := GI_pos
  have pp := PI_pos
  have pe := PI_eq
  generalize GI = G at *
  generalize PI = P at *
  have xs : 0 ≤ X * X := Int.mul_nonneg x0 x0
  have ys : 0 ≤ Y * Y := Int.mul_nonneg y0 y0
  have big4 : P * P ≤ 4 * (X * X + Y * Y) := by
    rcases big with b | b
    · have := Int.mul_self_le_mul_self (Int.le_of_lt pp) b
      grind
    · have := Int.mul_self_le_mul_self (Int.le_of_lt pp) b
      grind
  have m0 : 0 < m2 := by omega
  have h0 : 0 ≤ h := by omega
  have hh : 9 * (P * P) ≤ 64 * (h * h) := by
    have := Int.mul_self_le_mul_self (show 0 ≤ 3 * P by omega) c7
    grind
  have hh2 : h * h ≤ 4 * (P * P) := by
    have := Int.mul_self_le_mul_self h0 c8
    grind
  have mh : 2 * (h * h) - G * h ≤ m2 * h := by
    have := Int.mul_le_mul_of_nonneg_right (show 2 * h - G ≤ m2 by omega) h0
    grind
  have mh2 : m2 * h ≤ 2 * (h * h) + G * h := by
    have := Int.mul_le_mul_of_nonneg_right (show m2 ≤ 2 * h + G by omega) h0
    grind
  have Gh : G * h ≤ 2 * (P * G) := by
    have := Int.mul_le_mul_of_nonneg_left c8 (Int.le_of_lt gp)
    grind
  have Gh0 : 0 ≤ G * h := Int.mul_nonneg (Int.le_of_lt gp) h0
  have mG : m2 * G ≤ 5 * (P * G) := by
    have := Int.mul_le_mul_of_nonneg_right (show m2 ≤ 5 * P by omega) (Int.le_of_lt gp)
    grind
  have mG0 : 0 ≤ m2 * G := Int.mul_nonneg (Int.le_of_lt m0) (Int.le_of_lt gp)
  have px := Int.mul_le_mul_of_nonneg_left c13 (Int.le_of_lt pp)
  have pz : P * z1 + P * z2 + P * z3 ≥ X * X + Y * Y - h * h - 3 * (P * G) := by omega
  have pxx : xx * P ≥ X * X + Y * Y - h * h - 30 * (P * G) := by grind
  have sum : m2 * (h + dv) ≥ h * h + X * X + Y * Y - 37 * (P * G) := by grind
  have PP : P * P = 16777216 * (P * G) := by
    rw [show P * P = P * (16777216 * G) from congrArg _ pe]; grind
  have PG : 0 < P * G := Int.mul_pos pp gp
  have low : P + 16 * G ≤ 16 * (h + dv) := by
    rcases (by omega : P + 16 * G ≤ 16 * (h + dv) ∨ 16 * (h + dv) < P + 16 * G) with b | b
    · exact b
    · exfalso
      have b1 := Int.mul_le_mul_of_nonneg_left (Int.le_of_lt b) (Int.le_of_lt m0)
      have b2 : m2 * P ≤ 4 * (P * P) + P * G := by
        have := Int.mul_le_mul_of_nonneg_right (show m2 ≤ 4 * P + G by omega) (Int.le_of_lt pp)
        grind
      have b3 : m2 * (16 * (h + dv)) = 16 * (m2 * (h + dv)) := by grind
      have b4 : m2 * (P + 16 * G) = m2 * P + 16 * (m2 * G) := by grind
      omega
  have high : h + dv ≤ 16 * P := by
    have x3 : xx ≤ 3 * m2 := by
      have e1 : z1 ≤ P + G := (sq_in pp gp x0 x1 c1 c2).2.1
      have e2 : z2 ≤ P + G := (sq_in pp gp y0 y1 c3 c4).2.1
      have e3 : z3 ≤ G := by
        refine Int.le_of_mul_le_mul_left (a := P) ?_ pp
        grind
      omega
    have x5 := Int.mul_le_mul_of_nonneg_right x3 (Int.le_of_lt pp)
    have mGP : m2 * G ≤ m2 * P := Int.mul_le_mul_of_nonneg_left (by omega) (Int.le_of_lt m0)
    have : dv ≤ 4 * P := by
      refine Int.le_of_mul_le_mul_left (a := m2) ?_ m0
      grind
    omega
  constructor <;> omega
theorem core_diag (x0 : PI ≤ 2 * X) (x1 : X ≤ PI) (C : Core X X z1 z2 a h z3 xx m2 dv g) : 1400 * X < 1000 * g ∧ 1000 * g < 1430 * X := by
  obtain ⟨c1, c2, c3, c4, c5, c6, c7, c8, c9, c10, c11, c12, c13, c14, c15, c16, c17, c18, c19, c20⟩ := C
  have gp := GI_pos
  have pp := PI_pos
  have pe := PI_eq
  generalize GI = G at *
  generalize PI = P at *
  have m0 : 0 < m2 := by omega
  have h0 : 0 ≤ h := by omega
  have PP : P * P = 16777216 * (P * G) := by
    rw [show P * P = P * (16777216 * G) from congrArg _ pe]; grind
  have GP : P * G = 16777216 * (G * G) := by
    rw [pe]; grind
  have PG : 0 < P * G := Int.mul_pos pp gp
  have GG : 0 < G * G := Int.mul_pos gp gp
  have XX : P * P ≤ 4 * (X * X) := by
    have := Int.mul_self_le_mul_self (Int.le_of_lt pp) x0
    grind
  have XG : X * G ≤ P * G := Int.mul_le_mul_of_nonneg_right x1 (Int.le_of_lt gp)
  have Gh : G * h ≤ 2 * (P * G) := by
    have := Int.mul_le_mul_of_nonneg_left c8 (Int.le_of_lt gp)
    grind
  have ap1 := Int.mul_le_mul_of_nonneg_right c5 (Int.le_of_lt pp)
  have ap2 := Int.mul_le_mul_of_nonneg_right c6 (Int.le_of_lt pp)
  have al : 2 * (X * X) - 21 * (P * G) ≤ a * P := by grind
  have au : a * P ≤ 2 * (X * X) + 21 * (P * G) := by grind
  have e1 : (2 * h + G) * (2 * h + G) = 4 * (h * h) + 4 * (G * h) + G * G := by grind
  have e2 : (2 * h - G) * (2 * h - G) = 4 * (h * h) - 4 * (G * h) + G * G := by grind
  rw [e1] at c9
  rw [e2] at c10
  have hl : 1410 * X ≤ 1000 * h := by
    rcases (by omega : 1410 * X ≤ 1000 * h ∨ 1000 * h < 1410 * X) with b | b
    · exact b
    · exfalso
      have := Int.mul_self_le_mul_self (show 0 ≤ 1000 * h by omega) (Int.le_of_lt b)
      have e3 : 1000 * h * (1000 * h) = 1000000 * (h * h) := by grind
      have e4 : 1410 * X * (1410 * X) = 1988100 * (X * X) := by grind
      omega
  have hu : 1000 * h ≤ 1420 * X := by
    rcases (by omega : 1000 * h ≤ 1420 * X ∨ 1420 * X < 1000 * h) with b | b
    · exact b
    · exfalso
      have := Int.mul_self_le_mul_self (show 0 ≤ 1420 * X by omega) (Int.le_of_lt b)
      have e3 : 1000 * h * (1000 * h) = 1000000 * (h * h) := by grind
      have e4 : 1420 * X * (1420 * X) = 2016400 * (X * X) := by grind
      omega
  have px1 := Int.mul_le_mul_of_nonneg_left c13 (Int.le_of_lt pp)
  have px2 := Int.mul_le_mul_of_nonneg_left c14 (Int.le_of_lt pp)
  have xl : -(54 * G) ≤ xx := by
    refine Int.le_of_mul_le_mul_left (a := P) ?_ pp
    grind
  have xu : xx ≤ 54 * G := by
    refine Int.le_of_mul_le_mul_left (a := P) ?_ pp
    grind
  have mP : P * G ≤ 2 * (m2 * G) := by
    have := Int.mul_le_mul_of_nonneg_right (show P ≤ 2 * m2 by omega) (Int.le_of_lt gp)
    grind
  have xp1 := Int.mul_le_mul_of_nonneg_right xl (Int.le_of_lt pp)
  have xp2 := Int.mul_le_mul_of_nonneg_right xu (Int.le_of_lt pp)
  have dl : -(109 * G) ≤ dv := by
    refine Int.le_of_mul_le_mul_left (a := m2) ?_ m0
    grind
  have du : dv ≤ 109 * G := by
    refine Int.le_of_mul_le_mul_left (a := m2) ?_ m0
    grind
  constructor <;> omega
end
end Mine

open PySem
set_option Elab.async false
set_option maxRecDepth 100000
set_option maxHeartbeats 1000000
namespace Mine
open PySem.Float64 (Right V infMag pack V_zero V_lt sgn)
open PySem.Builtin.Math (dlFastSum dlMul scaledNorm maxMagnitude vectorNorm)
/-- a fine step: 2 ** -106 of one -/
def UI : Int := ((2 ^ 968 : Nat) : Int)
theorem UI_pos : 0 < UI := Int.ofNat_lt.mpr (Nat.two_pow_pos _)
theorem PI_UI : PI = 81129638414606681695789005144064 * UI := by
  unfold PI UI
  rw [show (1074 : Nat) = 106 + 968 by decide, Nat.pow_add, Int.natCast_mul]
  rfl
theorem repU {n j : Int} (s : Nat) (hs : s ≤ 100) (hn : n = j * ((2 ^ s : Nat) : Int)) (hj : j.natAbs ≤ 2 ^ 53) : Rep (n * UI) := by
  subst hn
  unfold UI
  rw [Int.mul_assoc, ← Int.natCast_mul, ← Nat.pow_add]
  exact rep_mul hj (by omega)
theorem rep0 {n : Int} (h1 : -9007199254740992 ≤ n) (h2 : n ≤ 9007199254740992) : Rep (n * UI) := repU (j := n) 0 (by decide) (by simp) (by omega)
theorem rep53 {n j : Int} (hn : n = j * 9007199254740992) (h1 : -9007199254740992 ≤ j) (h2 : j ≤ 9007199254740992) : Rep (n * UI) := repU (j := j) 53 (by decide) hn (by omega)
theorem rep54 {n j : Int} (hn : n = j * 18014398509481984) (h1 : -9007199254740992 ≤ j) (h2 : j ≤ 9007199254740992) : Rep (n * UI) := repU (j := j) 54 (by decide) hn (by omega)
theorem ubound {n : Int} (h1 : -1298074214633706907132624082305024 ≤ n) (h2 : n ≤ 1298074214633706907132624082305024) : -(16 * PI) ≤ n * UI ∧ n * UI ≤ 16 * PI := by
  have a := Int.mul_le_mul_of_nonneg_right h1 (Int.le_of_lt UI_pos)
  have b := Int.mul_le_mul_of_nonneg_right h2 (Int.le_of_lt UI_pos)
  rw [PI_UI]
  constructor <;> omega
/-- the step cancelled -/
theorem uc {a b : Int} (h : a * UI ≤ b * UI) : a ≤ b := Int.le_of_mul_le_mul_right h UI_pos
theorem uc' {a b : Int} (h : a ≤ b) : a * UI ≤ b * UI := Int.mul_le_mul_of_nonneg_right h (Int.le_of_lt UI_pos)
section
variable {x y : UInt64} {n m k : Int}
theorem addU (hx : Fv x (n * UI)) (hy : Fv y (m * UI)) (hk : k = n + m) (hr : Rep (k * UI)) (b1 : -1298074214633706907132624082305024 ≤ k) (b2 : k ≤ 1298074214633706907132624082305024) : Fv (Float64.add x y) (k * UI) := by
  have e : n * UI + m * UI = k * UI := by rw [hk, Int.add_mul]
  have b := ubound b1 b2
  obtain ⟨r, h, hn⟩ := add_near hx hy (by rw [e]; exact lim1 b.1 b.2)
  have := hn.exact (by decide) hr (by rw [e, Int.one_mul])
  exact this ▸ h
theorem subU (hx : Fv x (n * UI)) (hy : Fv y (m * UI)) (hk : k = n - m) (hr : Rep (k * UI)) (b1 : -1298074214633706907132624082305024 ≤ k) (b2 : k ≤ 1298074214633706907132624082305024) : Fv (Float64.sub x y) (k * UI) := by
  rw [sub_eq]
  have : Fv (Float64.neg y) (-m * UI) := by have := hy.neg; rwa [← Int.neg_mul] at this
  exact addU hx this (by omega) hr b1 b2
theorem addUn (hx : Fv x (n * UI)) (hy : Fv y (m * UI)) (hk : k = n + m) (b1 : -1298074214633706907132624082305024 ≤ k) (b2 : k ≤ 1298074214633706907132624082305024) : ∃ r, Fv (Float64.add x y) r ∧ Near r (k * UI) 1 := by
  have e : n * UI + m * UI = k * UI := by rw [hk, Int.add_mul]
  have b := ubound b1 b2
  have := add_near hx hy (by rw [e]; exact lim1 b.1 b.2)
  rwa [e] at this
end
theorem Near.div {v W D : Int} (h : Near v (D * W) D) (hD : 0 < D) : Near v W 1 := by
  refine ⟨h.1, fun k hk => ?_⟩
  have := h.2 k hk
  rw [← Int.mul_sub, ← Int.mul_sub, Int.natAbs_mul, Int.natAbs_mul] at this
  rw [Int.one_mul, Int.one_mul]
  exact Nat.le_of_mul_le_mul_left this (by omega)
theorem Near.leU {v W n : Int} (h : Near v (W * UI) 1) (hr : Rep (n * UI)) (hw : W ≤ n) : v ≤ n * UI := h.le (by decide) hr (by rw [Int.one_mul]; exact uc' hw)
theorem Near.geU {v W n : Int} (h : Near v (W * UI) 1) (hr : Rep (n * UI)) (hw : n ≤ W) : n * UI ≤ v := h.ge (by decide) hr (by rw [Int.one_mul]; exact uc' hw)
theorem Near.errU {v W : Int} (h : Near v W 1) (s : Nat) (hs : s ≤ 100) (h1 : -((9007199254740992 * ((2 ^ s : Nat) : Int) - 1) * UI) ≤ W) (h2 : W ≤ (9007199254740992 * ((2 ^ s : Nat) : Int) - 1) * UI) :
    -(((2 ^ s : Nat) : Int) * UI) ≤ 2 * (W - v) ∧ 2 * (W - v) ≤ ((2 ^ s : Nat) : Int) * UI := by
  have g0 : (0 : Int) < ((2 ^ s : Nat) : Int) * UI := Int.mul_pos (Int.ofNat_lt.mpr (Nat.two_pow_pos _)) UI_pos
  have e := h.err (J := 2 ^ 53) (by decide) g0 (fun j hj => by rw [← Int.mul_assoc]; exact repU s hs rfl hj) (by
    have c : ((2 ^ 53 : Nat) : Int) = 9007199254740992 := by decide
    rw [c, Int.one_mul]
    have up := UI_pos
    rw [Int.sub_mul, Int.mul_assoc] at h1 h2
    generalize ((2 ^ s : Nat) : Int) * UI = g at *
    omega)
  rw [Int.one_mul, Int.one_mul] at e
  exact e
theorem Rep.dvdU {v : Int} (h : Rep v) {n : Int} (s : Nat) (hs : n = 4503599627370496 * ((2 ^ s : Nat) : Int)) (hn : n * UI ≤ v) : ∃ j : Int, v = (j * ((2 ^ s : Nat) : Int)) * UI := by
  have e : ∀ c : Int, c * ((2 ^ (s + 968) : Nat) : Int) = c * ((2 ^ s : Nat) : Int) * UI := fun c => by
    unfold UI
    rw [Nat.pow_add, Int.natCast_mul, Int.mul_assoc]
  obtain ⟨j, hj⟩ := h.dvd (c := s + 968) (by
    have a : (4503599627370496 : Int) * ((2 ^ (s + 968) : Nat) : Int) ≤ v := by rw [e, ← hs]; exact hn
    have b : (0 : Int) ≤ ((2 ^ (s + 968) : Nat) : Int) := Int.natCast_nonneg _
    have c : (2 : Nat) ^ 52 = 4503599627370496 := by decide
    rw [c]
    omega)
  exact ⟨j, by rw [hj, e]⟩
theorem Fv.inj {f g : UInt64} {v : Int} (h : Fv f v) (h' : Fv g v) (h0 : v ≠ 0) : f = g := by
  obtain ⟨a, t, ht, rfl, rfl⟩ := h
  obtain ⟨b, u, hu, rfl, e⟩ := h'
  have e1 : V t = V u := by have := congrArg Int.natAbs e; rwa [sgn_nat, sgn_nat] at this
  have e2 := v_inj e1
  subst e2
  have hv : V t ≠ 0 := fun z => by rw [z, sgn_zero] at h0; exact h0 rfl
  cases a <;> cases b
  · rfl
  · exfalso; unfold sgn at e; simp at e; omega
  · exfalso; unfold sgn at e; simp at e; omega
  · rfl
theorem right_flip {r r' : UInt64} {a : Bool} {W D : Nat} (hD : 0 < D) (h : Right r a W D) (h' : Right r' (!a) W D) : r' = Float64.neg r := by
  obtain ⟨t, rfl, ht, q⟩ := h
  rw [neg_pack ht]
  exact right_one hD hD h' ⟨t, rfl, ht, q⟩ rfl
theorem mul_neg_l {x y : UInt64} (hx : Fin' x) (hy : Fin' y) : Float64.mul (Float64.neg x) y = Float64.neg (Float64.mul x y) := by
  obtain ⟨a, t, ht, rfl⟩ := hx
  obtain ⟨b, u, hu, rfl⟩ := hy
  rw [neg_pack (Nat.le_of_lt ht)]
  refine right_flip (Nat.two_pow_pos _) (mul_pack (a := a) (b := b) ht hu) ?_
  have := mul_pack (a := !a) (b := b) ht hu
  have e : ((!a) != b) = !(a != b) := by cases a <;> cases b <;> rfl
  rwa [e] at this
/-- the square, split in two -/
theorem sq_exact {x : UInt64} {q : Int} (hx : Fv x (q * 9007199254740992 * UI)) (q0 : 4503599627370496 ≤ q) (q1 : q < 9007199254740992) :
    ∃ Z k : Int, Fv (dlMul x x).1 (Z * UI) ∧ Fv (dlMul x x).2 ((q * q - Z) * UI) ∧ Z = k * 4503599627370496 ∧ 20282409603651670423947251286016 ≤ Z ∧ Z ≤ 81129638414606681695789005144064 - 9007199254740992 ∧ -4503599627370496 ≤ q * q - Z ∧ q * q - Z ≤ 4503599627370496 := by
  have up := UI_pos
  have qq1 : 20282409603651670423947251286016 ≤ q * q := by have := Int.mul_self_le_mul_self (show (0 : Int) ≤ 4503599627370496 by decide) q0; omega
  have qq2 : q * q ≤ 81129638414606681695789005144064 - 18014398509481984 + 1 := by have := Int.mul_self_le_mul_self (show 0 ≤ q by omega) (show q ≤ 9007199254740992 - 1 by omega); omega
  have ew : q * 9007199254740992 * UI * (q * 9007199254740992 * UI) = PI * (q * q * UI) := by rw [PI_UI]; grind
  have b := ubound (n := q * q) (by omega) (by omega)
  obtain ⟨r, hr, hn⟩ := mul_near hx hx (by
    rw [ew]
    refine limP ?_ ?_
    · have := Int.mul_le_mul_of_nonneg_left b.1 (Int.le_of_lt PI_pos); grind
    · have := Int.mul_le_mul_of_nonneg_left b.2 (Int.le_of_lt PI_pos); grind)
  rw [ew] at hn
  have hn1 := hn.div PI_pos
  have g1 := hn1.geU (n := 20282409603651670423947251286016) (rep53 (j := 2251799813685248) (by decide) (by decide) (by decide)) qq1
  have g2 := hn1.leU (n := 81129638414606681695789005144064 - 9007199254740992) (rep53 (j := 9007199254740992 - 1) (by decide) (by decide) (by decide)) (by omega)
  obtain ⟨j, hj⟩ := hn1.1.dvdU (n := 20282409603651670423947251286016) 52 (by decide) g1
  have c52 : ((2 ^ 52 : Nat) : Int) = 4503599627370496 := by decide
  have c53 : ((2 ^ 53 : Nat) : Int) = 9007199254740992 := by decide
  have er := hn1.errU 53 (by decide) (by rw [c53, ← Int.neg_mul]; exact uc' (by omega)) (by rw [c53]; exact uc' (by omega))
  rw [c53] at er
  rw [c52] at hj
  subst hj
  generalize hZ : j * 4503599627370496 = Z at *
  have z1 : 20282409603651670423947251286016 ≤ Z := uc g1
  have z2 : Z ≤ 81129638414606681695789005144064 - 9007199254740992 := uc g2
  have e1 : -9007199254740992 ≤ 2 * (q * q - Z) := uc (by have := er.1; grind)
  have e2 : 2 * (q * q - Z) ≤ 9007199254740992 := uc (by have := er.2; grind)
  have e3 : q * 9007199254740992 * UI * (q * 9007199254740992 * UI) + -(Z * UI) * PI = PI * ((q * q - Z) * UI) := by rw [PI_UI]; grind
  have b2 := ubound (n := q * q - Z) (by omega) (by omega)
  obtain ⟨e, he, hne⟩ := fma_near hx hx hr.neg (by
    rw [e3]
    refine limP ?_ ?_
    · have := Int.mul_le_mul_of_nonneg_left b2.1 (Int.le_of_lt PI_pos); grind
    · have := Int.mul_le_mul_of_nonneg_left b2.2 (Int.le_of_lt PI_pos); grind)
  rw [e3] at hne
  have := (hne.div PI_pos).exact (by decide) (rep0 (n := q * q - Z) (by omega) (by omega)) (by rw [Int.one_mul])
  subst this
  exact ⟨Z, j, hr, he, hZ.symm, z1, z2, by omega, by omega⟩
/-- what is nought adds nothing -/
theorem zero_step {st : Tri} {pr : UInt64 × UInt64} {c f q : Int} (S : St st c f q) (hz : Fv pr.1 0) (he : Fv pr.2 0) (c1 : -(16 * PI) ≤ c) (c2 : c ≤ 16 * PI) (f1 : -(16 * PI) ≤ f) (f2 : f ≤ 16 * PI) (q1 : -(16 * PI) ≤ q) (q2 : q ≤ 16 * PI) : St (stp st pr) c f q := by
  have ex : ∀ {x y : UInt64} {v : Int}, Fv x v → Fv y 0 → -(16 * PI) ≤ v → v ≤ 16 * PI → Fv (Float64.add x y) v := fun hx hy b1 b2 => by
    obtain ⟨r, hr, hn⟩ := add_near hx hy (by rw [Int.add_zero]; exact lim1 b1 b2)
    have := hn.exact (by decide) hx.rep (by rw [Int.add_zero, Int.one_mul])
    exact this ▸ hr
  have hc : Fv (dlFastSum st.1 pr.1).1 c := ex S.c hz c1 c2
  have hs : Fv (Float64.sub st.1 (dlFastSum st.1 pr.1).1) 0 := by
    obtain ⟨r, hr, hn⟩ := sub_near S.c hc (by rw [Int.sub_self]; decide)
    have := hn.exact (by decide) rep_zero (by rw [Int.sub_self, Int.one_mul])
    exact this ▸ hr
  have hd : Fv (dlFastSum st.1 pr.1).2 0 := ex hs hz (by have := PI_pos; omega) (by have := PI_pos; omega)
  exact ⟨hc, ex S.f he f1 f2, ex S.q hd q1 q2⟩
/-- the square onto one -/
theorem one_step {st : Tri} {pr : UInt64 × UInt64} {Z k E : Int} (S : St st PI 0 0) (hz : Fv pr.1 (Z * UI)) (he : Fv pr.2 (E * UI)) (hk : Z = k * 4503599627370496) (z1 : 20282409603651670423947251286016 ≤ Z) (z2 : Z ≤ 81129638414606681695789005144064 - 9007199254740992) (e1 : -4503599627370496 ≤ E) (e2 : E ≤ 4503599627370496) :
    ∃ C j : Int, St (stp st pr) (C * UI) (E * UI) ((81129638414606681695789005144064 + Z - C) * UI) ∧ C = j * 18014398509481984 ∧ 81129638414606681695789005144064 ≤ C ∧ C ≤ 162259276829213363391578010288128 ∧ -9007199254740992 ≤ 81129638414606681695789005144064 + Z - C ∧ 81129638414606681695789005144064 + Z - C ≤ 9007199254740992 := by
  have hone : Fv st.1 (81129638414606681695789005144064 * UI) := by have := S.c; rwa [PI_UI] at this
  have z00 : (0 : Int) = 0 * UI := (Int.zero_mul _).symm
  obtain ⟨r, hr, hn⟩ := addUn (k := 81129638414606681695789005144064 + Z) hone hz rfl (by omega) (by omega)
  have g1 := hn.geU (n := 81129638414606681695789005144064) (rep54 (j := 4503599627370496) (by decide) (by decide) (by decide)) (by omega)
  have g2 := hn.leU (n := 162259276829213363391578010288128) (rep54 (j := 9007199254740992) (by decide) (by decide) (by decide)) (by omega)
  obtain ⟨j, hj⟩ := hn.1.dvdU (n := 81129638414606681695789005144064) 54 (by decide) g1
  have c54 : ((2 ^ 54 : Nat) : Int) = 18014398509481984 := by decide
  have er := hn.errU 54 (by decide) (by rw [c54, ← Int.neg_mul]; exact uc' (by omega)) (by rw [c54]; exact uc' (by omega))
  rw [c54] at er hj
  subst hj
  generalize hC : j * 18014398509481984 = C at *
  have k1 : 81129638414606681695789005144064 ≤ C := uc g1
  have k2 : C ≤ 162259276829213363391578010288128 := uc g2
  have e3 : -18014398509481984 ≤ 2 * (81129638414606681695789005144064 + Z - C) := uc (by have := er.1; grind)
  have e4 : 2 * (81129638414606681695789005144064 + Z - C) ≤ 18014398509481984 := uc (by have := er.2; grind)
  have hs : Fv (Float64.sub st.1 (Float64.add st.1 pr.1)) ((81129638414606681695789005144064 - C) * UI) := subU hone hr rfl (rep54 (j := 4503599627370496 - j) (by omega) (by omega) (by omega)) (by omega) (by omega)
  have hd : Fv (Float64.add (Float64.sub st.1 (Float64.add st.1 pr.1)) pr.1) ((81129638414606681695789005144064 + Z - C) * UI) := addU hs hz (by omega) (rep0 (by omega) (by omega)) (by omega) (by omega)
  have hf : Fv st.2.1 (0 * UI) := z00 ▸ S.f
  have hq : Fv st.2.2 (0 * UI) := z00 ▸ S.q
  exact ⟨C, j, ⟨hr, addU hf he (by omega) (rep0 (by omega) (by omega)) (by omega) (by omega), addU hq hd (by omega) (rep0 (by omega) (by omega)) (by omega) (by omega)⟩, hC.symm, k1, k2, by omega, by omega⟩
/-- the root finds the number again -/
theorem root_exact {st : Tri} {q Z C : Int} {j : Int} (q0 : 4503599627370496 + 2 ≤ q) (q1 : q < 9007199254740992) (S : St st (C * UI) ((q * q - Z) * UI) ((81129638414606681695789005144064 + Z - C) * UI)) (z1 : 20282409603651670423947251286016 ≤ Z) (z2 : Z ≤ 81129638414606681695789005144064 - 9007199254740992) (e1 : -4503599627370496 ≤ q * q - Z) (e2 : q * q - Z ≤ 4503599627370496)
    (hC : C = j * 18014398509481984) (k1 : 81129638414606681695789005144064 ≤ C) (k2 : C ≤ 162259276829213363391578010288128) (e3 : -9007199254740992 ≤ 81129638414606681695789005144064 + Z - C) (e4 : 81129638414606681695789005144064 + Z - C ≤ 9007199254740992) : Fv (Float64.sqrt (tot st)) (q * 9007199254740992 * UI) := by
  have up := UI_pos
  have qq2 : q * q ≤ 81129638414606681695789005144064 - 18014398509481984 + 1 := by have := Int.mul_self_le_mul_self (show 0 ≤ q by omega) (show q ≤ 9007199254740992 - 1 by omega); omega
  have qq1 : 20282409603651670423947251286016 + 18014398509481984 ≤ q * q := by have := Int.mul_self_le_mul_self (show (0 : Int) ≤ 4503599627370496 + 2 by decide) q0; omega
  have hone : Fv Float64.one (81129638414606681695789005144064 * UI) := by have := fv_one; rwa [PI_UI] at this
  have hs : Fv (Float64.sub st.1 Float64.one) ((C - 81129638414606681695789005144064) * UI) := subU S.c hone rfl (rep54 (j := j - 4503599627370496) (by omega) (by omega) (by omega)) (by omega) (by omega)
  obtain ⟨t, ht, hn⟩ := addUn (k := q * q + 81129638414606681695789005144064 - C) S.f S.q (by omega) (by omega) (by omega)
  have c1 : ((2 ^ 1 : Nat) : Int) = 2 := by decide
  have c53 : ((2 ^ 53 : Nat) : Int) = 9007199254740992 := by decide
  have er := hn.errU 1 (by decide) (by rw [c1, ← Int.neg_mul]; exact uc' (by omega)) (by rw [c1]; exact uc' (by omega))
  rw [c1] at er
  have u1 := uc' (show -(18014398509481984 : Int) ≤ q * q + 81129638414606681695789005144064 - C by omega)
  have u2 := uc' (show q * q + 81129638414606681695789005144064 - C ≤ 18014398509481984 by omega)
  have u3 := uc' (show C ≤ 162259276829213363391578010288128 from k2)
  have u4 := uc' (show 81129638414606681695789005144064 ≤ C from k1)
  have u5 := uc' qq1
  have u6 := uc' qq2
  have esum : (C - 81129638414606681695789005144064) * UI + t = q * q * UI - ((q * q + 81129638414606681695789005144064 - C) * UI - t) := by grind
  have pu := PI_UI
  have ex0 : (C - 81129638414606681695789005144064) * UI = C * UI - 81129638414606681695789005144064 * UI := Int.sub_mul _ _ _
  have ex1 : (q * q + 81129638414606681695789005144064 - C) * UI = q * q * UI + 81129638414606681695789005144064 * UI - C * UI := by rw [Int.sub_mul, Int.add_mul]
  have b1 : -(16 * PI) ≤ (C - 81129638414606681695789005144064) * UI + t := by omega
  have b2 : (C - 81129638414606681695789005144064) * UI + t ≤ 16 * PI := by omega
  obtain ⟨a, ha, hna⟩ := add_near hs ht (lim1 b1 b2)
  have er2 := hna.errU 53 (by decide) (by rw [c53]; omega) (by rw [c53]; omega)
  rw [c53] at er2
  have ha' : Fv (tot st) a := ha
  have al : (q * q - 4503599627370496 - 1) * UI ≤ a := by
    have : (q * q - 4503599627370496 - 1) * UI = q * q * UI - 4503599627370496 * UI - UI := by grind
    omega
  have au : a ≤ (q * q + 4503599627370496 + 1) * UI := by
    have : (q * q + 4503599627370496 + 1) * UI = q * q * UI + 4503599627370496 * UI + UI := by grind
    omega
  obtain ⟨r, hr, hr0, up1, dn1⟩ := sqrt_near ha' (by
    have := uc' (show 1 ≤ q * q - 4503599627370496 - 1 by omega)
    omega)
  have rX : Rep (q * 9007199254740992 * UI) := rep53 (j := q) rfl (by omega) (by omega)
  have x0 : (0 : Int) ≤ q * 9007199254740992 * UI := Int.mul_nonneg (by omega) (Int.le_of_lt up)
  have UU := Int.mul_pos up up
  rcases (by omega : r < q * 9007199254740992 * UI ∨ q * 9007199254740992 * UI < r ∨ r = q * 9007199254740992 * UI) with h | h | h
  · exfalso
    have hle : r ≤ (q - 1) * 9007199254740992 * UI := by
      rcases (by omega : 40564819207303340847894502572032 * UI ≤ r ∨ r < 40564819207303340847894502572032 * UI) with g | g
      · obtain ⟨i, hi⟩ := hr.rep.dvdU (n := 40564819207303340847894502572032) 53 (by decide) g
        rw [c53] at hi
        subst hi
        refine uc' ?_
        have : i * 9007199254740992 < q * 9007199254740992 := by
          rcases (by omega : i * 9007199254740992 < q * 9007199254740992 ∨ q * 9007199254740992 ≤ i * 9007199254740992) with y | y
          · exact y
          · exact absurd (uc' y) (by omega)
        omega
      · exact Int.le_trans (Int.le_of_lt g) (uc' (by omega))
    have a1 := up1 _ rX h
    have a2 : (r + q * 9007199254740992 * UI) * (r + q * 9007199254740992 * UI) ≤ ((2 * q - 1) * 9007199254740992 * UI) * ((2 * q - 1) * 9007199254740992 * UI) := Int.mul_self_le_mul_self (by omega) (by
      have : (2 * q - 1) * 9007199254740992 * UI = (q - 1) * 9007199254740992 * UI + q * 9007199254740992 * UI := by grind
      omega)
    have a3 := Int.mul_le_mul_of_nonneg_right al (Int.le_of_lt PI_pos)
    rw [pu] at a1 a3
    have a4 : 4 * ((q * q - 4503599627370496 - 1) * UI * (81129638414606681695789005144064 * UI)) ≤ ((2 * q - 1) * 9007199254740992 * UI) * ((2 * q - 1) * 9007199254740992 * UI) := by omega
    have a5 : 4 * ((q * q - 4503599627370496 - 1) * UI * (81129638414606681695789005144064 * UI)) = (4 * (q * q) - 4 * 4503599627370496 - 4) * 81129638414606681695789005144064 * (UI * UI) := by grind
    have a6 : ((2 * q - 1) * 9007199254740992 * UI) * ((2 * q - 1) * 9007199254740992 * UI) = (4 * (q * q) - 4 * q + 1) * 81129638414606681695789005144064 * (UI * UI) := by grind
    rw [a5, a6] at a4
    have a7 := Int.le_of_mul_le_mul_right a4 UU
    omega
  · exfalso
    have hle : (q + 1) * 9007199254740992 * UI ≤ r := by
      have g : 40564819207303340847894502572032 * UI ≤ r := Int.le_trans (uc' (by omega)) (Int.le_of_lt h)
      obtain ⟨i, hi⟩ := hr.rep.dvdU (n := 40564819207303340847894502572032) 53 (by decide) g
      rw [c53] at hi
      subst hi
      refine uc' ?_
      have : q * 9007199254740992 < i * 9007199254740992 := by
        rcases (by omega : q * 9007199254740992 < i * 9007199254740992 ∨ i * 9007199254740992 ≤ q * 9007199254740992) with y | y
        · exact y
        · exact absurd (uc' y) (by omega)
      omega
    have a1 := dn1 _ rX x0 h
    have a2 : ((2 * q + 1) * 9007199254740992 * UI) * ((2 * q + 1) * 9007199254740992 * UI) ≤ (r + q * 9007199254740992 * UI) * (r + q * 9007199254740992 * UI) := Int.mul_self_le_mul_self (Int.mul_nonneg (by omega) (Int.le_of_lt up)) (by
      have : (2 * q + 1) * 9007199254740992 * UI = (q + 1) * 9007199254740992 * UI + q * 9007199254740992 * UI := by grind
      omega)
    have a3 := Int.mul_le_mul_of_nonneg_right au (Int.le_of_lt PI_pos)
    rw [pu] at a1 a3
    have a4 : ((2 * q + 1) * 9007199254740992 * UI) * ((2 * q + 1) * 9007199254740992 * UI) ≤ 4 * ((q * q + 4503599627370496 + 1) * UI * (81129638414606681695789005144064 * UI)) := by omega
    have a5 : 4 * ((q * q + 4503599627370496 + 1) * UI * (81129638414606681695789005144064 * UI)) = (4 * (q * q) + 4 * 4503599627370496 + 4) * 81129638414606681695789005144064 * (UI * UI) := by grind
    have a6 : ((2 * q + 1) * 9007199254740992 * UI) * ((2 * q + 1) * 9007199254740992 * UI) = (4 * (q * q) + 4 * q + 1) * 81129638414606681695789005144064 * (UI * UI) := by grind
    rw [a5, a6] at a4
    have a7 := Int.le_of_mul_le_mul_right a4 UU
    omega
  · exact h ▸ hr
/-- then nothing is left over -/
theorem rest_exact {st : Tri} {x : UInt64} {q Z C : Int} {j k : Int} (hx : Fv x (q * 9007199254740992 * UI)) (q0 : 4503599627370496 + 2 ≤ q) (q1 : q < 9007199254740992) (hz : Fv (dlMul x x).1 (Z * UI)) (S : St st (C * UI) ((q * q - Z) * UI) ((81129638414606681695789005144064 + Z - C) * UI)) (z1 : 20282409603651670423947251286016 ≤ Z) (z2 : Z ≤ 81129638414606681695789005144064 - 9007199254740992) (e1 : -4503599627370496 ≤ q * q - Z) (e2 : q * q - Z ≤ 4503599627370496)
    (hC : C = j * 18014398509481984) (k1 : 81129638414606681695789005144064 ≤ C) (k2 : C ≤ 162259276829213363391578010288128) (e3 : -9007199254740992 ≤ 81129638414606681695789005144064 + Z - C) (e4 : 81129638414606681695789005144064 + Z - C ≤ 9007199254740992) : Fv (tot (stp st (dlMul (Float64.neg x) x))) 0 := by
  have up := UI_pos
  have hz3 : Fv (dlMul (Float64.neg x) x).1 (-Z * UI) := by
    show Fv (Float64.mul (Float64.neg x) x) _
    rw [mul_neg_l hx.fin hx.fin, Int.neg_mul]
    exact hz.neg
  have he3 : Fv (dlMul (Float64.neg x) x).2 (-(q * q - Z) * UI) := by
    have ew : -(q * 9007199254740992 * UI) * (q * 9007199254740992 * UI) + -(-Z * UI) * PI = PI * (-(q * q - Z) * UI) := by rw [PI_UI]; grind
    have b := ubound (n := -(q * q - Z)) (by omega) (by omega)
    obtain ⟨e, he, hne⟩ := fma_near hx.neg hx hz3.neg (by
      rw [ew]
      refine limP ?_ ?_
      · have := Int.mul_le_mul_of_nonneg_left b.1 (Int.le_of_lt PI_pos); grind
      · have := Int.mul_le_mul_of_nonneg_left b.2 (Int.le_of_lt PI_pos); grind)
    rw [ew] at hne
    have := (hne.div PI_pos).exact (by decide) (rep0 (n := -(q * q - Z)) (by omega) (by omega)) (by rw [Int.one_mul])
    exact this ▸ he
  have hone : Fv Float64.one (81129638414606681695789005144064 * UI) := by have := fv_one; rwa [PI_UI] at this
  obtain ⟨r, hr, hn⟩ := addUn (k := C - Z) S.c hz3 (by omega) (by omega) (by omega)
  have g1 := hn.geU (n := 81129638414606681695789005144064 - 9007199254740992) (rep53 (j := 9007199254740992 - 1) (by decide) (by decide) (by decide)) (by omega)
  have g2 := hn.leU (n := 81129638414606681695789005144064 + 18014398509481984) (rep54 (j := 4503599627370496 + 1) (by decide) (by decide) (by decide)) (by omega)
  have g3 : 81129638414606681695789005144064 ≤ C - Z → 81129638414606681695789005144064 * UI ≤ r := fun h => hn.geU (n := 81129638414606681695789005144064) (rep54 (j := 4503599627370496) (by decide) (by decide) (by decide)) h
  obtain ⟨i, hi⟩ := hn.1.dvdU (n := 40564819207303340847894502572032) 53 (by decide) (Int.le_trans (uc' (by decide)) g1)
  have c54 : ((2 ^ 54 : Nat) : Int) = 18014398509481984 := by decide
  have c53 : ((2 ^ 53 : Nat) : Int) = 9007199254740992 := by decide
  have er := hn.errU 54 (by decide) (by rw [c54, ← Int.neg_mul]; exact uc' (by omega)) (by rw [c54]; exact uc' (by omega))
  rw [c54] at er
  rw [c53] at hi
  subst hi
  generalize hT : i * 9007199254740992 = T at *
  have t1 : 81129638414606681695789005144064 - 9007199254740992 ≤ T := uc g1
  have t2 : T ≤ 81129638414606681695789005144064 + 18014398509481984 := uc g2
  have t3 : 81129638414606681695789005144064 ≤ C - Z → 81129638414606681695789005144064 ≤ T := fun h => uc (g3 h)
  have e5 : -18014398509481984 ≤ 2 * (C - Z - T) := uc (by have := er.1; grind)
  have e6 : 2 * (C - Z - T) ≤ 18014398509481984 := uc (by have := er.2; grind)
  have b0 : C - T ≤ 81129638414606681695789005144064 := by
    rcases (by omega : 81129638414606681695789005144064 ≤ C - Z ∨ C - Z < 81129638414606681695789005144064) with h | h
    · have := t3 h; omega
    · omega
  have hs : Fv (Float64.sub st.1 (Float64.add st.1 (dlMul (Float64.neg x) x).1)) ((C - T) * UI) := subU S.c hr rfl (rep53 (j := 2 * j - i) (by omega) (by omega) (by omega)) (by omega) (by omega)
  have hd : Fv (Float64.add (Float64.sub st.1 (Float64.add st.1 (dlMul (Float64.neg x) x).1)) (dlMul (Float64.neg x) x).1) ((C - Z - T) * UI) := addU hs hz3 (by omega) (rep0 (by omega) (by omega)) (by omega) (by omega)
  have hf : Fv (Float64.add st.2.1 (dlMul (Float64.neg x) x).2) (0 * UI) := addU S.f he3 (by omega) (rep0 (by omega) (by omega)) (by omega) (by omega)
  have hq : Fv (Float64.add st.2.2 (Float64.add (Float64.sub st.1 (Float64.add st.1 (dlMul (Float64.neg x) x).1)) (dlMul (Float64.neg x) x).1)) ((81129638414606681695789005144064 - T) * UI) := addU S.q hd (by omega) (rep53 (j := 9007199254740992 - i) (by omega) (by omega) (by omega)) (by omega) (by omega)
  have h1 : Fv (Float64.sub (Float64.add st.1 (dlMul (Float64.neg x) x).1) Float64.one) ((T - 81129638414606681695789005144064) * UI) := subU hr hone rfl (rep53 (j := i - 9007199254740992) (by omega) (by omega) (by omega)) (by omega) (by omega)
  have h2 := addU (k := 81129638414606681695789005144064 - T) hf hq (by omega) (rep53 (j := 9007199254740992 - i) (by omega) (by omega) (by omega)) (by omega) (by omega)
  have h3 := addU (k := 0) h1 h2 (by omega) (rep0 (by omega) (by omega)) (by omega) (by omega)
  rw [Int.zero_mul] at h3
  exact h3
/-- of a state that bears one square alone, the core is its root -/
theorem core_one {x a b : UInt64} {q Z C j : Int} (hx : Fv x (q * 9007199254740992 * UI)) (q0 : 4503599627370496 + 2 ≤ q) (q1 : q < 9007199254740992) (hz : Fv (dlMul x x).1 (Z * UI)) (S : St (st2 a b) (C * UI) ((q * q - Z) * UI) ((81129638414606681695789005144064 + Z - C) * UI)) (z1 : 20282409603651670423947251286016 ≤ Z) (z2 : Z ≤ 81129638414606681695789005144064 - 9007199254740992) (e1 : -4503599627370496 ≤ q * q - Z) (e2 : q * q - Z ≤ 4503599627370496)
    (hC : C = j * 18014398509481984) (k1 : 81129638414606681695789005144064 ≤ C) (k2 : C ≤ 162259276829213363391578010288128) (e3 : -9007199254740992 ≤ 81129638414606681695789005144064 + Z - C) (e4 : 81129638414606681695789005144064 + Z - C ≤ 9007199254740992) : Fv (core a b) (q * 9007199254740992 * UI) := by
  have up := UI_pos
  have h1 := root_exact q0 q1 S z1 z2 e1 e2 hC k1 k2 e3 e4
  have xp : 0 < q * 9007199254740992 * UI := Int.mul_pos (by omega) up
  have es : Float64.sqrt (tot (st2 a b)) = x := h1.inj hx (by omega)
  have h2 := rest_exact (k := 0) hx q0 q1 hz S z1 z2 e1 e2 hC k1 k2 e3 e4
  unfold core
  rw [es]
  have b := ubound (n := q * 9007199254740992) (by omega) (by omega)
  have em : 2 * PI * (q * 9007199254740992 * UI) = PI * (2 * (q * 9007199254740992 * UI)) := by grind
  obtain ⟨m, hm, hnm⟩ := mul_near fv_two hx (by
    rw [em]
    refine limP ?_ ?_
    · have := Int.mul_nonneg (Int.le_of_lt PI_pos) (Int.le_of_lt xp); have := Int.mul_pos PI_pos PI_pos; grind
    · have := Int.mul_le_mul_of_nonneg_left (show q * 9007199254740992 * UI ≤ 8 * PI by
        have := uc' (show q * 9007199254740992 ≤ 81129638414606681695789005144064 by omega)
        rw [PI_UI]; omega) (Int.le_of_lt PI_pos)
      grind)
  rw [em] at hnm
  have e2x : 2 * (q * 9007199254740992 * UI) = (q * 18014398509481984) * UI := by grind
  have := (hnm.div PI_pos).exact (k := 2 * (q * 9007199254740992 * UI)) (by decide) (by rw [e2x]; exact rep54 (j := q) rfl (by omega) (by omega)) (by rw [Int.one_mul])
  subst this
  obtain ⟨d, hd, hnd⟩ := div_near h2 hm (by omega) (by rw [Int.natAbs_zero, Nat.zero_mul]; exact Nat.zero_le _)
  have := hnd.exact (by omega) rep_zero (by rw [Int.zero_mul, Int.mul_zero])
  subst this
  obtain ⟨g, hg, hng⟩ := add_near hx hd (by rw [Int.add_zero]; exact lim1 b.1 b.2)
  have := hng.exact (by decide) hx.rep (by rw [Int.add_zero, Int.one_mul])
  exact this ▸ hg
end Mine

open PySem
set_option Elab.async false
set_option maxRecDepth 100000
set_option maxHeartbeats 1000000
namespace Mine
open PySem.Float64 (Right V infMag pack V_zero V_lt V_form V_mono sgn val val_pack decode_pack)
open PySem.Builtin.Math (dlFastSum dlMul scaledNorm maxMagnitude vectorNorm)
theorem gt_pack {t u : Nat} (ht : t < infMag) (hu : u < infMag) : Float64.gt (pack false t) (pack false u) = decide (V u < V t) := by
  obtain ⟨m, e, hd, _⟩ := decode_pack false ht
  obtain ⟨m', e', hd', _⟩ := decode_pack false hu
  unfold Float64.gt
  rw [Float64.cmp_right hd hd', val_pack false ht, val_pack false hu]
  have e1 : ∀ n : Nat, sgn false n = (n : Int) := fun _ => rfl
  rw [e1, e1]
  rcases Int.lt_trichotomy (V t : Int) (V u : Int) with x | x | x
  · rw [Int.compare_eq_lt.mpr x, decide_eq_false (by omega)]; rfl
  · rw [x, decide_eq_false (by omega)]; simp
  · rw [Int.compare_eq_gt.mpr x, decide_eq_true (by omega)]; rfl
theorem maxmag {t u : Nat} (ht : t < infMag) (hu : u < infMag) : maxMagnitude [pack false t, pack false u] = pack false (if V t < V u then u else t) := by
  unfold maxMagnitude
  rw [List.foldl_cons, List.foldl_cons, List.foldl_nil]
  have z : Float64.zero false = pack false 0 := rfl
  have m1 : (if Float64.gt (pack false t) (Float64.zero false) = true then pack false t else Float64.zero false) = pack false t := by
    rw [z, gt_pack ht inf_pos, V_zero]
    by_cases h : t = 0
    · subst h; rw [V_zero]; rfl
    · rw [if_pos (by simpa using v_pos (Nat.pos_of_ne_zero h))]
  rw [m1, gt_pack hu ht]
  by_cases h : V t < V u
  · rw [if_pos (by simpa using h), if_pos h]
  · rw [if_neg (by simpa using h), if_neg h]
theorem frexp_L {T : Nat} (hT : T < infMag) (h0 : T ≠ 0) : ∃ L : Nat, 1 ≤ L ∧ (Float64.frexp (pack false T)).2 = (L : Int) - 1074 ∧ 2 ^ (L - 1) ≤ V T ∧ V T < 2 ^ L := by
  obtain ⟨m, e, hd, hv⟩ := decode_pack false hT
  have hp := v_pos (Nat.pos_of_ne_zero h0)
  have hm : m ≠ 0 := by
    rintro rfl
    rw [Nat.zero_mul] at hv
    omega
  have he := Float64.decode_ge hd
  refine ⟨(e + 1074).toNat + m.log2 + 1, by omega, ?_, ?_, ?_⟩
  · unfold Float64.frexp
    rw [hd]
    dsimp only
    rw [if_neg (by simpa using hm)]
    dsimp only
    omega
  · rw [← hv, Nat.add_sub_cancel, Nat.add_comm, Nat.pow_add]
    exact Nat.mul_le_mul_right _ (Nat.log2_self_le hm)
  · rw [← hv, Nat.add_assoc, Nat.add_comm, Nat.pow_add]
    exact Nat.mul_lt_mul_of_pos_right Nat.lt_log2_self (Nat.two_pow_pos _)
/-- the scale: a power of two -/
structure Sc (s : UInt64) (L : Nat) : Prop where
  fv : Fv s ((2 ^ (2148 - L) : Nat) : Int)
  lo : 51 ≤ L
  hi : L ≤ 2080
theorem decode_one : Float64.decode Float64.one = .fin false (2 ^ 52) (-52) := by kernel_rfl
theorem scale_sc {L : Nat} (h1 : 51 ≤ L) (h2 : L ≤ 2080) : Sc (Float64.ldexp Float64.one (-((L : Int) - 1074))) L := by
  refine ⟨?_, h1, h2⟩
  have e1 : Float64.ldexp Float64.one (-((L : Int) - 1074)) = Float64.ofBin false (2 ^ 52) (1022 - (L : Int)) := by
    unfold Float64.ldexp
    rw [decode_one]
    dsimp only
    congr 1
    omega
  have h := Float64.ofBin_right (neg := false) (M := 2 ^ 52) (g := 1022 - (L : Int)) (by omega)
  have e2 : 2 ^ 52 * 2 ^ ((1022 - (L : Int)) + 1074).toNat = 2 ^ (2148 - L) := by
    rw [← Nat.pow_add]; congr 1; omega
  rw [e2] at h
  obtain ⟨t, ht, e⟩ := rep_aux (2096 - L) (2 ^ 52) (by decide)
  have ht' : t < infMag := by rw [inf_eq]; omega
  have e3 : V t = 2 ^ (2148 - L) := by
    rw [e, ← Nat.pow_add]; congr 1; omega
  rw [e1, right_exact (by decide) h ht' (by rw [e3, Nat.one_mul])]
  exact ⟨false, t, ht', rfl, by rw [e3]; rfl⟩
def Nrm (X v : Int) (L : Nat) : Prop := ∃ q : Int, 4503599627370496 ≤ q ∧ q < 9007199254740992 ∧ X = q * 9007199254740992 * UI ∧ X * ((2 ^ L : Nat) : Int) = v * PI
theorem Near.mulc {v W D c : Int} (hc : 0 < c) : Near v (W * c) (D * c) ↔ Near v W D := by
  have key : ∀ k, (W * c - D * c * k).natAbs = (W - D * k).natAbs * c.natAbs := fun k => by
    rw [← Int.natAbs_mul]; congr 1; grind
  constructor
  · intro h
    refine ⟨h.1, fun k hk => ?_⟩
    have := h.2 k hk
    rw [key, key] at this
    exact Nat.le_of_mul_le_mul_right this (by omega)
  · intro h
    refine ⟨h.1, fun k hk => ?_⟩
    rw [key, key]
    exact Nat.mul_le_mul_right _ (h.2 k hk)
theorem p2 (n : Nat) : (0 : Int) < ((2 ^ n : Nat) : Int) := Int.ofNat_lt.mpr (Nat.two_pow_pos _)
theorem p2_add (m n : Nat) : ((2 ^ (m + n) : Nat) : Int) = ((2 ^ m : Nat) : Int) * ((2 ^ n : Nat) : Int) := by rw [Nat.pow_add, Int.natCast_mul]
theorem p2_le {m n : Nat} (h : m ≤ n) : ((2 ^ m : Nat) : Int) ≤ ((2 ^ n : Nat) : Int) := Int.ofNat_le.mpr (Nat.pow_le_pow_right (by decide) h)
/-- the scale and the number's length make one times one -/
theorem sc_eq {L : Nat} (h : L ≤ 2080) : ((2 ^ (2148 - L) : Nat) : Int) * ((2 ^ L : Nat) : Int) = PI * PI := by
  unfold PI
  rw [← p2_add, ← p2_add]
  congr 2
  omega
theorem scaled_arg {a s : UInt64} {v : Int} {L : Nat} (ha : Fv a v) (hs : Sc s L) (h0 : 0 ≤ v) (h1 : v < ((2 ^ L : Nat) : Int)) :
    ∃ X, Fv (Float64.mul a s) X ∧ 0 ≤ X ∧ X ≤ PI ∧ (((2 ^ (L - 1) : Nat) : Int) ≤ v → Nrm X v L) ∧ (v = 0 → X = 0) := by
  have e := sc_eq hs.hi
  have pS := p2 (2148 - L)
  have pL := p2 L
  have hW : v * ((2 ^ (2148 - L) : Nat) : Int) ≤ PI * PI := by
    have := Int.mul_le_mul_of_nonneg_right (Int.le_of_lt h1) (Int.le_of_lt pS)
    rw [Int.mul_comm ((2 ^ L : Nat) : Int)] at this
    omega
  have hW0 : 0 ≤ v * ((2 ^ (2148 - L) : Nat) : Int) := Int.mul_nonneg h0 (Int.le_of_lt pS)
  have pp := Int.mul_pos PI_pos PI_pos
  obtain ⟨X, hX, hn⟩ := mul_near ha hs.fv (limP (by omega) (by omega))
  have rP : Rep PI := fv_one.rep
  refine ⟨X, hX, hn.ge PI_pos rep_zero (by rw [Int.mul_zero]; exact hW0), hn.le PI_pos rP hW, fun hv => ?_, fun hz => hn.exact PI_pos rep_zero (by rw [hz, Int.zero_mul, Int.mul_zero])⟩
  obtain ⟨t, ht, et⟩ := ha.rep
  obtain ⟨k, q, _, hq, hqk, hV⟩ := V_form t
  have ev : v = ((q * 2 ^ k : Nat) : Int) := by omega
  have l1 : q * 2 ^ k < 2 ^ L := by have := h1; rw [ev] at this; exact Int.ofNat_lt.mp this
  have l0 : 2 ^ (L - 1) ≤ q * 2 ^ k := by have := hv; rw [ev] at this; exact Int.ofNat_le.mp this
  have hL := hs.lo
  have hLk : L ≤ k + 53 := by
    rcases Nat.lt_or_ge (k + 53) L with x | x
    · exfalso
      have a1 : 2 ^ (k + 53) ≤ 2 ^ (L - 1) := Nat.pow_le_pow_right (by decide) (by omega)
      have a2 : q * 2 ^ k < 2 ^ 53 * 2 ^ k := Nat.mul_lt_mul_of_pos_right hq (Nat.two_pow_pos _)
      rw [← Nat.pow_add, Nat.add_comm] at a2
      omega
    · exact x
  -- q' = q * 2 ^ (k + 53 - L)
  have b1 : q * 2 ^ (k + 53 - L) * 2 ^ L = q * 2 ^ k * 2 ^ 53 := by
    rw [Nat.mul_assoc, Nat.mul_assoc, ← Nat.pow_add, ← Nat.pow_add]
    congr 2; omega
  generalize hQ : q * 2 ^ (k + 53 - L) = Q at *
  have b2 : 2 ^ 52 ≤ Q := by
    refine Nat.le_of_mul_le_mul_right (c := 2 ^ L) ?_ (Nat.two_pow_pos _)
    rw [b1]
    have : 2 ^ 52 * 2 ^ L = 2 ^ (L - 1) * 2 ^ 53 := by rw [← Nat.pow_add, ← Nat.pow_add]; congr 1; omega
    rw [this]
    exact Nat.mul_le_mul_right _ l0
  have b3 : Q < 2 ^ 53 := by
    refine Nat.lt_of_mul_lt_mul_right (a := 2 ^ L) ?_
    rw [b1, Nat.mul_comm (2 ^ 53)]
    exact Nat.mul_lt_mul_of_pos_right l1 (by decide)
  have c52 : (2 : Nat) ^ 52 = 4503599627370496 := by decide
  have c53 : (2 : Nat) ^ 53 = 9007199254740992 := by decide
  have eU : (9007199254740992 : Int) * UI = ((2 ^ 1021 : Nat) : Int) := by
    unfold UI
    rw [show (1021 : Nat) = 53 + 968 by decide, p2_add]
    rfl
  have eP : PI = 9007199254740992 * (9007199254740992 * UI) := by rw [PI_UI]; grind
  have eX : (Q : Int) * 9007199254740992 * UI * ((2 ^ L : Nat) : Int) = v * PI := by
    have b4 : ((Q : Nat) : Int) * ((2 ^ L : Nat) : Int) = v * 9007199254740992 := by
      rw [ev, ← Int.natCast_mul, b1, c53, Int.natCast_mul]; rfl
    rw [eP]
    grind
  have rX : Rep ((Q : Int) * 9007199254740992 * UI) := by
    rw [Int.mul_assoc, eU]
    exact rep_mul (by omega) (by decide)
  have eq : v * ((2 ^ (2148 - L) : Nat) : Int) = PI * ((Q : Int) * 9007199254740992 * UI) := by
    refine Int.eq_of_mul_eq_mul_right (Int.ne_of_gt pL) ?_
    rw [Int.mul_assoc, e, Int.mul_assoc PI, eX]
    grind
  have := hn.exact PI_pos rX eq
  subst this
  exact ⟨Q, by omega, by omega, rfl, eX⟩
theorem scaled_res {g s : UInt64} {G : Int} {L : Nat} (hg : Fv g G) (hs : Sc s L) (h0 : 0 ≤ G) (h1 : G ≤ 20 * PI) : ∃ r, Fv (Float64.div g s) r ∧ Near r (G * ((2 ^ L : Nat) : Int)) PI := by
  have e := sc_eq hs.hi
  have pS := p2 (2148 - L)
  have pL := p2 L
  obtain ⟨r, hr, hn⟩ := div_near hg hs.fv pS (by
    rw [Int.natAbs_natCast, ← Nat.pow_add]
    have a : G.natAbs ≤ 2 ^ 5 * 2 ^ 1074 := by rw [← PI_nat]; omega
    refine Nat.le_trans (Nat.mul_le_mul_right _ a) ?_
    rw [← Nat.pow_add, ← Nat.pow_add]
    exact Nat.pow_le_pow_right (by decide) (by have := hs.hi; omega))
  refine ⟨r, hr, ?_⟩
  have := (Near.mulc pL).mpr hn
  rw [e, show G * PI * ((2 ^ L : Nat) : Int) = G * ((2 ^ L : Nat) : Int) * PI by grind] at this
  exact (Near.mulc PI_pos).mp this
/-- the norm of two, by its core -/
theorem norm_near {t u : Nat} (ht : t < infMag) (hu : u < infMag) (hne : ¬ (t = 0 ∧ u = 0)) (bt : V t < 2 ^ 2080) (bu : V u < 2 ^ 2080) :
    ∃ (x y : UInt64) (X Y : Int) (L : Nat), Fv x X ∧ Fv y Y ∧ 0 ≤ X ∧ X ≤ PI ∧ 0 ≤ Y ∧ Y ≤ PI ∧ (V u ≤ V t → Nrm X (V t : Int) L) ∧ (V t ≤ V u → Nrm Y (V u : Int) L) ∧ (t = 0 → X = 0) ∧ (u = 0 → Y = 0) ∧ (t = u → x = y) ∧
      (∀ G, Fv (core x y) G → PI ≤ 16 * G → G ≤ 20 * PI → ∃ r, Fv (vectorNorm [pack false t, pack false u]) r ∧ Near r (G * ((2 ^ L : Nat) : Int)) PI) := by
  have mm := maxmag ht hu
  generalize hT : (if V t < V u then u else t) = T at *
  have hTi : T < infMag := by rw [← hT]; split <;> assumption
  have tT : V t ≤ V T := by rw [← hT]; split <;> omega
  have uT : V u ≤ V T := by rw [← hT]; split <;> omega
  have bT : V T < 2 ^ 2080 := by rw [← hT]; split <;> assumption
  have eT1 : V u ≤ V t → V t = V T := fun h => by rw [← hT, if_neg (by omega)]
  have eT2 : V t ≤ V u → V u = V T := fun h => by rw [← hT]; split <;> omega
  have T0 : T ≠ 0 := by
    rintro rfl
    rw [V_zero] at tT uT
    refine hne ⟨?_, ?_⟩
    · rcases Nat.eq_zero_or_pos t with z | z
      · exact z
      · have := v_pos z; omega
    · rcases Nat.eq_zero_or_pos u with z | z
      · exact z
      · have := v_pos z; omega
  obtain ⟨L, L1, hf, v1, v2⟩ := frexp_L hTi T0
  have L2 : L ≤ 2080 := by
    rcases Nat.lt_or_ge 2080 L with x | x
    · exfalso
      have : 2 ^ 2080 ≤ 2 ^ (L - 1) := Nat.pow_le_pow_right (by decide) (by omega)
      omega
    · exact x
  have ft : ∀ {n : Nat}, n < infMag → Fv (pack false n) (V n : Int) := fun h => ⟨false, _, h, rfl, rfl⟩
  have nn : ∀ {n : Nat}, n < infMag → Float64.isNaN (pack false n) = false := fun h => isNaN_pack' _ (Nat.le_of_lt h)
  have hbigI : Float64.isInf (pack false T) = false := by
    obtain ⟨m, e, hd, _⟩ := decode_pack false hTi
    unfold Float64.isInf; rw [hd]
  have hbigZ : Float64.isZero (pack false T) = false := by rw [isZero_pack hTi]; simpa using T0
  have hvn : vectorNorm [pack false t, pack false u] = (if (Float64.frexp (pack false T)).2 < -1023 then Float64.mul (pack false (2 ^ 52)) (scaledNorm [Float64.div (pack false t) (pack false (2 ^ 52)), Float64.div (pack false u) (pack false (2 ^ 52))] (Float64.div (pack false T) (pack false (2 ^ 52)))) else scaledNorm [pack false t, pack false u] (pack false T)) := by
    unfold vectorNorm
    rw [mm]
    dsimp only
    rw [hbigI, if_neg (by decide), hbigZ]
    rw [show [pack false t, pack false u].any Float64.isNaN = false by simp [nn ht, nn hu], if_neg (by decide), if_neg (by simp)]
    rfl
  rw [hvn, hf]
  have c2 : ∀ {n : Nat}, V n ≤ V T → ((V n : Nat) : Int) < ((2 ^ L : Nat) : Int) := fun h => Int.ofNat_lt.mpr (Nat.lt_of_le_of_lt h v2)
  by_cases hs : L < 51
  · -- tiny numbers, made greater first
    rw [if_pos (by omega)]
    have tv : V (2 ^ 52) = 2 ^ 52 := by have := Float64.V_at (k := 0) (q := 2 ^ 52) (by decide) (.inr rfl); simpa using this
    have ftiny : Fv (pack false (2 ^ 52)) ((2 ^ 52 : Nat) : Int) := ⟨false, _, by decide, rfl, by rw [tv]; rfl⟩
    have small : ∀ {n : Nat}, V n ≤ V T → V n < 2 ^ 50 := fun h => Nat.lt_of_le_of_lt h (Nat.lt_of_lt_of_le v2 (Nat.pow_le_pow_right (by decide) (by omega)))
    have up : ∀ {n : Nat}, n < infMag → V n ≤ V T → ∃ n', n' < infMag ∧ Float64.div (pack false n) (pack false (2 ^ 52)) = pack false n' ∧ V n' = V n * 2 ^ 1022 := fun {n} hn h => by
      have h50 := small h
      obtain ⟨n', hn', en⟩ := rep_nat (j := V n) (k := 1022) (by have : (2 : Nat) ^ 50 ≤ 2 ^ 53 := by decide
                                                                 omega) (by decide)
      refine ⟨n', hn', ?_, en⟩
      refine right_exact ?_ (div_pack (a := false) (b := false) hn (by decide) (by decide)) hn' ?_
      · rw [tv]; decide
      · rw [tv, en, Nat.mul_left_comm, ← Nat.pow_add]
    obtain ⟨t', ht', et, vt⟩ := up ht tT
    obtain ⟨u', hu', eu, vu⟩ := up hu uT
    obtain ⟨T', hT', eT, vT⟩ := up hTi (Nat.le_refl _)
    rw [et, eu, eT]
    have pw : 0 < 2 ^ 1022 := Nat.two_pow_pos _
    have T0' : T' ≠ 0 := by
      rintro rfl
      rw [V_zero] at vT
      have := v_pos (Nat.pos_of_ne_zero T0)
      have := Nat.mul_pos this pw
      omega
    obtain ⟨L', L1', hf', v1', v2'⟩ := frexp_L hT' T0'
    have hLL : L' = L + 1022 := by
      rw [vT] at v1' v2'
      have a1 : 2 ^ (L - 1 + 1022) ≤ V T * 2 ^ 1022 := by rw [Nat.pow_add]; exact Nat.mul_le_mul_right _ v1
      have a2 : V T * 2 ^ 1022 < 2 ^ (L + 1022) := by rw [Nat.pow_add]; exact Nat.mul_lt_mul_of_pos_right v2 pw
      have a3 : 2 ^ (L - 1 + 1022) < 2 ^ L' := Nat.lt_of_le_of_lt a1 v2'
      have a4 : 2 ^ (L' - 1) < 2 ^ (L + 1022) := Nat.lt_of_le_of_lt v1' a2
      have a5 := (Nat.pow_lt_pow_iff_right (by decide)).mp a3
      have a6 := (Nat.pow_lt_pow_iff_right (by decide)).mp a4
      omega
    have sc := scale_sc (L := L') (by omega) (by omega)
    rw [scaled_eq, hf']
    generalize Float64.ldexp Float64.one (-((L' : Int) - 1074)) = s at *
    have c3 : ∀ {n n' : Nat}, V n' = V n * 2 ^ 1022 → V n ≤ V T → ((V n' : Nat) : Int) < ((2 ^ L' : Nat) : Int) := fun e h => by
      refine Int.ofNat_lt.mpr (Nat.lt_of_le_of_lt ?_ v2')
      rw [e, vT]; exact Nat.mul_le_mul_right _ h
    obtain ⟨X, hX, X0, X1, Xn, Xz⟩ := scaled_arg (ft ht') sc (Int.natCast_nonneg _) (c3 vt tT)
    obtain ⟨Y, hY, Y0, Y1, Yn, Yz⟩ := scaled_arg (ft hu') sc (Int.natCast_nonneg _) (c3 vu uT)
    have down : ∀ {n n' : Nat} {X : Int}, V n' = V n * 2 ^ 1022 → Nrm X (V n' : Int) L' → Nrm X (V n : Int) L := fun {n n' X} e ⟨q, q0, q1, eX, ev⟩ => by
      refine ⟨q, q0, q1, eX, ?_⟩
      rw [e, hLL, p2_add, Int.natCast_mul] at ev
      refine Int.eq_of_mul_eq_mul_right (Int.ne_of_gt (p2 1022)) ?_
      rw [Int.mul_assoc, ev]; grind
    refine ⟨_, _, X, Y, L, hX, hY, X0, X1, Y0, Y1, fun h => ?_, fun h => ?_, fun h => Xz ?_, fun h => Yz ?_, fun h => ?_, fun G hG G0 G1 => ?_⟩
    · refine down vt (Xn ?_)
      refine Int.ofNat_le.mpr ?_
      rw [vt, eT1 h, ← vT]; exact v1'
    · refine down vu (Yn ?_)
      refine Int.ofNat_le.mpr ?_
      rw [vu, eT2 h, ← vT]; exact v1'
    · rw [vt, h, V_zero, Nat.zero_mul]; rfl
    · rw [vu, h, V_zero, Nat.zero_mul]; rfl
    · have : pack false t' = pack false u' := by rw [← et, ← eu, h]
      rw [this]
    · have pp := PI_pos
      obtain ⟨r, hr, hn⟩ := scaled_res hG sc (by omega) G1
      -- the quotient is exact
      obtain ⟨q, j, eG, hq, hj⟩ := hG.rep.form
      have j1 : 1017 ≤ j := by
        rcases Nat.lt_or_ge j 1017 with x | x
        · exfalso
          have a1 : G.natAbs < 2 ^ 53 * 2 ^ 1016 := by
            rw [eG, natAbs_pow2]
            exact Nat.lt_of_lt_of_le (Nat.mul_lt_mul_of_pos_right hq (Nat.two_pow_pos _)) (Nat.mul_le_mul_left _ (Nat.pow_le_pow_right (by decide) (by omega)))
          have a2 : 2 ^ 1074 ≤ 16 * G.natAbs := by rw [← PI_nat]; omega
          have a3 : 16 * (2 ^ 53 * 2 ^ 1016) ≤ 2 ^ 1074 := by
            rw [show (16 : Nat) = 2 ^ 4 by decide, ← Nat.pow_add, ← Nat.pow_add]
            exact Nat.pow_le_pow_right (by decide) (by decide)
          generalize (2 : Nat) ^ 1074 = a at *
          generalize (2 : Nat) ^ 53 * 2 ^ 1016 = b at *
          omega
        · exact x
      have j2 : j ≤ 1080 := by
        rcases Nat.lt_or_ge 1080 j with x | x
        · exfalso
          have hq1 : 2 ^ 52 ≤ q.natAbs := by omega
          have a1 : 2 ^ 52 * 2 ^ 1080 ≤ G.natAbs := by
            rw [eG, natAbs_pow2]
            exact Nat.mul_le_mul hq1 (Nat.pow_le_pow_right (by decide) (by omega))
          have a2 : G.natAbs ≤ 2 ^ 5 * 2 ^ 1074 := by rw [← PI_nat]; omega
          rw [← Nat.pow_add] at a1 a2
          have a3 := (Nat.pow_lt_pow_iff_right (a := 2) (by decide)).mpr (show 5 + 1074 < 52 + 1080 by decide)
          generalize (2 : Nat) ^ (5 + 1074) = a at *
          generalize (2 : Nat) ^ (52 + 1080) = b at *
          omega
        · exact x
      have rr : Rep (q * ((2 ^ (j + L - 52) : Nat) : Int)) := rep_mul (by omega) (by omega)
      have er : G * ((2 ^ L' : Nat) : Int) = PI * (q * ((2 ^ (j + L - 52) : Nat) : Int)) := by
        have : ((2 ^ j : Nat) : Int) * ((2 ^ L' : Nat) : Int) = PI * ((2 ^ (j + L - 52) : Nat) : Int) := by
          unfold PI
          rw [← p2_add, ← p2_add]; congr 2; omega
        rw [eG]; grind
      have := hn.exact PI_pos rr er
      subst this
      have ew : ((2 ^ 52 : Nat) : Int) * (q * ((2 ^ (j + L - 52) : Nat) : Int)) = G * ((2 ^ L : Nat) : Int) := by
        have : ((2 ^ 52 : Nat) : Int) * ((2 ^ (j + L - 52) : Nat) : Int) = ((2 ^ j : Nat) : Int) * ((2 ^ L : Nat) : Int) := by
          rw [← p2_add, ← p2_add]; congr 2; omega
        rw [eG]; grind
      obtain ⟨r, hr2, hn2⟩ := mul_near ftiny hr (by
        rw [ew, Int.natAbs_mul, Int.natAbs_natCast]
        have a : G.natAbs ≤ 2 ^ 5 * 2 ^ 1074 := by rw [← PI_nat]; omega
        refine Nat.le_trans (Nat.mul_le_mul_right _ a) ?_
        rw [← Nat.pow_add, ← Nat.pow_add, ← Nat.pow_add]
        exact Nat.pow_le_pow_right (by decide) (by omega))
      rw [ew] at hn2
      exact ⟨r, hr2, hn2⟩
  · rw [if_neg (by omega)]
    have sc := scale_sc (L := L) (by omega) L2
    rw [scaled_eq, hf]
    generalize Float64.ldexp Float64.one (-((L : Int) - 1074)) = s at *
    obtain ⟨X, hX, X0, X1, Xn, Xz⟩ := scaled_arg (ft ht) sc (Int.natCast_nonneg _) (c2 tT)
    obtain ⟨Y, hY, Y0, Y1, Yn, Yz⟩ := scaled_arg (ft hu) sc (Int.natCast_nonneg _) (c2 uT)
    refine ⟨_, _, X, Y, L, hX, hY, X0, X1, Y0, Y1, fun h => Xn ?_, fun h => Yn ?_, fun h => Xz ?_, fun h => Yz ?_, fun h => by rw [h], fun G hG G0 G1 => scaled_res hG sc (by have := PI_pos; omega) G1⟩
    · rw [eT1 h]; exact Int.ofNat_le.mpr v1
    · rw [eT2 h]; exact Int.ofNat_le.mpr v1
    · rw [h, V_zero]; rfl
    · rw [h, V_zero]; rfl
end Mine

open PySem
set_option Elab.async false
set_option maxRecDepth 100000
set_option maxHeartbeats 1000000
namespace Mine
open PySem.Float64 (Right V infMag pack V_zero V_lt sgn)
open PySem.Builtin.Math (dlFastSum dlMul scaledNorm maxMagnitude vectorNorm)
theorem Nrm.big {X v : Int} {L : Nat} (h : Nrm X v L) : PI ≤ 2 * X := by
  obtain ⟨q, q0, _, rfl, _⟩ := h
  have := uc' (show (81129638414606681695789005144064 : Int) ≤ 2 * (q * 9007199254740992) by omega)
  rw [PI_UI]
  grind
theorem dl_zero {y : UInt64} (h : Fv y 0) : Fv (dlMul y y).1 0 ∧ Fv (dlMul y y).2 0 := by
  have z0 : (0 : Int) * 0 = 0 := Int.zero_mul 0
  obtain ⟨r, hr, hn⟩ := mul_near h h (by rw [z0]; exact Nat.zero_le _)
  have := hn.exact PI_pos rep_zero (by rw [z0, Int.mul_zero])
  subst this
  have hr' : Fv (Float64.neg (Float64.mul y y)) 0 := by have := hr.neg; rwa [Int.neg_zero] at this
  obtain ⟨e, he, hne⟩ := fma_near h h hr' (by rw [z0, Int.zero_mul]; exact Nat.zero_le _)
  have := hne.exact PI_pos rep_zero (by rw [z0, Int.zero_mul, Int.mul_zero]; rfl)
  subst this
  exact ⟨hr, he⟩
theorem fv_zero_of {y : UInt64} (h : Fv y 0) : y = pack false 0 ∨ y = pack true 0 := by
  obtain ⟨a, t, ht, rfl, e⟩ := h
  have : V t = 0 := by have := congrArg Int.natAbs e; rw [sgn_nat] at this; exact this.symm
  have t0 : t = 0 := by
    rcases Nat.eq_zero_or_pos t with z | z
    · exact z
    · have := v_pos z; omega
  subst t0
  cases a
  · exact .inl rfl
  · exact .inr rfl
theorem fv_half (i : Nat) (hi : i ≤ 1) : Fv (pack false (1022 * 2 ^ 52 + i)) ((4503599627370496 + (i : Int)) * 9007199254740992 * UI) := by
  refine ⟨false, _, by unfold infMag; omega, rfl, ?_⟩
  have : (1022 : Nat) * 2 ^ 52 + i = 1021 * 2 ^ 52 + (2 ^ 52 + i) := by omega
  rw [this, Float64.V_at (by omega) (.inl (by omega))]
  show _ = (((2 ^ 52 + i) * 2 ^ 1021 : Nat) : Int)
  have c52 : (2 : Nat) ^ 52 = 4503599627370496 := by decide
  have eU : (9007199254740992 : Int) * UI = ((2 ^ 1021 : Nat) : Int) := by
    unfold UI
    rw [show (1021 : Nat) = 53 + 968 by decide, p2_add]
    rfl
  rw [Int.mul_assoc, eU, Int.natCast_mul, Int.natCast_add, c52]
  rfl
theorem half_cores : ∀ i ∈ [0, 1], ∀ b ∈ [false, true], core (pack false (1022 * 2 ^ 52 + i)) (pack b 0) = pack false (1022 * 2 ^ 52 + i) ∧ core (pack b 0) (pack false (1022 * 2 ^ 52 + i)) = pack false (1022 * 2 ^ 52 + i) := by decide +kernel
theorem core_zero {x y : UInt64} {X v : Int} {L : Nat} (hx : Fv x X) (hy : Fv y 0) (hn : Nrm X v L) : Fv (core x y) X ∧ Fv (core y x) X := by
  obtain ⟨q, q0, q1, rfl, _⟩ := hn
  rcases (by omega : q = 4503599627370496 ∨ q = 4503599627370496 + 1 ∨ 4503599627370496 + 2 ≤ q) with h | h | h
  · subst h
    have e := hx.inj (fv_half 0 (by decide)) (Int.ne_of_gt (Int.mul_pos (by decide) UI_pos))
    have key := half_cores 0 (by decide)
    rcases fv_zero_of hy with g | g
    · have := key false (by decide); rw [← e, ← g] at this; rw [this.1, this.2]; exact ⟨hx, hx⟩
    · have := key true (by decide); rw [← e, ← g] at this; rw [this.1, this.2]; exact ⟨hx, hx⟩
  · subst h
    have e := hx.inj (fv_half 1 (by decide)) (Int.ne_of_gt (Int.mul_pos (by decide) UI_pos))
    have key := half_cores 1 (by decide)
    rcases fv_zero_of hy with g | g
    · have := key false (by decide); rw [← e, ← g] at this; rw [this.1, this.2]; exact ⟨hx, hx⟩
    · have := key true (by decide); rw [← e, ← g] at this; rw [this.1, this.2]; exact ⟨hx, hx⟩
  · obtain ⟨Z, k, hz, he, hk, z1, z2, e1, e2⟩ := sq_exact hx q0 q1
    obtain ⟨y1, y2⟩ := dl_zero hy
    have P0 := PI_pos
    have b53 : 9007199254740992 * UI ≤ PI := by rw [PI_UI]; exact uc' (by decide)
    constructor
    · obtain ⟨C, j, S, hC, k1, k2, e3, e4⟩ := one_step (st := (Float64.one, Float64.zero false, Float64.zero false)) ⟨fv_one, fv_zero, fv_zero⟩ hz he hk z1 z2 e1 e2
      have bC := ubound (n := C) (by omega) (by omega)
      have bE := ubound (n := q * q - Z) (by omega) (by omega)
      have bD := ubound (n := 81129638414606681695789005144064 + Z - C) (by omega) (by omega)
      have S2 : St (st2 x y) _ _ _ := zero_step S y1 y2 bC.1 bC.2 bE.1 bE.2 bD.1 bD.2
      exact core_one hx h q1 hz S2 z1 z2 e1 e2 hC k1 k2 e3 e4
    · have S0 := zero_step (st := (Float64.one, Float64.zero false, Float64.zero false)) ⟨fv_one, fv_zero, fv_zero⟩ y1 y2 (by omega) (by omega) (by omega) (by omega) (by omega) (by omega)
      obtain ⟨C, j, S, hC, k1, k2, e3, e4⟩ := one_step S0 hz he hk z1 z2 e1 e2
      exact core_one hx h q1 hz S z1 z2 e1 e2 hC k1 k2 e3 e4
/-- a plain float, not too great -/
def Sm (f : UInt64) : Prop := ∃ t, t < infMag ∧ f = pack false t ∧ V t < 2 ^ 2080
theorem Sm.pos {f} (h : Sm f) : Pos' f := by obtain ⟨t, ht, e, _⟩ := h; exact ⟨t, ht, e⟩
theorem sm_zero : Sm 0 := ⟨0, inf_pos, zero_pack, by rw [V_zero]; exact Nat.two_pow_pos _⟩
theorem norm_00 : vectorNorm [pack false 0, pack false 0] = pack false 0 := by decide +kernel
theorem fq_fv {x y : UInt64} {v w : Int} (hx : Fv x v) (hy : Fv y w) : fq x y = decide (v = w) := by
  obtain ⟨a, t, ht, rfl, rfl⟩ := hx
  obtain ⟨b, u, hu, rfl, rfl⟩ := hy
  exact feq_pack ht hu
theorem fv_nn {x : UInt64} {v : Int} (hx : Fv x v) (h : 0 ≤ v) : Nn' x := by
  obtain ⟨a, t, ht, rfl, rfl⟩ := hx
  cases a
  · exact nn_pack (Nat.le_of_lt ht)
  · have : V t = 0 := by unfold sgn at h; simp at h; omega
    have t0 : t = 0 := by
      rcases Nat.eq_zero_or_pos t with z | z
      · exact z
      · have := v_pos z; omega
    subst t0
    decide +kernel
theorem hyp_pack {t u : Nat} (ht : t < infMag) (hu : u < infMag) : hyp (pack false t) (pack false u) = vectorNorm [pack false t, pack false u] := by
  unfold hyp
  rw [abs_pack (Nat.le_of_lt ht), abs_pack (Nat.le_of_lt hu)]
theorem hyp_fv {a b : UInt64} (ha : Sm a) (hb : Sm b) : ∃ r, Fv (hyp a b) r ∧ 0 ≤ r := by
  obtain ⟨t, ht, rfl, bt⟩ := ha
  obtain ⟨u, hu, rfl, bu⟩ := hb
  rw [hyp_pack ht hu]
  by_cases h0 : t = 0 ∧ u = 0
  · rw [h0.1, h0.2, norm_00]
    exact ⟨0, fv_zero, Int.le_refl _⟩
  · obtain ⟨x, y, X, Y, L, hx, hy, X0, X1, Y0, Y1, nX, nY, _, _, _, fin⟩ := norm_near ht hu h0 bt bu
    have big : PI ≤ 2 * X ∨ PI ≤ 2 * Y := by
      rcases Nat.le_total (V u) (V t) with h | h
      · exact .inl (nX h).big
      · exact .inr (nY h).big
    obtain ⟨z1, z2, a, h, z3, xx, m2, dv, g, hg, C⟩ := core_apx hx hy X0 X1 Y0 Y1 big
    obtain ⟨g0, g1⟩ := core_pos X0 Y0 X1 Y1 big C
    obtain ⟨r, hr, hn⟩ := fin g hg g0 g1
    have P0 := PI_pos
    exact ⟨r, hr, hn.ge P0 rep_zero (by rw [Int.mul_zero]; exact Int.mul_nonneg (by omega) (Int.natCast_nonneg _))⟩
theorem hyp_nn {a b : UInt64} (ha : Sm a) (hb : Sm b) : Nn' (hyp a b) := by obtain ⟨r, h, h0⟩ := hyp_fv ha hb; exact fv_nn h h0
theorem hyp_fin {a b : UInt64} (ha : Sm a) (hb : Sm b) : Fin' (hyp a b) := by obtain ⟨r, h, h0⟩ := hyp_fv ha hb; exact h.fin
theorem norm_zero {t : Nat} (ht : t < infMag) (bt : V t < 2 ^ 2080) : vectorNorm [pack false t, pack false 0] = pack false t ∧ vectorNorm [pack false 0, pack false t] = pack false t := by
  by_cases h0 : t = 0
  · subst h0; exact ⟨norm_00, norm_00⟩
  · have P0 := PI_pos
    have vp := v_pos (Nat.pos_of_ne_zero h0)
    have ft : Fv (pack false t) (V t : Int) := ⟨false, t, ht, rfl, rfl⟩
    have b0 : V 0 < 2 ^ 2080 := by rw [V_zero]; exact Nat.two_pow_pos _
    have last : ∀ {f : UInt64} {X r : Int} {L : Nat}, Nrm X (V t : Int) L → Fv f r → Near r (X * ((2 ^ L : Nat) : Int)) PI → f = pack false t := fun ⟨q, q0, q1, eX, ev⟩ hf hn => by
      have := hn.exact P0 ft.rep (by rw [ev, Int.mul_comm])
      subst this
      exact hf.inj ft (by omega)
    have bound : ∀ {X : Int} {L : Nat}, Nrm X (V t : Int) L → PI ≤ 16 * X ∧ X ≤ 20 * PI := fun h => by
      have hb := h.big
      obtain ⟨q, q0, q1, rfl, _⟩ := h
      refine ⟨by omega, ?_⟩
      have := uc' (show q * 9007199254740992 ≤ (81129638414606681695789005144064 : Int) by omega)
      rw [PI_UI]
      have := UI_pos
      omega
    constructor
    · obtain ⟨x, y, X, Y, L, hx, hy, X0, X1, Y0, Y1, nX, nY, _, zY, _, fin⟩ := norm_near ht inf_pos (fun h => h0 h.1) bt b0
      have n := nX (by rw [V_zero]; exact Nat.zero_le _)
      have y0 := zY rfl
      subst y0
      obtain ⟨r, hr, hn⟩ := fin X (core_zero hx hy n).1 (bound n).1 (bound n).2
      exact last n hr hn
    · obtain ⟨x, y, X, Y, L, hx, hy, X0, X1, Y0, Y1, nX, nY, zX, _, _, fin⟩ := norm_near inf_pos ht (fun h => h0 h.2) b0 bt
      have n := nY (by rw [V_zero]; exact Nat.zero_le _)
      have x0 := zX rfl
      subst x0
      obtain ⟨r, hr, hn⟩ := fin Y (core_zero hy hx n).2 (bound n).1 (bound n).2
      exact last n hr hn
theorem hyp_r0 {a : UInt64} (ha : Sm a) : hyp a 0 = a := by
  obtain ⟨t, ht, rfl, bt⟩ := ha
  rw [zero_pack, hyp_pack ht inf_pos, (norm_zero ht bt).1]
theorem hyp_l0 {a : UInt64} (ha : Sm a) : hyp 0 a = a := by
  obtain ⟨t, ht, rfl, bt⟩ := ha
  rw [zero_pack, hyp_pack inf_pos ht, (norm_zero ht bt).2]
theorem hyp_self {a : UInt64} (ha : Sm a) (hz : Float64.isZero a = false) : fq (hyp a a) 0 = false ∧ fq (hyp a a) (Float64.mul a (Float64.ofInt 2)) = false := by
  obtain ⟨t, ht, rfl, bt⟩ := ha
  rw [isZero_pack ht] at hz
  have h0 : t ≠ 0 := by simpa using hz
  have P0 := PI_pos
  have vp := v_pos (Nat.pos_of_ne_zero h0)
  have ft : Fv (pack false t) (V t : Int) := ⟨false, t, ht, rfl, rfl⟩
  rw [hyp_pack ht ht]
  obtain ⟨x, y, X, Y, L, hx, hy, X0, X1, Y0, Y1, nX, nY, _, _, xy, fin⟩ := norm_near ht ht (fun h => h0 h.1) bt bt
  have exy := xy rfl
  subst exy
  have n := nX (Nat.le_refl _)
  have hy' : X = Y := by
    obtain ⟨a, s, hs, e, ev⟩ := hx
    obtain ⟨a', s', hs', e', ev'⟩ := hy
    rw [e] at e'
    have v1 := Float64.val_pack a hs
    rw [e', Float64.val_pack a' hs'] at v1
    omega
  subst hy'
  obtain ⟨z1, z2, a, h, z3, xx, m2, dv, g, hg, C⟩ := core_apx hx hx X0 X1 X0 X1 (.inl n.big)
  obtain ⟨g0, g1⟩ := core_pos X0 X0 X1 X1 (.inl n.big) C
  obtain ⟨d0, d1⟩ := core_diag n.big X1 C
  obtain ⟨r, hr, hn⟩ := fin g hg g0 g1
  obtain ⟨q, q0, q1, eX, ev⟩ := n
  have near := hn.2 _ ft.rep
  have pL := p2 L
  have a1 := Int.mul_lt_mul_of_pos_right d0 pL
  have a2 := Int.mul_lt_mul_of_pos_right d1 pL
  have e1 : 1400 * X * ((2 ^ L : Nat) : Int) = 1400 * (PI * (V t : Int)) := by rw [Int.mul_assoc, ev]; grind
  have e2 : 1430 * X * ((2 ^ L : Nat) : Int) = 1430 * (PI * (V t : Int)) := by rw [Int.mul_assoc, ev]; grind
  rw [e1, Int.mul_assoc] at a1
  rw [e2, Int.mul_assoc] at a2
  have pv : 0 < PI * (V t : Int) := Int.mul_pos P0 (by omega)
  have two' : Fv (Float64.mul (pack false t) (Float64.ofInt 2)) (2 * (V t : Int)) := by
    have em : (V t : Int) * (2 * PI) = PI * (2 * (V t : Int)) := by grind
    have hlim : 2 * (V t : Int) ≤ ((2 ^ 2081 : Nat) : Int) := by
      rw [show (2081 : Nat) = 2080 + 1 by decide, Nat.pow_succ]
      omega
    obtain ⟨m, hm, hnm⟩ := mul_near ft fv_two (by
      rw [em, Int.natAbs_mul, PI_nat]
      refine Nat.mul_le_mul_left _ ?_
      refine Nat.le_trans (show (2 * (V t : Int)).natAbs ≤ 2 ^ 2081 by omega) (Nat.pow_le_pow_right (by decide) (by decide)))
    have rr : Rep (2 * (V t : Int)) := by
      obtain ⟨k, qq, et, hq, hk, hV⟩ := Float64.V_form t
      rw [hV]
      rw [Int.natCast_mul]
      have : (2 : Int) * ((qq : Int) * ((2 ^ k : Nat) : Int)) = (qq : Int) * ((2 ^ (k + 1) : Nat) : Int) := by rw [Nat.pow_succ, Int.natCast_mul]; grind
      rw [this]
      refine rep_mul (by omega) ?_
      rcases Nat.lt_or_ge 2043 k with y | y
      · exfalso
        have hq2 : 2 ^ 52 ≤ qq := by omega
        have : 2 ^ 52 * 2 ^ 2044 ≤ qq * 2 ^ k := Nat.mul_le_mul hq2 (Nat.pow_le_pow_right (by decide) (by omega))
        rw [← hV, ← Nat.pow_add] at this
        have h3 : 2 ^ 2080 ≤ 2 ^ (52 + 2044) := Nat.pow_le_pow_right (by decide) (by decide)
        generalize (2 : Nat) ^ 2080 = A at *
        generalize (2 : Nat) ^ (52 + 2044) = B at *
        omega
      · omega
    rw [em] at hnm
    have := (hnm.div P0).exact (k := 2 * (V t : Int)) (by decide) rr (by rw [Int.one_mul])
    exact this ▸ hm
  have z2 : Fv (0 : UInt64) 0 := by have := fv_zero; exact this
  rw [fq_fv hr z2, fq_fv hr two']
  constructor
  · refine decide_eq_false fun e => ?_
    subst e
    rw [Int.mul_zero] at near
    omega
  · refine decide_eq_false fun e => ?_
    subst e
    have e3 : PI * (2 * (V t : Int)) = 2 * (PI * (V t : Int)) := by grind
    rw [e3] at near
    omega
end Mine

open PySem
set_option Elab.async false
set_option maxRecDepth 100000
set_option maxHeartbeats 400000
namespace Mine
open PySem.Float64 (Right V infMag pack V_zero sgn)
/-- a number or without an end, not a NaN -/
def NF (f : UInt64) : Prop := ∃ a t, t ≤ infMag ∧ f = pack a t
theorem NF.nan {f} (h : NF f) : Float64.isNaN f = false := by obtain ⟨a, t, h, rfl⟩ := h; exact isNaN_pack' a h
theorem NF.nn {f} (h : NF f) : Float64.neg (Float64.neg f) = f := by
  obtain ⟨a, t, h, rfl⟩ := h
  rw [neg_pack h, neg_pack h, Bool.not_not]
theorem Fin'.nf {f} (h : Fin' f) : NF f := by obtain ⟨a, t, h, e⟩ := h; exact ⟨a, t, Nat.le_of_lt h, e⟩
theorem right_nf {r : UInt64} {neg : Bool} {W D : Nat} (h : Right r neg W D) : NF r := by obtain ⟨t, e, ht, _⟩ := h; exact ⟨neg, t, ht, e⟩
/-- equal but for the sign of nought -/
def Eqv (x y : UInt64) : Prop := x = y ∨ (Zr x ∧ Zr y)
theorem Eqv.neg {x y} (h : Eqv x y) : Eqv (Float64.neg x) (Float64.neg y) := by
  rcases h with h | ⟨a, b⟩
  · exact .inl (by rw [h])
  · exact .inr ⟨zr_neg a, zr_neg b⟩
theorem Eqv.fq {x y} (h : Eqv x y) (hy : NF y) : fq x y = true := by
  rcases h with rfl | ⟨a, b⟩
  · exact fq_refl hy.nan
  · exact fq_zr a b
theorem add_nf {m c} (hm : Fin' m) (hc : Fin' c) : NF (Float64.add m c) := by
  obtain ⟨a, t, ht, rfl⟩ := hm; obtain ⟨b, u, hu, rfl⟩ := hc
  have h := add_pack (a := a) (b := b) ht hu
  by_cases hs : sgn a (V t) + sgn b (V u) = 0
  · rw [h.1 hs]; exact ⟨_, 0, Nat.le_of_lt inf_pos, rfl⟩
  · exact right_nf (h.2 hs)
theorem mul_nf {m c} (hm : Fin' m) (hc : Fin' c) : NF (Float64.mul m c) := by
  obtain ⟨a, t, ht, rfl⟩ := hm; obtain ⟨b, u, hu, rfl⟩ := hc
  exact right_nf (mul_pack ht hu)
theorem div_nf {m c} (hm : Fin' m) (hc : Fin' c) (hz : Float64.isZero c = false) : NF (Float64.div m c) := by
  obtain ⟨a, t, ht, rfl⟩ := hm; obtain ⟨b, u, hu, rfl⟩ := hc
  exact right_nf (div_pack ht hu (by rw [isZero_pack hu] at hz; simpa using hz))
theorem add_neg {m c} (hm : Fin' m) (hc : Fin' c) : Eqv (Float64.add (Float64.neg m) (Float64.neg c)) (Float64.neg (Float64.add m c)) := by
  obtain ⟨a, t, ht, rfl⟩ := hm; obtain ⟨b, u, hu, rfl⟩ := hc
  rw [neg_pack (Nat.le_of_lt ht), neg_pack (Nat.le_of_lt hu)]
  have h := add_pack (a := a) (b := b) ht hu
  have h' := add_pack (a := !a) (b := !b) ht hu
  have e : ∀ (a : Bool) (n : Nat), sgn (!a) n = -sgn a n := fun a n => by unfold sgn; cases a <;> simp
  rw [e, e] at h'
  by_cases hs : sgn a (V t) + sgn b (V u) = 0
  · rw [h.1 hs, h'.1 (by omega)]
    exact .inr ⟨⟨_, rfl⟩, zr_neg ⟨_, rfl⟩⟩
  · have h1 := h.2 hs
    have h2 := h'.2 (by omega)
    have en : (-sgn a (V t) + -sgn b (V u)).natAbs = (sgn a (V t) + sgn b (V u)).natAbs := by omega
    have ed : decide (-sgn a (V t) + -sgn b (V u) < 0) = !decide (sgn a (V t) + sgn b (V u) < 0) := by
      by_cases x : sgn a (V t) + sgn b (V u) < 0
      · rw [decide_eq_true x, decide_eq_false (by omega)]; rfl
      · rw [decide_eq_false x, decide_eq_true (by omega)]; rfl
    rw [en, ed] at h2
    exact .inl (right_flip (by decide) h1 h2)
theorem neg_add_neg {m c} (hm : Fin' m) (hc : Fin' c) : Eqv (Float64.neg (Float64.add (Float64.neg m) (Float64.neg c))) (Float64.add m c) := by
  have := (add_neg hm hc).neg
  rwa [(add_nf hm hc).nn] at this
theorem mul_neg_r {x y : UInt64} (hx : Fin' x) (hy : Fin' y) : Float64.mul x (Float64.neg y) = Float64.neg (Float64.mul x y) := by
  obtain ⟨a, t, ht, rfl⟩ := hx
  obtain ⟨b, u, hu, rfl⟩ := hy
  rw [neg_pack (Nat.le_of_lt hu)]
  refine right_flip (Nat.two_pow_pos _) (mul_pack (a := a) (b := b) ht hu) ?_
  have := mul_pack (a := a) (b := !b) ht hu
  have e : (a != (!b)) = !(a != b) := by cases a <;> cases b <;> rfl
  rwa [e] at this
theorem div_neg_l {x y : UInt64} (hx : Fin' x) (hy : Fin' y) (hz : Float64.isZero y = false) : Float64.div (Float64.neg x) y = Float64.neg (Float64.div x y) := by
  obtain ⟨a, t, ht, rfl⟩ := hx
  obtain ⟨b, u, hu, rfl⟩ := hy
  have h0 : u ≠ 0 := by rw [isZero_pack hu] at hz; simpa using hz
  rw [neg_pack (Nat.le_of_lt ht)]
  refine right_flip (v_pos (Nat.pos_of_ne_zero h0)) (div_pack (a := a) (b := b) ht hu h0) ?_
  have := div_pack (a := !a) (b := b) ht hu h0
  have e : ((!a) != b) = !(a != b) := by cases a <;> cases b <;> rfl
  rwa [e] at this
theorem div_neg_r {x y : UInt64} (hx : Fin' x) (hy : Fin' y) (hz : Float64.isZero y = false) : Float64.div x (Float64.neg y) = Float64.neg (Float64.div x y) := by
  obtain ⟨a, t, ht, rfl⟩ := hx
  obtain ⟨b, u, hu, rfl⟩ := hy
  have h0 : u ≠ 0 := by rw [isZero_pack hu] at hz; simpa using hz
  rw [neg_pack (Nat.le_of_lt hu)]
  refine right_flip (v_pos (Nat.pos_of_ne_zero h0)) (div_pack (a := a) (b := b) ht hu h0) ?_
  have := div_pack (a := a) (b := !b) ht hu h0
  have e : (a != (!b)) = !(a != b) := by cases a <;> cases b <;> rfl
  rwa [e] at this
theorem oi0 : Float64.ofInt 0 = 0 := by decide +kernel
theorem oi1 : Float64.ofInt 1 = 4607182418800017408 := by decide +kernel
theorem oim1 : Float64.ofInt (-1) = Float64.neg 4607182418800017408 := by decide +kernel
theorem oi3 : Pos' (Float64.ofInt 3) := ⟨1024 * 2 ^ 52 + 2 ^ 51, by decide, by decide +kernel⟩
theorem oim3 : Float64.ofInt (-3) = Float64.neg (Float64.ofInt 3) := by decide +kernel
theorem mul_one_r {k} (hk : Fin' k) : Float64.mul k 4607182418800017408 = k := by
  obtain ⟨a, t, h, rfl⟩ := hk
  rw [one_pack]
  have := right_exact (Nat.two_pow_pos _) (mul_pack (a := a) (b := false) h one_lt) h (by rw [v_one, Nat.mul_comm])
  simpa using this
theorem div_one_r {k} (hk : Fin' k) : Float64.div k 4607182418800017408 = k := by
  obtain ⟨a, t, h, rfl⟩ := hk
  rw [one_pack]
  have := right_exact (by rw [v_one]; exact Nat.two_pow_pos _) (div_pack (a := a) (b := false) h one_lt (by decide)) h (by rw [v_one, Nat.mul_comm])
  simpa using this
theorem add_zero_r (hu : u < infMag) : Float64.add (pack b u) (pack a 0) = (if u = 0 then pack (b && a) 0 else pack b u) := by
  have h := add_pack (a := b) (b := a) hu inf_pos
  rw [V_zero, sgn_zero, Int.add_zero] at h
  split
  · rename_i e
    subst e
    rw [V_zero, sgn_zero] at h
    exact h.1 rfl
  · rename_i e
    have hv := v_pos (Nat.pos_of_ne_zero e)
    have hne : sgn b (V u) ≠ 0 := fun z => by have := sgn_nat b (V u); rw [z] at this; simp at this; omega
    have h2 := h.2 hne
    rw [sgn_neg b hv, sgn_nat] at h2
    exact right_exact (by decide) h2 hu (by rw [Nat.one_mul])
theorem eqv_add_zero {m z} (hm : Fin' m) (hz : Zr z) : Eqv (Float64.add m z) m := by
  obtain ⟨b, u, hu, rfl⟩ := hm; obtain ⟨a, rfl⟩ := hz
  rw [add_zero_r hu]
  split
  · rename_i e; subst e; exact .inr ⟨⟨_, rfl⟩, ⟨_, rfl⟩⟩
  · exact .inl rfl
theorem eqv_zero_add {m z} (hm : Fin' m) (hz : Zr z) : Eqv (Float64.add z m) m := by
  obtain ⟨b, u, hu, rfl⟩ := hm; obtain ⟨a, rfl⟩ := hz
  rw [add_zero_l hu]
  split
  · rename_i e; subst e; exact .inr ⟨⟨_, rfl⟩, ⟨_, rfl⟩⟩
  · exact .inl rfl
theorem zr_mul_r {f g} (h : Zr g) (hg : Fin' f) : Zr (Float64.mul f g) := by
  obtain ⟨a, rfl⟩ := h; obtain ⟨b, u, hu, rfl⟩ := hg
  have := right_exact (Nat.two_pow_pos _) (mul_pack (a := b) (b := a) hu inf_pos) inf_pos (by rw [V_zero, Nat.mul_zero, Nat.mul_zero])
  rw [this]; exact ⟨_, rfl⟩
theorem pack_zero_of {f} (h : Pos' f) (hz : Float64.isZero f = true) : f = 0 := by
  obtain ⟨t, ht, rfl⟩ := h
  rw [isZero_pack ht] at hz
  rw [of_decide_eq_true hz, zero_pack]
theorem fq_neg_self {m} (hm : Fin' m) : fq m (Float64.neg m) = Float64.isZero m := by
  obtain ⟨a, t, ht, rfl⟩ := hm
  rw [neg_pack (Nat.le_of_lt ht), isZero_pack ht]
  unfold fq
  rw [feq_pack ht ht]
  apply decide_eq_decide.mpr
  constructor
  · intro e
    rcases Nat.eq_zero_or_pos t with z | z
    · exact z
    · have := v_pos z
      unfold sgn at e
      cases a <;> simp at e <;> omega
  · rintro rfl
    rw [V_zero, sgn_zero, sgn_zero]
/-- the law's spreads and means -/
theorem Sm.abs {f} (h : Sm f) : Float64.abs f = f := h.pos.abs
theorem fin_of_frac {b : Bool} {n : Nat} (h : n ≤ 2 ^ 2060) : ∃ t, t < infMag ∧ Float64.ofFrac b n (2 ^ 1074) = pack b t ∧ V t < 2 ^ 2080 := by
  have hr := Float64.ofFrac_right (neg := b) (n := n) (d := 2 ^ 1074) (W := n) (D := 1) (Nat.two_pow_pos _) (by rw [Nat.mul_one]) (by decide)
  obtain ⟨v, ⟨a, t, ht, e, ev⟩, hn⟩ := near_of_right (by decide) hr (by rw [Nat.one_mul]; exact Nat.le_trans h (Nat.pow_le_pow_right (by decide) (by decide)))
  obtain ⟨t', e', ht', _⟩ := hr
  have tt : t = t' ∧ a = b := by
    rw [e'] at e
    have h1 := Float64.pack_toNat b (t := t') (by have : infMag < 2 ^ 63 := by decide
                                                  omega)
    have h2 := Float64.pack_toNat a (t := t) (by have : infMag < 2 ^ 63 := by decide
                                                 omega)
    rw [e, h2] at h1
    have : infMag < 2 ^ 63 := by decide
    cases a <;> cases b <;> simp at h1 <;> first | exact ⟨by omega, rfl⟩ | (exfalso; omega)
  obtain ⟨rfl, rfl⟩ := tt
  refine ⟨t, ht, e, ?_⟩
  have key := hn.2
  have rb : Rep ((2 ^ 2060 : Nat) : Int) := by
    have := rep_mul (j := 2 ^ 20) (k := 2040) (by decide) (by decide)
    have e3 : (2 : Int) ^ 20 * ((2 ^ 2040 : Nat) : Int) = ((2 ^ 2060 : Nat) : Int) := by
      rw [show (2 : Int) ^ 20 = ((2 ^ 20 : Nat) : Int) by decide, ← Int.natCast_mul, ← Nat.pow_add]
    rwa [e3] at this
  have l1 : v ≤ ((2 ^ 2060 : Nat) : Int) := hn.le (by decide) rb (by
    unfold sgn
    cases a
    · simp only [Bool.false_eq_true, if_false]; omega
    · simp only [if_true]; omega)
  have l2 : -((2 ^ 2060 : Nat) : Int) ≤ v := hn.ge (by decide) rb.neg (by
    unfold sgn
    cases a
    · simp only [Bool.false_eq_true, if_false]; omega
    · simp only [if_true]; omega)
  have := sgn_nat a (V t)
  have lt : 2 ^ 2060 < 2 ^ 2080 := (Nat.pow_lt_pow_iff_right (by decide)).mpr (by decide)
  generalize (2 : Nat) ^ 2060 = A at *
  generalize (2 : Nat) ^ 2080 = B at *
  omega
end Mine

open PySem
set_option Elab.async false
set_option maxRecDepth 100000
set_option maxHeartbeats 400000
namespace Mine
open PySem.Float64 (ofInt neg add sub mul div abs isZero)
abbrev Pr := UInt64 × UInt64
/-- all are like the first -/
def good (ps : List Pr) : Prop := ∃ p r, ps = p :: r ∧ ∀ q ∈ p :: r, fq q.1 p.1 = true ∧ fq q.2 p.2 = true
def ps1 (m s : UInt64) : List Pr := [(neg m, s), (neg m, s), (neg (sub m (ofInt 0)), s), (mul m (ofInt (-1)), mul s (abs (ofInt (-1)))), (mul m (ofInt (-1)), mul s (abs (ofInt (-1)))), (div m (ofInt (-1)), div s (abs (ofInt (-1)))), (sub 0 m, hyp 0 s), (neg m, s), (neg m, s)]
def ps2 (m s : UInt64) : List Pr := [(m, s), (m, s), (neg (neg m), s), (add m (ofInt 0), s), (add m (ofInt 0), s), (sub m (ofInt 0), s), (mul m (ofInt 1), mul s (abs (ofInt 1))), (mul m (ofInt 1), mul s (abs (ofInt 1))), (div m (ofInt 1), div s (abs (ofInt 1))), (add m 0, hyp s 0), (add 0 m, hyp 0 s), (sub m 0, hyp s 0)]
def ps3 (m s c t : UInt64) : List Pr := [(add m c, hyp s t), (sub m (neg c), hyp s t), (neg (sub (neg m) c), hyp s t), (neg (add (neg m) (neg c)), hyp s t)]
def ps4 (m s c t : UInt64) : List Pr := [(sub m c, hyp s t), (add m (neg c), hyp s t), (neg (add (neg m) c), hyp s t), (neg (sub (neg m) (neg c)), hyp s t)]
def ps5 (m s c : UInt64) : List Pr := [(add m c, s), (add m c, s), (sub m (neg c), s), (neg (neg (sub m (neg c))), s), (neg (sub (neg m) c), s), (neg (add (neg m) (neg c)), s)]
def ps6 (m s c : UInt64) : List Pr := [(neg (sub m c), s), (neg (sub m c), s), (add (neg m) c, s), (add (neg m) c, s), (sub (neg m) (neg c), s), (neg (add m (neg c)), s)]
def ps7 (m s k nk : UInt64) : List Pr := [(mul m k, mul s (abs k)), (mul m k, mul s (abs k)), (mul (neg m) nk, mul s (abs nk)), (neg (mul m nk), mul s (abs nk)), (neg (mul m nk), mul s (abs nk)), (neg (mul (neg m) k), mul s (abs k))]
def ps8 (m s k nk : UInt64) : List Pr := [(div m k, div s (abs k)), (div (neg m) nk, div s (abs nk)), (neg (div m nk), div s (abs nk)), (neg (div (neg m) k), div s (abs k))]
def ps9 (m s : UInt64) : List Pr := [(0, 0), (mul m (ofInt 0), mul s (abs (ofInt 0))), (mul m (ofInt 0), mul s (abs (ofInt 0)))]
section
variable {m s c t k nk : UInt64}
theorem fin_zero : Fin' 0 := pos_zero.fin
theorem eqv_sub_zero (fm : Fin' m) : Eqv (sub m 0) m := by rw [sub_eq]; exact eqv_add_zero fm (zr_neg zr_zero)
theorem abs_one : abs (4607182418800017408 : UInt64) = 4607182418800017408 := pos_one.abs
theorem eqv_refl {x : UInt64} : Eqv x x := .inl rfl
theorem abs_m1 : abs (neg (4607182418800017408 : UInt64)) = 4607182418800017408 := by rw [abs_neg pos_one.fin, abs_one]
/-- all equal up to nought's sign -/
theorem good_of {p : Pr} {r : List Pr} (h1 : NF p.1) (h2 : NF p.2) (h : ∀ q ∈ r, Eqv q.1 p.1 ∧ q.2 = p.2) : good (p :: r) := by
  refine ⟨p, r, rfl, fun q hq => ?_⟩
  rcases List.mem_cons.mp hq with rfl | hq
  · exact ⟨fq_refl h1.nan, fq_refl h2.nan⟩
  · obtain ⟨a, b⟩ := h q hq
    exact ⟨a.fq h1, by rw [b]; exact fq_refl h2.nan⟩
theorem good1 (fm : Fin' m) (hs : Sm s) : good (ps1 m s) := by
  refine good_of fm.neg.nf hs.pos.fin.nf fun q hq => ?_
  rw [oi0, oim1, abs_m1, mul_neg_r fm pos_one.fin, mul_one_r fm, mul_one_r hs.pos.fin, div_neg_r fm pos_one.fin (by decide +kernel), div_one_r fm, div_one_r hs.pos.fin, hyp_l0 hs] at hq
  simp only [List.mem_cons, List.not_mem_nil, or_false] at hq
  rcases hq with rfl | rfl | rfl | rfl | rfl | rfl | rfl | rfl
  · exact ⟨eqv_refl, rfl⟩
  · exact ⟨(eqv_sub_zero fm).neg, rfl⟩
  · exact ⟨eqv_refl, rfl⟩
  · exact ⟨eqv_refl, rfl⟩
  · exact ⟨eqv_refl, rfl⟩
  · exact ⟨by rw [sub_eq]; exact eqv_zero_add fm.neg zr_zero, rfl⟩
  · exact ⟨eqv_refl, rfl⟩
  · exact ⟨eqv_refl, rfl⟩
theorem good2 (fm : Fin' m) (hs : Sm s) : good (ps2 m s) := by
  refine good_of fm.nf hs.pos.fin.nf fun q hq => ?_
  rw [oi0, oi1, abs_one, mul_one_r fm, mul_one_r hs.pos.fin, div_one_r fm, div_one_r hs.pos.fin, hyp_l0 hs, hyp_r0 hs, neg_neg fm] at hq
  simp only [List.mem_cons, List.not_mem_nil, or_false] at hq
  have a1 : Eqv (add m 0) m := eqv_add_zero fm zr_zero
  have a2 : Eqv (add 0 m) m := eqv_zero_add fm zr_zero
  have a3 : Eqv (sub m 0) m := eqv_sub_zero fm
  rcases hq with rfl | rfl | rfl | rfl | rfl | rfl | rfl | rfl | rfl | rfl | rfl <;> first | exact ⟨eqv_refl, rfl⟩ | exact ⟨a1, rfl⟩ | exact ⟨a2, rfl⟩ | exact ⟨a3, rfl⟩
theorem good3 (fm : Fin' m) (hs : Sm s) (fc : Fin' c) (ht : Sm t) : good (ps3 m s c t) := by
  refine good_of (add_nf fm fc) (hyp_fin hs ht).nf fun q hq => ?_
  rw [sub_eq m, neg_neg fc, sub_eq (neg m)] at hq
  simp only [List.mem_cons, List.not_mem_nil, or_false] at hq
  have a1 := neg_add_neg fm fc
  rcases hq with rfl | rfl | rfl <;> first | exact ⟨eqv_refl, rfl⟩ | exact ⟨a1, rfl⟩
theorem good4 (fm : Fin' m) (hs : Sm s) (fc : Fin' c) (ht : Sm t) : good (ps4 m s c t) := by
  unfold ps4
  rw [sub_eq m, sub_eq (neg m), neg_neg fc]
  refine good_of (add_nf fm fc.neg) (hyp_fin hs ht).nf fun q hq => ?_
  simp only [List.mem_cons, List.not_mem_nil, or_false] at hq
  have a1 := neg_add_neg fm fc.neg
  rw [neg_neg fc] at a1
  rcases hq with rfl | rfl | rfl <;> first | exact ⟨eqv_refl, rfl⟩ | exact ⟨a1, rfl⟩
theorem good5 (fm : Fin' m) (hs : Sm s) (fc : Fin' c) : good (ps5 m s c) := by
  unfold ps5
  rw [sub_eq m, sub_eq (neg m), neg_neg fc, (add_nf fm fc).nn]
  refine good_of (add_nf fm fc) hs.pos.fin.nf fun q hq => ?_
  simp only [List.mem_cons, List.not_mem_nil, or_false] at hq
  have a1 := neg_add_neg fm fc
  rcases hq with rfl | rfl | rfl | rfl | rfl <;> first | exact ⟨eqv_refl, rfl⟩ | exact ⟨a1, rfl⟩
theorem nf_neg {x : UInt64} (h : NF x) : NF (neg x) := by obtain ⟨a, t, h, rfl⟩ := h; rw [neg_pack h]; exact ⟨_, t, h, rfl⟩
theorem good6 (fm : Fin' m) (hs : Sm s) (fc : Fin' c) : good (ps6 m s c) := by
  unfold ps6
  rw [sub_eq m, sub_eq (neg m), neg_neg fc]
  refine good_of (nf_neg (add_nf fm fc.neg)) hs.pos.fin.nf fun q hq => ?_
  simp only [List.mem_cons, List.not_mem_nil, or_false] at hq
  have a1 := add_neg fm fc.neg
  rw [neg_neg fc] at a1
  rcases hq with rfl | rfl | rfl | rfl | rfl <;> first | exact ⟨eqv_refl, rfl⟩ | exact ⟨a1, rfl⟩
theorem good7 (fm : Fin' m) (hs : Sm s) (fk : Fin' k) (hn : nk = neg k) : good (ps7 m s k nk) := by
  subst hn
  unfold ps7
  rw [abs_neg fk, mul_neg_r fm fk, mul_neg_l fm fk, mul_neg_r fm.neg fk, mul_neg_l fm fk, (mul_nf fm fk).nn]
  refine good_of (mul_nf fm fk) (mul_nf hs.pos.fin fk.abs.fin) fun q hq => ?_
  simp only [List.mem_cons, List.not_mem_nil, or_false] at hq
  rcases hq with rfl | rfl | rfl | rfl | rfl <;> exact ⟨eqv_refl, rfl⟩
theorem good8 (fm : Fin' m) (hs : Sm s) (fk : Fin' k) (hz : isZero k = false) (hn : nk = neg k) : good (ps8 m s k nk) := by
  subst hn
  unfold ps8
  rw [abs_neg fk, div_neg_r fm fk hz, div_neg_l fm fk hz, div_neg_r fm.neg fk hz, div_neg_l fm fk hz, (div_nf fm fk hz).nn]
  refine good_of (div_nf fm fk hz) (div_nf hs.pos.fin fk.abs.fin (by rw [isZero_abs fk]; exact hz)) fun q hq => ?_
  simp only [List.mem_cons, List.not_mem_nil, or_false] at hq
  rcases hq with rfl | rfl | rfl <;> exact ⟨eqv_refl, rfl⟩
theorem good9 (fm : Fin' m) (hs : Sm s) : good (ps9 m s) := by
  refine ⟨_, _, rfl, fun q hq => ?_⟩
  rw [oi0, pos_zero.abs] at hq
  simp only [List.mem_cons, List.not_mem_nil, or_false] at hq
  rcases hq with rfl | rfl | rfl
  · exact ⟨fq_zr zr_zero zr_zero, fq_zr zr_zero zr_zero⟩
  · exact ⟨fq_zr (zr_mul_r zr_zero fm) zr_zero, fq_zr (zr_mul_r zr_zero hs.pos.fin) zr_zero⟩
  · exact ⟨fq_zr (zr_mul_r zr_zero fm) zr_zero, fq_zr (zr_mul_r zr_zero hs.pos.fin) zr_zero⟩
theorem abs_two : abs (ofInt 2) = ofInt 2 := pos_two.abs
/-- x - x == none, x + x == x * 2 just without spread; x == -x just without mean -/
theorem three1 (fm : Fin' m) (hs : Sm s) : (fq (sub m m) 0 && fq (hyp s s) 0) = isZero s := by
  rw [sub_zero fm, fq_refl pos_zero.fin.nan]
  cases hz : isZero s with
  | true =>
    have := pack_zero_of hs.pos hz
    subst this
    rw [hyp_r0 sm_zero]
    exact fq_refl pos_zero.fin.nan
  | false => rw [(hyp_self hs hz).1]; rfl
theorem three2 (fm : Fin' m) (hs : Sm s) : (fq (add m m) (mul m (ofInt 2)) && fq (hyp s s) (mul s (abs (ofInt 2)))) = isZero s := by
  rw [abs_two, double_eq fm, fq_refl (mul_nan fm pos_two.fin)]
  cases hz : isZero s with
  | true =>
    have := pack_zero_of hs.pos hz
    subst this
    rw [hyp_r0 sm_zero]
    exact fq_zr zr_zero (zr_mul zr_zero pos_two.fin)
  | false => rw [(hyp_self hs hz).2]; rfl
theorem three3 (fm : Fin' m) (hs : Sm s) : (fq m (neg m) && fq s s) = isZero m := by
  rw [fq_neg_self fm, fq_refl hs.pos.fin.nan, Bool.and_true]
end
end Mine

open PySem PySem.W PySem.Calls PyProof.Rows
set_option Elab.async false
set_option maxRecDepth 100000
set_option maxHeartbeats 1000000
namespace Mine
section
variable {w : World} {A : Around} {env : Env} {H : Heap}
theorem EvT.cast {e : Expr} {b b' : Bool} (h : EvT w A env H e b) (k : b = b') : EvT w A env H e b' := k ▸ h
theorem Ev.castR {e : Expr} {R R' : HP} (h : Ev w A env H e R) (k : R = R') : Ev w A env H e R' := k ▸ h

/-- where an index that may be below nought stands -/
def idx (n : Nat) (k : Int) : Nat := (if k < 0 then k + n else k).toNat
theorem idx_lt {n : Nat} {k : Int} (h0 : -(n : Int) ≤ k) (h1 : k < n) : idx n k < n := by unfold idx; split <;> omega
theorem stab_map {n : Nat} {f : Nat → HP} (s : ∀ i, i < n → Stab (f i)) : StabL ((List.range n).map f) := by
  have : ∀ {l : List HP}, (∀ R ∈ l, Stab R) → StabL l := by
    intro l
    induction l with
    | nil => intro _; trivial
    | cons a r ih => intro h; exact ⟨h a (.head _), ih fun R hR => h R (.tail _ hR)⟩
  refine this fun R hR => ?_
  obtain ⟨j, hj, rfl⟩ := List.mem_map.mp hR
  exact s j (List.mem_range.mp hj)
theorem ev_at {e i : Expr} {pos : Pos} {n : Nat} {f : Nat → HP} {k : Int} (W : Wd w H) (he : Ev w A env H e (IsL ((List.range n).map f))) (hi : Ev w A env H i (IsI k)) (s : ∀ i, i < n → Stab (f i)) (hz : n ≤ 1000)
    (h0 : -(n : Int) ≤ k) (h1 : k < n) (hsub : ∀ l t, subscripted i false (.ref l) (.int k t) = operate [.ref l, .int k t] (getItem (.ref l) (.int k t))) : Ev w A env H (.Subscript e i pos) (f (idx n k)) := by
  have hl : ((List.range n).map f).length = n := by rw [List.length_map, List.length_range]
  refine ev_item W he hi (stab_map s) (by rw [hl]; exact hz) (by rw [hl]; exact h0) (by rw [hl]; exact h1) ?_ hsub
  rw [hl]
  show ((List.range n).map f)[idx n k]? = _
  rw [List.getElem?_map, List.getElem?_range (idx_lt h0 h1)]
  rfl

/-- a comprehension with a test that is never so -/
theorem comp_core0 {elt iter test : Expr} {x : Str} {px : Pos} {scope : Scope} {cl : List (Str × Addr)} {pos : Pos} {s₂ : Shared} {I : Addr} {fp : List Addr} {n : Nat} {P : Nat → Value → Prop}
    {St : Nat → Heap → Prop} (W : Walks Challenge.rw_oz0058_02.row.prog w A I fp [I] n P St) (h0 : 0 < n) {RR : Value → Addr → Result → Shared → Prop}
    (hcell : ∀ y ∈ scope.names, y.2 ≠ .cell) (hkind : scope.kind = .function) (hx : scope.names.lookup x = some .local) (hst : St 0 s₂.heap) (hp0 : 0 < s₂.toks) (hfp : ∀ b ∈ fp, b < s₂.heap.objs.size) (Ifp : I ∈ fp)
    (htest : ∀ i v C H' m, i < n → P i v → s₂.heap.get? C = none → (∀ a o, a ≠ I → s₂.heap.get? a = some o → H'.get? a = some o) → H'.Ns C m → m x = some v → EvT w A (compEnvC scope cl C env) H' test false)
    (hRR : ∀ D C h' tk m', s₂.heap.get? D = none → s₂.heap.get? C = none → D ≠ C → h'.Ns C m' → (∃ v, m' x = some v) → h'.PlainList D #[] →
      (∀ a o, a ≠ I → s₂.heap.get? a = some o → h'.get? a = some o) → 0 < tk → RR (.ref D) C (.ok .next) { s₂ with heap := h', toks := tk }) (E : Value → Shared → Prop) :
    wpAny (model Challenge.rw_oz0058_02.row.prog w) A (newList []) (fun acc s₃ => wpAny (model Challenge.rw_oz0058_02.row.prog w) A (newFunctionEnv scope env.globals cl [] env.qual none .none (some env)) (fun cenv s₄ =>
      codeAny (model Challenge.rw_oz0058_02.row.prog w) A (.compStart (.ListComp elt [⟨.Name x px, iter, [test], 0⟩] scope pos) 0 (.ref I) acc { cenv with scope := relabel scope env }) (RR acc cenv.locals) s₄) E s₃) E s₂ := by
  refine comp_open hcell hkind hfp fun D Cc h₁ freshD freshC hDC hDf hCf old hns₁ hacc => ?_
  have hst₁ : St 0 h₁ := W.frame _ _ _ hst fun b _ o e => old b o e
  have kx : (compEnvC scope cl Cc env).kindOf x = some .local := lookup_relabel_local hx
  have kp : ((compEnvC scope cl Cc env).scope.kind == .class || ((compEnvC scope cl Cc env).scope.kind == .module && (compEnvC scope cl Cc env).locals != (compEnvC scope cl Cc env).globals)) = false := by simp [compEnvC, relabel, hkind]
  have loop : ∀ s₃ : Shared, s₃ = { s₂ with heap := h₁ } →
      codeAny (model Challenge.rw_oz0058_02.row.prog w) A (.compLoop (.ListComp elt [⟨.Name x px, iter, [test], 0⟩] scope pos) 0 (.ref I) (.ref D) (compEnvC scope cl Cc env))
        (RR (.ref D) Cc) s₃ := by
    rintro s₃ rfl
    refine codeAny_compLoop_tests
      (fun j s' => ∃ h' tk m' i, s' = { s₂ with heap := h', toks := tk } ∧ 0 < tk ∧ St i h' ∧ h'.PlainList D #[] ∧ h'.Ns Cc m' ∧ (0 < i → ∃ v, m' x = some v) ∧
        (∀ a o, a ≠ I → s₂.heap.get? a = some o → h'.get? a = some o) ∧ i ≤ n ∧ j = n + 1 - i) ?_ (n + 1)
      ⟨h₁, _, _, 0, rfl, hp0, hst₁, hacc, hns₁, (fun h => absurd h (Nat.lt_irrefl _)), fun a o _ e => old a o e, Nat.zero_le _, rfl⟩
    rintro j s' ⟨h', tk, m', i, rfl, p', st', hl', hn', hv', hk', hi, rfl⟩
    have hCI : Cc ≠ I := fun e => hCf (e ▸ Ifp)
    have hDI : D ≠ I := fun e => hDf (e ▸ Ifp)
    by_cases hlt : i < n
    · refine wpAny_with_toks (n := 1) p' (W.item i _ _ _ hlt st' fun v h2 tk2 pv st2 k2 p2 => ?_)
      have k2' : ∀ a o, a ≠ I → h'.get? a = some o → h2.get? a = some o := fun a o ha e => k2 a o (by simpa using ha) e
      refine wpAny_assign_Name (wpAny_storeName_local kx (hn'.at' fun o e => k2' _ o hCI e) (fun h3 hn3 hs3 => ?_) kp)
      have e3 : ∀ a o, a ≠ I → a ≠ Cc → h'.get? a = some o → h3.get? a = some o := fun a o hI hc e => (hs3.2 a hc).trans (k2' a o hI e)
      have s3 : ∀ a o, a ≠ I → s₂.heap.get? a = some o → h3.get? a = some o := fun a o hI e => e3 a o hI (by rintro rfl; rw [freshC] at e; cases e) (hk' a o hI e)
      refine wpAny_tests_one (htest i v Cc h3 _ hlt pv freshC s3 hn3 (by simp) _ _ _ (Stays.refl _) (Nat.succ_pos _) fun h4 tk4 k4 p4 => ?_)
      rw [if_neg (by decide)]
      refine ⟨n + 1 - (i + 1), by omega, h4, tk4, _, i + 1, rfl, p4, ?_, ?_, hn3.keeps k4, fun _ => ⟨v, by simp⟩, ?_, hlt, rfl⟩
      · refine W.frame _ _ _ st2 fun b hb o e => ?_
        have hbC : b ≠ Cc := fun q => hCf (q ▸ hb)
        exact k4 _ _ ((hs3.2 b hbC).trans e)
      · exact hl'.at fun o e => k4 _ _ (e3 D o hDI hDC e)
      · intro a o hI e
        exact k4 _ _ (s3 a o hI e)
    · have hin : i = n := by omega
      subst hin
      refine wpAny_with_toks (n := 1) p' (W.done _ _ _ st' fun h2 tk2 k2 p2 => ?_)
      have k2' : ∀ a o, a ≠ I → h'.get? a = some o → h2.get? a = some o := fun a o ha e => k2 a o (by simpa using ha) e
      exact hRR D Cc h2 tk2 m' freshD freshC hDC (hn'.at' fun o e => k2' _ o hCI e) (hv' h0) (hl'.at fun o e => k2' _ o hDI e) (fun a o hI e => k2' a o hI (hk' a o hI e)) p2
  exact codeAny_compStart_list (loop _ rfl) (W.self 0 _ _ _ hst₁ (loop _ rfl))
/-- the test in the comprehension's own frame -/
def EltT (w : World) (A : Around) (env : Env) (H : Heap) (scope : Scope) (cl : List (Str × Addr)) (x : Str) (test : Expr) (Ri : HP) : Prop :=
  ∀ C H' m v, (∀ a o, H.get? a = some o → H'.get? a = some o) → H'.Ns C m → m x = some v → Ri H' v → EvT w A (compEnvC scope cl C env) H' test false
theorem ev_compNone {elt iter test : Expr} {x : Str} {px : Pos} {scope : Scope} {cl : List (Str × Addr)} {pos : Pos} {n : Nat} {Rit : HP} {Ri : Nat → HP} (h0 : 0 < n) (sI : ∀ i, i < n → StabH (Ri i))
    (hclos : closureFor scope env = pure cl) (hcell : ∀ y ∈ scope.names, y.2 ≠ .cell) (hkind : scope.kind = .function) (hnames : ∀ y ∈ scope.names, y.2 = .local → scope.names.lookup y.1 = some .local) (hx : scope.names.lookup x = some .local)
    (hi : Ev w A env H iter Rit) (hit : Hands w A Rit n Ri)
    (htest : ∀ i, i < n → EltT w A env H scope cl x test (Ri i))
    (hs : ∀ x, foldedSetIterable iter env x = pure x) : Ev w A env H (.ListComp elt [⟨.Name x px, iter, [test], 0⟩] scope pos) (IsL []) := by
  intro s Q E k p hQ
  rw [eval_ListComp]
  refine wpAny_comprehension_free (use := none) rfl hs hclos hkind hnames (hi s _ _ k p fun u h1 tk1 k1 p1 ru => wpAny_with_toks (n := 1) p1 (hit _ _ _ _ ru fun I fp P St h2 tk2 nI k2 W st soI s2I Ifp fpb hR p2 => ?_))
  have nIs : s.heap.get? I = none := fresh_of k1 nI
  refine comp_core0 W h0 (RR := fun acc C => compPost (model Challenge.rw_oz0058_02.row.prog w) A E none Q acc C) hcell hkind hx st p2 fpb Ifp (fun i v C H' m hi' pv hC kH hn hm => ?_) ?_ _
  · refine htest i hi' C H' m v (fun a o e => kH a o (by rintro rfl; have := k _ _ e; rw [nIs] at this; cases this) ((k1.trans k2) a o (k _ _ e))) hn hm ?_
    exact sI i hi' _ _ _ (fun a o e so _ => kH a o (by rintro rfl; rw [s2I 0 h2 o st e] at so; cases so) e) (hR i v pv)
  · intro D C h' tk m' hD hC hDC hn hv hl hk ptk
    obtain ⟨v, hv⟩ := hv
    refine ⟨m', hn, fun h'' hs'' => hQ (.ref D) h'' tk (fun a o e => ?_) ptk ⟨D, [], rfl, hl.isList.extBut hs''.extBut hDC, trivial⟩⟩
    have e2 := (k1.trans k2) a o e
    exact (hs''.2 a (by rintro rfl; rw [hC] at e2; cases e2)).trans (hk a o (by rintro rfl; rw [nIs] at e; cases e) e2)
/-- a new object is no elder one -/
theorem evt_is_new {op : UnaryOp} {e r : Expr} {pos pos' : Pos} {a b c d : UInt64} (W : Wd w H) (he : Ev w A env H e (IsN a b)) (hr : Ev w A env H r (IsN c d)) 
    (ho : ∀ (s : Shared) (x : Addr) (Q : Value → Shared → Prop) (E : Value → Shared → Prop), Wd w s.heap → 0 < s.toks → ND s.heap x a b → (∀ y h' tk, Stays s.heap h' → 0 < tk → s.heap.get? y = none → ND h' y c d → Q (.ref y) { s with heap := h', toks := tk }) → wpAny (model Challenge.rw_oz0058_02.row.prog w) A (unaryOp op (.ref x)) Q E s)
    (hsame : ∀ (s : Shared) (v : Value) (Q : Value → Shared → Prop) (E : Value → Shared → Prop), Stays H s.heap → 0 < s.toks → (∃ x, v = .ref x ∧ ND s.heap x c d) →
      (∀ x h' tk, Stays s.heap h' → 0 < tk → H.get? x ≠ none → Q (.ref x) { s with heap := h', toks := tk }) → wpAny (model Challenge.rw_oz0058_02.row.prog w) A (eval r env) Q E s)
    (hb : behindInMarks .Is r = false) : EvT w A env H (.Compare (.UnaryOp op e pos) [.Is] [r] pos') false := by
  intro s Q E k p hQ
  refine wpAny_isTrue_Compare1 (UnaryOp_ (he s _ _ k p fun v h1 tk1 k1 p1 r1 => ?_)) hb
  obtain ⟨x, rfl, hx⟩ := r1
  refine ho _ _ _ _ (W.grow (k.trans k1)) p1 hx fun y h2 tk2 k2 p2 ny hy => ?_
  refine hsame _ _ _ _ (k.trans (k1.trans k2)) p2 ⟨y, rfl, hy⟩ fun z h3 tk3 k3 p3 hz => ?_
  have hyz : y ≠ z := by
    rintro rfl
    have : H.get? y = none := fresh_of (k.trans k1) ny
    exact hz this
  obtain ⟨⟨dy, t1, t2, e1, e2, _⟩, _⟩ := hy.grow k3
  cases ez : H.get? z with
  | none => exact absurd ez hz
  | some oz =>
    refine wpAny_is_ref_other hyz e1 ((k.trans (k1.trans (k2.trans k3))) _ _ ez) (by simp) ?_
    exact wpAny_truthy_bool (hQ h3 tk3 (k1.trans (k2.trans k3)) p3)
end
end Mine

open PySem PySem.W PySem.Calls PyProof.Rows
set_option Elab.async false
set_option maxRecDepth 100000
set_option maxHeartbeats 1000000
namespace Mine
theorem fill8_ (w : World) (h : Heap) : (lay02.heap_1 w.params).In h → Challenge.rw_oz0058_02.row.prog = Challenge.rw_oz0058_02.row.prog := by
  k_fill
  intros; rfl
def bodyOf : Stmt → List Stmt
  | .FunctionDef _ _ b _ _ _ _ _ _ _ => b
  | _ => []
def forBody : List Stmt → List Stmt
  | .For _ _ b _ _ :: _ => b
  | _ => []
def iterOf : List Stmt → Expr
  | .For _ it _ _ _ :: _ => it
  | _ => .Constant (.int 0) 0 ⟨0, 0, 0, 0⟩
def eltsOf : Expr → List Expr
  | .List es _ => es
  | _ => []
def scopeOf : Stmt → Scope
  | .FunctionDef _ _ _ _ _ _ sc _ _ _ => sc
  | _ => { kind := .function, names := [], isGenerator := false, isCoroutine := false, more := [] }
def lawDef : Stmt := Challenge.pw_oz0058_02.main.body.getLastD (.Pass ⟨0, 0, 0, 0⟩)
def lawScope : Scope := scopeOf lawDef
def lawStmts : List Stmt := bodyOf lawDef
def loopB : List Stmt := forBody (lawStmts.drop 2)
def inB : List Stmt := forBody (loopB.drop 5)
def lst (j : Nat) : Expr := (eltsOf (iterOf (loopB.drop 5))).getD j (.Constant (.int 0) 0 ⟨0, 0, 0, 0⟩)
abbrev Nm (p : Pr) : HP := IsN p.1 p.2
def Ls (ps : List Pr) : HP := IsL (ps.map Nm)
theorem stabN (ps : List Pr) : StabL (ps.map Nm) := by
  induction ps with
  | nil => trivial
  | cons a r ih => exact ⟨sN, ih⟩
theorem sLs {ps : List Pr} : Stab (Ls ps) := sL (stabN ps)
/-- what the names of a turn bear -/
structure Rd (w : World) (A : Around) (env : Env) (H : Heap) (m s c t : UInt64) : Prop where
  x : ∀ pos, Ev w A env H (.Name "x" pos) (IsN m s)
  y : ∀ pos, Ev w A env H (.Name "y" pos) (IsN c t)
  none : ∀ pos, Ev w A env H (.Name "none" pos) (IsN 0 0)
  m : ∀ pos, Ev w A env H (.Name "m" pos) (IsF m)
  s : ∀ pos, Ev w A env H (.Name "s" pos) (IsF s)
  c : ∀ pos, Ev w A env H (.Name "c" pos) (IsF c)
  nd : ∀ pos, Ev w A env H (.Name "NormalDist" pos) (fun _ u => u = .ref 270)
section
variable {w : World} {A : Around} {env : Env} {H : Heap} {m s c t k : UInt64}
theorem ev_one {R : HP} {e : Expr} (h : Ev w A env H e R) : Ev w A env H e R := h
theorem ev_lst0 (D : Rd w A env H m s c t) (WH : Wd w H) (R : Rm A) (hs : Sm s) : Ev w A env H (lst 0) (Ls (ps1 m s)) := by
  have n0 : Nn s := hs.pos.nn
  have n1 : Nn (Float64.mul s (Float64.abs (Float64.ofInt (-1)))) := mul_nn hs.pos (by rw [oim1]; exact pos_one.fin.neg.abs)
  have z1 : Float64.isZero (Float64.abs (Float64.ofInt (-1))) = false := by decide +kernel
  have n2 : Nn (Float64.div s (Float64.abs (Float64.ofInt (-1)))) := div_nn hs.pos (by rw [oim1]; exact pos_one.fin.neg.abs) z1
  have n3 : Nn (hyp 0 s) := hyp_nn sm_zero hs
  have xn := fun pos pos' => ev_un (pos := pos') WH (D.x pos) (o_negn R)
  have m1 := fun k pos pos' => ev_un (pos := pos') WH (ev_int (w := w) (A := A) (env := env) (H := H) (n := 1) (k := k) (pos := pos)) o_negi
  refine ev_list (evl_cons (ev_callK WH (D.nd _) (by k_is) (evl_cons (ev_un WH (D.m _) o_negf) sF (evl_cons (D.s _) sF evl_nil rfl) rfl) (o_mk R n0) rfl rfl rfl) sN (evl_cons (xn _ _) sN (evl_cons (ev_bin WH ev_int (D.x _) sI (o_subin R (by decide))) sN
    (evl_cons (ev_bin WH (D.x _) (m1 _ _ _) sN (o_mulni R (by decide) n1)) sN (evl_cons (ev_bin WH (m1 _ _ _) (D.x _) sI (o_mulin R (by decide) n1)) sN (evl_cons (ev_bin WH (D.x _) (m1 _ _ _) sN (o_divni R (by decide) (by decide) z1 n2)) sN
    (evl_cons (ev_bin WH (D.none _) (D.x _) sN (o_subnn R n3)) sN (evl_cons (ev_un WH (xn _ _) (o_posn R)) sN (evl_cons (ev_un WH (ev_un WH (D.x _) (o_posn R)) (o_negn R)) sN evl_nil rfl) rfl) rfl) rfl) rfl) rfl) rfl) rfl) rfl) (stabN (ps1 m s)) (by show (9 : Nat) ≤ 1000; decide)
theorem ev_lst1 (D : Rd w A env H m s c t) (WH : Wd w H) (R : Rm A) (hs : Sm s) : Ev w A env H (lst 1) (Ls (ps2 m s)) := by
  have n1 : Nn (Float64.mul s (Float64.abs (Float64.ofInt 1))) := mul_nn hs.pos (by rw [oi1]; exact pos_one.fin.abs)
  have z1 : Float64.isZero (Float64.abs (Float64.ofInt 1)) = false := by decide +kernel
  have n2 : Nn (Float64.div s (Float64.abs (Float64.ofInt 1))) := div_nn hs.pos (by rw [oi1]; exact pos_one.fin.abs) z1
  have n3 : Nn (hyp 0 s) := hyp_nn sm_zero hs
  have n4 : Nn (hyp s 0) := hyp_nn hs sm_zero
  exact ev_list (evl_cons (D.x _) sN (evl_cons (ev_un WH (D.x _) (o_posn R)) sN (evl_cons (ev_un WH (ev_un WH (D.x _) (o_negn R)) (o_negn R)) sN (evl_cons (ev_bin WH (D.x _) ev_int sN (o_addni R (by decide))) sN (evl_cons (ev_bin WH ev_int (D.x _) sI (o_addin R (by decide))) sN (evl_cons (ev_bin WH (D.x _) ev_int sN (o_subni R (by decide))) sN (evl_cons (ev_bin WH (D.x _) ev_int sN (o_mulni R (by decide) n1)) sN (evl_cons (ev_bin WH ev_int (D.x _) sI (o_mulin R (by decide) n1)) sN (evl_cons (ev_bin WH (D.x _) ev_int sN (o_divni R (by decide) (by decide) z1 n2)) sN (evl_cons (ev_bin WH (D.x _) (D.none _) sN (o_addnn R n4)) sN (evl_cons (ev_bin WH (D.none _) (D.x _) sN (o_addnn R n3)) sN (evl_cons (ev_bin WH (D.x _) (D.none _) sN (o_subnn R n4)) sN evl_nil rfl) rfl) rfl) rfl) rfl) rfl) rfl) rfl) rfl) rfl) rfl) rfl) (stabN (ps2 m s)) (by show (12 : Nat) ≤ 1000; decide)
theorem ev_lst2 (D : Rd w A env H m s c t) (WH : Wd w H) (R : Rm A) (hs : Sm s) (ht : Sm t) : Ev w A env H (lst 2) (Ls (ps3 m s c t)) := by
  have n1 : Nn (hyp s t) := hyp_nn hs ht
  exact ev_list (evl_cons (ev_bin WH (D.x _) (D.y _) sN (o_addnn R n1)) sN (evl_cons (ev_bin WH (D.x _) (ev_un WH (D.y _) (o_negn R)) sN (o_subnn R n1)) sN (evl_cons (ev_un WH (ev_bin WH (ev_un WH (D.x _) (o_negn R)) (D.y _) sN (o_subnn R n1)) (o_negn R)) sN (evl_cons (ev_un WH (ev_bin WH (ev_un WH (D.x _) (o_negn R)) (ev_un WH (D.y _) (o_negn R)) sN (o_addnn R n1)) (o_negn R)) sN evl_nil rfl) rfl) rfl) rfl) (stabN (ps3 m s c t)) (by show (4 : Nat) ≤ 1000; decide)
theorem ev_lst3 (D : Rd w A env H m s c t) (WH : Wd w H) (R : Rm A) (hs : Sm s) (ht : Sm t) : Ev w A env H (lst 3) (Ls (ps4 m s c t)) := by
  have n1 : Nn (hyp s t) := hyp_nn hs ht
  exact ev_list (evl_cons (ev_bin WH (D.x _) (D.y _) sN (o_subnn R n1)) sN (evl_cons (ev_bin WH (D.x _) (ev_un WH (D.y _) (o_negn R)) sN (o_addnn R n1)) sN (evl_cons (ev_un WH (ev_bin WH (ev_un WH (D.x _) (o_negn R)) (D.y _) sN (o_addnn R n1)) (o_negn R)) sN (evl_cons (ev_un WH (ev_bin WH (ev_un WH (D.x _) (o_negn R)) (ev_un WH (D.y _) (o_negn R)) sN (o_subnn R n1)) (o_negn R)) sN evl_nil rfl) rfl) rfl) rfl) (stabN (ps4 m s c t)) (by show (4 : Nat) ≤ 1000; decide)
theorem ev_lst4 (D : Rd w A env H m s c t) (WH : Wd w H) (R : Rm A) : Ev w A env H (lst 4) (Ls (ps5 m s c)) := by
  exact ev_list (evl_cons (ev_bin WH (D.x _) (D.c _) sN (o_addnf R)) sN (evl_cons (ev_bin WH (D.c _) (D.x _) sF (o_addfn R)) sN (evl_cons (ev_bin WH (D.x _) (ev_un WH (D.c _) o_negf) sN (o_subnf R)) sN (evl_cons (ev_un WH (ev_bin WH (ev_un WH (D.c _) o_negf) (D.x _) sF (o_subfn R)) (o_negn R)) sN (evl_cons (ev_un WH (ev_bin WH (ev_un WH (D.x _) (o_negn R)) (D.c _) sN (o_subnf R)) (o_negn R)) sN (evl_cons (ev_un WH (ev_bin WH (ev_un WH (D.x _) (o_negn R)) (ev_un WH (D.c _) o_negf) sN (o_addnf R)) (o_negn R)) sN evl_nil rfl) rfl) rfl) rfl) rfl) rfl) (stabN (ps5 m s c)) (by show (6 : Nat) ≤ 1000; decide)
theorem ev_lst5 (D : Rd w A env H m s c t) (WH : Wd w H) (R : Rm A) : Ev w A env H (lst 5) (Ls (ps6 m s c)) := by
  exact ev_list (evl_cons (ev_bin WH (D.c _) (D.x _) sF (o_subfn R)) sN (evl_cons (ev_un WH (ev_bin WH (D.x _) (D.c _) sN (o_subnf R)) (o_negn R)) sN (evl_cons (ev_bin WH (D.c _) (ev_un WH (D.x _) (o_negn R)) sF (o_addfn R)) sN (evl_cons (ev_bin WH (ev_un WH (D.x _) (o_negn R)) (D.c _) sN (o_addnf R)) sN (evl_cons (ev_bin WH (ev_un WH (D.x _) (o_negn R)) (ev_un WH (D.c _) o_negf) sN (o_subnf R)) sN (evl_cons (ev_un WH (ev_bin WH (D.x _) (ev_un WH (D.c _) o_negf) sN (o_addnf R)) (o_negn R)) sN evl_nil rfl) rfl) rfl) rfl) rfl) rfl) (stabN (ps6 m s c)) (by show (6 : Nat) ≤ 1000; decide)
theorem ev_lst6f (D : Rd w A env H m s c t) (WH : Wd w H) (R : Rm A) (hs : Sm s) (hk : ∀ pos, Ev w A env H (.Name "k" pos) (IsF k)) (fk : Fin' k) : Ev w A env H (lst 6) (Ls (ps7 m s k (Float64.neg k))) := by
  have n1 : Nn (Float64.mul s (Float64.abs k)) := mul_nn hs.pos fk.abs
  have n2 : Nn (Float64.mul s (Float64.abs (Float64.neg k))) := mul_nn hs.pos fk.neg.abs
  exact ev_list (evl_cons (ev_bin WH (D.x _) (hk _) sN (o_mulnf R n1)) sN (evl_cons (ev_bin WH (hk _) (D.x _) sF (o_mulfn R n1)) sN (evl_cons (ev_bin WH (ev_un WH (D.x _) (o_negn R)) (ev_un WH (hk _) o_negf) sN (o_mulnf R n2)) sN (evl_cons (ev_un WH (ev_bin WH (D.x _) (ev_un WH (hk _) o_negf) sN (o_mulnf R n2)) (o_negn R)) sN (evl_cons (ev_un WH (ev_bin WH (ev_un WH (hk _) o_negf) (D.x _) sF (o_mulfn R n2)) (o_negn R)) sN (evl_cons (ev_un WH (ev_bin WH (ev_un WH (D.x _) (o_negn R)) (hk _) sN (o_mulnf R n1)) (o_negn R)) sN evl_nil rfl) rfl) rfl) rfl) rfl) rfl) (stabN (ps7 m s k (Float64.neg k))) (by show (6 : Nat) ≤ 1000; decide)
theorem ev_lst7f (D : Rd w A env H m s c t) (WH : Wd w H) (R : Rm A) (hs : Sm s) (hk : ∀ pos, Ev w A env H (.Name "k" pos) (IsF k)) (fk : Fin' k) (zk : Float64.isZero k = false) : Ev w A env H (lst 7) (Ls (ps8 m s k (Float64.neg k))) := by
  have z2 : Float64.isZero (Float64.abs k) = false := by rw [isZero_abs fk]; exact zk
  have z3 : Float64.isZero (Float64.neg k) = false := by rw [isZero_neg fk]; exact zk
  have z4 : Float64.isZero (Float64.abs (Float64.neg k)) = false := by rw [abs_neg fk]; exact z2
  have n1 : Nn (Float64.div s (Float64.abs k)) := div_nn hs.pos fk.abs z2
  have n2 : Nn (Float64.div s (Float64.abs (Float64.neg k))) := div_nn hs.pos fk.neg.abs z4
  exact ev_list (evl_cons (ev_bin WH (D.x _) (hk _) sN (o_divnf R zk z2 n1)) sN (evl_cons (ev_bin WH (ev_un WH (D.x _) (o_negn R)) (ev_un WH (hk _) o_negf) sN (o_divnf R z3 z4 n2)) sN (evl_cons (ev_un WH (ev_bin WH (D.x _) (ev_un WH (hk _) o_negf) sN (o_divnf R z3 z4 n2)) (o_negn R)) sN (evl_cons (ev_un WH (ev_bin WH (ev_un WH (D.x _) (o_negn R)) (hk _) sN (o_divnf R zk z2 n1)) (o_negn R)) sN evl_nil rfl) rfl) rfl) rfl) (stabN (ps8 m s k (Float64.neg k))) (by show (4 : Nat) ≤ 1000; decide)
theorem ev_lst6i (D : Rd w A env H m s c t) (WH : Wd w H) (R : Rm A) (hs : Sm s) (hk : ∀ pos, Ev w A env H (.Name "k" pos) (IsI 3)) : Ev w A env H (lst 6) (Ls (ps7 m s (Float64.ofInt 3) (Float64.ofInt (-3)))) := by
  have n1 : Nn (Float64.mul s (Float64.abs (Float64.ofInt 3))) := mul_nn hs.pos oi3.fin.abs
  have n2 : Nn (Float64.mul s (Float64.abs (Float64.ofInt (-3)))) := mul_nn hs.pos (by rw [oim3]; exact oi3.fin.neg.abs)
  exact ev_list (evl_cons (ev_bin WH (D.x _) (hk _) sN (o_mulni R (by decide) n1)) sN (evl_cons (ev_bin WH (hk _) (D.x _) sI (o_mulin R (by decide) n1)) sN (evl_cons (ev_bin WH (ev_un WH (D.x _) (o_negn R)) (ev_un WH (hk _) o_negi) sN (o_mulni R (by decide) n2)) sN (evl_cons (ev_un WH (ev_bin WH (D.x _) (ev_un WH (hk _) o_negi) sN (o_mulni R (by decide) n2)) (o_negn R)) sN (evl_cons (ev_un WH (ev_bin WH (ev_un WH (hk _) o_negi) (D.x _) sI (o_mulin R (by decide) n2)) (o_negn R)) sN (evl_cons (ev_un WH (ev_bin WH (ev_un WH (D.x _) (o_negn R)) (hk _) sN (o_mulni R (by decide) n1)) (o_negn R)) sN evl_nil rfl) rfl) rfl) rfl) rfl) rfl) (stabN (ps7 m s (Float64.ofInt 3) (Float64.ofInt (-3)))) (by show (6 : Nat) ≤ 1000; decide)
theorem ev_lst7i (D : Rd w A env H m s c t) (WH : Wd w H) (R : Rm A) (hs : Sm s) (hk : ∀ pos, Ev w A env H (.Name "k" pos) (IsI 3)) : Ev w A env H (lst 7) (Ls (ps8 m s (Float64.ofInt 3) (Float64.ofInt (-3)))) := by
  have z1 : Float64.isZero (Float64.abs (Float64.ofInt 3)) = false := by decide +kernel
  have z2 : Float64.isZero (Float64.abs (Float64.ofInt (-3))) = false := by decide +kernel
  have n1 : Nn (Float64.div s (Float64.abs (Float64.ofInt 3))) := div_nn hs.pos oi3.fin.abs z1
  have n2 : Nn (Float64.div s (Float64.abs (Float64.ofInt (-3)))) := div_nn hs.pos (by rw [oim3]; exact oi3.fin.neg.abs) z2
  exact ev_list (evl_cons (ev_bin WH (D.x _) (hk _) sN (o_divni R (by decide) (by decide) z1 n1)) sN (evl_cons (ev_bin WH (ev_un WH (D.x _) (o_negn R)) (ev_un WH (hk _) o_negi) sN (o_divni R (by decide) (by decide) z2 n2)) sN (evl_cons (ev_un WH (ev_bin WH (D.x _) (ev_un WH (hk _) o_negi) sN (o_divni R (by decide) (by decide) z2 n2)) (o_negn R)) sN (evl_cons (ev_un WH (ev_bin WH (ev_un WH (D.x _) (o_negn R)) (hk _) sN (o_divni R (by decide) (by decide) z1 n1)) (o_negn R)) sN evl_nil rfl) rfl) rfl) rfl) (stabN (ps8 m s (Float64.ofInt 3) (Float64.ofInt (-3)))) (by show (4 : Nat) ≤ 1000; decide)
theorem ev_lst8 (D : Rd w A env H m s c t) (WH : Wd w H) (R : Rm A) (hs : Sm s) : Ev w A env H (lst 8) (Ls (ps9 m s)) := by
  have n1 : Nn (Float64.mul s (Float64.abs (Float64.ofInt 0))) := mul_nn hs.pos (by rw [oi0]; exact pos_zero.fin.abs)
  exact ev_list (evl_cons (D.none _) sN (evl_cons (ev_bin WH (D.x _) ev_int sN (o_mulni R (by decide) n1)) sN (evl_cons (ev_bin WH ev_int (D.x _) sI (o_mulin R (by decide) n1)) sN evl_nil rfl) rfl) rfl) (stabN (ps9 m s)) (by show (3 : Nat) ≤ 1000; decide)
end
end Mine

open PySem PySem.W PySem.Calls PyProof.Rows
set_option Elab.async false
set_option maxRecDepth 100000
set_option maxHeartbeats 1000000
namespace Mine
theorem fill9_ (w : World) (h : Heap) : (lay02.heap_1 w.params).In h → Challenge.rw_oz0058_02.row.prog = Challenge.rw_oz0058_02.row.prog := by
  k_fill
  intros; rfl
abbrev envA (cn : Str) (L a : Addr) (ccd : Value) (c1 : Addr) : Env := envX cn lawScope L a ccd [(("alike" : Str), c1)]
/-- the law's own frame, by its names -/
structure LEnv (env : Env) : Prop where
  f : EnvF env
  i : env.kindOf ("i" : Str) = some .local
  n : env.kindOf ("n" : Str) = some .local
  b : env.kindOf ("b" : Str) = some .local
  d : env.kindOf ("d" : Str) = some .local
  x : env.kindOf ("x" : Str) = some .local
  m : env.kindOf ("m" : Str) = some .local
  s : env.kindOf ("s" : Str) = some .local
  y : env.kindOf ("y" : Str) = some .local
  c : env.kindOf ("c" : Str) = some .local
  t : env.kindOf ("t" : Str) = some .local
  k : env.kindOf ("k" : Str) = some .local
  alike : env.kindOf ("alike" : Str) = some .cell
  nd : env.kindOf ("NormalDist" : Str) = some .globalImplicit
  abs : env.kindOf ("abs" : Str) = some .globalImplicit
  lf : env.kindOf ("_law_float" : Str) = some .globalImplicit
theorem lEnv {cn : Str} {L a : Addr} {ccd : Value} {c1 : Addr} : LEnv (envA cn L a ccd c1) :=
  ⟨⟨rfl, rfl, rfl⟩, rfl, rfl, rfl, rfl, rfl, rfl, rfl, rfl, rfl, rfl, rfl, rfl, rfl, rfl, rfl⟩
theorem Sub.cons : ∀ {Γ' Γ : List (Str × HP)} {x : Str} {R : HP}, Sub Γ' Γ → Γ'.lookup x = none → Sub Γ' ((x, R) :: Γ)
  | [], _, _, _, _, _ => trivial
  | (y, R') :: r, Γ, x, R, s, h => by
    rw [List.lookup_cons] at h
    split at h
    · cases h
    · rename_i hy
      refine ⟨?_, Sub.cons s.2 h⟩
      rw [List.lookup_cons]
      have : (y == x) = false := by
        cases q : (y == x) with
        | false => rfl
        | true =>
          have := eq_of_beq q
          subst this
          simp at hy
      rw [this]
      exact s.1
def aScope : List Stmt → Scope
  | .If (.Compare (.ListComp _ _ s _) _ _ _) _ _ _ :: _ => s
  | _ => lawScope
/-- the names of the comprehension's own frame: its own and one of the law's cells -/
theorem c_vars {H H' : Heap} {sc : Scope} {cl : List (Str × Addr)} {env : Env} {C : Addr} {m : Str → Option Value} {v : Value} {y : Str} {Γ Γc : List (Str × HP)} {Ri : HP} (V : Vars env H Γ) (kH : Stays H H') (hn : H'.Ns C m) (hm : m y = some v) (hr : Ri H' v) (sΓ : StabΓ Γ)
    (hki : (compEnvC sc cl C env).kindOf y = some .local)
    (hc : ∀ x R, Γc.lookup x = some R → Γ.lookup x = some R ∧ env.kindOf x = some .cell ∧ (compEnvC sc cl C env).kindOf x = some .cell ∧ cl.lookup x = env.cells.lookup x) : Vars (compEnvC sc cl C env) H' ((y, Ri) :: Γc) := by
  intro x R e
  rw [List.lookup_cons] at e
  split at e
  · rename_i hx
    have hx' : x = y := by simpa using hx
    subst hx'; cases e
    exact .inl ⟨hki, m, v, hn, hm, hr⟩
  · obtain ⟨h1, h2, h3, h4⟩ := hc x R e
    rcases V x R h1 with ⟨hk, _⟩ | ⟨_, c, u, hcl, hcell, hu⟩
    · rw [h2] at hk; cases hk
    · exact .inr ⟨h3, c, u, h4.trans hcl, hcell.keeps kH, (sΓ x R h1).mono _ _ _ kH hu⟩
theorem getD_map {α : Type} {f : α → HP} {us : List α} {j : Nat} (h : j < us.length) : (us.map f).getD j (fun _ _ => True) = f us[j] := by
  rw [List.getD_eq_getElem?_getD, List.getElem?_map, List.getElem?_eq_getElem h]; rfl
section
variable {w : World} {h₀ : Heap} {cn : Str} {L a : Addr} {ccd : Value} {c1 : Addr} {A : Around} {Γ : List (Str × HP)}
theorem cEnvF {sc : Scope} {cl : List (Str × Addr)} {C : Addr} (h : sc.kind = .function) : EnvF (compEnvC sc cl C (envA cn L a ccd c1)) := ⟨h, rfl, rfl⟩
/-- if [one for one in alike if one != alike[0]] != []: return False -/
theorem t_alike {ps : List Pr} (g : good ps) (hz : ps.length ≤ 1000) (R : Rm A) (C : Cx w (envA cn L a ccd c1) h₀) (sΓ : StabΓ Γ) :
    Tr w A (envA cn L a ccd c1) h₀ (execs inB (envA cn L a ccd c1)) ((("alike" : Str), Ls ps) :: Γ) ((("alike" : Str), Ls ps) :: Γ) := by
  have E := lEnv (cn := cn) (L := L) (a := a) (ccd := ccd) (c1 := c1)
  have unit : A.units < cLine := by have := R.units; omega
  have sΓ' : StabΓ ((("alike" : Str), Ls ps) :: Γ) := sΓ.cons sLs
  obtain ⟨p0, r0, hps, hall⟩ := g
  have hlen : 0 < (ps.map Nm).length := by rw [List.length_map, hps]; exact Nat.succ_pos _
  refine tr_cons (tr_if C sΓ' fun H WH V => ?_) tr_nil
  refine evt_cmp WH (Ra := IsL []) (Rb := IsL []) ?l (ev_list evl_nil trivial (by decide)) (sL trivial) (o_nell trivial trivial trivial unit) rfl
  refine ev_compNone (n := (ps.map Nm).length) (Ri := fun i => (ps.map Nm).getD i fun _ _ => True) (Rit := Ls ps) (cl := [(("alike" : Str), c1)]) hlen (fun i hi => ?_) rfl (by decide) rfl (by decide) rfl (ev_name E.f V rfl sLs rfl) (hands_list R.hh (stabN ps)) (fun i hi C' H' m v kH hn hm hr => ?_) (fun _ => rfl)
  · have hi' : i < ps.length := by rwa [List.length_map] at hi
    rw [getD_map hi']; exact hN
  · have hi' : i < ps.length := by rwa [List.length_map] at hi
    rw [getD_map hi'] at hr
    have hq := hall ps[i] (by rw [← hps]; exact List.getElem_mem hi')
    have V' := c_vars (Γc := [(("alike" : Str), Ls ps)]) V kH hn hm hr sΓ' (sc := aScope inB) (cl := [(("alike" : Str), c1)]) rfl (fun x R e => by
      rw [List.lookup_cons] at e
      split at e
      · rename_i hx
        have hx' : x = "alike" := by simpa using hx
        subst hx'; cases e; exact ⟨rfl, rfl, rfl, rfl⟩
      · cases e)
    have EF := cEnvF (cn := cn) (L := L) (a := a) (ccd := ccd) (c1 := c1) (sc := aScope inB) (cl := [(("alike" : Str), c1)]) (C := C') rfl
    have WH' := WH.grow kH
    have e0 : Ev w A (compEnvC (aScope inB) [(("alike" : Str), c1)] C' (envA cn L a ccd c1)) H' (.Subscript (.Name "alike" ⟨119, 47, 119, 52⟩) (.Constant (.int 0) 0 ⟨119, 53, 119, 54⟩) ⟨119, 47, 119, 55⟩) (Nm p0) := by
      refine ev_item (Rs := ps.map Nm) (k := 0) WH' (ev_name EF V' rfl sLs rfl) ev_int (stabN ps) (by rw [List.length_map]; exact hz) (by omega) (by exact_mod_cast hlen) ?_ (fun _ _ => rfl)
      rw [hps]; rfl
    refine EvT.cast (evt_cmp WH' (ev_name EF V' rfl sN rfl) e0 sN (o_nenn R) rfl) ?_
    have h1 : (feq ps[i].1 p0.1 && feq ps[i].2 p0.2) = true := by
      rw [show feq ps[i].1 p0.1 = true from hq.1, show feq ps[i].2 p0.2 = true from hq.2]; rfl
    rw [h1]; rfl
/-- +x is x -/
theorem evt_pos_is {env : Env} {H : Heap} {m s : UInt64} {p1 p2 p3 p4 : Pos} (EF : EnvF env) (R : Rm A) (W : Wd w H) (V : Vars env H Γ) (hx : Γ.lookup ("x" : Str) = some (IsN m s)) : EvT w A env H (.Compare (.UnaryOp .UAdd (.Name "x" p1) p2) [.Is] [.Name "x" p3] p4) false := by
  intro s' Q E k p hQ
  have fin : ∀ (v : Value) (lookup : ∀ (h : Heap) (s1 : Shared) (Q : Value → Shared → Prop) (pos : Pos), s1.heap = h → Stays H h → Q v s1 → wpAny (model Challenge.rw_oz0058_02.row.prog w) A (eval (.Name "x" pos) env) Q E s1), IsN m s H v → wpAny (model Challenge.rw_oz0058_02.row.prog w) A (PySem.isTrue (.Compare (.UnaryOp .UAdd (.Name "x" p1) p2) [.Is] [.Name "x" p3] p4) env (eval (.Compare (.UnaryOp .UAdd (.Name "x" p1) p2) [.Is] [.Name "x" p3] p4) env)) Q E s' := by
    rintro v lookup ⟨x, rfl, hD⟩
    refine wpAny_isTrue_Compare1 (UnaryOp_ (lookup _ _ _ _ rfl k ?_)) rfl
    refine wpAny_with_toks (n := 1) p (c_pos (W.grow k) (hD.grow k) (by have := R.depth; omega) fun y h2 tk2 k2 ny hy q2 => ?_)
    refine lookup _ _ _ _ rfl (k.trans k2) ?_
    have hyx : y ≠ x := by
      rintro rfl
      obtain ⟨⟨dy, t1, t2, e1, _⟩, _⟩ := hD.grow k
      rw [ny] at e1; cases e1
    obtain ⟨⟨dy, t1, t2, e1, _⟩, _⟩ := hy
    obtain ⟨⟨dx, u1, u2, f1, _⟩, _⟩ := hD.grow (k.trans k2)
    exact wpAny_is_ref_other hyx e1 f1 (by simp) (wpAny_truthy_bool (hQ h2 tk2 k2 q2))
  rcases V "x" _ hx with ⟨hk, mm, v, hn, hv, hr⟩ | ⟨hk, c, v, hc, hcell, hr⟩
  · exact fin v (fun h s1 Q pos e kk hq => wpAny_Name (wpAny_loadName_local EF.kind hk (by rw [e]; exact hn.keeps kk) hv hq) rfl) hr
  · exact fin v (fun h s1 Q pos e kk hq => wpAny_Name (wpAny_loadName_cell EF.kind hk hc (by rw [e]; exact hcell.keeps kk) hq) rfl) hr
end
end Mine

open PySem PySem.W PySem.Calls PyProof.Rows
set_option Elab.async false
set_option maxRecDepth 100000
set_option maxHeartbeats 1000000
namespace Mine
theorem fill10_ (w : World) (h : Heap) : (lay02.heap_1 w.params).In h → Challenge.rw_oz0058_02.row.prog = Challenge.rw_oz0058_02.row.prog := by
  k_fill
  intros; rfl
theorem lf_pack (x y : Int) : ∃ a t, t < Float64.infMag ∧ lf x y = Float64.pack a t ∧ Float64.V t < 2 ^ 2080 := by
  unfold lf quo
  have hd : p1074.natAbs = 2 ^ 1074 := by decide +kernel
  rw [hd]
  have hw := whole_lt x
  have he := expo y
  have h1 : (lawp x y).natAbs = (whole x).natAbs * 2 ^ ((y + 1074).fmod 2000).toNat := by
    unfold lawp
    rw [Int.natAbs_mul, Int.natAbs_pow]; rfl
  have h3 : (lawp x y).natAbs ≤ 2 ^ 2060 := by
    rw [h1]
    have a1 : (whole x).natAbs ≤ 2 ^ 53 := by
      have : (2 : Nat) ^ 53 = 9007199254740992 := by decide
      omega
    refine Nat.le_trans (Nat.mul_le_mul a1 (Nat.pow_le_pow_right (by decide) (show ((y + 1074).fmod 2000).toNat ≤ 2000 by omega))) ?_
    rw [← Nat.pow_add]
    exact Nat.pow_le_pow_right (by decide) (by decide)
  obtain ⟨t, ht, e, hV⟩ := fin_of_frac (b := decide (lawp x y < 0) != decide (p1074 < 0)) h3
  exact ⟨_, t, ht, e, hV⟩
theorem lf_fin' (x y : Int) : Fin' (lf x y) := by obtain ⟨a, t, ht, e, _⟩ := lf_pack x y; exact ⟨a, t, ht, e⟩
theorem lf_sm (x y : Int) : Sm (Float64.abs (lf x y)) := by
  obtain ⟨a, t, ht, e, hV⟩ := lf_pack x y
  rw [e, abs_pack (Nat.le_of_lt ht)]
  exact ⟨t, ht, rfl, hV⟩
section
variable {w : World} {h₀ : Heap} {cn : Str} {L a : Addr} {ccd : Value} {c1 : Addr} {A : Around} {Γ : List (Str × HP)} {m s c t : UInt64}
theorem stabLs (ls : List (List Pr)) : StabL (ls.map Ls) := by
  induction ls with
  | nil => trivial
  | cons a r ih => exact ⟨sLs, ih⟩
theorem rd_of {env : Env} {H : Heap} (E : LEnv env) (WH : Wd w H) (V : Vars env H Γ) (hx : Γ.lookup ("x" : Str) = some (IsN m s)) (hy : Γ.lookup ("y" : Str) = some (IsN c t)) (hnone : Γ.lookup ("none" : Str) = some (IsN 0 0)) (hm : Γ.lookup ("m" : Str) = some (IsF m)) (hs : Γ.lookup ("s" : Str) = some (IsF s)) (hc : Γ.lookup ("c" : Str) = some (IsF c)) :
    Rd w A env H m s c t :=
  ⟨fun _ => ev_name E.f V hx sN rfl, fun _ => ev_name E.f V hy sN rfl, fun _ => ev_name E.f V hnone sN rfl, fun _ => ev_name E.f V hm sF rfl, fun _ => ev_name E.f V hs sF rfl, fun _ => ev_name E.f V hc sF rfl, fun _ => ev_glob (v := .ref 270) E.f WH E.nd (by k_is) rfl⟩
theorem ev_lists {env : Env} {H : Heap} {p7 p8 : List Pr} (D : Rd w A env H m s c t) (WH : Wd w H) (R : Rm A) (hs : Sm s) (ht : Sm t) (h7 : Ev w A env H (lst 6) (Ls p7)) (h8 : Ev w A env H (lst 7) (Ls p8)) :
    Ev w A env H (iterOf (loopB.drop 5)) (IsL ([ps1 m s, ps2 m s, ps3 m s c t, ps4 m s c t, ps5 m s c, ps6 m s c, p7, p8, ps9 m s].map Ls)) :=
  ev_list (evl_cons (ev_lst0 D WH R hs) sLs (evl_cons (ev_lst1 D WH R hs) sLs (evl_cons (ev_lst2 D WH R hs ht) sLs (evl_cons (ev_lst3 D WH R hs ht) sLs (evl_cons (ev_lst4 D WH R) sLs (evl_cons (ev_lst5 D WH R) sLs
    (evl_cons h7 sLs (evl_cons h8 sLs (evl_cons (ev_lst8 D WH R hs) sLs evl_nil rfl) rfl) rfl) rfl) rfl) rfl) rfl) rfl) rfl) (stabLs [ps1 m s, ps2 m s, ps3 m s c t, ps4 m s c t, ps5 m s c, ps6 m s c, p7, p8, ps9 m s]) (by show (9 : Nat) ≤ 1000; decide)
theorem t_rest {ls : List (List Pr)} (R : Rm A) (hu : A.in1.units + 1 < cLine) (hd : A.in1.depth + 6 < recursionLimit) (C : Cx w (envA cn L a ccd c1) h₀) (sΓ : StabΓ Γ) (hS : Sub Γ Γ) (hls : ∀ ps ∈ ls, good ps ∧ ps.length ≤ 1000)
    (hev : ∀ H, Wd w H → Vars (envA cn L a ccd c1) H Γ → Ev w A (envA cn L a ccd c1) H (iterOf (loopB.drop 5)) (IsL (ls.map Ls)))
    (hx : Γ.lookup ("x" : Str) = some (IsN m s)) (hnone : Γ.lookup ("none" : Str) = some (IsN 0 0)) (hm : Γ.lookup ("m" : Str) = some (IsF m)) (hs : Γ.lookup ("s" : Str) = some (IsF s)) (hal : Γ.lookup ("alike" : Str) = none)
    (fm : Fin' m) (ps : Sm s) : Tr w A (envA cn L a ccd c1) h₀ (execs (loopB.drop 5) (envA cn L a ccd c1)) Γ Γ := by
  have E := lEnv (cn := cn) (L := L) (a := a) (ccd := ccd) (c1 := c1)
  have unit : A.units < cLine := by have := R.units; omega
  have cellV : ∀ h, Sto (envA cn L a ccd c1) h₀ Γ h → IsVar (envA cn L a ccd c1) "alike" h := fun h S => by
    obtain ⟨v, hv⟩ := S.cel "alike" c1 rfl
    exact .inr ⟨E.alike, _, _, rfl, hv⟩
  have a8 : Pos' (Float64.abs (Float64.ofInt 8)) := pos_eight.fin.abs
  have z8 : Float64.isZero (Float64.abs (Float64.ofInt 8)) = false := by decide +kernel
  refine tr_cons (tr_loop (Rit := IsL (ls.map Ls)) (n := (ls.map Ls).length) (Rs := fun i => (ls.map Ls).getD i fun _ _ => True) C sΓ (fun j hj => ?_) hev cellV (hands_list R.hh (stabLs ls)) (fun j hj => ?_) (fun _ => rfl)) (tr_cons (tr_if C sΓ fun H WH V => ?_) (tr_cons (tr_if C sΓ fun H WH V => ?_) tr_nil))
  · have hj' : j < ls.length := by rwa [List.length_map] at hj
    rw [getD_map hj']; exact sLs
  · have hj' : j < ls.length := by rwa [List.length_map] at hj
    rw [getD_map hj']
    obtain ⟨g, hz⟩ := hls ls[j] (List.getElem_mem hj')
    exact tr_sub (t_alike g hz R C sΓ) (hS.cons hal)
  · refine evt_of_or (evt_or (EvT.cast (evt_cmp WH (ev_bin WH (ev_name E.f V hx sN rfl) ev_int sN (o_divni R (by decide) (by decide) z8 (div_nn ps.pos a8 z8)))
      (ev_bin WH (ev_name E.f V hx sN rfl) ev_flt sN (o_mulnf R (mul_nn ps.pos pos_eighth.fin.abs))) sN (o_nenn R) rfl) ?_) (evt_or (evt_cmp WH (Ra := IsL [IsF (Float64.mul m (Float64.ofInt 8)), IsF (Float64.mul s (Float64.abs (Float64.ofInt 8)))]) (Rb := IsL [IsF (Float64.mul m (Float64.ofInt 8)), IsF (Float64.mul s (Float64.ofInt 8))]) ?_ ?_ (sL ⟨sF, sF, trivial⟩) (o_nell ⟨sF, sF, trivial⟩ ⟨sF, sF, trivial⟩ ⟨eqT_ff ?_, eqT_ff ?_, trivial⟩ unit) rfl)
      (evt_or (evt_pos_is E.f R WH V hx) evt_or_nil)))
    · have e1 : feq (Float64.div m (Float64.ofInt 8)) (Float64.mul m 4593671619917905920) = true := fq_of (eighth_eq fm) (div_nan fm pos_eight.fin (by decide +kernel))
      have e2 : feq (Float64.div s (Float64.abs (Float64.ofInt 8))) (Float64.mul s (Float64.abs 4593671619917905920)) = true := by
        rw [pos_eight.abs, pos_eighth.abs]
        exact fq_of (eighth_eq ps.pos.fin) (div_nan ps.pos.fin pos_eight.fin (by decide +kernel))
      rw [e1, e2]; rfl
    · have n8 : Nn (Float64.mul s (Float64.abs (Float64.ofInt 8))) := mul_nn ps.pos a8
      have x8 := fun p1 k p2 p3 => ev_bin (pos := p3) WH (ev_name (pos := p1) E.f V hx sN rfl) (ev_int (w := w) (A := A) (n := 8) (k := k) (pos := p2)) sN (o_mulni R (by decide) n8)
      exact ev_list (evl_cons (ev_attr WH (x8 _ _ _ _) (o_mean R) rfl) sF (evl_cons (ev_attr WH (x8 _ _ _ _) (o_stdev R) rfl) sF evl_nil rfl) rfl) ⟨sF, sF, trivial⟩ (by simp)
    · exact ev_list (evl_cons (ev_bin WH (ev_name E.f V hm sF rfl) ev_int sF (o_mulfi (by decide))) sF (evl_cons (ev_bin WH (ev_name E.f V hs sF rfl) ev_int sF (o_mulfi (by decide))) sF evl_nil rfl) rfl) ⟨sF, sF, trivial⟩ (by simp)
    · exact fq_refl (mul_nan fm pos_eight.fin)
    · rw [pos_eight.abs]; exact fq_refl (mul_nan ps.pos.fin pos_eight.fin)
  · have n0 : Nn (hyp s s) := hyp_nn ps ps
    have n2 : Nn (Float64.mul s (Float64.abs (Float64.ofInt 2))) := mul_nn ps.pos pos_two.fin.abs
    have x' := fun p => ev_name (w := w) (A := A) (pos := p) E.f V hx sN rfl
    have b1 := three1 fm ps
    have b2 := three2 fm ps
    have b3 := three3 fm ps
    refine evt_cmp WH (Ra := IsL [IsB (Float64.isZero s), IsB (Float64.isZero s), IsB (Float64.isZero m)]) (Rb := IsL [IsB (Float64.isZero s), IsB (Float64.isZero s), IsB (Float64.isZero m)]) ?_ ?_ (sL ⟨sB, sB, sB, trivial⟩) (o_nell ⟨sB, sB, sB, trivial⟩ ⟨sB, sB, sB, trivial⟩ ⟨eqT_bb, eqT_bb, eqT_bb, trivial⟩ unit) rfl
    · refine ev_list (evl_cons (Ev.castR (ev_cmp WH (ev_bin WH (x' _) (x' _) sN (o_subnn R n0)) (ev_name E.f V hnone sN rfl) sN (o_eqnn R) rfl) (congrArg IsB b1)) sB (evl_cons (Ev.castR (ev_cmp WH (ev_bin WH (x' _) (x' _) sN (o_addnn R n0)) (ev_bin WH (x' _) ev_int sN (o_mulni R (by decide) n2)) sN (o_eqnn R) rfl) (congrArg IsB b2)) sB
        (evl_cons (Ev.castR (ev_cmp WH (x' _) (ev_un WH (x' _) (o_negn R)) sN (o_eqnn R) rfl) (congrArg IsB b3)) sB evl_nil rfl) rfl) rfl) ⟨sB, sB, sB, trivial⟩ (by simp)
    · have z : ∀ f, (Float64.cmpInt f 0 == some .eq) = Float64.isZero f := fun f => (Flt.isZero_eq f).symm
      exact ev_list (evl_cons (Ev.castR (ev_cmp WH (ev_name E.f V hs sF rfl) ev_int sF o_eqfi rfl) (congrArg IsB (z s))) sB (evl_cons (Ev.castR (ev_cmp WH (ev_name E.f V hs sF rfl) ev_int sF o_eqfi rfl) (congrArg IsB (z s))) sB
        (evl_cons (Ev.castR (ev_cmp WH (ev_name E.f V hm sF rfl) ev_int sF o_eqfi rfl) (congrArg IsB (z m))) sB evl_nil rfl) rfl) rfl) ⟨sB, sB, sB, trivial⟩ (by simp)
end
end Mine

open PySem PySem.W PySem.Calls PyProof.Rows
set_option Elab.async false
set_option maxRecDepth 100000
set_option maxHeartbeats 1000000
namespace Mine
theorem fill11_ (w : World) (h : Heap) : (lay02.heap_1 w.params).In h → Challenge.rw_oz0058_02.row.prog = Challenge.rw_oz0058_02.row.prog := by
  k_fill
  intros; rfl
theorem map_range (rs : List Int) : rs.map IsI = (List.range rs.length).map fun j => IsI (rs.getD j 0) := by
  refine List.ext_getElem (by simp) fun j h1 h2 => ?_
  have hj : j < rs.length := by simpa using h1
  simp [List.getD_eq_getElem?_getD, List.getElem?_eq_getElem hj]
theorem o_lenR {w : World} {A : Around} {n : Nat} {f : Nat → HP} (hz : n ≤ 1000) : OpN w A (.builtin "len") [IsL ((List.range n).map f)] (IsI (n : Int)) := by
  have := o_len (w := w) (A := A) (Rs := (List.range n).map f) (by simpa using hz)
  rwa [List.length_map, List.length_range] at this
def rowOf (ns : List Int) : List Int := ns ++ [7, -2, 1100]
def Rv (ns : List Int) (j : Nat) : Int := (rowOf ns).getD j 0
abbrev Rrow (ns : List Int) : HP := IsL ((List.range (rowOf ns).length).map fun j => IsI (Rv ns j))
theorem len_n (ns : List Int) : (rowOf ns).length = ns.length + 3 := by unfold rowOf; simp
theorem sRow {ns : List Int} : Stab (Rrow ns) := sL (stab_map fun _ _ => sI)
section
variable {w : World} {h₀ : Heap} {cn : Str} {L a : Addr} {ccd : Value} {c1 : Addr} {A : Around}
theorem row_first {ns : List Int} {s : Shared} {Q : Flow → Shared → Prop} (C : Cx w (envA cn L a ccd c1) h₀) (hlen : ns.length ≤ 63) (S : Sto (envA cn L a ccd c1) h₀ [(("script" : Str), IsL (ns.map IsI))] s.heap)
    (hQ : ∀ h' tk, 0 < tk → Sto (envA cn L a ccd c1) h₀ [(("row" : Str), Rrow ns)] h' → Q .next { s with heap := h', toks := tk }) :
    wpAny (model Challenge.rw_oz0058_02.row.prog w) A (exec (lawStmts.headD (.Pass ⟨0, 0, 0, 0⟩)) (envA cn L a ccd c1)) Q (fun _ _ => False) s := by
  have WD := S.wd C
  have stI : ∀ l : List Int, StabL (l.map IsI) := fun l => by
    induction l with
    | nil => trivial
    | cons x r ih => exact ⟨sI, ih⟩
  have sΓ : StabΓ [(("script" : Str), IsL (ns.map IsI))] := StabΓ.nil.cons (sL (stI ns))
  rcases S.vars "script" _ rfl with ⟨hk, m, v, hn, hv, hr⟩ | ⟨hk, _⟩
  · refine wpAny_Assign_Name (wpAny_BinOp (wpAny_Name (wpAny_loadName_local C.envF.kind hk hn hv ?_) rfl)) rfl
    refine List_ (spliced_more (wpAny_Constant_int ?_) rfl)
    refine evl_cons (ev_un (R := IsI 2) (R' := IsI (-2)) WD ev_int o_negi) sI (evl_cons ev_int sI evl_nil rfl) rfl _ _ _ _ (Stays.refl _) (Nat.succ_pos _) fun vs h1 tk1 k1 p1 rs => ?_
    have k1' : Stays s.heap h1 := k1
    have hpush : Stays h1 (h1.push { cls := .type "list", data := .seq (Value.int 7 s.toks :: vs).toArray }) := fun b o e => Heap.get?_push_of_some _ e
    have len2 : vs.length = 2 := rs.length
    refine wpAny_newObj_type ?_ (by
      show (Value.int 7 s.toks :: vs).toArray.size ≤ sizeLine
      rw [List.size_toArray, List.length_cons, len2, sizeLine_eq]; decide)
    have kk := k1'.trans hpush
    refine o_addll (Rs := ns.map IsI) (Rs' := [7, -2, 1100].map IsI) (by simp; omega) (stI _) (stI _) _ _ _ _ _ (WD.grow kk) p1 (sL (stI ns) _ _ _ (.of kk) hr) ⟨_, _, rfl, ⟨_, Heap.get?_push_size _ rfl, rfl, 0, rfl⟩, ⟨⟨_, rfl⟩, All2.stab ⟨sI, sI, trivial⟩ (.of hpush) rs⟩⟩ fun v h3 tk3 k3 p3 rv => ?_
    have S3 := S.grow sΓ (kk.trans k3)
    rw [← List.map_append] at rv
    refine store_any C sΓ (sL (stI _)) S3 rv (.inl rfl) p3 fun h4 tk4 k4 p4 _ S4 => ?_
    have S5 : Sto (envA cn L a ccd c1) h₀ [(("row" : Str), IsL ((rowOf ns).map IsI))] h4 := S4.sub ⟨rfl, trivial⟩
    rw [map_range] at S5
    exact hQ h4 tk4 p4 S5
  · cases hk
/-- range(len(row)) -/
theorem ev_rng {H : Heap} {Γ : List (Str × HP)} {ns : List Int} {p1 p2 p3 p4 p5 : Pos} (hlen : ns.length ≤ 63) (WH : Wd w H) (V : Vars (envA cn L a ccd c1) H Γ) (hrow : Γ.lookup ("row" : Str) = some (Rrow ns)) :
    Ev w A (envA cn L a ccd c1) H (.Call (.Name "range" p1) [.Call (.Name "len" p2) [.Name "row" p3] [] p4] [] p5) (IsR ((rowOf ns).length : Int)) := by
  have E := lEnv (cn := cn) (L := L) (a := a) (ccd := ccd) (c1 := c1)
  have hz : (rowOf ns).length ≤ 1000 := by rw [len_n]; omega
  exact ev_callT WH (ev_boot E.f WH rfl (by k_is) rfl (by decide) rfl) (evl_cons (ev_callB WH (ev_boot E.f WH rfl (by k_is) rfl (by decide) rfl) (evl_cons (ev_name E.f V hrow sRow rfl) sRow evl_nil rfl) (o_lenR hz) rfl rfl rfl) sI evl_nil rfl) o_range rfl rfl rfl
abbrev Γb (ns : List Int) : List (Str × HP) := [(("none" : Str), IsN 0 0), (("row" : Str), Rrow ns)]
theorem t_loop {ns : List Int} {i : Nat} (R : Rm A) (C : Cx w (envA cn L a ccd c1) h₀) (hu : A.in1.units + 1 < cLine) (hd : A.in1.depth + 6 < recursionLimit) (hlen : ns.length ≤ 63) (hi : i < (rowOf ns).length) :
    Tr w A (envA cn L a ccd c1) h₀ (execs loopB (envA cn L a ccd c1)) ((("i" : Str), IsI (i : Int)) :: Γb ns) (Γb ns) := by
  have E := lEnv (cn := cn) (L := L) (a := a) (ccd := ccd) (c1 := c1)
  have hn := len_n ns
  have hz : (rowOf ns).length ≤ 1000 := by rw [hn]; omega
  have sΓ0 : StabΓ ((("i" : Str), IsI (i : Int)) :: Γb ns) := ((StabΓ.nil.cons sRow).cons sN).cons sI
  generalize hN : Rv ns (idx (rowOf ns).length (i : Int)) = n
  generalize hB : Rv ns (idx (rowOf ns).length ((i : Int) - 1)) = b
  generalize hD : Rv ns (idx (rowOf ns).length ((i : Int) - 2)) = d
  refine tr_cons (tr_tuple [("n", IsI n), ("b", IsI b), ("d", IsI d)] C R.hh sΓ0 ⟨sI, sI, sI, trivial⟩ (fun H WH V => ?_) ?_ (by show (3 : Nat) ≤ 1000; decide) rfl rfl) ?_
  · refine evl_cons (Ev.castR (ev_at (f := fun j => IsI (Rv ns j)) WH (ev_name E.f V rfl sRow rfl) (ev_name E.f V rfl sI rfl) (fun _ _ => sI) hz (by omega) (by omega) (fun _ _ => rfl)) (congrArg IsI hN)) sI ?_ rfl
    refine evl_cons (Ev.castR (ev_at (f := fun j => IsI (Rv ns j)) WH (ev_name E.f V rfl sRow rfl) (ev_bin WH (ev_name E.f V rfl sI rfl) ev_int sI o_subii) (fun _ _ => sI) hz (by omega) (by omega) (fun _ _ => rfl)) (congrArg IsI hB)) sI ?_ rfl
    exact evl_cons (Ev.castR (ev_at (f := fun j => IsI (Rv ns j)) WH (ev_name E.f V rfl sRow rfl) (ev_bin WH (ev_name E.f V rfl sI rfl) ev_int sI o_subii) (fun _ _ => sI) hz (by omega) (by omega) (fun _ _ => rfl)) (congrArg IsI hD)) sI evl_nil rfl
  · intro p hp
    simp only [List.mem_cons, List.not_mem_nil, or_false] at hp
    rcases hp with rfl | rfl | rfl
    · exact E.n
    · exact E.b
    · exact E.d
  have sΓ1 : StabΓ ([(("n" : Str), IsI n), (("b" : Str), IsI b), (("d" : Str), IsI d)] ++ (("i" : Str), IsI (i : Int)) :: Γb ns) := ((sΓ0.cons sI).cons sI).cons sI
  have fm : Fin' (lf n b) := lf_fin' _ _
  have ps : Sm (Float64.abs (lf b n)) := lf_sm _ _
  have fc : Fin' (lf d n) := lf_fin' _ _
  have pt : Sm (Float64.abs (lf n d)) := lf_sm _ _
  generalize hm : lf n b = m at *
  generalize hs : Float64.abs (lf b n) = s at *
  generalize hc : lf d n = c at *
  generalize ht : Float64.abs (lf n d) = t at *
  refine tr_cons (tr_tuple [("m", IsF m), ("s", IsF s)] C R.hh sΓ1 ⟨sF, sF, trivial⟩ (fun H WH V => ?_) ?_ (by show (2 : Nat) ≤ 1000; decide) rfl rfl) ?_
  · refine evl_cons (Ev.castR (ev_callK WH (ev_glob (v := .ref 281) E.f WH E.lf (by k_is) rfl) (by k_is) (evl_cons (ev_name E.f V rfl sI rfl) sI (evl_cons (ev_name E.f V rfl sI rfl) sI evl_nil rfl) rfl) (o_lawf R) rfl rfl rfl) (congrArg IsF hm)) sF ?_ rfl
    refine evl_cons (Ev.castR (ev_callB WH (ev_boot E.f WH E.abs (by k_is) rfl (by decide) rfl) (evl_cons (ev_callK WH (ev_glob (v := .ref 281) E.f WH E.lf (by k_is) rfl) (by k_is) (evl_cons (ev_name E.f V rfl sI rfl) sI (evl_cons (ev_name E.f V rfl sI rfl) sI evl_nil rfl) rfl) (o_lawf R) rfl rfl rfl) sF evl_nil rfl) o_absf rfl rfl rfl) (congrArg IsF hs)) sF evl_nil rfl
  · intro p hp
    simp only [List.mem_cons, List.not_mem_nil, or_false] at hp
    rcases hp with rfl | rfl
    · exact E.m
    · exact E.s
  have sΓ2 : StabΓ ([(("m" : Str), IsF m), (("s" : Str), IsF s)] ++ ([(("n" : Str), IsI n), (("b" : Str), IsI b), (("d" : Str), IsI d)] ++ (("i" : Str), IsI (i : Int)) :: Γb ns)) := (sΓ1.cons sF).cons sF
  refine tr_cons (tr_tuple [("c", IsF c), ("t", IsF t)] C R.hh sΓ2 ⟨sF, sF, trivial⟩ (fun H WH V => ?_) ?_ (by show (2 : Nat) ≤ 1000; decide) rfl rfl) ?_
  · refine evl_cons (Ev.castR (ev_callK WH (ev_glob (v := .ref 281) E.f WH E.lf (by k_is) rfl) (by k_is) (evl_cons (ev_name E.f V rfl sI rfl) sI (evl_cons (ev_name E.f V rfl sI rfl) sI evl_nil rfl) rfl) (o_lawf R) rfl rfl rfl) (congrArg IsF hc)) sF ?_ rfl
    refine evl_cons (Ev.castR (ev_callB WH (ev_boot E.f WH E.abs (by k_is) rfl (by decide) rfl) (evl_cons (ev_callK WH (ev_glob (v := .ref 281) E.f WH E.lf (by k_is) rfl) (by k_is) (evl_cons (ev_name E.f V rfl sI rfl) sI (evl_cons (ev_name E.f V rfl sI rfl) sI evl_nil rfl) rfl) (o_lawf R) rfl rfl rfl) sF evl_nil rfl) o_absf rfl rfl rfl) (congrArg IsF ht)) sF evl_nil rfl
  · intro p hp
    simp only [List.mem_cons, List.not_mem_nil, or_false] at hp
    rcases hp with rfl | rfl
    · exact E.c
    · exact E.t
  have sΓ3 : StabΓ ([(("c" : Str), IsF c), (("t" : Str), IsF t)] ++ ([(("m" : Str), IsF m), (("s" : Str), IsF s)] ++ ([(("n" : Str), IsI n), (("b" : Str), IsI b), (("d" : Str), IsI d)] ++ (("i" : Str), IsI (i : Int)) :: Γb ns))) := (sΓ2.cons sF).cons sF
  have zne : (Float64.cmpInt c 0 != some .eq) = !Float64.isZero c := by
    show (!(Float64.cmpInt c 0 == some .eq)) = _
    rw [(Flt.isZero_eq c).symm]
  -- x, y = NormalDist(m, s), NormalDist(c, t), and the rest
  have last : ∀ (Rk : HP) (p7 p8 : List Pr), Stab Rk → good p7 ∧ p7.length ≤ 1000 → good p8 ∧ p8.length ≤ 1000 →
      (∀ H Γ, Wd w H → Vars (envA cn L a ccd c1) H Γ → Γ.lookup ("k" : Str) = some Rk → Rd w A (envA cn L a ccd c1) H m s c t → Ev w A (envA cn L a ccd c1) H (lst 6) (Ls p7) ∧ Ev w A (envA cn L a ccd c1) H (lst 7) (Ls p8)) →
      Tr w A (envA cn L a ccd c1) h₀ (execs (loopB.drop 4) (envA cn L a ccd c1)) ((("k" : Str), Rk) :: ([(("c" : Str), IsF c), (("t" : Str), IsF t)] ++ ([(("m" : Str), IsF m), (("s" : Str), IsF s)] ++ ([(("n" : Str), IsI n), (("b" : Str), IsI b), (("d" : Str), IsI d)] ++ (("i" : Str), IsI (i : Int)) :: Γb ns)))) (Γb ns) := by
    intro Rk p7 p8 sk g7 g8 h78
    have sΓ4 := sΓ3.cons (x := ("k" : Str)) sk
    refine tr_cons (tr_tuple [("x", IsN m s), ("y", IsN c t)] C R.hh sΓ4 ⟨sN, sN, trivial⟩ (fun H WH V => ?_) ?_ (by show (2 : Nat) ≤ 1000; decide) rfl rfl) ?_
    · refine evl_cons (ev_callK WH (ev_glob (v := .ref 270) E.f WH E.nd (by k_is) rfl) (by k_is) (evl_cons (ev_name E.f V rfl sF rfl) sF (evl_cons (ev_name E.f V rfl sF rfl) sF evl_nil rfl) rfl) (o_mk R ps.pos.nn) rfl rfl rfl) sN ?_ rfl
      exact evl_cons (ev_callK WH (ev_glob (v := .ref 270) E.f WH E.nd (by k_is) rfl) (by k_is) (evl_cons (ev_name E.f V rfl sF rfl) sF (evl_cons (ev_name E.f V rfl sF rfl) sF evl_nil rfl) rfl) (o_mk R pt.pos.nn) rfl rfl rfl) sN evl_nil rfl
    · intro p hp
      simp only [List.mem_cons, List.not_mem_nil, or_false] at hp
      rcases hp with rfl | rfl
      · exact E.x
      · exact E.y
    have sΓ5 : StabΓ ([(("x" : Str), IsN m s), (("y" : Str), IsN c t)] ++ ((("k" : Str), Rk) :: ([(("c" : Str), IsF c), (("t" : Str), IsF t)] ++ ([(("m" : Str), IsF m), (("s" : Str), IsF s)] ++ ([(("n" : Str), IsI n), (("b" : Str), IsI b), (("d" : Str), IsI d)] ++ (("i" : Str), IsI (i : Int)) :: Γb ns))))) := (sΓ4.cons sN).cons sN
    refine tr_sub (t_rest (m := m) (s := s) (ls := [ps1 m s, ps2 m s, ps3 m s c t, ps4 m s c t, ps5 m s c, ps6 m s c, p7, p8, ps9 m s]) R hu hd C sΓ5 ?_ ?_ (fun H WH V => ?_) rfl rfl rfl rfl rfl fm ps) ?_
    · exact ⟨rfl, rfl, rfl, rfl, rfl, rfl, rfl, rfl, rfl, rfl, rfl, rfl, rfl, trivial⟩
    · intro q hq
      simp only [List.mem_cons, List.not_mem_nil, or_false] at hq
      rcases hq with rfl | rfl | rfl | rfl | rfl | rfl | rfl | rfl | rfl
      · exact ⟨good1 fm ps, by show (9 : Nat) ≤ 1000; decide⟩
      · exact ⟨good2 fm ps, by show (12 : Nat) ≤ 1000; decide⟩
      · exact ⟨good3 fm ps fc pt, by show (4 : Nat) ≤ 1000; decide⟩
      · exact ⟨good4 fm ps fc pt, by show (4 : Nat) ≤ 1000; decide⟩
      · exact ⟨good5 fm ps fc, by show (6 : Nat) ≤ 1000; decide⟩
      · exact ⟨good6 fm ps fc, by show (6 : Nat) ≤ 1000; decide⟩
      · exact g7
      · exact g8
      · exact ⟨good9 fm ps, by show (3 : Nat) ≤ 1000; decide⟩
    · have D := rd_of (A := A) (c := c) (t := t) E WH V rfl rfl rfl rfl rfl rfl
      obtain ⟨h7, h8⟩ := h78 H _ WH V rfl D
      exact ev_lists D WH R ps pt h7 h8
    · exact ⟨rfl, rfl, trivial⟩
  cases hzc : Float64.isZero c with
  | false =>
    refine tr_cons (tr_assign (R := IsF c) C sΓ3 sF (fun H WH V => ev_ite (EvT.cast (evt_cmp WH (ev_name E.f V rfl sF rfl) ev_int sF o_nefi rfl) (by rw [zne, hzc])) (fun _ => ev_name E.f V rfl sF rfl) (fun h => absurd h (by decide))) (fun _ _ => .inl E.k) rfl) ?_
    exact last (IsF c) (ps7 m s c (Float64.neg c)) (ps8 m s c (Float64.neg c)) sF ⟨good7 fm ps fc rfl, by show (6 : Nat) ≤ 1000; decide⟩ ⟨good8 fm ps fc hzc rfl, by show (4 : Nat) ≤ 1000; decide⟩ fun H Γ WH V hk D =>
      ⟨ev_lst6f D WH R ps (fun _ => ev_name E.f V hk sF rfl) fc, ev_lst7f D WH R ps (fun _ => ev_name E.f V hk sF rfl) fc hzc⟩
  | true =>
    refine tr_cons (tr_assign (R := IsI 3) C sΓ3 sI (fun H WH V => ev_ite (EvT.cast (evt_cmp WH (ev_name E.f V rfl sF rfl) ev_int sF o_nefi rfl) (by rw [zne, hzc])) (fun h => absurd h (by decide)) (fun _ => ev_int)) (fun _ _ => .inl E.k) rfl) ?_
    have z3 : Float64.isZero (Float64.ofInt 3) = false := by decide +kernel
    exact last (IsI 3) (ps7 m s (Float64.ofInt 3) (Float64.ofInt (-3))) (ps8 m s (Float64.ofInt 3) (Float64.ofInt (-3))) sI ⟨good7 fm ps oi3.fin oim3, by show (6 : Nat) ≤ 1000; decide⟩ ⟨good8 fm ps oi3.fin z3 oim3, by show (4 : Nat) ≤ 1000; decide⟩ fun H Γ WH V hk D =>
      ⟨ev_lst6i D WH R ps (fun _ => ev_name E.f V hk sI rfl), ev_lst7i D WH R ps (fun _ => ev_name E.f V hk sI rfl)⟩
theorem t_law {ns : List Int} {s : Shared} {Q : Flow → Shared → Prop} (R : Rm A) (hu : A.in1.units + 1 < cLine) (hd : A.in1.depth + 6 < recursionLimit)
    (C : Cx w (envA cn L a ccd c1) h₀) (hlen : ns.length ≤ 63) (S : Sto (envA cn L a ccd c1) h₀ [(("script" : Str), IsL (ns.map IsI))] s.heap)
    (hQ : ∀ h' tk m, Fr h₀ L h' m → Q (.ret (.bool true)) { s with heap := h', toks := tk }) :
    wpAny (model Challenge.rw_oz0058_02.row.prog w) A (execs lawStmts (envA cn L a ccd c1)) Q (fun _ _ => False) s := by
  have E := lEnv (cn := cn) (L := L) (a := a) (ccd := ccd) (c1 := c1)
  have hn := len_n ns
  have hz : (rowOf ns).length ≤ 1000 := by rw [hn]; omega
  have sΓ1 : StabΓ [(("row" : Str), Rrow ns)] := StabΓ.nil.cons sRow
  have sΓ2 : StabΓ (Γb ns) := sΓ1.cons sN
  refine wpAny_execs_cons (row_first C hlen S fun h1 tk1 p1 S1 => ?_)
  refine wpAny_execs_cons (tr_assign (R := IsN 0 0) C sΓ1 sN (fun H WH V => Ev.castR (ev_callK WH (ev_glob (v := .ref 270) E.f WH E.nd (by k_is) rfl) (by k_is) (evl_cons ev_int sI (evl_cons ev_int sI evl_nil rfl) rfl) (o_mkii R) rfl rfl rfl) (by rw [oi0])) (fun _ _ => .inl rfl) rfl _ _ S1 p1 fun h2 tk2 _ p2 S2 => ?_)
  refine wpAny_execs_cons (tr_loop (n := (rowOf ns).length) (Rs := fun i => IsI (i : Int)) (Γ := Γb ns) C sΓ2 (fun _ _ => sI) (fun H WH V => ev_rng hlen WH V rfl) (fun _ _ => .inl E.i) (hands_range R.hh hz) (fun i hi => t_loop R C hu hd hlen hi) (fun _ => rfl) _ _ S2 p2 fun h3 tk3 _ p3 S3 => ?_)
  refine wpAny_execs_cons (wpAny_Return_some (wpAny_Constant_bool ?_))
  obtain ⟨_, F3, _⟩ := S3.fr
  exact hQ h3 tk3 _ F3
end
end Mine

open PySem PySem.W PySem.Calls PyProof.Rows
set_option Elab.async false
set_option maxRecDepth 100000
set_option maxHeartbeats 2000000
namespace Mine
theorem ints_all {h : Heap} : ∀ {vs : List Value} {ns : List Int}, IntsAre vs ns → All2 (ns.map IsI) h vs
  | _, _, .nil => trivial
  | _, _, .cons n t r => ⟨⟨t, rfl⟩, ints_all r⟩
theorem rm0 {env : Env} : Rm (callerA.deeper env) := ⟨rfl, by show callerA.depth + 1 + 60 < recursionLimit; decide, by show callerA.units + 3 + 600 < cLine; decide⟩
theorem unit0 {env : Env} : (callerA.deeper env).in1.units + 1 < cLine := by show callerA.units + 3 + 1 + 1 < cLine; decide
theorem depth0 {env : Env} : (callerA.deeper env).in1.depth + 6 < recursionLimit := by show callerA.depth + 1 + 6 < recursionLimit; decide
/-- from the head's state into the law -/
theorem enter {w : World} {h₀ : Heap} {cn : Str} {L a : Addr} {ccd : Value} {ns : List Int} {vs : List Value} {l : Addr} {m : Str → Option Value} {o1 : Obj} {v1 : Option Value} {loose : List Str} {mean : ExcName → Option Value} {mg mb : Str → Option Value} {s : Shared} {Q : Flow → Shared → Prop} {E : Value → Shared → Prop}
    (KX : (lay02.heap_1 w.params).In h₀) (T : Top view02 loose mean mg mb h₀) (F : Fr h₀ L s.heap m) (hm : m ("script" : Str) = some (.ref l)) (hL : h₀.IsList l vs.toArray) (hI : IntsAre vs ns) (hlen : ¬ (63 : Int) < (ns.length : Int))
    (N : News h₀ L s.heap [(L + 1, o1)]) (d1 : o1.data = .cell v1)
    (hQ : ∀ h' tk m, Fr h₀ L h' m → Q (.ret (.bool true)) { s with heap := h', toks := tk }) :
    wpAny (model Challenge.rw_oz0058_02.row.prog w) (callerA.deeper (envOfC cn lawScope L a ccd)) (execs lawStmts (envOfC cn lawScope L a ccd)) Q E s := by
  have n1 := N _ (.head _)
  have C : Cx w (envA cn L a ccd (L + 1)) h₀ := by
    have q : ∀ z c, List.lookup z [(("alike" : Str), L + 1)] = some c → z = "alike" ∧ c = L + 1 := fun z c e => by
      simp only [List.lookup_cons, List.lookup_nil] at e
      split at e
      · rename_i h; cases e; exact ⟨by simpa using h, rfl⟩
      · cases e
    refine ⟨KX, ⟨_, _, _, _, T⟩, ⟨rfl, rfl, rfl⟩, fun x c e => ?_, fun x y c e e' => (q x c e).1.trans (q y c e').1.symm⟩
    rw [(q x c e).2]; exact n1.2.2
  have S : Sto (envA cn L a ccd (L + 1)) h₀ [(("script" : Str), IsL (ns.map IsI))] s.heap := by
    refine ⟨⟨m, F, "script", _, hm⟩, fun z R e => ?_, fun x c e => ?_⟩
    · rw [List.lookup_cons] at e
      split at e
      · rename_i hz
        have hz' : z = "script" := by simpa using hz
        subst hz'; cases e
        exact .inl ⟨rfl, m, _, F.ns, hm, l, vs, rfl, IsList.keepD (.of F.keep) hL, ints_all hI⟩
      · cases e
    · simp only [List.lookup_cons, List.lookup_nil] at e
      split at e
      · cases e; exact ⟨_, o1, n1.1, d1⟩
      · cases e
  exact wpAny_noRaise (t_law rm0 unit0 depth0 C (by omega) S hQ)

theorem holds : PySem.Challenge.rw_oz0058_02.Holds := hd02 (by
  k_go0
  (all_goals try k_fold)
  (rename Fr _ _ _ _ => F)
  (rename IntsAre _ _ => hI)
  (rename CellsAre _ _ _ => X0)
  (rename News _ _ _ _ => N0)
  (rename (Heap.IsList _ _ _) => hL)
  (rename Frag.In _ _ => KX)
  (rename Top _ _ _ _ _ _ => T)
  (rename (¬ _ < _) => hlen)
  (rcases X0 with _ | ⟨d1, X0⟩)
  refine enter (ns := _) KX T F rfl hL hI hlen N0 d1 fun h' tk m' F' => ?_
  k_unfold
  clear F
  dsimp only
  wrow_close)
end Mine

theorem PySem.Challenge.cw_oz0058_02_holds : PySem.Challenge.rw_oz0058_02.Holds :=
  Mine.holds
