import PyProof.Rows.All
import Wide.All
import OpenK.AllK
import Wide.FinOn
import Flt.Zero
import PySem.Challenge.RW_oz0058_01

open PySem PySem.W
set_option Elab.async false
set_option maxRecDepth 100000
set_option maxHeartbeats 1000000
namespace Mine
/-- a heap laid as a tree -/
def fillT : List Obj → BT → Nat → Option (BT × Nat)
  | [], t, n => some (t, n)
  | o :: r, t, n => match ((t.ins n o).get n).isSome with
    | true => fillT r (t.ins n o) (n + 1)
    | false => none
theorem fillT_abs (life : Life) : ∀ (l : List Obj) (t : BT) (n : Nat) {t' : BT} {n' : Nat}, fillT l t n = some (t', n') → (absHeap t' n' life).objs = (absHeap t n life).objs ++ l.toArray
  | [], t, n, t', n', h => by
    unfold fillT at h; cases h; simp
  | o :: r, t, n, t', n', h => by
    unfold fillT at h
    split at h
    · rename_i g
      have := fillT_abs life r _ _ h
      rw [this, absHeap_ins g]
      show ((absHeap t n life).objs.push o) ++ r.toArray = _
      simp
    · cases h
def toT (s : Shared) : Option SharedT := match fillT s.heap.objs.toList .nil 0 with
  | some (t, n) => some ⟨t, n, s.heap.life, s.gens, s.drawn, s.toks, s.os⟩
  | none => none
theorem toT_abs {s : Shared} {t : SharedT} (h : toT s = some t) : t.abs = s := by
  unfold toT at h
  split at h
  · rename_i t n e
    cases h
    have := fillT_abs s.heap.life _ _ _ e
    obtain ⟨⟨objs, life⟩, gens, drawn, toks, os⟩ := s
    have h0 : (absHeap BT.nil 0 life).objs = #[] := by
      have := absHeap_size BT.nil 0 life
      exact Array.eq_empty_of_size_eq_zero this
    rw [h0] at this
    show (⟨absHeap t n life, gens, drawn, toks, os⟩ : Shared) = _
    have e2 : absHeap t n life = ⟨objs, life⟩ := by
      have e3 : (absHeap t n life).objs = objs := by rw [this]; simp
      show Heap.mk _ _ = Heap.mk _ _
      exact congrArg (Heap.mk · life) e3
    rw [e2]
  · cases h
end Mine

open PySem PySem.W
set_option Elab.async false
set_option maxRecDepth 100000
set_option maxHeartbeats 1000000
namespace Mine
def topG (st : (Code → Sem Fin) → Program → World → SharedT → Thread → Option (SharedT × Thread)) (dn : (String → Option Builtin) → Code → Sem Fin) (so : Nat → Option Value → Thread → Bool)
    (tb : String → Option Builtin) (p : Program) (w : World) (n₀ : Nat) (ann : Option Value) : Nat → SharedT → Thread → Option SharedT
  | 0, _, _ => none
  | n + 1, s, t => match through t with
    | true => some s
    | false => match so n₀ ann t with
      | false => none
      | true => match st (dn tb) p w s t with
        | some (s', t') => topG st dn so tb p w n₀ ann n s' t'
        | none => none
theorem topG_sound {tb : String → Option Builtin} {p : Program} {w : World} {n₀ : Nat} {ann : Option Value} : ∀ {n : Nat} {s r : SharedT} {t : Thread}, topG stepT denote stepOk tb p w n₀ ann n s t = some r → topRun tb p w n₀ ann n s.abs t = some r.abs
  | 0, s, r, t, h => by unfold topG at h; cases h
  | n + 1, s, r, t, h => by
    unfold topG at h
    unfold topRun
    cases e : through t with
    | true => rw [e] at h; cases h; rfl
    | false =>
      rw [e] at h
      dsimp only at h ⊢
      cases e2 : stepOk n₀ ann t with
      | false => rw [e2] at h; cases h
      | true =>
        rw [e2] at h
        dsimp only at h ⊢
        cases e3 : stepT (denote tb) p w s t with
        | none => rw [e3] at h; cases h
        | some x =>
          obtain ⟨s', t'⟩ := x
          rw [e3] at h
          rw [stepT_spec e3]
          exact topG_sound h
/-- the opening run on a tree -/
def impG (st : (Code → Sem Fin) → Program → World → SharedT → Thread → Option (SharedT × Thread)) (dn : (String → Option Builtin) → Code → Sem Fin) (tb : String → Option Builtin) (p : Program) (w : World) : Nat → SharedT → Thread → Option SharedT
  | 0, _, _ => none
  | n + 1, s, t => match t.atExitBegin with
    | some [] => some s
    | some (_ :: _) => none
    | none => match st (dn tb) p w s t with
      | some (s', t') => impG st dn tb p w n s' t'
      | none => none
theorem impG_sound {tb : String → Option Builtin} {p : Program} {w : World} : ∀ {n : Nat} {s r : SharedT} {t : Thread}, impG stepT denote tb p w n s t = some r → importEnds tb p w n s.abs t = some r.abs
  | 0, s, r, t, h => by unfold impG at h; cases h
  | n + 1, s, r, t, h => by
    unfold impG at h
    unfold importEnds
    cases e : t.atExitBegin with
    | some l =>
      rw [e] at h
      cases l with
      | nil => cases h; rfl
      | cons a b => cases h
    | none =>
      rw [e] at h
      dsimp only at h ⊢
      cases e3 : stepT (denote tb) p w s t with
      | none => rw [e3] at h; cases h
      | some x =>
        obtain ⟨s', t'⟩ := x
        rw [e3] at h
        rw [stepT_spec e3]
        exact impG_sound h
/-- the top, opening and all, told by its ends -/
def headC {α σ : Type} (sta : Program → Shared × Thread) (fm : Program → Shared → Option Shared) (st : (Code → Sem Fin) → Program → World → SharedT → Thread → Option (SharedT × Thread)) (dn : (String → Option Builtin) → Code → Sem Fin) (so : Nat → Option Value → Thread → Bool)
    (nm : Heap → Addr → Str → Option Value) (im : List Stmt → List Str) (sf : Program → List Str → List Str → (Shared → Bool) → Bool → Shared → σ) (tb : String → Option Builtin)
    (p q : Program) (loose : List Str) (Xt : Shared → Bool) (Yf : Shared → α) (N : Nat) (w : World) : Option (Bool × σ × α) :=
  match toT (sta (opening p)).1 with
  | none => none
  | some u₀ => match impG st dn tb (opening p) w N u₀ (sta (opening p)).2 with
    | none => none
    | some u₁ => match fm p u₁.abs with
      | none => none
      | some s₀ => match s₀.heap.isNs mainGlobals && s₀.gens.size == 0 with
        | false => none
        | true => match toT s₀ with
          | none => none
          | some t₀ => match topG st dn so tb p w s₀.heap.objs.size (nm s₀.heap mainGlobals "__annotations__") N t₀ (topStub p) with
            | none => none
            | some t₁ => some (staticsOk (im p.main.body) s₀.heap t₁.abs.heap && namesBound p t₁.abs.heap && gensDone t₁.abs && laidKept s₀.heap t₁.abs.heap, sf q loose (im p.main.body) Xt true t₁.abs, Yf t₁.abs)
theorem left_of {p q : Program} {loose : List Str} {Xt : Shared → Bool} {α : Type} {Yf : Shared → α} {Ya : World → α} {N : Nat}
    (h : ∀ w : World, headC start fenceModules? stepT denote stepOk Heap.nsMap importedModules openSeen treeTable p q loose Xt Yf N w = some (true, openGood q loose, Ya w)) : LeftO p q loose Xt Yf Ya N := fun w => by
  have h := h w
  unfold headC at h
  unfold openEnds fencedOpening
  split at h
  · cases h
  · rename_i u₀ d0
    split at h
    · cases h
    · rename_i u₁ d1
      have d2 := impG_sound d1
      rw [toT_abs d0] at d2
      rw [d2]
      split at h
      · cases h
      · rename_i s₀ d3
        show ((fenceModules? p u₁.abs).bind (topFrom treeTable p w N)).map _ = _
        rw [d3]
        show (topFrom treeTable p w N s₀).map _ = _
        unfold topFrom
        split at h
        · cases h
        · rename_i e2
          rw [e2]
          dsimp only
          split at h
          · cases h
          · rename_i t₀ e3
            split at h
            · cases h
            · rename_i t₁ e4
              have e5 := topG_sound e4
              rw [toT_abs e3] at e5
              rw [e5]
              have h' := Option.some.inj h
              have a1 := congrArg Prod.fst h'
              have a2 := congrArg Prod.snd h'
              dsimp only at a1 a2
              show (match staticsOk (importedModules p.main.body) s₀.heap t₁.abs.heap && namesBound p t₁.abs.heap && gensDone t₁.abs && laidKept s₀.heap t₁.abs.heap with | true => some t₁.abs | false => none).map _ = _
              rw [a1]
              exact congrArg some a2
theorem headC_tw {α : Type} {p q : Program} {loose : List Str} {Xt : Shared → Bool} {Yf : Shared → α} {N : Nat} {w : World} :
    headC start fenceModules? stepT denote stepOk Heap.nsMap importedModules openSeen treeTable p q loose Xt Yf N w =
    headC Fast.tw1435165496053646825 Fast.tw14289696077712309145 Fast.tw10156331382660048174 Fast.tw11892475500146522536 Fast.tw6613529449190102663 Fast.tw8920871248978507458 Fast.tw5923862056798008813 Fast.tw4187177175401517315 Fast.tw14364793385576792824 p q loose Xt Yf N w := by
  rw [Fast.te1435165496053646825, Fast.te14289696077712309145, Fast.te10156331382660048174, Fast.te11892475500146522536, Fast.te6613529449190102663, Fast.te8920871248978507458, Fast.te5923862056798008813, Fast.te4187177175401517315, Fast.te14364793385576792824]
end Mine

open PySem PySem.W
set_option Elab.async false
set_option maxRecDepth 100000
set_option maxHeartbeats 8000000
namespace Mine
section
local macro_rules | `(tactic| o_head $H) => `(tactic| (have := $H; assumption))
/-- this lays the written part of the heap, no more -/
theorem lay01 (h : PySem.Challenge.rw_oz0058_01.row.Holds) : PySem.Challenge.rw_oz0058_01.row.Holds := by k_head
end
theorem lays01 : (PySem.Challenge.pw_oz0058_01.main.body.length == 9) = true := by k_qdec
noncomputable def view01 : Program := PySem.W.view PySem.Challenge.pw_oz0058_01 [0, 1, 3, 4, 6, 7, 8]
def as01 : List Addr := [2, 3, 43, 45, 46, 48, 49, 50, 57, 58, 59, 60, 70, 71, 72, 74, 75, 77, 78, 79, 81, 82, 84, 85, 86, 87, 88, 89, 90, 92, 93, 95, 96, 97, 99, 100, 102, 103, 104, 106, 107, 109, 110, 111, 113, 114, 116, 117, 118, 119, 121, 122, 124, 125, 126, 128, 129, 131, 132, 133, 135, 136, 138, 139, 140, 142, 143, 145, 146, 147, 148, 150, 151, 153, 154, 155, 156, 158, 159, 161, 162, 163, 164, 166, 167, 169, 170, 171, 172, 174, 175, 177, 178, 179, 180, 182, 183, 185, 186, 187, 189, 190, 192, 193, 194, 196, 197, 199, 200, 201, 203, 204, 206, 207, 208, 210, 211, 213, 214, 215, 217, 218, 220, 221, 222, 224, 225, 227, 228, 229, 231, 232, 234, 235, 236, 238, 239, 241, 242, 243, 245, 246, 248, 249, 250, 252, 253, 255, 256, 257, 259, 260, 262, 263, 264, 269, 270, 271, 272, 275, 277, 278, 280, 281, 282, 284, 285, 287, 288, 289, 292, 293]
theorem as01_eq (P : Params) : as01 = (lay01.heap_1 P).map (·.1) := by kernel_rfl
/-- the run of the top, by the one answer that it asks of the world -/
theorem run01f : ∀ w : World, headC Fast.tw1435165496053646825 Fast.tw14289696077712309145 Fast.tw10156331382660048174 Fast.tw11892475500146522536 Fast.tw6613529449190102663 Fast.tw8920871248978507458 Fast.tw5923862056798008813 Fast.tw4187177175401517315 Fast.tw14364793385576792824
    PySem.Challenge.rw_oz0058_01.row.toRowW.prog view01 [(Str.ofString "NormalDist")] (fun s => xlAt view01 [] s && recOk (RowW.records (OpenRow.toRowW PySem.Challenge.rw_oz0058_01.row)) s) (Hook.obs (kHook lay01.heap_1 as01 as01_eq)) 3966 (w.withFollow "special-get-raises" false) =
    some (true, openGood view01 [(Str.ofString "NormalDist")], Hook.val (kHook lay01.heap_1 as01 as01_eq) (w.withFollow "special-get-raises" false)) := by
  rw [show PySem.Challenge.rw_oz0058_01.row.toRowW.prog = PySem.Challenge.pw_oz0058_01 from rfl]
  unfold view01
  rw [PySem.W.Fast.te4617907580597048240]
  intro w
  kernel_rfl
theorem run01t : ∀ w : World, headC Fast.tw1435165496053646825 Fast.tw14289696077712309145 Fast.tw10156331382660048174 Fast.tw11892475500146522536 Fast.tw6613529449190102663 Fast.tw8920871248978507458 Fast.tw5923862056798008813 Fast.tw4187177175401517315 Fast.tw14364793385576792824
    PySem.Challenge.rw_oz0058_01.row.toRowW.prog view01 [(Str.ofString "NormalDist")] (fun s => xlAt view01 [] s && recOk (RowW.records (OpenRow.toRowW PySem.Challenge.rw_oz0058_01.row)) s) (Hook.obs (kHook lay01.heap_1 as01 as01_eq)) 3966 (w.withFollow "special-get-raises" true) =
    some (true, openGood view01 [(Str.ofString "NormalDist")], Hook.val (kHook lay01.heap_1 as01 as01_eq) (w.withFollow "special-get-raises" true)) := by
  rw [show PySem.Challenge.rw_oz0058_01.row.toRowW.prog = PySem.Challenge.pw_oz0058_01 from rfl]
  unfold view01
  rw [PySem.W.Fast.te4617907580597048240]
  intro w
  kernel_rfl
section
local macro_rules | `(tactic| k_head) => `(tactic| (refine PySem.W.holds_open (q := view01) (loose := [(Str.ofString "NormalDist")]) (Xt := (fun s => xlAt view01 [] s && recOk (RowW.records (OpenRow.toRowW PySem.Challenge.rw_oz0058_01.row)) s)) (XP := XL view01 []) (Yf := Hook.obs (kHook lay01.heap_1 as01 as01_eq)) (Ya := Hook.val (kHook lay01.heap_1 as01 as01_eq)) (YP := Hook.says (kHook lay01.heap_1 as01 as01_eq)) (N := 3966) ?hl (Hook.of (kHook lay01.heap_1 as01 as01_eq)) (Hook.keeps (kHook lay01.heap_1 as01 as01_eq)) (fun s e => xl_of s (Bool.and_eq_true_iff.mp e).1) XL.keeps (by rfl) (by rfl) (by rfl) (fun s e => recFacts_of (Bool.and_eq_true_iff.mp e).2) (by rfl) (by assumption) (by decide +kernel) ⟨rfl, rfl, rfl, rfl, rfl, by decide +kernel⟩ ?hw ?hc; (case hl => (refine left_of (fun w => headC_tw.trans ?_); revert w; exact byRow2 "special-get-raises" run01f run01t))))
open_top hd01 for PySem.Challenge.rw_oz0058_01
end
end Mine

open PySem PySem.W PySem.Calls PyProof.Rows
set_option Elab.async false
set_option maxRecDepth 100000
set_option maxHeartbeats 4000000
namespace Mine

def hyp (a b : UInt64) : UInt64 := Builtin.Math.vectorNorm [Float64.abs a, Float64.abs b]

theorem kind_hyp : builtinKind "math.hypot" = none := by decide +kernel
theorem plain_hyp : plainId "math.hypot" = true := by decide +kernel
theorem entry_hyp : entryFor table "math.hypot" = some Builtin.«math.hypot» := entryFor_of_fast (by kernel_rfl)
theorem args_hyp (a b : Value) : argsOk "math.hypot" ⟨[a, b], []⟩ := by unfold argsOk; kernel_rfl

section
variable {prog : Program} {w : World} {A : Around} {E : Value → Shared → Prop} {s : Shared} {x y : UInt64} {t u : Tok} {Q : Value → Shared → Prop}
theorem call_hyp (h : Q (.float (hyp x y) s.toks) { s with toks := s.toks + 1 }) : wpAny (model prog w) A (call (.builtin "math.hypot") [.float x t, .float y u]) Q E s := by
  refine call_function_entry kind_hyp plain_hyp entry_hyp (args_hyp _ _) ?_
  show wpAny _ _ (Builtin.Float.retFloat (hyp x y)) _ _ s
  exact wpAny_bind (wpAny_mkFloat (wpAny_pure ⟨_, rfl, h⟩))
end

/-- nothing that stands is lost -/
abbrev Stays (h h' : Heap) : Prop := ∀ b o, h.get? b = some o → h'.get? b = some o
theorem Stays.refl (h : Heap) : Stays h h := fun _ _ e => e
theorem Stays.trans {a b c : Heap} (x : Stays a b) (y : Stays b c) : Stays a c := fun _ _ e => y _ _ (x _ _ e)
theorem Fr.grow {h₀ h h' : Heap} {L : Addr} {m : Str → Option Value} (F : Fr h₀ L h m) (k : Stays h h') : Fr h₀ L h' m := ⟨F.ns.keeps k, fun b o e => k b o (F.keep b o e), F.above⟩
theorem News.grow {h₀ h h' : Heap} {L : Addr} {news : List (Addr × Obj)} (N : News h₀ L h news) (k : Stays h h') : News h₀ L h' news := fun p hp => ⟨k _ _ (N p hp).1, (N p hp).2⟩
theorem fresh_of {h h' : Heap} {r : Addr} (k : Stays h h') (f : h'.get? r = none) : h.get? r = none := by
  cases e : h.get? r with
  | none => rfl
  | some o => rw [k _ _ e] at f; cases f
theorem get_propS {prog : Program} {w : World} {A : Around} {E : Value → Shared → Prop} {s : Shared} {K : Frag} {x C L : Addr} {h₀ : Heap} {m : Str → Option Value} {ox : Obj} {name : Str} {expr : Bool} {Q : Value → Shared → Prop} {p fget : Addr} {rest : List Value} {od : Obj} (F : Fr h₀ L s.heap m) (X₀ : K.In h₀) (I : W.InstAt s.heap x ox C (some od)) (hg : plainGet K C name = true) (hc : isClsIn K C = true)
    (ha : findIn K (.ref C) name = some (some (.ref p))) (hn : specialIn K (.ref p) "__get__" = some (some (.builtin "property.__get__"))) (ht : takesIn K (.ref p) = some true) (hp : recIn K p "property" = some (.ref fget :: rest))
    (h : codeAny (model prog w) A.in1 (.call (.ref fget) ⟨[.ref x], []⟩) (fun r s' => match r with | .ok (.ret v) => wpAny (model prog w) A (handedOut v) Q E s' | .ok _ => False | .error e => wpAny (model prog w) A (noteIf true (.ref x) (.str name s.toks) e) (fun _ s'' => E e s'') E s') { s with toks := s.toks + 1 }) :
    wpAny (model prog w) A (getAttr (.ref x) name expr) Q E s :=
  get_bind (X₀.keeps F.keep) I (plainGet_of hg).1 (findObj_data hc ha hn ht) (plainGet_of hg).2 (wpAny_call (prop_get (s := { s with toks := s.toks + 1 }) (X₀.keeps F.keep) hp h))
theorem InstAt.grow {h h' : Heap} {x C : Addr} {ox : Obj} {od : Option Obj} (I : W.InstAt h x ox C od) (k : Stays h h') : W.InstAt h' x ox C od := by
  obtain ⟨a, b, c, d⟩ := I
  refine ⟨k _ _ a, b, c, ?_⟩
  revert d
  cases ox.dict <;> cases od <;> intro d
  · exact d
  · exact d
  · exact d
  · exact k _ _ d


theorem fits_le8 {n : Int} (h : n.natAbs ≤ 8) : n.natAbs < 2 ^ 1023 := Nat.lt_of_le_of_lt h (by decide +kernel)
theorem notOver_le8 {n : Int} (h : n.natAbs ≤ 8) : ¬ Flt.Over n := by
  intro o
  have : (2 : Nat) ^ 1024 - 2 ^ 970 ≤ 8 := Nat.le_trans o h
  revert this; decide +kernel
section
variable {prog : Program} {w : World} {A : Around} {E : Value → Shared → Prop} {s : Shared} {x y : UInt64} {t u : Tok} {n : Int} {Q : Value → Shared → Prop}
theorem div_ff (h0 : Float64.isZero y = false) (h : Q (.float (Float64.div x y) s.toks) { s with toks := s.toks + 1 }) : wpAny (model prog w) A (binaryOp .Div (.float x t) (.float y u)) Q E s :=
  AutoFloatOps.truediv_1 (by rw [h0]; decide) h
theorem div_fi (h8 : n.natAbs ≤ 8) (h0 : n ≠ 0) (h : Q (.float (Float64.div x (Float64.ofInt n)) s.toks) { s with toks := s.toks + 1 }) : wpAny (model prog w) A (binaryOp .Div (.float x t) (.int n u)) Q E s :=
  AutoFloatOps.truediv_fi_2 (Float64.ofInt_fits (fits_le8 h8)) (fun z => h0 ((Flt.isZero_ofInt n).mp z)) h
end
section
variable {M : Model} {A : Around} {E : Value → Shared → Prop} {s : Shared} {x C : Addr} {a : UInt64} {n : Int} {t : Tok} {ox : Obj} {od : Option Obj} {Q : Fin → Shared → Prop}
theorem flt_declines (name : String) (f : UInt64 → UInt64 → Sem Value) (hx : s.heap.get? x = some ox) (hd : ox.data = .plain) (h : Q (.done (.ret .notImplemented)) s) :
    wpAny M A (Builtin.Float.floatBin name f false ⟨[.float a t, .ref x], []⟩) Q E s := by
  obtain ⟨c, d, da, sl⟩ := ox
  dsimp only at hd; subst hd
  unfold Builtin.Float.floatBin Builtin.Float.floatSlot
  repeat (first | exact h | wp_step)
theorem int_declines (name : String) (f : Int → Int → Sem Fin) (hx : s.heap.get? x = some ox) (hd : ox.data = .plain) (h : Q (.done (.ret .notImplemented)) s) :
    wpAny M A (Builtin.Int.intBinary name f false ⟨[.int n t, .ref x], []⟩) Q E s := by
  obtain ⟨c, d, da, sl⟩ := ox
  dsimp only at hd; subst hd
  unfold Builtin.Int.intBinary
  repeat (first | exact h | wp_step)
end

section
variable {M : Model} {A : Around} {E : Value → Shared → Prop} {s : Shared} {K : Frag} {x C L f : Addr} {h₀ : Heap} {m : Str → Option Value} {ox : Obj} {od : Option Obj} {nm T : String} {prog : Program} {w : World}

/-- a built-in number on the left declines, the object's own reflected method takes it -/
theorem bin_refl {op : Operator} {a : Value} {idl : String} {B : Builtin} {Q : Value → Shared → Prop} (F : Fr h₀ L s.heap m) (X₀ : K.In h₀) (I : W.InstAt s.heap x ox C od) (ha : s.TypeIs a T)
    (hc : selfFirst K C = true) (hp : findIn K (.ref C) (PySem.dunder op.info.2) = some (some (.ref f))) 
    (hs : findIn K (.ref C) (dunderR op.info.2) = some (some (.ref f'))) (hf : isFn K (.ref f') = true)
    (fills : fillsNumberSlot (.type T) op.info.2 = pure true) (hsub : subIn K (.ref C) (.type T) = some false)
    (slot : Slot T (dunder op.info.2) idl) (entry : entryFor table idl = some B) (args : argsOk idl ⟨[a, .ref x], []⟩)
    (g : ∀ (A' : Around) (E' : Value → Shared → Prop) (Q' : Fin → Shared → Prop), Q' (.done (.ret .notImplemented)) s → wpAny (model prog w) A' (B ⟨[a, .ref x], []⟩) Q' E' s)
    (h : wpAny (model prog w) A (call (.ref f') [.ref x, a]) (W.CmpBack Q) E s) : wpAny (model prog w) A (binaryOp op a (.ref x)) Q E s := by
  have X := X₀.keeps F.keep
  obtain ⟨cd, rest, hcd, hm⟩ := ksp_first hc
  rcases hi : op.info with ⟨sym, nm'⟩
  rw [hi] at hp hs fills slot
  dsimp only at hp hs fills slot
  have two := ksp_try X I hs hf h
  have L1 : Looks (model prog w) s.heap (typeOf (.ref x)) (.ref C) := I.type
  have L3 : Looks (model prog w) s.heap (fillsNumberSlot (.ref C) nm') true := fills_K X hcd hm hp
  have L5 : Looks (model prog w) s.heap (isSubtype (.ref C) (.type T)) false := looks_subIn X hsub
  have hne : (Value.type T == Value.ref C) = false := Bool.eq_false_iff.mpr fun q => by cases beq_iff_eq.mp q
  have hpy : numberSlotInPython (.type T) nm' = pure false := rfl
  simp only [binaryOp, hi]
  refine wpAny_holding (wpAny_bind ?_)
  unfold binaryOp1
  refine wpAny_bind (wpAny_typeOf ha (wpAny_bind (L1.here (wpAny_bind (wpAny_of_eq fills ?_)))))
  simp only [hne, Bool.false_eq_true, if_false]
  refine wpAny_bind (L3.here ?_)
  simp only [Bool.and_self, if_true]
  refine wpAny_bind (L5.here ?_)
  simp only [Bool.false_eq_true, if_false, pure_bind, Bool.not_false, Bool.and_self, if_true, hpy]
  refine wpAny_bind (wpAny_tryMethod_declines ha slot (wpAny_call (codeAny_call_builtin slot.plain entry (slot.check _ _ _ _ _ _ _ _ ha args (g _ _ _ ?_)))) )
  refine ⟨rfl, ?_⟩
  refine wpAny_bind (wpAny_mono two (fun r s' hr' => ?_) fun _ _ e => e)
  obtain ⟨v, rfl, hq⟩ := hr'
  exact wpAny_bind (wpAny_rule (wpAny_pure (wpAny_pure hq)))
end

end Mine

open PySem PySem.W PySem.Calls PyProof.Rows
set_option Elab.async false
set_option maxRecDepth 100000
set_option maxHeartbeats 8000000
namespace Mine

theorem fill_ (w : World) (h : Heap) : (lay01.heap_1 w.params).In h → Challenge.rw_oz0058_01.row.prog = Challenge.rw_oz0058_01.row.prog := by
  k_fill
  intros; rfl

abbrev ndObj (dx : Addr) (a b : Value) : Obj := { cls := .ref 270, dict := some dx, data := .plain, slots := #[some a, some b] }
/-- not below nought -/
abbrev Nn (f : UInt64) : Prop := (Float64.cmp f 0 == some Ordering.lt) = false

/-- the world of the text stands in the heap -/
def Wd (w : World) (h : Heap) : Prop := ∃ (h₀ : Heap) (L : Addr) (m : Str → Option Value) (loose : List Str) (mean : ExcName → Option Value) (mg mb : Str → Option Value),
  Fr h₀ L h m ∧ (lay01.heap_1 w.params).In h₀ ∧ Top view01 loose mean mg mb h₀
theorem Wd.grow {w : World} {h h' : Heap} (W : Wd w h) (k : Stays h h') : Wd w h' := by
  obtain ⟨h₀, L, m, l, me, mg, mb, F, X, T⟩ := W
  exact ⟨h₀, L, m, l, me, mg, mb, Fr.grow F k, X, T⟩
theorem Wd.inK {w : World} {h : Heap} (W : Wd w h) : (lay01.heap_1 w.params).In h := by
  obtain ⟨h₀, L, m, l, me, mg, mb, F, X, T⟩ := W
  exact X.keeps F.keep

/-- a normal stands at x -/
structure ND (h : Heap) (x : Addr) (mu sg : UInt64) : Prop where
  ex : ∃ dx t1 t2, h.get? x = some (ndObj dx (.float mu t1) (.float sg t2)) ∧ h.get? dx = some (dictOf [] 0) ∧ t1 ≠ 0 ∧ t2 ≠ 0
  nn : Nn sg
theorem ND.grow {h h' : Heap} {x : Addr} {mu sg : UInt64} (D : ND h x mu sg) (k : Stays h h') : ND h' x mu sg := by
  obtain ⟨⟨dx, t1, t2, a, b, c⟩, n⟩ := D
  exact ⟨⟨dx, t1, t2, k _ _ a, k _ _ b, c⟩, n⟩

theorem allLt_ne {d x : Nat} : ∀ {l : List (Addr × Obj)}, AllLt d l → @LE.le Nat _ d x → ∀ p ∈ l, p.1 ≠ x
  | [], _, _, _, h => nomatch h
  | p :: r, ⟨a, b⟩, hd, q, hq => by
    rcases List.mem_cons.mp hq with rfl | hq
    · exact Nat.ne_of_lt (Nat.lt_of_lt_of_le a hd)
    · exact allLt_ne b hd q hq

section
variable {w : World} {A : Around} {E : Value → Shared → Prop} {s : Shared} {Q : Value → Shared → Prop}

/-- a def of the text is entered over the heap as it stands -/
theorem enterD {g : Heap} {news : List (Addr × Obj)} {loose : List Str} {mean : ExcName → Option Value} {mg mb : Str → Option Value} {R : Result → Shared → Prop} {name qual : Str} {params : Arguments} {body : List Stmt} {scope : Scope} {dV kV doc pm cdv ct oc : Value} {an od : Option Addr} {osl : Array (Option Value)} {f : Addr} {args : Args} {binds : List (Str × Value)} {K : Frag}
    (X : K.In g) (T : Top view01 loose mean mg mb g) (k : Stays g s.heap) (hz : g.objs.size ≤ s.heap.objs.size) (N : ∀ p ∈ news, s.heap.get? p.1 = some p.2 ∧ g.get? p.1 = none)
    (ho : K.lookup f = some ⟨oc, od, .func (fnOf name qual params body scope dV kV doc pm an cdv ct), osl⟩) (hcd : codeIn K cdv qual = true) (hroom : A.depth < recursionLimit)
    (hbind : BindsTo s (fnOf name qual params body scope dV kV doc pm an cdv ct) args binds) (hloc : ∀ y ∈ binds, scope.names.lookup y.1 = some .local)
    (h : ∀ h₁ L', Fr g L' h₁ (fun y => binds.reverse.lookup y) → News g L' h₁ news → K.In g → Top view01 loose mean mg mb g →
      wpAny (model Challenge.rw_oz0058_01.row.prog w) (A.deeper (envOf qual scope L' f cdv)) (execs body (envOf qual scope L' f cdv))
        (fun fl s' => R (.ok (.ret (match fl with | .ret v => v | _ => .none))) s')
        (fun e s' => wpAny (model Challenge.rw_oz0058_01.row.prog w) (A.deeper (envOf qual scope L' f cdv)) (leaving (envOf qual scope L' f cdv) e) (fun _ s'' => R (.error e) s'') (fun e' s'' => R (.error e') s'') s')
        { s with heap := h₁, toks := s.toks + binds.length })
    (hco : scope.isCoroutine = false) (hgen : scope.isGenerator = false) (hk : scope.kind = .function)
    (hcell : ∀ x ∈ scope.names, x.2 ≠ .cell) : codeAny (model Challenge.rw_oz0058_01.row.prog w) A (.call (.ref f) args) R s := by
  refine codeAny_call_def (fd := fnOf name qual params body scope dV kV doc pm an cdv ct) (body := body) (binds := binds) hroom (X.keeps k _ _ ho) rfl (T.nolimit.keeps k) (codeRec_of (X.keeps k) hcd) rfl hbind hcell hloc (fun h₁ hns hk₁ => ?_) hco hgen hk
  refine h h₁ s.heap.objs.size ⟨hns, fun b o e => hk₁ _ _ (k _ _ e), hz⟩ (fun p hp => ⟨hk₁ _ _ (N p hp).1, Nat.ne_of_lt (Heap.lt_size (N p hp).1), (N p hp).2⟩) X T


local macro_rules | `(tactic| k_all) => `(tactic| exact allLt_ne (by assumption) (by omega))

theorem c_mkF {mu sg : UInt64} {t1 t2 : Tok} (W : Wd w s.heap) (hroom : A.depth + 2 < recursionLimit) (hs : Nn sg) (z1 : t1 ≠ 0) (z2 : t2 ≠ 0)
    (hQ : ∀ x dx t1 t2 h' tk, Stays s.heap h' → s.heap.get? x = none → s.heap.get? dx = none → h'.get? x = some (ndObj dx (.float mu t1) (.float sg t2)) → h'.get? dx = some (dictOf [] 0) → t1 ≠ 0 → t2 ≠ 0 → Q (.ref x) { s with heap := h', toks := tk }) :
    wpAny (model Challenge.rw_oz0058_01.row.prog w) A (call (.ref 270) [.float mu t1, .float sg t2] []) Q E s := by
  have X₀ := W.inK
  obtain ⟨h₀, L, m, l, me, mg, mb, F, X, T⟩ := W
  obtain ⟨hh, gg, dr, tk, os⟩ := s
  dsimp only at F X₀ hQ ⊢
  have T₀ := T.keeps F.keep
  refine wpAny_call (make_core (makes_of X₀ (by k_is)) (looks_findIn X₀ (by k_is)) (fun self => bind_fn X₀ self (by k_is)) (.inl rfl) ?_)
  have n0 : hh.get? hh.objs.size = none := by
    cases e : hh.get? hh.objs.size with
    | none => rfl
    | some o => exact absurd (Heap.lt_size e) (Nat.lt_irrefl _)
  have n1 : hh.get? (hh.objs.size + 1) = none := by
    cases e : hh.get? (hh.objs.size + 1) with
    | none => rfl
    | some o => exact absurd (Heap.lt_size e) (by have : @LE.le Nat _ hh.objs.size (hh.objs.size + 1) := Nat.le_succ _; exact Nat.not_lt.mpr this)
  have k1 : Stays hh ((hh.push emptyDict).push (instObj 270 hh.objs.size)) := fun b o e => Heap.get?_push_of_some _ (Heap.get?_push_of_some _ e)
  have i0 : ((hh.push emptyDict).push (instObj 270 hh.objs.size)).get? hh.objs.size = some emptyDict := Heap.get?_push_of_some _ (Heap.get?_push_size _ rfl)
  have i1 : ((hh.push emptyDict).push (instObj 270 hh.objs.size)).get? (hh.objs.size + 1) = some (instObj 270 hh.objs.size) := by
    have := Heap.get?_push_size (h := hh.push emptyDict) (o := instObj 270 hh.objs.size) rfl
    rwa [Heap.size_push] at this
  generalize hx : hh.objs.size + 1 = x at *
  have hlt : @LT.lt Nat _ hh.objs.size x := hx ▸ Nat.lt_succ_self _
  generalize hdx : hh.objs.size = dx at *
  refine' enterD (g := hh) (news := [(x, instObj 270 dx), (dx, dictOf [] 0)]) (od := none) X₀ T₀ k1 (by rw [Heap.size_push, Heap.size_push]; exact Nat.le_succ_of_le (Nat.le_succ _)) ?nw ?k6 ?k7 ?k8 ?k9 ?kB ?_ ?c2 ?c3 ?c4 ?c5
  case nw =>
    intro p hp
    simp only [List.mem_cons, List.not_mem_nil, or_false] at hp
    rcases hp with rfl | rfl
    · exact ⟨i1, n1⟩
    · exact ⟨i0, n0⟩
  (case k6 => k_is); (case k7 => k_is); (case k8 => (simp only [depth_under_make]; omega));  (case k9 => exact binds_K (X₀.keeps k1) rfl (by k_is) rfl rfl rfl); (case c5 => decide); (case kB => exact locs rfl); (case c2 => exact rfl); (case c3 => exact rfl); (case c4 => exact rfl)
  intro h' L' F' N' X' T'
  dsimp only
  repeat' (first | walk1 | (dsimp only; walk1))
  refine ⟨rfl, ?_⟩
  dsimp only
  rename Fr hh L' _ _ => F1
  rename News hh L' _ _ => N1
  exact hQ _ _ _ _ _ _ F1.keep n1 n0 (N1 _ (.head _)).1 (N1 _ (.tail _ (.head _))).1 z1 z2
theorem c_mk {mu sg : UInt64} {t1 t2 : Tok} (W : Wd w s.heap) (hroom : A.depth + 2 < recursionLimit) (hs : Nn sg) (z1 : t1 ≠ 0) (z2 : t2 ≠ 0)
    (hQ : ∀ x h' tk, Stays s.heap h' → s.heap.get? x = none → ND h' x mu sg → Q (.ref x) { s with heap := h', toks := tk }) :
    wpAny (model Challenge.rw_oz0058_01.row.prog w) A (call (.ref 270) [.float mu t1, .float sg t2] []) Q E s :=
  c_mkF W hroom hs z1 z2 fun x dx t1 t2 h' tk k n1 _ e1 e2 y1 y2 => hQ x h' tk k n1 ⟨⟨dx, t1, t2, e1, e2, y1, y2⟩, hs⟩

--CONTRACTS
theorem flt_cls {f : UInt64} {u : Tok} {prog : Program} {w : World} {A : Around} {E : Value → Shared → Prop} {Q : Option Value → Shared → Prop} {s : Shared} (_ : True) (h : Q (some (.type "float")) { s with toks := s.toks + 1 }) : wpAny (model prog w) A (getAttr? (.float f u) "__class__") Q E s := class_attr_float h
local macro_rules | `(tactic| walk_at "call builtin:isinstance") => `(tactic| (k_here; (with_reducible show wpAny _ _ (call _ [Value.float _ _, Value.ref _]) _ _ _); k_dflt (refine' isn_call (T := "float") (P := fun _ => True) ?k1 ?k2 ?k3 ?k4 ?k5 flt_cls ?_; (case k1 => k_in); (case k2 => (intro M; exact Looks.of_pure rfl)); (case k3 => k_not); (case k4 => intro e; cases e); (case k5 => trivial); k_whole)))
local macro_rules | `(tactic| k_inst) => `(tactic| exact InstAt.grow (by with_reducible assumption) (Fr.keep (by k_asm)))
local macro_rules | `(tactic| walk_at "call ref") => `(tactic| (k_here; (with_reducible show wpAny _ _ (call (Value.ref 270) [Value.float _ _, Value.float _ _] []) _ _ _); (refine' c_mk ?W ?r ?n ?z1 ?z2 ?_); (case W => exact ⟨_, _, _, _, _, _, _, by with_reducible assumption, by with_reducible assumption, by with_reducible assumption⟩); (case r => (simp only [depth_deeper, depth_in1]; omega)); (case n => assumption); (case z1 => first | assumption | exact Nat.succ_ne_zero _); (case z2 => first | assumption | exact Nat.succ_ne_zero _); intro x' h' tk' S' f' D'; (rename Fr _ _ _ _ => kF); (have F2' := Fr.grow kF S')))
local macro_rules | `(tactic| walk_at "call builtin:math.hypot") => `(tactic| (refine call_hyp ?_))
local macro_rules | `(tactic| walk_at "call builtin:math.fabs") => `(tactic| ((with_reducible show wpAny _ _ (call _ [Value.int _ _]) _ _ _); refine Flt.call_fabs_int (by assumption) (fun o => absurd o (notOver_le8 (by assumption))) (fun _ => ?_)))
local macro_rules | `(tactic| walk_at "binaryOp Add float int") => `(tactic| refine add_fi_fits (fits_le8 (by assumption)) ?_)
local macro_rules | `(tactic| walk_at "binaryOp Sub float int") => `(tactic| refine sub_fi_fits (fits_le8 (by assumption)) ?_)
local macro_rules | `(tactic| walk_at "binaryOp Mult float int") => `(tactic| refine mul_fi_fits (fits_le8 (by assumption)) ?_)
local macro_rules | `(tactic| walk_at "binaryOp Div float float") => `(tactic| refine div_ff (by assumption) ?_)
local macro_rules | `(tactic| walk_at "binaryOp Div float int") => `(tactic| refine div_fi (by assumption) (by assumption) ?_)

--MORE
theorem c_addnn {a b c d : UInt64} {x y : Addr} (W : Wd w s.heap) (hx : ND s.heap x a b) (hy : ND s.heap y c d) (hn : Nn (hyp b d)) (hroom : A.depth + 12 < recursionLimit)
    (hQ : ∀ r h' tk, Stays s.heap h' → s.heap.get? r = none → ND h' r (Float64.add a c) (hyp b d) → Q (.ref r) { s with heap := h', toks := tk }) :
    wpAny (model Challenge.rw_oz0058_01.row.prog w) A (binaryOp .Add (.ref x) (.ref y)) Q E s := by
  have X₀ := W.inK
  obtain ⟨h₀, L, m, l, me, mg, mb, F, X, T⟩ := W
  have T₀ := T.keeps F.keep
  obtain ⟨⟨dx, t1x, t2x, h1x, h2x, z1x, z2x⟩, nx⟩ := hx
  have Ix : W.InstAt s.heap x (ndObj dx (.float _ t1x) (.float _ t2x)) 270 (some (dictOf [] 0)) := ⟨h1x, rfl, rfl, h2x⟩
  obtain ⟨⟨dy, t1y, t2y, h1y, h2y, z1y, z2y⟩, ny⟩ := hy
  have Iy : W.InstAt s.heap y (ndObj dy (.float _ t1y) (.float _ t2y)) 270 (some (dictOf [] 0)) := ⟨h1y, rfl, rfl, h2y⟩
  refine' binop_K F X Ix Iy.type ?k5 ?k6' ?k7' ?_
  (case k5 => k_is); (case k6' => k_is); (case k7' => k_is)
  refine wpAny_call ?_
  refine' enterD (g := s.heap) (news := []) (od := none) X₀ T₀ (Stays.refl _) (Nat.le_refl _) (fun p hp => nomatch hp) ?k6 ?k7 ?k8 ?k9 ?kB ?_ ?c2 ?c3 ?c4 ?c5
  (case k6 => k_is); (case k7 => k_is); (case k8 => omega); (case k9 => first | exact BindsTo.of_eq rfl | exact binds_K X₀ rfl (by k_is) rfl rfl rfl); (case c5 => decide); (case kB => exact locs rfl); (case c2 => exact rfl); (case c3 => exact rfl); (case c4 => exact rfl)
  intro h' L' F' N' X' T'
  dsimp only
  repeat' (first | walk1 | (dsimp only; walk1))
  all_goals dsimp only [W.CmpBack]
  rename ND _ _ _ _ => D1
  rename Fr s.heap L' _ _ => F1
  refine hQ _ _ _ F1.keep ?_ D1
  rename (Heap.get? _ _ = none) => f1
  exact fresh_of (Fr.keep (by assumption)) f1

theorem c_subnn {a b c d : UInt64} {x y : Addr} (W : Wd w s.heap) (hx : ND s.heap x a b) (hy : ND s.heap y c d) (hn : Nn (hyp b d)) (hroom : A.depth + 12 < recursionLimit)
    (hQ : ∀ r h' tk, Stays s.heap h' → s.heap.get? r = none → ND h' r (Float64.sub a c) (hyp b d) → Q (.ref r) { s with heap := h', toks := tk }) :
    wpAny (model Challenge.rw_oz0058_01.row.prog w) A (binaryOp .Sub (.ref x) (.ref y)) Q E s := by
  have X₀ := W.inK
  obtain ⟨h₀, L, m, l, me, mg, mb, F, X, T⟩ := W
  have T₀ := T.keeps F.keep
  obtain ⟨⟨dx, t1x, t2x, h1x, h2x, z1x, z2x⟩, nx⟩ := hx
  have Ix : W.InstAt s.heap x (ndObj dx (.float _ t1x) (.float _ t2x)) 270 (some (dictOf [] 0)) := ⟨h1x, rfl, rfl, h2x⟩
  obtain ⟨⟨dy, t1y, t2y, h1y, h2y, z1y, z2y⟩, ny⟩ := hy
  have Iy : W.InstAt s.heap y (ndObj dy (.float _ t1y) (.float _ t2y)) 270 (some (dictOf [] 0)) := ⟨h1y, rfl, rfl, h2y⟩
  refine' binop_K F X Ix Iy.type ?k5 ?k6' ?k7' ?_
  (case k5 => k_is); (case k6' => k_is); (case k7' => k_is)
  refine wpAny_call ?_
  refine' enterD (g := s.heap) (news := []) (od := none) X₀ T₀ (Stays.refl _) (Nat.le_refl _) (fun p hp => nomatch hp) ?k6 ?k7 ?k8 ?k9 ?kB ?_ ?c2 ?c3 ?c4 ?c5
  (case k6 => k_is); (case k7 => k_is); (case k8 => omega); (case k9 => first | exact BindsTo.of_eq rfl | exact binds_K X₀ rfl (by k_is) rfl rfl rfl); (case c5 => decide); (case kB => exact locs rfl); (case c2 => exact rfl); (case c3 => exact rfl); (case c4 => exact rfl)
  intro h' L' F' N' X' T'
  dsimp only
  repeat' (first | walk1 | (dsimp only; walk1))
  all_goals dsimp only [W.CmpBack]
  rename ND _ _ _ _ => D1
  rename Fr s.heap L' _ _ => F1
  refine hQ _ _ _ F1.keep ?_ D1
  rename (Heap.get? _ _ = none) => f1
  exact fresh_of (Fr.keep (by assumption)) f1

theorem c_addnf {a b f : UInt64} {t : Tok} {x : Addr} (W : Wd w s.heap) (hx : ND s.heap x a b) (hh : A.handled = none) (hroom : A.depth + 12 < recursionLimit)
    (hQ : ∀ r h' tk, Stays s.heap h' → s.heap.get? r = none → ND h' r (Float64.add a f) b → Q (.ref r) { s with heap := h', toks := tk }) :
    wpAny (model Challenge.rw_oz0058_01.row.prog w) A (binaryOp .Add (.ref x) (.float f t)) Q E s := by
  have X₀ := W.inK
  obtain ⟨h₀, L, m, l, me, mg, mb, F, X, T⟩ := W
  have T₀ := T.keeps F.keep
  obtain ⟨⟨dx, t1x, t2x, h1x, h2x, z1x, z2x⟩, nx⟩ := hx
  have Ix : W.InstAt s.heap x (ndObj dx (.float _ t1x) (.float _ t2x)) 270 (some (dictOf [] 0)) := ⟨h1x, rfl, rfl, h2x⟩
  refine' ksp_binT (T := "float") F X Ix ?hB ?hC ?hS ?hF ?hR ?hP ?h1 ?h2 ?hU ?_; (case hB => exact rfl); (case hS => k_is); (case hF => k_is); (case hC => k_is); (case hR => k_is); (case hP => first | exact .inl rfl | exact .inr ⟨_, rfl⟩); (case h1 => k_is); (case h2 => k_is); (case hU => k_is)
  refine wpAny_call ?_
  refine' enterD (g := s.heap) (news := []) (od := none) X₀ T₀ (Stays.refl _) (Nat.le_refl _) (fun p hp => nomatch hp) ?k6 ?k7 ?k8 ?k9 ?kB ?_ ?c2 ?c3 ?c4 ?c5
  (case k6 => k_is); (case k7 => k_is); (case k8 => omega); (case k9 => first | exact BindsTo.of_eq rfl | exact binds_K X₀ rfl (by k_is) rfl rfl rfl); (case c5 => decide); (case kB => exact locs rfl); (case c2 => exact rfl); (case c3 => exact rfl); (case c4 => exact rfl)
  intro h' L' F' N' X' T'
  dsimp only
  repeat' (first | walk1 | (dsimp only; walk1))
  all_goals dsimp only [W.CmpBack]
  rename ND _ _ _ _ => D1
  rename Fr s.heap L' _ _ => F1
  refine hQ _ _ _ F1.keep ?_ D1
  rename (Heap.get? _ _ = none) => f1
  exact fresh_of (Fr.keep (by assumption)) f1

theorem c_subnf {a b f : UInt64} {t : Tok} {x : Addr} (W : Wd w s.heap) (hx : ND s.heap x a b) (hh : A.handled = none) (hroom : A.depth + 12 < recursionLimit)
    (hQ : ∀ r h' tk, Stays s.heap h' → s.heap.get? r = none → ND h' r (Float64.sub a f) b → Q (.ref r) { s with heap := h', toks := tk }) :
    wpAny (model Challenge.rw_oz0058_01.row.prog w) A (binaryOp .Sub (.ref x) (.float f t)) Q E s := by
  have X₀ := W.inK
  obtain ⟨h₀, L, m, l, me, mg, mb, F, X, T⟩ := W
  have T₀ := T.keeps F.keep
  obtain ⟨⟨dx, t1x, t2x, h1x, h2x, z1x, z2x⟩, nx⟩ := hx
  have Ix : W.InstAt s.heap x (ndObj dx (.float _ t1x) (.float _ t2x)) 270 (some (dictOf [] 0)) := ⟨h1x, rfl, rfl, h2x⟩
  refine' ksp_binT (T := "float") F X Ix ?hB ?hC ?hS ?hF ?hR ?hP ?h1 ?h2 ?hU ?_; (case hB => exact rfl); (case hS => k_is); (case hF => k_is); (case hC => k_is); (case hR => k_is); (case hP => first | exact .inl rfl | exact .inr ⟨_, rfl⟩); (case h1 => k_is); (case h2 => k_is); (case hU => k_is)
  refine wpAny_call ?_
  refine' enterD (g := s.heap) (news := []) (od := none) X₀ T₀ (Stays.refl _) (Nat.le_refl _) (fun p hp => nomatch hp) ?k6 ?k7 ?k8 ?k9 ?kB ?_ ?c2 ?c3 ?c4 ?c5
  (case k6 => k_is); (case k7 => k_is); (case k8 => omega); (case k9 => first | exact BindsTo.of_eq rfl | exact binds_K X₀ rfl (by k_is) rfl rfl rfl); (case c5 => decide); (case kB => exact locs rfl); (case c2 => exact rfl); (case c3 => exact rfl); (case c4 => exact rfl)
  intro h' L' F' N' X' T'
  dsimp only
  repeat' (first | walk1 | (dsimp only; walk1))
  all_goals dsimp only [W.CmpBack]
  rename ND _ _ _ _ => D1
  rename Fr s.heap L' _ _ => F1
  refine hQ _ _ _ F1.keep ?_ D1
  rename (Heap.get? _ _ = none) => f1
  exact fresh_of (Fr.keep (by assumption)) f1

theorem c_mulnf {a b f : UInt64} {t : Tok} {x : Addr} (W : Wd w s.heap) (hx : ND s.heap x a b) (hh : A.handled = none) (hn : Nn (Float64.mul b (Float64.abs f))) (hroom : A.depth + 12 < recursionLimit)
    (hQ : ∀ r h' tk, Stays s.heap h' → s.heap.get? r = none → ND h' r (Float64.mul a f) (Float64.mul b (Float64.abs f)) → Q (.ref r) { s with heap := h', toks := tk }) :
    wpAny (model Challenge.rw_oz0058_01.row.prog w) A (binaryOp .Mult (.ref x) (.float f t)) Q E s := by
  have X₀ := W.inK
  obtain ⟨h₀, L, m, l, me, mg, mb, F, X, T⟩ := W
  have T₀ := T.keeps F.keep
  obtain ⟨⟨dx, t1x, t2x, h1x, h2x, z1x, z2x⟩, nx⟩ := hx
  have Ix : W.InstAt s.heap x (ndObj dx (.float _ t1x) (.float _ t2x)) 270 (some (dictOf [] 0)) := ⟨h1x, rfl, rfl, h2x⟩
  refine' ksp_binT (T := "float") F X Ix ?hB ?hC ?hS ?hF ?hR ?hP ?h1 ?h2 ?hU ?_; (case hB => exact rfl); (case hS => k_is); (case hF => k_is); (case hC => k_is); (case hR => k_is); (case hP => first | exact .inl rfl | exact .inr ⟨_, rfl⟩); (case h1 => k_is); (case h2 => k_is); (case hU => k_is)
  refine wpAny_call ?_
  refine' enterD (g := s.heap) (news := []) (od := none) X₀ T₀ (Stays.refl _) (Nat.le_refl _) (fun p hp => nomatch hp) ?k6 ?k7 ?k8 ?k9 ?kB ?_ ?c2 ?c3 ?c4 ?c5
  (case k6 => k_is); (case k7 => k_is); (case k8 => omega); (case k9 => first | exact BindsTo.of_eq rfl | exact binds_K X₀ rfl (by k_is) rfl rfl rfl); (case c5 => decide); (case kB => exact locs rfl); (case c2 => exact rfl); (case c3 => exact rfl); (case c4 => exact rfl)
  intro h' L' F' N' X' T'
  dsimp only
  repeat' (first | walk1 | (dsimp only; walk1))
  all_goals dsimp only [W.CmpBack]
  rename ND _ _ _ _ => D1
  rename Fr s.heap L' _ _ => F1
  refine hQ _ _ _ F1.keep ?_ D1
  rename (Heap.get? _ _ = none) => f1
  exact fresh_of (Fr.keep (by assumption)) f1

theorem c_divnf {a b f : UInt64} {t : Tok} {x : Addr} (W : Wd w s.heap) (hx : ND s.heap x a b) (hh : A.handled = none) (hz : Float64.isZero f = false) (hz2 : Float64.isZero (Float64.abs f) = false) (hn : Nn (Float64.div b (Float64.abs f))) (hroom : A.depth + 12 < recursionLimit)
    (hQ : ∀ r h' tk, Stays s.heap h' → s.heap.get? r = none → ND h' r (Float64.div a f) (Float64.div b (Float64.abs f)) → Q (.ref r) { s with heap := h', toks := tk }) :
    wpAny (model Challenge.rw_oz0058_01.row.prog w) A (binaryOp .Div (.ref x) (.float f t)) Q E s := by
  have X₀ := W.inK
  obtain ⟨h₀, L, m, l, me, mg, mb, F, X, T⟩ := W
  have T₀ := T.keeps F.keep
  obtain ⟨⟨dx, t1x, t2x, h1x, h2x, z1x, z2x⟩, nx⟩ := hx
  have Ix : W.InstAt s.heap x (ndObj dx (.float _ t1x) (.float _ t2x)) 270 (some (dictOf [] 0)) := ⟨h1x, rfl, rfl, h2x⟩
  refine' ksp_binT (T := "float") F X Ix ?hB ?hC ?hS ?hF ?hR ?hP ?h1 ?h2 ?hU ?_; (case hB => exact rfl); (case hS => k_is); (case hF => k_is); (case hC => k_is); (case hR => k_is); (case hP => first | exact .inl rfl | exact .inr ⟨_, rfl⟩); (case h1 => k_is); (case h2 => k_is); (case hU => k_is)
  refine wpAny_call ?_
  refine' enterD (g := s.heap) (news := []) (od := none) X₀ T₀ (Stays.refl _) (Nat.le_refl _) (fun p hp => nomatch hp) ?k6 ?k7 ?k8 ?k9 ?kB ?_ ?c2 ?c3 ?c4 ?c5
  (case k6 => k_is); (case k7 => k_is); (case k8 => omega); (case k9 => first | exact BindsTo.of_eq rfl | exact binds_K X₀ rfl (by k_is) rfl rfl rfl); (case c5 => decide); (case kB => exact locs rfl); (case c2 => exact rfl); (case c3 => exact rfl); (case c4 => exact rfl)
  intro h' L' F' N' X' T'
  dsimp only
  repeat' (first | walk1 | (dsimp only; walk1))
  all_goals dsimp only [W.CmpBack]
  rename ND _ _ _ _ => D1
  rename Fr s.heap L' _ _ => F1
  refine hQ _ _ _ F1.keep ?_ D1
  rename (Heap.get? _ _ = none) => f1
  exact fresh_of (Fr.keep (by assumption)) f1

theorem c_addni {a b : UInt64} {n : Int} {t : Tok} {x : Addr} (W : Wd w s.heap) (hx : ND s.heap x a b) (hi : n.natAbs ≤ 8) (hh : A.handled = none) (hroom : A.depth + 12 < recursionLimit)
    (hQ : ∀ r h' tk, Stays s.heap h' → s.heap.get? r = none → ND h' r (Float64.add a (Float64.ofInt n)) b → Q (.ref r) { s with heap := h', toks := tk }) :
    wpAny (model Challenge.rw_oz0058_01.row.prog w) A (binaryOp .Add (.ref x) (.int n t)) Q E s := by
  have X₀ := W.inK
  obtain ⟨h₀, L, m, l, me, mg, mb, F, X, T⟩ := W
  have T₀ := T.keeps F.keep
  obtain ⟨⟨dx, t1x, t2x, h1x, h2x, z1x, z2x⟩, nx⟩ := hx
  have Ix : W.InstAt s.heap x (ndObj dx (.float _ t1x) (.float _ t2x)) 270 (some (dictOf [] 0)) := ⟨h1x, rfl, rfl, h2x⟩
  refine' ksp_binT (T := "int") F X Ix ?hB ?hC ?hS ?hF ?hR ?hP ?h1 ?h2 ?hU ?_; (case hB => exact rfl); (case hS => k_is); (case hF => k_is); (case hC => k_is); (case hR => k_is); (case hP => first | exact .inl rfl | exact .inr ⟨_, rfl⟩); (case h1 => k_is); (case h2 => k_is); (case hU => k_is)
  refine wpAny_call ?_
  refine' enterD (g := s.heap) (news := []) (od := none) X₀ T₀ (Stays.refl _) (Nat.le_refl _) (fun p hp => nomatch hp) ?k6 ?k7 ?k8 ?k9 ?kB ?_ ?c2 ?c3 ?c4 ?c5
  (case k6 => k_is); (case k7 => k_is); (case k8 => omega); (case k9 => first | exact BindsTo.of_eq rfl | exact binds_K X₀ rfl (by k_is) rfl rfl rfl); (case c5 => decide); (case kB => exact locs rfl); (case c2 => exact rfl); (case c3 => exact rfl); (case c4 => exact rfl)
  intro h' L' F' N' X' T'
  dsimp only
  repeat' (first | walk1 | (dsimp only; walk1))
  all_goals dsimp only [W.CmpBack]
  rename ND _ _ _ _ => D1
  rename Fr s.heap L' _ _ => F1
  refine hQ _ _ _ F1.keep ?_ D1
  rename (Heap.get? _ _ = none) => f1
  exact fresh_of (Fr.keep (by assumption)) f1

theorem c_subni {a b : UInt64} {n : Int} {t : Tok} {x : Addr} (W : Wd w s.heap) (hx : ND s.heap x a b) (hi : n.natAbs ≤ 8) (hh : A.handled = none) (hroom : A.depth + 12 < recursionLimit)
    (hQ : ∀ r h' tk, Stays s.heap h' → s.heap.get? r = none → ND h' r (Float64.sub a (Float64.ofInt n)) b → Q (.ref r) { s with heap := h', toks := tk }) :
    wpAny (model Challenge.rw_oz0058_01.row.prog w) A (binaryOp .Sub (.ref x) (.int n t)) Q E s := by
  have X₀ := W.inK
  obtain ⟨h₀, L, m, l, me, mg, mb, F, X, T⟩ := W
  have T₀ := T.keeps F.keep
  obtain ⟨⟨dx, t1x, t2x, h1x, h2x, z1x, z2x⟩, nx⟩ := hx
  have Ix : W.InstAt s.heap x (ndObj dx (.float _ t1x) (.float _ t2x)) 270 (some (dictOf [] 0)) := ⟨h1x, rfl, rfl, h2x⟩
  refine' ksp_binT (T := "int") F X Ix ?hB ?hC ?hS ?hF ?hR ?hP ?h1 ?h2 ?hU ?_; (case hB => exact rfl); (case hS => k_is); (case hF => k_is); (case hC => k_is); (case hR => k_is); (case hP => first | exact .inl rfl | exact .inr ⟨_, rfl⟩); (case h1 => k_is); (case h2 => k_is); (case hU => k_is)
  refine wpAny_call ?_
  refine' enterD (g := s.heap) (news := []) (od := none) X₀ T₀ (Stays.refl _) (Nat.le_refl _) (fun p hp => nomatch hp) ?k6 ?k7 ?k8 ?k9 ?kB ?_ ?c2 ?c3 ?c4 ?c5
  (case k6 => k_is); (case k7 => k_is); (case k8 => omega); (case k9 => first | exact BindsTo.of_eq rfl | exact binds_K X₀ rfl (by k_is) rfl rfl rfl); (case c5 => decide); (case kB => exact locs rfl); (case c2 => exact rfl); (case c3 => exact rfl); (case c4 => exact rfl)
  intro h' L' F' N' X' T'
  dsimp only
  repeat' (first | walk1 | (dsimp only; walk1))
  all_goals dsimp only [W.CmpBack]
  rename ND _ _ _ _ => D1
  rename Fr s.heap L' _ _ => F1
  refine hQ _ _ _ F1.keep ?_ D1
  rename (Heap.get? _ _ = none) => f1
  exact fresh_of (Fr.keep (by assumption)) f1

theorem c_mulni {a b : UInt64} {n : Int} {t : Tok} {x : Addr} (W : Wd w s.heap) (hx : ND s.heap x a b) (hi : n.natAbs ≤ 8) (hh : A.handled = none) (hn : Nn (Float64.mul b (Float64.abs (Float64.ofInt n)))) (hroom : A.depth + 12 < recursionLimit)
    (hQ : ∀ r h' tk, Stays s.heap h' → s.heap.get? r = none → ND h' r (Float64.mul a (Float64.ofInt n)) (Float64.mul b (Float64.abs (Float64.ofInt n))) → Q (.ref r) { s with heap := h', toks := tk }) :
    wpAny (model Challenge.rw_oz0058_01.row.prog w) A (binaryOp .Mult (.ref x) (.int n t)) Q E s := by
  have X₀ := W.inK
  obtain ⟨h₀, L, m, l, me, mg, mb, F, X, T⟩ := W
  have T₀ := T.keeps F.keep
  obtain ⟨⟨dx, t1x, t2x, h1x, h2x, z1x, z2x⟩, nx⟩ := hx
  have Ix : W.InstAt s.heap x (ndObj dx (.float _ t1x) (.float _ t2x)) 270 (some (dictOf [] 0)) := ⟨h1x, rfl, rfl, h2x⟩
  refine' ksp_binT (T := "int") F X Ix ?hB ?hC ?hS ?hF ?hR ?hP ?h1 ?h2 ?hU ?_; (case hB => exact rfl); (case hS => k_is); (case hF => k_is); (case hC => k_is); (case hR => k_is); (case hP => first | exact .inl rfl | exact .inr ⟨_, rfl⟩); (case h1 => k_is); (case h2 => k_is); (case hU => k_is)
  refine wpAny_call ?_
  refine' enterD (g := s.heap) (news := []) (od := none) X₀ T₀ (Stays.refl _) (Nat.le_refl _) (fun p hp => nomatch hp) ?k6 ?k7 ?k8 ?k9 ?kB ?_ ?c2 ?c3 ?c4 ?c5
  (case k6 => k_is); (case k7 => k_is); (case k8 => omega); (case k9 => first | exact BindsTo.of_eq rfl | exact binds_K X₀ rfl (by k_is) rfl rfl rfl); (case c5 => decide); (case kB => exact locs rfl); (case c2 => exact rfl); (case c3 => exact rfl); (case c4 => exact rfl)
  intro h' L' F' N' X' T'
  dsimp only
  repeat' (first | walk1 | (dsimp only; walk1))
  all_goals dsimp only [W.CmpBack]
  rename ND _ _ _ _ => D1
  rename Fr s.heap L' _ _ => F1
  refine hQ _ _ _ F1.keep ?_ D1
  rename (Heap.get? _ _ = none) => f1
  exact fresh_of (Fr.keep (by assumption)) f1

theorem c_divni {a b : UInt64} {n : Int} {t : Tok} {x : Addr} (W : Wd w s.heap) (hx : ND s.heap x a b) (hi : n.natAbs ≤ 8) (hh : A.handled = none) (hz : n ≠ 0) (hz2 : Float64.isZero (Float64.abs (Float64.ofInt n)) = false) (hn : Nn (Float64.div b (Float64.abs (Float64.ofInt n)))) (hroom : A.depth + 12 < recursionLimit)
    (hQ : ∀ r h' tk, Stays s.heap h' → s.heap.get? r = none → ND h' r (Float64.div a (Float64.ofInt n)) (Float64.div b (Float64.abs (Float64.ofInt n))) → Q (.ref r) { s with heap := h', toks := tk }) :
    wpAny (model Challenge.rw_oz0058_01.row.prog w) A (binaryOp .Div (.ref x) (.int n t)) Q E s := by
  have X₀ := W.inK
  obtain ⟨h₀, L, m, l, me, mg, mb, F, X, T⟩ := W
  have T₀ := T.keeps F.keep
  obtain ⟨⟨dx, t1x, t2x, h1x, h2x, z1x, z2x⟩, nx⟩ := hx
  have Ix : W.InstAt s.heap x (ndObj dx (.float _ t1x) (.float _ t2x)) 270 (some (dictOf [] 0)) := ⟨h1x, rfl, rfl, h2x⟩
  refine' ksp_binT (T := "int") F X Ix ?hB ?hC ?hS ?hF ?hR ?hP ?h1 ?h2 ?hU ?_; (case hB => exact rfl); (case hS => k_is); (case hF => k_is); (case hC => k_is); (case hR => k_is); (case hP => first | exact .inl rfl | exact .inr ⟨_, rfl⟩); (case h1 => k_is); (case h2 => k_is); (case hU => k_is)
  refine wpAny_call ?_
  refine' enterD (g := s.heap) (news := []) (od := none) X₀ T₀ (Stays.refl _) (Nat.le_refl _) (fun p hp => nomatch hp) ?k6 ?k7 ?k8 ?k9 ?kB ?_ ?c2 ?c3 ?c4 ?c5
  (case k6 => k_is); (case k7 => k_is); (case k8 => omega); (case k9 => first | exact BindsTo.of_eq rfl | exact binds_K X₀ rfl (by k_is) rfl rfl rfl); (case c5 => decide); (case kB => exact locs rfl); (case c2 => exact rfl); (case c3 => exact rfl); (case c4 => exact rfl)
  intro h' L' F' N' X' T'
  dsimp only
  repeat' (first | walk1 | (dsimp only; walk1))
  all_goals dsimp only [W.CmpBack]
  rename ND _ _ _ _ => D1
  rename Fr s.heap L' _ _ => F1
  refine hQ _ _ _ F1.keep ?_ D1
  rename (Heap.get? _ _ = none) => f1
  exact fresh_of (Fr.keep (by assumption)) f1

theorem c_neg {a b : UInt64} {x : Addr} (W : Wd w s.heap) (hx : ND s.heap x a b) (hroom : A.depth + 6 < recursionLimit)
    (hQ : ∀ r h' tk, Stays s.heap h' → s.heap.get? r = none → ND h' r (Float64.neg a) b → Q (.ref r) { s with heap := h', toks := tk }) :
    wpAny (model Challenge.rw_oz0058_01.row.prog w) A (unaryOp .USub (.ref x)) Q E s := by
  have X₀ := W.inK
  obtain ⟨h₀, L, m, l, me, mg, mb, F, X, T⟩ := W
  have T₀ := T.keeps F.keep
  obtain ⟨⟨dx, t1x, t2x, h1x, h2x, z1x, z2x⟩, nx⟩ := hx
  have Ix : W.InstAt s.heap x (ndObj dx (.float _ t1x) (.float _ t2x)) 270 (some (dictOf [] 0)) := ⟨h1x, rfl, rfl, h2x⟩
  refine' ksp_neg F X Ix ?hS ?hF ?_; (case hS => k_is); (case hF => k_is)
  refine wpAny_call ?_
  refine' enterD (g := s.heap) (news := []) (od := none) X₀ T₀ (Stays.refl _) (Nat.le_refl _) (fun p hp => nomatch hp) ?k6 ?k7 ?k8 ?k9 ?kB ?_ ?c2 ?c3 ?c4 ?c5
  (case k6 => k_is); (case k7 => k_is); (case k8 => omega); (case k9 => first | exact BindsTo.of_eq rfl | exact binds_K X₀ rfl (by k_is) rfl rfl rfl); (case c5 => decide); (case kB => exact locs rfl); (case c2 => exact rfl); (case c3 => exact rfl); (case c4 => exact rfl)
  intro h' L' F' N' X' T'
  dsimp only
  repeat' (first | walk1 | (dsimp only; walk1))
  all_goals dsimp only [W.CmpBack]
  rename ND _ _ _ _ => D1
  rename Fr s.heap L' _ _ => F1
  refine hQ _ _ _ F1.keep ?_ D1
  rename (Heap.get? _ _ = none) => f1
  exact fresh_of (Fr.keep (by assumption)) f1

theorem c_pos {a b : UInt64} {x : Addr} (W : Wd w s.heap) (hx : ND s.heap x a b) (hroom : A.depth + 6 < recursionLimit)
    (hQ : ∀ r h' tk, Stays s.heap h' → s.heap.get? r = none → ND h' r a b → Q (.ref r) { s with heap := h', toks := tk }) :
    wpAny (model Challenge.rw_oz0058_01.row.prog w) A (unaryOp .UAdd (.ref x)) Q E s := by
  have X₀ := W.inK
  obtain ⟨h₀, L, m, l, me, mg, mb, F, X, T⟩ := W
  have T₀ := T.keeps F.keep
  obtain ⟨⟨dx, t1x, t2x, h1x, h2x, z1x, z2x⟩, nx⟩ := hx
  have Ix : W.InstAt s.heap x (ndObj dx (.float _ t1x) (.float _ t2x)) 270 (some (dictOf [] 0)) := ⟨h1x, rfl, rfl, h2x⟩
  refine' ksp_pos F X Ix ?hS ?hF ?_; (case hS => k_is); (case hF => k_is)
  refine wpAny_call ?_
  refine' enterD (g := s.heap) (news := []) (od := none) X₀ T₀ (Stays.refl _) (Nat.le_refl _) (fun p hp => nomatch hp) ?k6 ?k7 ?k8 ?k9 ?kB ?_ ?c2 ?c3 ?c4 ?c5
  (case k6 => k_is); (case k7 => k_is); (case k8 => omega); (case k9 => first | exact BindsTo.of_eq rfl | exact binds_K X₀ rfl (by k_is) rfl rfl rfl); (case c5 => decide); (case kB => exact locs rfl); (case c2 => exact rfl); (case c3 => exact rfl); (case c4 => exact rfl)
  intro h' L' F' N' X' T'
  dsimp only
  repeat' (first | walk1 | (dsimp only; walk1))
  all_goals dsimp only [W.CmpBack]
  rename ND _ _ _ _ => D1
  rename Fr s.heap L' _ _ => F1
  refine hQ _ _ _ F1.keep ?_ D1
  rename (Heap.get? _ _ = none) => f1
  exact fresh_of (Fr.keep (by assumption)) f1

theorem c_addfn {a b f : UInt64} {t : Tok} {x : Addr} (W : Wd w s.heap) (hx : ND s.heap x a b) (hh : A.handled = none) (hroom : A.depth + 12 < recursionLimit)
    (hQ : ∀ r h' tk, Stays s.heap h' → s.heap.get? r = none → ND h' r (Float64.add a f) b → Q (.ref r) { s with heap := h', toks := tk }) :
    wpAny (model Challenge.rw_oz0058_01.row.prog w) A (binaryOp .Add (.float f t) (.ref x)) Q E s := by
  have X₀ := W.inK
  obtain ⟨h₀, L, m, l, me, mg, mb, F, X, T⟩ := W
  have T₀ := T.keeps F.keep
  obtain ⟨⟨dx, t1x, t2x, h1x, h2x, z1x, z2x⟩, nx⟩ := hx
  have Ix : W.InstAt s.heap x (ndObj dx (.float _ t1x) (.float _ t2x)) 270 (some (dictOf [] 0)) := ⟨h1x, rfl, rfl, h2x⟩
  refine' bin_refl (T := "float") F X Ix ?hB ?hC ?hP ?hS ?hF PySem.F.fills_float_add ?hU PySem.F.slot_float_add PySem.F.entry_float_add (PySem.F.args_float_add_2 _ _) ?hG ?_; (case hB => exact rfl); (case hP => k_is); (case hS => k_is); (case hF => k_is); (case hC => k_is); (case hU => k_is); (case hG => exact fun _ _ _ q => flt_declines _ _ h1x rfl q)
  refine wpAny_call ?_
  refine' enterD (g := s.heap) (news := []) (od := none) X₀ T₀ (Stays.refl _) (Nat.le_refl _) (fun p hp => nomatch hp) ?k6 ?k7 ?k8 ?k9 ?kB ?_ ?c2 ?c3 ?c4 ?c5
  (case k6 => k_is); (case k7 => k_is); (case k8 => omega); (case k9 => first | exact BindsTo.of_eq rfl | exact binds_K X₀ rfl (by k_is) rfl rfl rfl); (case c5 => decide); (case kB => exact locs rfl); (case c2 => exact rfl); (case c3 => exact rfl); (case c4 => exact rfl)
  intro h' L' F' N' X' T'
  dsimp only
  repeat' (first | walk1 | (dsimp only; walk1))
  all_goals dsimp only [W.CmpBack]
  rename ND _ _ _ _ => D1
  rename Fr s.heap L' _ _ => F1
  refine hQ _ _ _ F1.keep ?_ D1
  rename (Heap.get? _ _ = none) => f1
  exact fresh_of (Fr.keep (by assumption)) f1

theorem c_addin {a b : UInt64} {n : Int} {t : Tok} {x : Addr} (W : Wd w s.heap) (hx : ND s.heap x a b) (hi : n.natAbs ≤ 8) (hh : A.handled = none) (hroom : A.depth + 12 < recursionLimit)
    (hQ : ∀ r h' tk, Stays s.heap h' → s.heap.get? r = none → ND h' r (Float64.add a (Float64.ofInt n)) b → Q (.ref r) { s with heap := h', toks := tk }) :
    wpAny (model Challenge.rw_oz0058_01.row.prog w) A (binaryOp .Add (.int n t) (.ref x)) Q E s := by
  have X₀ := W.inK
  obtain ⟨h₀, L, m, l, me, mg, mb, F, X, T⟩ := W
  have T₀ := T.keeps F.keep
  obtain ⟨⟨dx, t1x, t2x, h1x, h2x, z1x, z2x⟩, nx⟩ := hx
  have Ix : W.InstAt s.heap x (ndObj dx (.float _ t1x) (.float _ t2x)) 270 (some (dictOf [] 0)) := ⟨h1x, rfl, rfl, h2x⟩
  refine' bin_refl (T := "int") F X Ix ?hB ?hC ?hP ?hS ?hF PySem.F.fills_int_add ?hU PySem.F.slot_int_add PySem.F.entry_int_add (PySem.F.args_int_add_2 _ _) ?hG ?_; (case hB => exact rfl); (case hP => k_is); (case hS => k_is); (case hF => k_is); (case hC => k_is); (case hU => k_is); (case hG => exact fun _ _ _ q => int_declines _ _ h1x rfl q)
  refine wpAny_call ?_
  refine' enterD (g := s.heap) (news := []) (od := none) X₀ T₀ (Stays.refl _) (Nat.le_refl _) (fun p hp => nomatch hp) ?k6 ?k7 ?k8 ?k9 ?kB ?_ ?c2 ?c3 ?c4 ?c5
  (case k6 => k_is); (case k7 => k_is); (case k8 => omega); (case k9 => first | exact BindsTo.of_eq rfl | exact binds_K X₀ rfl (by k_is) rfl rfl rfl); (case c5 => decide); (case kB => exact locs rfl); (case c2 => exact rfl); (case c3 => exact rfl); (case c4 => exact rfl)
  intro h' L' F' N' X' T'
  dsimp only
  repeat' (first | walk1 | (dsimp only; walk1))
  all_goals dsimp only [W.CmpBack]
  rename ND _ _ _ _ => D1
  rename Fr s.heap L' _ _ => F1
  refine hQ _ _ _ F1.keep ?_ D1
  rename (Heap.get? _ _ = none) => f1
  exact fresh_of (Fr.keep (by assumption)) f1

theorem c_mulfn {a b f : UInt64} {t : Tok} {x : Addr} (W : Wd w s.heap) (hx : ND s.heap x a b) (hh : A.handled = none) (hn : Nn (Float64.mul b (Float64.abs f))) (hroom : A.depth + 12 < recursionLimit)
    (hQ : ∀ r h' tk, Stays s.heap h' → s.heap.get? r = none → ND h' r (Float64.mul a f) (Float64.mul b (Float64.abs f)) → Q (.ref r) { s with heap := h', toks := tk }) :
    wpAny (model Challenge.rw_oz0058_01.row.prog w) A (binaryOp .Mult (.float f t) (.ref x)) Q E s := by
  have X₀ := W.inK
  obtain ⟨h₀, L, m, l, me, mg, mb, F, X, T⟩ := W
  have T₀ := T.keeps F.keep
  obtain ⟨⟨dx, t1x, t2x, h1x, h2x, z1x, z2x⟩, nx⟩ := hx
  have Ix : W.InstAt s.heap x (ndObj dx (.float _ t1x) (.float _ t2x)) 270 (some (dictOf [] 0)) := ⟨h1x, rfl, rfl, h2x⟩
  refine' bin_refl (T := "float") F X Ix ?hB ?hC ?hP ?hS ?hF PySem.F.fills_float_mul ?hU PySem.F.slot_float_mul PySem.F.entry_float_mul (PySem.F.args_float_mul_2 _ _) ?hG ?_; (case hB => exact rfl); (case hP => k_is); (case hS => k_is); (case hF => k_is); (case hC => k_is); (case hU => k_is); (case hG => exact fun _ _ _ q => flt_declines _ _ h1x rfl q)
  refine wpAny_call ?_
  refine' enterD (g := s.heap) (news := []) (od := none) X₀ T₀ (Stays.refl _) (Nat.le_refl _) (fun p hp => nomatch hp) ?k6 ?k7 ?k8 ?k9 ?kB ?_ ?c2 ?c3 ?c4 ?c5
  (case k6 => k_is); (case k7 => k_is); (case k8 => omega); (case k9 => first | exact BindsTo.of_eq rfl | exact binds_K X₀ rfl (by k_is) rfl rfl rfl); (case c5 => decide); (case kB => exact locs rfl); (case c2 => exact rfl); (case c3 => exact rfl); (case c4 => exact rfl)
  intro h' L' F' N' X' T'
  dsimp only
  repeat' (first | walk1 | (dsimp only; walk1))
  all_goals dsimp only [W.CmpBack]
  rename ND _ _ _ _ => D1
  rename Fr s.heap L' _ _ => F1
  refine hQ _ _ _ F1.keep ?_ D1
  rename (Heap.get? _ _ = none) => f1
  exact fresh_of (Fr.keep (by assumption)) f1

theorem c_mulin {a b : UInt64} {n : Int} {t : Tok} {x : Addr} (W : Wd w s.heap) (hx : ND s.heap x a b) (hi : n.natAbs ≤ 8) (hh : A.handled = none) (hn : Nn (Float64.mul b (Float64.abs (Float64.ofInt n)))) (hroom : A.depth + 12 < recursionLimit)
    (hQ : ∀ r h' tk, Stays s.heap h' → s.heap.get? r = none → ND h' r (Float64.mul a (Float64.ofInt n)) (Float64.mul b (Float64.abs (Float64.ofInt n))) → Q (.ref r) { s with heap := h', toks := tk }) :
    wpAny (model Challenge.rw_oz0058_01.row.prog w) A (binaryOp .Mult (.int n t) (.ref x)) Q E s := by
  have X₀ := W.inK
  obtain ⟨h₀, L, m, l, me, mg, mb, F, X, T⟩ := W
  have T₀ := T.keeps F.keep
  obtain ⟨⟨dx, t1x, t2x, h1x, h2x, z1x, z2x⟩, nx⟩ := hx
  have Ix : W.InstAt s.heap x (ndObj dx (.float _ t1x) (.float _ t2x)) 270 (some (dictOf [] 0)) := ⟨h1x, rfl, rfl, h2x⟩
  refine' bin_refl (T := "int") F X Ix ?hB ?hC ?hP ?hS ?hF PySem.F.fills_int_mul ?hU PySem.F.slot_int_mul PySem.F.entry_int_mul (PySem.F.args_int_mul_2 _ _) ?hG ?_; (case hB => exact rfl); (case hP => k_is); (case hS => k_is); (case hF => k_is); (case hC => k_is); (case hU => k_is); (case hG => exact fun _ _ _ q => int_declines _ _ h1x rfl q)
  refine wpAny_call ?_
  refine' enterD (g := s.heap) (news := []) (od := none) X₀ T₀ (Stays.refl _) (Nat.le_refl _) (fun p hp => nomatch hp) ?k6 ?k7 ?k8 ?k9 ?kB ?_ ?c2 ?c3 ?c4 ?c5
  (case k6 => k_is); (case k7 => k_is); (case k8 => omega); (case k9 => first | exact BindsTo.of_eq rfl | exact binds_K X₀ rfl (by k_is) rfl rfl rfl); (case c5 => decide); (case kB => exact locs rfl); (case c2 => exact rfl); (case c3 => exact rfl); (case c4 => exact rfl)
  intro h' L' F' N' X' T'
  dsimp only
  repeat' (first | walk1 | (dsimp only; walk1))
  all_goals dsimp only [W.CmpBack]
  rename ND _ _ _ _ => D1
  rename Fr s.heap L' _ _ => F1
  refine hQ _ _ _ F1.keep ?_ D1
  rename (Heap.get? _ _ = none) => f1
  exact fresh_of (Fr.keep (by assumption)) f1

end
end Mine

open PySem PySem.W PySem.Calls PyProof.Rows
set_option Elab.async false
set_option maxRecDepth 100000
set_option maxHeartbeats 8000000
namespace Mine
theorem fill2_ (w : World) (h : Heap) : (lay01.heap_1 w.params).In h → Challenge.rw_oz0058_01.row.prog = Challenge.rw_oz0058_01.row.prog := by
  k_fill
  intros; rfl
section
variable {w : World} {A : Around} {E : Value → Shared → Prop} {s : Shared} {Q : Value → Shared → Prop}
local macro_rules | `(tactic| walk_at "call builtin:isinstance") => `(tactic| (k_here; (with_reducible show wpAny _ _ (call _ [Value.float _ _, Value.ref _]) _ _ _); k_dflt (refine' isn_call (T := "float") (P := fun _ => True) ?k1 ?k2 ?k3 ?k4 ?k5 flt_cls ?_; (case k1 => k_in); (case k2 => (intro M; exact Looks.of_pure rfl)); (case k3 => k_not); (case k4 => intro e; cases e); (case k5 => trivial); k_whole)))
local macro_rules | `(tactic| k_inst) => `(tactic| exact InstAt.grow (by with_reducible assumption) (Fr.keep (by k_asm)))
local macro_rules | `(tactic| walk_at "call ref") => `(tactic| (k_here; (with_reducible show wpAny _ _ (call (Value.ref 270) [Value.float _ _, Value.float _ _] []) _ _ _); (refine' c_mk ?W ?r ?n ?z1 ?z2 ?_); (case W => exact ⟨_, _, _, _, _, _, _, by with_reducible assumption, by with_reducible assumption, by with_reducible assumption⟩); (case r => (simp only [depth_deeper, depth_in1]; omega)); (case n => assumption); (case z1 => first | assumption | exact Nat.succ_ne_zero _); (case z2 => first | assumption | exact Nat.succ_ne_zero _); intro x' h' tk' S' f' D'; (rename Fr _ _ _ _ => kF); (have F2' := Fr.grow kF S')))
local macro_rules | `(tactic| walk_at "call builtin:math.hypot") => `(tactic| (refine call_hyp ?_))
local macro_rules | `(tactic| walk_at "call builtin:math.fabs") => `(tactic| ((with_reducible show wpAny _ _ (call _ [Value.int _ _]) _ _ _); refine Flt.call_fabs_int (by assumption) (fun o => absurd o (notOver_le8 (by assumption))) (fun _ => ?_)))
local macro_rules | `(tactic| walk_at "binaryOp Add float int") => `(tactic| refine add_fi_fits (fits_le8 (by assumption)) ?_)
local macro_rules | `(tactic| walk_at "binaryOp Sub float int") => `(tactic| refine sub_fi_fits (fits_le8 (by assumption)) ?_)
local macro_rules | `(tactic| walk_at "binaryOp Mult float int") => `(tactic| refine mul_fi_fits (fits_le8 (by assumption)) ?_)
local macro_rules | `(tactic| walk_at "binaryOp Div float float") => `(tactic| refine div_ff (by assumption) ?_)
local macro_rules | `(tactic| walk_at "binaryOp Div float int") => `(tactic| refine div_fi (by assumption) (by assumption) ?_)

local macro_rules | `(tactic| walk_at "binaryOp Sub ref float") => `(tactic| ((refine' c_subnf ?W ?hx ?hh ?r ?_); (case W => exact ⟨_, _, _, _, _, _, _, by with_reducible assumption, by with_reducible assumption, by with_reducible assumption⟩); (case hx => exact ND.grow (by with_reducible assumption) (Fr.keep (by with_reducible assumption))); (case hh => assumption);  (case r => (simp only [depth_deeper, depth_in1]; omega)); intro x' h' tk' S' f' D'; (rename Fr _ _ _ _ => kF); (have F2' := Fr.grow kF S')))
local macro_rules | `(tactic| walk_at "binaryOp Sub ref int") => `(tactic| ((refine' c_subni ?W ?hx ?hi ?hh ?r ?_); (case W => exact ⟨_, _, _, _, _, _, _, by with_reducible assumption, by with_reducible assumption, by with_reducible assumption⟩); (case hx => exact ND.grow (by with_reducible assumption) (Fr.keep (by with_reducible assumption))); (case hi => assumption); (case hh => assumption);  (case r => (simp only [depth_deeper, depth_in1]; omega)); intro x' h' tk' S' f' D'; (rename Fr _ _ _ _ => kF); (have F2' := Fr.grow kF S')))
local macro_rules | `(tactic| walk_at "unaryOp USub ref") => `(tactic| ((refine' c_neg ?W ?hx ?r ?_); (case W => exact ⟨_, _, _, _, _, _, _, by with_reducible assumption, by with_reducible assumption, by with_reducible assumption⟩); (case hx => with_reducible assumption); (case r => (simp only [depth_deeper, depth_in1]; omega)); intro x' h' tk' S' f' D'; (rename Fr _ _ _ _ => kF); (have F2' := Fr.grow kF S')))
theorem c_subfn {a b f : UInt64} {t : Tok} {x : Addr} (W : Wd w s.heap) (hx : ND s.heap x a b) (hh : A.handled = none) (hroom : A.depth + 30 < recursionLimit)
    (hQ : ∀ r h' tk, Stays s.heap h' → s.heap.get? r = none → ND h' r (Float64.neg (Float64.sub a f)) b → Q (.ref r) { s with heap := h', toks := tk }) :
    wpAny (model Challenge.rw_oz0058_01.row.prog w) A (binaryOp .Sub (.float f t) (.ref x)) Q E s := by
  have hD := hx
  have X₀ := W.inK
  obtain ⟨h₀, L, m, l, me, mg, mb, F, X, T⟩ := W
  have T₀ := T.keeps F.keep
  obtain ⟨⟨dx, t1x, t2x, h1x, h2x, z1x, z2x⟩, nx⟩ := hx
  have Ix : W.InstAt s.heap x (ndObj dx (.float _ t1x) (.float _ t2x)) 270 (some (dictOf [] 0)) := ⟨h1x, rfl, rfl, h2x⟩
  refine' bin_refl (T := "float") F X Ix ?hB ?hC ?hP ?hS ?hF PySem.F.fills_float_sub ?hU PySem.F.slot_float_sub PySem.F.entry_float_sub (PySem.F.args_float_sub_2 _ _) ?hG ?_; (case hB => exact rfl); (case hP => k_is); (case hS => k_is); (case hF => k_is); (case hC => k_is); (case hU => k_is); (case hG => exact fun _ _ _ q => flt_declines _ _ h1x rfl q)
  refine wpAny_call ?_
  refine' enterD (g := s.heap) (news := []) (od := none) X₀ T₀ (Stays.refl _) (Nat.le_refl _) (fun p hp => nomatch hp) ?k6 ?k7 ?k8 ?k9 ?kB ?_ ?c2 ?c3 ?c4 ?c5
  (case k6 => k_is); (case k7 => k_is); (case k8 => omega); (case k9 => first | exact BindsTo.of_eq rfl | exact binds_K X₀ rfl (by k_is) rfl rfl rfl); (case c5 => decide); (case kB => exact locs rfl); (case c2 => exact rfl); (case c3 => exact rfl); (case c4 => exact rfl)
  intro h' L' F' N' X' T'
  dsimp only
  repeat' (first | walk1 | (dsimp only; walk1))
  all_goals dsimp only [W.CmpBack]
  rename ND _ _ _ _ => D1
  rename Fr s.heap L' _ _ => F1
  refine hQ _ _ _ F1.keep ?_ D1
  rename (Heap.get? _ _ = none) => f1
  exact fresh_of (Fr.keep (by assumption)) f1

theorem c_subin {a b : UInt64} {n : Int} {t : Tok} {x : Addr} (W : Wd w s.heap) (hx : ND s.heap x a b) (hi : n.natAbs ≤ 8) (hh : A.handled = none) (hroom : A.depth + 30 < recursionLimit)
    (hQ : ∀ r h' tk, Stays s.heap h' → s.heap.get? r = none → ND h' r (Float64.neg (Float64.sub a (Float64.ofInt n))) b → Q (.ref r) { s with heap := h', toks := tk }) :
    wpAny (model Challenge.rw_oz0058_01.row.prog w) A (binaryOp .Sub (.int n t) (.ref x)) Q E s := by
  have hD := hx
  have X₀ := W.inK
  obtain ⟨h₀, L, m, l, me, mg, mb, F, X, T⟩ := W
  have T₀ := T.keeps F.keep
  obtain ⟨⟨dx, t1x, t2x, h1x, h2x, z1x, z2x⟩, nx⟩ := hx
  have Ix : W.InstAt s.heap x (ndObj dx (.float _ t1x) (.float _ t2x)) 270 (some (dictOf [] 0)) := ⟨h1x, rfl, rfl, h2x⟩
  refine' bin_refl (T := "int") F X Ix ?hB ?hC ?hP ?hS ?hF PySem.F.fills_int_sub ?hU PySem.F.slot_int_sub PySem.F.entry_int_sub (PySem.F.args_int_sub_2 _ _) ?hG ?_; (case hB => exact rfl); (case hP => k_is); (case hS => k_is); (case hF => k_is); (case hC => k_is); (case hU => k_is); (case hG => exact fun _ _ _ q => int_declines _ _ h1x rfl q)
  refine wpAny_call ?_
  refine' enterD (g := s.heap) (news := []) (od := none) X₀ T₀ (Stays.refl _) (Nat.le_refl _) (fun p hp => nomatch hp) ?k6 ?k7 ?k8 ?k9 ?kB ?_ ?c2 ?c3 ?c4 ?c5
  (case k6 => k_is); (case k7 => k_is); (case k8 => omega); (case k9 => first | exact BindsTo.of_eq rfl | exact binds_K X₀ rfl (by k_is) rfl rfl rfl); (case c5 => decide); (case kB => exact locs rfl); (case c2 => exact rfl); (case c3 => exact rfl); (case c4 => exact rfl)
  intro h' L' F' N' X' T'
  dsimp only
  repeat' (first | walk1 | (dsimp only; walk1))
  all_goals dsimp only [W.CmpBack]
  rename ND _ _ _ _ => D1
  rename Fr s.heap L' _ _ => F1
  refine hQ _ _ _ F1.keep ?_ D1
  rename (Heap.get? _ _ = none) => f1
  exact fresh_of (Fr.keep (by assumption)) f1


theorem showv {α : Type} {x : α} {P : Prop} {y : α} (e : x = y) (h : x = y → P) : P := h e
theorem nsv_of {K : Frag} {h : Heap} {N : Addr} {mg : Str → Option Value} {n : Str} {v : Value} (X : K.In h) (G : h.Ns N mg) (e : nsIn K N n = some (some v)) : mg n = some v := by
  obtain ⟨o, es, ep, ho, hd, _, hf⟩ := G
  unfold nsIn at e
  split at e
  · rename_i c d es' n' sl q
    have := X _ _ q
    rw [ho] at this
    cases this
    cases hd
    split at e
    · rename_i en he
      cases e
      rw [← hf]
      unfold nsFind findBy
      rw [← Array.find?_toList, he]
      rfl
    · split at e <;> cases e
  · cases e

abbrev feq (x y : UInt64) : Bool := Float64.cmp x y == some Ordering.eq

theorem c_eq {a b c d : UInt64} {x y : Addr} (W : Wd w s.heap) (hx : ND s.heap x a b) (hy : ND s.heap y c d) (hroom : A.depth + 6 < recursionLimit) (hu : A.units + 1 < cLine)
    (hQ : ∀ h' tk, Stays s.heap h' → Q (.bool (feq a c && feq b d)) { s with heap := h', toks := tk }) :
    wpAny (model Challenge.rw_oz0058_01.row.prog w) A (compareOp .Eq (.ref x) (.ref y)) Q E s := by
  have X₀ := W.inK
  obtain ⟨h₀, L, m, l, me, mg, mb, F, X, T⟩ := W
  have T₀ := T.keeps F.keep
  obtain ⟨⟨dx, t1x, t2x, h1x, h2x, z1x, z2x⟩, nx⟩ := hx
  have Ix : W.InstAt s.heap x (ndObj dx (.float _ t1x) (.float _ t2x)) 270 (some (dictOf [] 0)) := ⟨h1x, rfl, rfl, h2x⟩
  obtain ⟨⟨dy, t1y, t2y, h1y, h2y, z1y, z2y⟩, ny⟩ := hy
  have Iy : W.InstAt s.heap y (ndObj dy (.float _ t1y) (.float _ t2y)) 270 (some (dictOf [] 0)) := ⟨h1y, rfl, rfl, h2y⟩
  refine cmp_ofEq ?_
  refine' cmp_K (Nat.lt_of_succ_lt hu) F X Ix Iy.type ?n ?k5 ?k6' ?_
  (case n => k_is); (case k5 => k_is); (case k6' => k_is)
  refine wpAny_call ?_
  refine' enterD (g := s.heap) (news := []) (od := none) X₀ T₀ (Stays.refl _) (Nat.le_refl _) (fun p hp => nomatch hp) ?k6 ?k7 ?k8 ?k9 ?kB ?_ ?c2 ?c3 ?c4 ?c5
  (case k6 => k_is); (case k7 => k_is); (case k8 => omega); (case k9 => first | exact BindsTo.of_eq rfl | exact binds_K X₀ rfl (by k_is) rfl rfl rfl); (case c5 => decide); (case kB => exact locs rfl); (case c2 => exact rfl); (case c3 => exact rfl); (case c4 => exact rfl)
  intro h' L' F' N' X' T'
  dsimp only
  repeat' (first | walk1 | (dsimp only; walk1))
  all_goals dsimp only [W.CmpBack]
  all_goals (rename Fr s.heap L' _ _ => F1)
  · have e : feq a c = true := ‹_›
    have := fun h' tk k => hQ h' tk k
    rw [e, Bool.true_and] at this
    exact this _ _ F1.keep
  · have e : feq a c = false := ‹_›
    have := fun h' tk k => hQ h' tk k
    rw [e, Bool.false_and] at this
    dsimp only [feq] at e
    rw [e]
    exact this _ _ F1.keep

theorem c_ne {a b c d : UInt64} {x y : Addr} (W : Wd w s.heap) (hx : ND s.heap x a b) (hy : ND s.heap y c d) (hroom : A.depth + 6 < recursionLimit) (hu : A.units + 1 < cLine)
    (hQ : ∀ h' tk, Stays s.heap h' → Q (.bool (!(feq a c && feq b d))) { s with heap := h', toks := tk }) :
    wpAny (model Challenge.rw_oz0058_01.row.prog w) A (compareOp .NotEq (.ref x) (.ref y)) Q E s := by
  have X₀ := W.inK
  obtain ⟨h₀, L, m, l, me, mg, mb, F, X, T⟩ := W
  have T₀ := T.keeps F.keep
  obtain ⟨⟨dx, t1x, t2x, h1x, h2x, z1x, z2x⟩, nx⟩ := hx
  have Ix : W.InstAt s.heap x (ndObj dx (.float _ t1x) (.float _ t2x)) 270 (some (dictOf [] 0)) := ⟨h1x, rfl, rfl, h2x⟩
  obtain ⟨⟨dy, t1y, t2y, h1y, h2y, z1y, z2y⟩, ny⟩ := hy
  have Iy : W.InstAt s.heap y (ndObj dy (.float _ t1y) (.float _ t2y)) 270 (some (dictOf [] 0)) := ⟨h1y, rfl, rfl, h2y⟩
  obtain ⟨hp, gg, dr, tk, os⟩ := s
  dsimp only at X₀ T₀ F hQ h1x h2x h1y h2y Ix Iy ⊢
  refine' showv (x := (lay01.heap_1 w.params).lookup 270) ?e ?_; (case e => k_is); intro hC
  refine' showv (x := (lay01.heap_1 w.params).lookup 269) ?e ?_; (case e => k_is); intro hNs
  have hN := Heap.Ns.of_isNs (isNs_of_in (N := 269) X₀ (by unfold nsOkIn; rw [hNs]; kernel_rfl))
  have hE : findIn (lay01.heap_1 w.params) (.ref 270) "__eq__" = some (some (.ref 235)) := by k_is
  refine' showv (x := (lay01.heap_1 w.params).lookup 235) ?e ?_; (case e => k_is); intro hEf
  refine' showv (x := nsIn (lay01.heap_1 w.params) 269 "__eq__") ?e ?_; (case e => k_is); intro hE1
  refine' showv (x := nsIn (lay01.heap_1 w.params) 269 "__ne__") ?e ?_; (case e => k_is); intro hE2
  have hcall : wpAny (model Challenge.rw_oz0058_01.row.prog w) A.in1 (call (.ref 235) [.ref x, .ref y]) (fun v s' => ∃ b', v = .bool b' ∧ Q (.bool (!b')) s') E ⟨hp, gg, dr, tk, os⟩ := by
    refine wpAny_call ?_
    refine' enterD (g := hp) (news := []) (od := none) X₀ T₀ (Stays.refl _) (Nat.le_refl _) (fun p hp => nomatch hp) ?k6 ?k7 ?k8 ?k9 ?kB ?_ ?c2 ?c3 ?c4 ?c5
    (case k6 => k_is); (case k7 => k_is); (case k8 => (simp only [depth_in1]; omega)); (case k9 => first | exact BindsTo.of_eq rfl | exact binds_K X₀ rfl (by k_is) rfl rfl rfl); (case c5 => decide); (case kB => exact locs rfl); (case c2 => exact rfl); (case c3 => exact rfl); (case c4 => exact rfl)
    intro h' L' F' N' X' T'
    dsimp only
    repeat' (first | walk1 | (dsimp only; walk1))
    all_goals dsimp only
    all_goals (rename Fr hp L' _ _ => F1)
    · have e : feq a c = true := ‹_›
      have := fun h' tk k => hQ h' tk k
      rw [e, Bool.true_and] at this
      exact this _ _ F1.keep
    · have e : feq a c = false := ‹_›
      have := fun h' tk k => hQ h' tk k
      rw [e, Bool.false_and] at this
      dsimp only [feq] at e
      rw [e]
      exact this _ _ F1.keep
  exact compareOp_ne_ownEq PySem.F.cmp_object ⟨_, _, _, _, _, _, _, _, _, _, _, _, _, _, _, _, _, _, _, _, h1x, rfl, X₀ _ _ hC, hN, nsv_of X₀ hN hE1, X₀ _ _ hEf, rfl, PySem.F.cmp_object.mro, PySem.F.cmp_object.eq.lookup, ns_none_of X₀ hN hE2⟩ h1y rfl hu hcall
local macro_rules | `(tactic| k_all) => `(tactic| exact allLt_ne (by assumption) (by omega))
local macro_rules | `(tactic| walk_at "execs cons") => `(tactic| refine wpAny_execs_cons ?_)
local macro_rules | `(tactic| walk_at "execs nil") => `(tactic| refine wpAny_execs_nil ?_)
theorem c_mk0 (W : Wd w s.heap) (hroom : A.depth + 2 < recursionLimit)
    (hQ : ∀ x h' tk, Stays s.heap h' → s.heap.get? x = none → ND h' x 0 4607182418800017408 → Q (.ref x) { s with heap := h', toks := tk }) :
    wpAny (model Challenge.rw_oz0058_01.row.prog w) A (call (.ref 270) [] []) Q E s := by
  have X₀ := W.inK
  obtain ⟨h₀, L, m, l, me, mg, mb, F, X, T⟩ := W
  obtain ⟨hh, gg, dr, tk, os⟩ := s
  dsimp only at F X₀ hQ ⊢
  have T₀ := T.keeps F.keep
  refine wpAny_call (make_core (makes_of X₀ (by k_is)) (looks_findIn X₀ (by k_is)) (fun self => bind_fn X₀ self (by k_is)) (.inl rfl) ?_)
  have n0 : hh.get? hh.objs.size = none := by
    cases e : hh.get? hh.objs.size with
    | none => rfl
    | some o => exact absurd (Heap.lt_size e) (Nat.lt_irrefl _)
  have n1 : hh.get? (hh.objs.size + 1) = none := by
    cases e : hh.get? (hh.objs.size + 1) with
    | none => rfl
    | some o => exact absurd (Heap.lt_size e) (by have : @LE.le Nat _ hh.objs.size (hh.objs.size + 1) := Nat.le_succ _; exact Nat.not_lt.mpr this)
  have k1 : Stays hh ((hh.push emptyDict).push (instObj 270 hh.objs.size)) := fun b o e => Heap.get?_push_of_some _ (Heap.get?_push_of_some _ e)
  have i0 : ((hh.push emptyDict).push (instObj 270 hh.objs.size)).get? hh.objs.size = some emptyDict := Heap.get?_push_of_some _ (Heap.get?_push_size _ rfl)
  have i1 : ((hh.push emptyDict).push (instObj 270 hh.objs.size)).get? (hh.objs.size + 1) = some (instObj 270 hh.objs.size) := by
    have := Heap.get?_push_size (h := hh.push emptyDict) (o := instObj 270 hh.objs.size) rfl
    rwa [Heap.size_push] at this
  generalize hx : hh.objs.size + 1 = x at *
  have hlt : @LT.lt Nat _ hh.objs.size x := hx ▸ Nat.lt_succ_self _
  generalize hdx : hh.objs.size = dx at *
  refine' enterD (g := hh) (news := [(x, instObj 270 dx), (dx, dictOf [] 0)]) (od := none) X₀ T₀ k1 (by rw [Heap.size_push, Heap.size_push]; exact Nat.le_succ_of_le (Nat.le_succ _)) ?nw ?k6 ?k7 ?k8 ?k9 ?kB ?_ ?c2 ?c3 ?c4 ?c5
  case nw =>
    intro p hp
    simp only [List.mem_cons, List.not_mem_nil, or_false] at hp
    rcases hp with rfl | rfl
    · exact ⟨i1, n1⟩
    · exact ⟨i0, n0⟩
  (case k6 => k_is); (case k7 => k_is); (case k8 => (simp only [depth_under_make]; omega));  (case k9 => exact binds_K (X₀.keeps k1) rfl (by k_is) rfl rfl rfl); (case c5 => decide); (case kB => exact locs rfl); (case c2 => exact rfl); (case c3 => exact rfl); (case c4 => exact rfl)
  intro h' L' F' N' X' T'
  dsimp only
  repeat' (first | walk1 | (dsimp only; walk1))
  · rename ((_ == _) = true) => hb; exact absurd hb (by decide +kernel)
  refine ⟨rfl, ?_⟩
  dsimp only
  rename Fr hh L' _ _ => F1
  rename News hh L' _ _ => N1
  exact hQ _ _ _ F1.keep n1 ⟨⟨_, _, _, (N1 _ (.head _)).1, (N1 _ (.tail _ (.head _))).1, by first | decide | exact Nat.succ_ne_zero _, by first | decide | exact Nat.succ_ne_zero _⟩, by decide +kernel⟩

theorem c_mkii {t1 t2 : Tok} (W : Wd w s.heap) (hroom : A.depth + 2 < recursionLimit)
    (hQ : ∀ x h' tk, Stays s.heap h' → s.heap.get? x = none → ND h' x (Float64.ofInt 0) (Float64.ofInt 0) → Q (.ref x) { s with heap := h', toks := tk }) :
    wpAny (model Challenge.rw_oz0058_01.row.prog w) A (call (.ref 270) [.int 0 t1, .int 0 t2] []) Q E s := by
  have X₀ := W.inK
  obtain ⟨h₀, L, m, l, me, mg, mb, F, X, T⟩ := W
  obtain ⟨hh, gg, dr, tk, os⟩ := s
  dsimp only at F X₀ hQ ⊢
  have T₀ := T.keeps F.keep
  refine wpAny_call (make_core (makes_of X₀ (by k_is)) (looks_findIn X₀ (by k_is)) (fun self => bind_fn X₀ self (by k_is)) (.inl rfl) ?_)
  have n0 : hh.get? hh.objs.size = none := by
    cases e : hh.get? hh.objs.size with
    | none => rfl
    | some o => exact absurd (Heap.lt_size e) (Nat.lt_irrefl _)
  have n1 : hh.get? (hh.objs.size + 1) = none := by
    cases e : hh.get? (hh.objs.size + 1) with
    | none => rfl
    | some o => exact absurd (Heap.lt_size e) (by have : @LE.le Nat _ hh.objs.size (hh.objs.size + 1) := Nat.le_succ _; exact Nat.not_lt.mpr this)
  have k1 : Stays hh ((hh.push emptyDict).push (instObj 270 hh.objs.size)) := fun b o e => Heap.get?_push_of_some _ (Heap.get?_push_of_some _ e)
  have i0 : ((hh.push emptyDict).push (instObj 270 hh.objs.size)).get? hh.objs.size = some emptyDict := Heap.get?_push_of_some _ (Heap.get?_push_size _ rfl)
  have i1 : ((hh.push emptyDict).push (instObj 270 hh.objs.size)).get? (hh.objs.size + 1) = some (instObj 270 hh.objs.size) := by
    have := Heap.get?_push_size (h := hh.push emptyDict) (o := instObj 270 hh.objs.size) rfl
    rwa [Heap.size_push] at this
  generalize hx : hh.objs.size + 1 = x at *
  have hlt : @LT.lt Nat _ hh.objs.size x := hx ▸ Nat.lt_succ_self _
  generalize hdx : hh.objs.size = dx at *
  refine' enterD (g := hh) (news := [(x, instObj 270 dx), (dx, dictOf [] 0)]) (od := none) X₀ T₀ k1 (by rw [Heap.size_push, Heap.size_push]; exact Nat.le_succ_of_le (Nat.le_succ _)) ?nw ?k6 ?k7 ?k8 ?k9 ?kB ?_ ?c2 ?c3 ?c4 ?c5
  case nw =>
    intro p hp
    simp only [List.mem_cons, List.not_mem_nil, or_false] at hp
    rcases hp with rfl | rfl
    · exact ⟨i1, n1⟩
    · exact ⟨i0, n0⟩
  (case k6 => k_is); (case k7 => k_is); (case k8 => (simp only [depth_under_make]; omega));  (case k9 => exact binds_K (X₀.keeps k1) rfl (by k_is) rfl rfl rfl); (case c5 => decide); (case kB => exact locs rfl); (case c2 => exact rfl); (case c3 => exact rfl); (case c4 => exact rfl)
  intro h' L' F' N' X' T'
  dsimp only
  repeat' (first | walk1 | (dsimp only; walk1))
  · rename ((_ == _) = true) => hb; exact absurd hb (by decide +kernel)
  refine ⟨rfl, ?_⟩
  dsimp only
  rename Fr hh L' _ _ => F1
  rename News hh L' _ _ => N1
  exact hQ _ _ _ F1.keep n1 ⟨⟨_, _, _, (N1 _ (.head _)).1, (N1 _ (.tail _ (.head _))).1, by first | decide | exact Nat.succ_ne_zero _, by first | decide | exact Nat.succ_ne_zero _⟩, by decide +kernel⟩


theorem c_mean {a b : UInt64} {x : Addr} {pl : Bool} (W : Wd w s.heap) (hx : ND s.heap x a b) (hroom : A.depth + 6 < recursionLimit)
    (hQ : ∀ h' t tk, Stays s.heap h' → t ≠ 0 → Q (.float a t) { s with heap := h', toks := tk }) :
    wpAny (model Challenge.rw_oz0058_01.row.prog w) A (getAttr (.ref x) "mean" pl) Q E s := by
  have X₀ := W.inK
  obtain ⟨h₀, L, m, l, me, mg, mb, F, X, T⟩ := W
  have T₀ := T.keeps F.keep
  obtain ⟨⟨dx, t1x, t2x, h1x, h2x, z1x, z2x⟩, nx⟩ := hx
  have Ix : W.InstAt s.heap x (ndObj dx (.float _ t1x) (.float _ t2x)) 270 (some (dictOf [] 0)) := ⟨h1x, rfl, rfl, h2x⟩
  refine' get_propS ?k1 ?k2 ?k3 ?k4 ?k5 ?k6 ?k7 ?k8 ?k9 ?_; (case k1 => exact F); (case k2 => exact X); (case k3 => exact Ix); (case k4 => k_is); (case k5 => k_is); (case k6 => k_is); (case k7 => k_is); (case k8 => k_is); (case k9 => k_is)
  refine' enterD (g := s.heap) (news := []) (od := none) X₀ T₀ (Stays.refl _) (Nat.le_refl _) (fun p hp => nomatch hp) ?k6 ?k7 ?k8 ?k9 ?kB ?_ ?c2 ?c3 ?c4 ?c5
  (case k6 => k_is); (case k7 => k_is); (case k8 => (simp only [depth_in1]; omega)); (case k9 => first | exact BindsTo.of_eq rfl | exact binds_K X₀ rfl (by k_is) rfl rfl rfl); (case c5 => decide); (case kB => exact locs rfl); (case c2 => exact rfl); (case c3 => exact rfl); (case c4 => exact rfl)
  intro h' L' F' N' X' T'
  dsimp only
  repeat' (first | walk1 | (dsimp only; walk1))
  dsimp only
  refine handed_on rfl ?_
  rename Fr s.heap L' _ _ => F1
  exact hQ _ _ _ F1.keep (by assumption)

theorem c_stdev {a b : UInt64} {x : Addr} {pl : Bool} (W : Wd w s.heap) (hx : ND s.heap x a b) (hroom : A.depth + 6 < recursionLimit)
    (hQ : ∀ h' t tk, Stays s.heap h' → t ≠ 0 → Q (.float b t) { s with heap := h', toks := tk }) :
    wpAny (model Challenge.rw_oz0058_01.row.prog w) A (getAttr (.ref x) "stdev" pl) Q E s := by
  have X₀ := W.inK
  obtain ⟨h₀, L, m, l, me, mg, mb, F, X, T⟩ := W
  have T₀ := T.keeps F.keep
  obtain ⟨⟨dx, t1x, t2x, h1x, h2x, z1x, z2x⟩, nx⟩ := hx
  have Ix : W.InstAt s.heap x (ndObj dx (.float _ t1x) (.float _ t2x)) 270 (some (dictOf [] 0)) := ⟨h1x, rfl, rfl, h2x⟩
  refine' get_propS ?k1 ?k2 ?k3 ?k4 ?k5 ?k6 ?k7 ?k8 ?k9 ?_; (case k1 => exact F); (case k2 => exact X); (case k3 => exact Ix); (case k4 => k_is); (case k5 => k_is); (case k6 => k_is); (case k7 => k_is); (case k8 => k_is); (case k9 => k_is)
  refine' enterD (g := s.heap) (news := []) (od := none) X₀ T₀ (Stays.refl _) (Nat.le_refl _) (fun p hp => nomatch hp) ?k6 ?k7 ?k8 ?k9 ?kB ?_ ?c2 ?c3 ?c4 ?c5
  (case k6 => k_is); (case k7 => k_is); (case k8 => (simp only [depth_in1]; omega)); (case k9 => first | exact BindsTo.of_eq rfl | exact binds_K X₀ rfl (by k_is) rfl rfl rfl); (case c5 => decide); (case kB => exact locs rfl); (case c2 => exact rfl); (case c3 => exact rfl); (case c4 => exact rfl)
  intro h' L' F' N' X' T'
  dsimp only
  repeat' (first | walk1 | (dsimp only; walk1))
  dsimp only
  refine handed_on rfl ?_
  rename Fr s.heap L' _ _ => F1
  exact hQ _ _ _ F1.keep (by assumption)
end
end Mine

open PySem PySem.W PySem.Calls PyProof.Rows
set_option Elab.async false
set_option maxRecDepth 100000
set_option maxHeartbeats 4000000
namespace Mine

structure EnvF (env : Env) : Prop where
  kind : env.scope.kind = .function
  glob : env.globals = mainGlobals
  bui : env.builtins = builtinsNs

abbrev HP := Heap → Value → Prop
def Mono (R : HP) : Prop := ∀ h h' u, Stays h h' → R h u → R h' u
/-- what a frame's store may turn: a filled dict, a cell -/
def soft (o : Obj) : Bool := match o.data with
  | .cell _ => true
  | .dict es _ => !es.isEmpty
  | _ => false
/-- an iterator besides -/
def soft2 (o : Obj) : Bool := soft o || (match o.cls with
  | .type "list_iterator" => true
  | .type "range_iterator" => true
  | _ => false)
def KeepD (h h' : Heap) : Prop := ∀ a o, h.get? a = some o → soft2 o = false → h'.get? a = some o
theorem KeepD.refl (h : Heap) : KeepD h h := fun _ _ e _ => e
theorem KeepD.trans {a b c : Heap} (x : KeepD a b) (y : KeepD b c) : KeepD a c := fun _ _ e s => y _ _ (x _ _ e s) s
theorem KeepD.of {h h' : Heap} (k : Stays h h') : KeepD h h' := fun _ _ e _ => k _ _ e
def Stab (R : HP) : Prop := ∀ h h' u, KeepD h h' → R h u → R h' u
theorem Stab.mono {R : HP} (x : Stab R) : Mono R := fun h h' u k r => x h h' u (.of k) r

def IsF (f : UInt64) : HP := fun _ u => ∃ t, u = .float f t ∧ t ≠ 0
def IsI (n : Int) : HP := fun _ u => ∃ t, u = .int n t
def IsB (b : Bool) : HP := fun _ u => u = .bool b
def IsN (mu sg : UInt64) : HP := fun h u => ∃ x, u = .ref x ∧ ND h x mu sg
def All2 : List HP → Heap → List Value → Prop
  | [], _, [] => True
  | R :: Rs, h, v :: vs => R h v ∧ All2 Rs h vs
  | _, _, _ => False
def IsL (Rs : List HP) : HP := fun h u => ∃ l vs, u = .ref l ∧ h.IsList l vs.toArray ∧ All2 Rs h vs
def StabL : List HP → Prop
  | [] => True
  | R :: Rs => Stab R ∧ StabL Rs

theorem sF {f} : Stab (IsF f) := fun _ _ _ _ r => r
theorem sI {n} : Stab (IsI n) := fun _ _ _ _ r => r
theorem sB {b} : Stab (IsB b) := fun _ _ _ _ r => r
theorem sN {a b} : Stab (IsN a b) := by
  rintro h h' u k ⟨x, rfl, ⟨⟨dx, t1, t2, e1, e2, z⟩, n⟩⟩
  exact ⟨x, rfl, ⟨⟨dx, t1, t2, k _ _ e1 rfl, k _ _ e2 rfl, z⟩, n⟩⟩
theorem All2.stab : ∀ {Rs : List HP} {h h' : Heap} {vs : List Value}, StabL Rs → KeepD h h' → All2 Rs h vs → All2 Rs h' vs
  | [], _, _, [], _, _, _ => trivial
  | _ :: _, _, _, _ :: _, s, k, r => ⟨s.1 _ _ _ k r.1, All2.stab s.2 k r.2⟩
theorem All2.length : ∀ {Rs : List HP} {h : Heap} {vs : List Value}, All2 Rs h vs → vs.length = Rs.length
  | [], _, [], _ => rfl
  | _ :: _, _, _ :: _, r => by rw [List.length_cons, List.length_cons, All2.length r.2]
theorem All2.get : ∀ {Rs : List HP} {h : Heap} {vs : List Value} {i : Nat} {R : HP}, All2 Rs h vs → Rs[i]? = some R → ∃ v, vs[i]? = some v ∧ R h v
  | [], _, _, _, _, _, e => by simp at e
  | R :: Rs, h, v :: vs, 0, R', r, e => by simp at e; subst e; exact ⟨v, rfl, r.1⟩
  | R :: Rs, h, v :: vs, i + 1, R', r, e => by
    obtain ⟨u, a, b⟩ := All2.get (i := i) r.2 (by simpa using e)
    exact ⟨u, by simpa using a, b⟩
theorem IsList.keepD {h h' : Heap} {l : Addr} {items : Array Value} (k : KeepD h h') (x : h.IsList l items) : h'.IsList l items := by
  obtain ⟨o, e, c, n, d⟩ := x
  exact ⟨o, k _ _ e (by unfold soft2 soft; rw [d, c]; rfl), c, n, d⟩
theorem sL {Rs} (s : StabL Rs) : Stab (IsL Rs) := by
  rintro h h' u k ⟨l, vs, rfl, hl, ha⟩
  exact ⟨l, vs, rfl, IsList.keepD k hl, All2.stab s k ha⟩

def VarAt (env : Env) (h : Heap) (x : Str) (R : HP) : Prop :=
  (env.kindOf x = some .local ∧ ∃ m v, h.Ns env.locals m ∧ m x = some v ∧ R h v) ∨
  (env.kindOf x = some .cell ∧ ∃ c v, env.cells.lookup x = some c ∧ h.IsCell c (some v) ∧ R h v)
def Vars (env : Env) (h : Heap) (Γ : List (Str × HP)) : Prop := ∀ x R, Γ.lookup x = some R → VarAt env h x R
theorem Vars.grow {env : Env} {h h' : Heap} {Γ : List (Str × HP)} (V : Vars env h Γ) (s : ∀ x R, Γ.lookup x = some R → Stab R) (k : Stays h h') : Vars env h' Γ := by
  intro x R e
  rcases V x R e with ⟨hk, m, v, hn, hv, hr⟩ | ⟨hk, c, v, hc, hcell, hr⟩
  · exact .inl ⟨hk, m, v, hn.keeps k, hv, (s x R e).mono _ _ _ k hr⟩
  · exact .inr ⟨hk, c, v, hc, hcell.keeps k, (s x R e).mono _ _ _ k hr⟩

def Ev (w : World) (A : Around) (env : Env) (H : Heap) (e : Expr) (R : HP) : Prop :=
  ∀ (s : Shared) (Q : Value → Shared → Prop) (E : Value → Shared → Prop), Stays H s.heap → 0 < s.toks →
    (∀ v h' tk, Stays s.heap h' → 0 < tk → R h' v → Q v { s with heap := h', toks := tk }) → wpAny (model Challenge.rw_oz0058_01.row.prog w) A (eval e env) Q E s
def EvT (w : World) (A : Around) (env : Env) (H : Heap) (e : Expr) (b : Bool) : Prop :=
  ∀ (s : Shared) (Q : Bool → Shared → Prop) (E : Value → Shared → Prop), Stays H s.heap → 0 < s.toks →
    (∀ h' tk, Stays s.heap h' → 0 < tk → Q b { s with heap := h', toks := tk }) → wpAny (model Challenge.rw_oz0058_01.row.prog w) A (PySem.isTrue e env (eval e env)) Q E s
def EvL (w : World) (A : Around) (env : Env) (H : Heap) (es : List Expr) (Rs : List HP) : Prop :=
  ∀ (pos : Pos) (s : Shared) (Q : List Value → Shared → Prop) (E : Value → Shared → Prop), Stays H s.heap → 0 < s.toks →
    (∀ vs h' tk, Stays s.heap h' → 0 < tk → All2 Rs h' vs → Q vs { s with heap := h', toks := tk }) → wpAny (model Challenge.rw_oz0058_01.row.prog w) A (spliced (backTo pos (starEach es env))) Q E s
def Op1 (w : World) (A : Around) (t : Value → Sem Value) (R R' : HP) : Prop :=
  ∀ (s : Shared) (a : Value) (Q : Value → Shared → Prop) (E : Value → Shared → Prop), Wd w s.heap → 0 < s.toks → R s.heap a →
    (∀ v h' tk, Stays s.heap h' → 0 < tk → R' h' v → Q v { s with heap := h', toks := tk }) → wpAny (model Challenge.rw_oz0058_01.row.prog w) A (t a) Q E s
def Op2 (w : World) (A : Around) (t : Value → Value → Sem Value) (Ra Rb R' : HP) : Prop :=
  ∀ (s : Shared) (a b : Value) (Q : Value → Shared → Prop) (E : Value → Shared → Prop), Wd w s.heap → 0 < s.toks → Ra s.heap a → Rb s.heap b →
    (∀ v h' tk, Stays s.heap h' → 0 < tk → R' h' v → Q v { s with heap := h', toks := tk }) → wpAny (model Challenge.rw_oz0058_01.row.prog w) A (t a b) Q E s
def OpN (w : World) (A : Around) (f : Value) (Rs : List HP) (R' : HP) : Prop :=
  ∀ (s : Shared) (vs : List Value) (Q : Value → Shared → Prop) (E : Value → Shared → Prop), Wd w s.heap → 0 < s.toks → All2 Rs s.heap vs →
    (∀ v h' tk, Stays s.heap h' → 0 < tk → R' h' v → Q v { s with heap := h', toks := tk }) → wpAny (model Challenge.rw_oz0058_01.row.prog w) A (call f vs) Q E s

section
variable {w : World} {A : Around} {env : Env} {H : Heap}

theorem ev_name {Γ : List (Str × HP)} {x : Str} {pos : Pos} {R : HP} (F : EnvF env) (V : Vars env H Γ) (hl : Γ.lookup x = some R) (hm : Stab R) (hd : (x == ("__debug__" : Str)) = false) : Ev w A env H (.Name x pos) R := by
  intro s Q E k p hQ
  rcases V x R hl with ⟨hk, m, v, hn, hv, hr⟩ | ⟨hk, c, v, hc, hcell, hr⟩
  · exact wpAny_Name (wpAny_loadName_local F.kind hk (hn.keeps k) hv (hQ v s.heap s.toks (Stays.refl _) p (hm.mono _ _ _ k hr))) hd
  · exact wpAny_Name (wpAny_loadName_cell F.kind hk hc (hcell.keeps k) (hQ v s.heap s.toks (Stays.refl _) p (hm.mono _ _ _ k hr))) hd
theorem ev_int {n : Int} {k : Nat} {pos : Pos} : Ev w A env H (.Constant (.int n) k pos) (IsI n) :=
  fun s _ _ _ _ hQ => wpAny_Constant_int (hQ _ s.heap _ (Stays.refl _) (Nat.succ_pos _) ⟨_, rfl⟩)
theorem ev_flt {f : UInt64} {k : Nat} {pos : Pos} : Ev w A env H (.Constant (.float f) k pos) (IsF f) :=
  fun s _ _ _ p hQ => AutoFloatOps.wpAny_Constant_float (hQ _ s.heap _ (Stays.refl _) (Nat.succ_pos _) ⟨_, rfl, Nat.ne_of_gt p⟩)
theorem ev_un {op : UnaryOp} {e : Expr} {pos : Pos} {R R' : HP} (W : Wd w H) (h : Ev w A env H e R) (ho : Op1 w A (unaryOp op) R R') : Ev w A env H (.UnaryOp op e pos) R' :=
  fun s _ _ k p hQ => UnaryOp_ (h s _ _ k p fun _ _ _ k1 p1 r => ho _ _ _ _ (W.grow (k.trans k1)) p1 r fun v h3 tk3 k3 p3 rv => hQ v h3 tk3 (k1.trans k3) p3 rv)
theorem ev_bin {op : Operator} {l r : Expr} {pos : Pos} {Ra Rb R' : HP} (W : Wd w H) (hl : Ev w A env H l Ra) (hr : Ev w A env H r Rb) (sa : Stab Ra) (ho : Op2 w A (binaryOp op) Ra Rb R') : Ev w A env H (.BinOp l op r pos) R' :=
  fun s _ _ k p hQ => wpAny_BinOp (hl s _ _ k p fun _ _ _ k1 p1 ra => hr _ _ _ (k.trans k1) p1 fun _ _ _ k2 p2 rb => ho _ _ _ _ _ (W.grow (k.trans (k1.trans k2))) p2 (sa.mono _ _ _ k2 ra) rb
    fun v h3 tk3 k3 p3 rv => hQ v h3 tk3 (k1.trans (k2.trans k3)) p3 rv)
theorem ev_cmp {op : CmpOp} {l r : Expr} {pos : Pos} {Ra Rb R' : HP} (W : Wd w H) (hl : Ev w A env H l Ra) (hr : Ev w A env H r Rb) (sa : Stab Ra) (ho : Op2 w A (compareOp op) Ra Rb R') (hb : behindInMarks op r = false) : Ev w A env H (.Compare l [op] [r] pos) R' :=
  fun s _ _ k p hQ => wpAny_Compare1 (hl s _ _ k p fun _ _ _ k1 p1 ra => hr _ _ _ (k.trans k1) p1 fun _ _ _ k2 p2 rb => ho _ _ _ _ _ (W.grow (k.trans (k1.trans k2))) p2 (sa.mono _ _ _ k2 ra) rb
    fun v h3 tk3 k3 p3 rv => hQ v h3 tk3 (k1.trans (k2.trans k3)) p3 rv) hb
theorem ev_attr {e : Expr} {attr : Str} {pos : Pos} {R R' : HP} (W : Wd w H) (h : Ev w A env H e R) (ho : Op1 w A (fun v => getAttr v attr true) R R')
    (he : eval (.Attribute e attr pos) env = (do let o ← eval e env; standAt pos.atName; let r ← holding [o] (getAttr o attr true); letTemporaryGo e o r; pure r)) : Ev w A env H (.Attribute e attr pos) R' :=
  fun s _ _ k p hQ => Attribute_any_ (h s _ _ k p fun _ _ _ k1 p1 r => ho _ _ _ _ (W.grow (k.trans k1)) p1 r fun v h3 tk3 k3 p3 rv => hQ v h3 tk3 (k1.trans k3) p3 rv) he
theorem evl_nil : EvL w A env H [] [] := fun _ s _ _ _ p hQ => spliced_none (hQ [] s.heap s.toks (Stays.refl _) p trivial)
theorem evl_cons {e : Expr} {es : List Expr} {R : HP} {Rs : List HP} (h : Ev w A env H e R) (sR : Stab R) (hs : EvL w A env H es Rs) (he : starEach (e :: es) env = (false, eval e env) :: starEach es env) : EvL w A env H (e :: es) (R :: Rs) :=
  fun pos s _ _ k p hQ => spliced_more (h s _ _ k p fun v _ _ k1 p1 r => hs pos _ _ _ (k.trans k1) p1 fun vs h2 tk2 k2 p2 rs => hQ (v :: vs) h2 tk2 (k1.trans k2) p2 ⟨sR.mono _ _ _ k2 r, rs⟩) he
theorem ev_list {es : List Expr} {pos : Pos} {Rs : List HP} (h : EvL w A env H es Rs) (sR : StabL Rs) (hz : Rs.length ≤ 1000) : Ev w A env H (.List es pos) (IsL Rs) := by
  intro s Q E k p hQ
  refine List_ (h pos s _ _ k p fun vs h1 tk1 k1 p1 rs => ?_)
  have hk : Stays h1 (h1.push { cls := .type "list", data := .seq vs.toArray }) := fun b o e => Heap.get?_push_of_some _ e
  refine wpAny_newObj_type (hQ _ _ tk1 (k1.trans hk) p1 ⟨_, vs, rfl, ⟨_, Heap.get?_push_size _ rfl, rfl, 0, rfl⟩, All2.stab sR (.of hk) rs⟩) ?_
  show vs.toArray.size ≤ sizeLine
  rw [List.size_toArray, rs.length, sizeLine_eq]; omega
theorem ev_and {e1 e2 : Expr} {pos : Pos} {b1 b2 : Bool} (h1 : Ev w A env H e1 (IsB b1)) (h2 : b1 = true → Ev w A env H e2 (IsB b2)) : Ev w A env H (.BoolOp .And [e1, e2] pos) (IsB (b1 && b2)) := by
  intro s Q E k p hQ
  refine BoolOp_and (h1 s _ _ k p fun v h' tk k1 p1 r => ?_)
  cases r
  refine wpAny_truthy_bool ?_
  cases b1 with
  | true => rw [if_pos rfl]; exact BoolOp_one (h2 rfl _ _ _ (k.trans k1) p1 fun v h3 tk3 k3 p3 rv => hQ v h3 tk3 (k1.trans k3) p3 (by simpa using rv))
  | false => rw [if_neg (by decide)]; exact hQ _ h' tk k1 p1 (by simp [IsB])
theorem ev_ite {t b o : Expr} {pos : Pos} {c : Bool} {R : HP} (ht : EvT w A env H t c) (hb : c = true → Ev w A env H b R) (ho : c = false → Ev w A env H o R) : Ev w A env H (.IfExp t b o pos) R := by
  intro s Q E k p hQ
  refine IfExp_ (ht s _ _ k p fun h' tk k1 p1 => ?_)
  cases c with
  | true => rw [if_pos rfl]; exact hb rfl _ _ _ (k.trans k1) p1 fun v h3 tk3 k3 p3 rv => hQ v h3 tk3 (k1.trans k3) p3 rv
  | false => rw [if_neg (by decide)]; exact ho rfl _ _ _ (k.trans k1) p1 fun v h3 tk3 k3 p3 rv => hQ v h3 tk3 (k1.trans k3) p3 rv
theorem evt_cmp {op : CmpOp} {l r : Expr} {pos : Pos} {Ra Rb : HP} {b : Bool} (W : Wd w H) (hl : Ev w A env H l Ra) (hr : Ev w A env H r Rb) (sa : Stab Ra) (ho : Op2 w A (compareOp op) Ra Rb (IsB b)) (hb : behindInMarks op r = false) : EvT w A env H (.Compare l [op] [r] pos) b :=
  fun s _ _ k p hQ => wpAny_isTrue_Compare1 (hl s _ _ k p fun _ _ _ k1 p1 ra => hr _ _ _ (k.trans k1) p1 fun _ _ _ k2 p2 rb => ho _ _ _ _ _ (W.grow (k.trans (k1.trans k2))) p2 (sa.mono _ _ _ k2 ra) rb
    fun v h3 tk3 k3 p3 rv => by cases rv; exact wpAny_truthy_bool (hQ h3 tk3 (k1.trans (k2.trans k3)) p3)) hb
theorem evt_or {e : Expr} {es : List Expr} {pos : Pos} (h1 : EvT w A env H e false) (h2 : ∀ (s : Shared) (Q : Bool → Shared → Prop) (E : Value → Shared → Prop) (whole : Sem Value), Stays H s.heap → 0 < s.toks →
    (∀ h' tk, Stays s.heap h' → 0 < tk → Q false { s with heap := h', toks := tk }) → wpAny (model Challenge.rw_oz0058_01.row.prog w) A (PySem.isTrue (.BoolOp .Or es pos) env whole) Q E s) :
    ∀ (s : Shared) (Q : Bool → Shared → Prop) (E : Value → Shared → Prop) (whole : Sem Value), Stays H s.heap → 0 < s.toks →
    (∀ h' tk, Stays s.heap h' → 0 < tk → Q false { s with heap := h', toks := tk }) → wpAny (model Challenge.rw_oz0058_01.row.prog w) A (PySem.isTrue (.BoolOp .Or (e :: es) pos) env whole) Q E s := by
  intro s Q E whole k p hQ
  refine isTrue_or (h1 s _ _ k p fun h' tk k1 p1 => ?_)
  first
    | exact h2 _ _ _ _ (k.trans k1) p1 fun h3 tk3 k3 p3 => hQ h3 tk3 (k1.trans k3) p3
    | (rw [if_neg (by decide)]; exact h2 _ _ _ _ (k.trans k1) p1 fun h3 tk3 k3 p3 => hQ h3 tk3 (k1.trans k3) p3)
theorem evt_or_nil {pos : Pos} : ∀ (s : Shared) (Q : Bool → Shared → Prop) (E : Value → Shared → Prop) (whole : Sem Value), Stays H s.heap → 0 < s.toks →
    (∀ h' tk, Stays s.heap h' → 0 < tk → Q false { s with heap := h', toks := tk }) → wpAny (model Challenge.rw_oz0058_01.row.prog w) A (PySem.isTrue (.BoolOp .Or [] pos) env whole) Q E s :=
  fun s _ _ _ _ p hQ => isTrue_or_nil (hQ s.heap s.toks (Stays.refl _) p)
theorem evt_of_or {es : List Expr} {pos : Pos} (h : ∀ (s : Shared) (Q : Bool → Shared → Prop) (E : Value → Shared → Prop) (whole : Sem Value), Stays H s.heap → 0 < s.toks →
    (∀ h' tk, Stays s.heap h' → 0 < tk → Q false { s with heap := h', toks := tk }) → wpAny (model Challenge.rw_oz0058_01.row.prog w) A (PySem.isTrue (.BoolOp .Or es pos) env whole) Q E s) : EvT w A env H (.BoolOp .Or es pos) false :=
  fun s Q E k p hQ => h s Q E _ k p hQ
theorem evt_plain {e : Expr} {b : Bool} (h : Ev w A env H e (IsB b)) (he : ∀ whole, PySem.isTrue e env whole = (do let v ← whole; standAt e.pos; holding [v] (truthy v))) : EvT w A env H e b :=
  fun s _ _ k p hQ => isTrue_plain (h s _ _ k p fun v h3 tk3 k3 p3 rv => by cases rv; exact wpAny_truthy_bool (hQ h3 tk3 k3 p3)) (he _)
theorem ev_glob {x : Str} {pos : Pos} {v : Value} (F : EnvF env) (W : Wd w H) (hx : env.kindOf x = some .globalImplicit) (e : nsIn (lay01.heap_1 w.params) mainGlobals x = some (some v)) (hd : (x == ("__debug__" : Str)) = false) : Ev w A env H (.Name x pos) (fun _ u => u = v) := by
  intro s Q E k p hQ
  obtain ⟨h₀, L, m, l, me, mg, mb, Fr0, X, T⟩ := W.grow k
  exact Name_function_global F.kind hx (loadGlobal_global (by rw [F.glob]; exact T.g.keeps Fr0.keep) (mg_of X T.g e) (hQ v s.heap s.toks (Stays.refl _) p rfl)) hd
theorem ev_boot {x : Str} {pos : Pos} {v : Value} (F : EnvF env) (W : Wd w H) (hx : env.kindOf x = some .globalImplicit) (e : nsIn (lay01.heap_1 w.params) mainGlobals x = some none) (hv : bootBuiltins x = some v) (hn : x ≠ "__name__") (hd : (x == ("__debug__" : Str)) = false) : Ev w A env H (.Name x pos) (fun _ u => u = v) := by
  intro s Q E k p hQ
  obtain ⟨h₀, L, m, l, me, mg, mb, Fr0, X, T⟩ := W.grow k
  exact Name_function_global F.kind hx (loadGlobal_builtin (by rw [F.glob]; exact T.g.keeps Fr0.keep) (mg_none_of X T.g e) (by rw [F.bui]; exact T.b.keeps Fr0.keep) ((T.builtins x hn).trans hv) (hQ v s.heap s.toks (Stays.refl _) p rfl)) hd
theorem ev_callK {f : Expr} {fv : Value} {a : Expr} {es : List Expr} {pos : Pos} {Rs : List HP} {R : HP} (W : Wd w H) (hf : Ev w A env H f (fun _ u => u = fv)) (hk : keepIn (lay01.heap_1 w.params) fv = true) (ha : EvL w A env H (a :: es) Rs) (ho : OpN w A fv Rs R)
    (h1 : starEach (a :: es) env = (false, eval a env) :: starEach es env) (h2 : (backTo pos (starEach es env)).any (·.1) = false)
    (h3 : eval (.Call f (a :: es) [] pos) env = (do let g ← eval f env; callWith pos g [] (backTo pos (starEach (a :: es) env)) (backToKw pos (keywordEach [] env)))) : Ev w A env H (.Call f (a :: es) [] pos) R := by
  intro s Q E k p hQ
  refine Call_ (hf s _ _ k p fun v h' tk k1 p1 r => ?_) h3
  subst r
  refine callWith_K (W.grow (k.trans k1)).inK hk (ha pos _ _ _ (k.trans k1) p1 fun vs h2 tk2 k2 p2 rs => ⟨(W.grow (k.trans (k1.trans k2))).inK, ?_⟩) h1 h2
  exact ho _ _ _ _ (W.grow (k.trans (k1.trans k2))) p2 rs fun v h3 tk3 k3 p3 rv => hQ v h3 tk3 (k1.trans (k2.trans k3)) p3 rv
theorem ev_callK0 {f : Expr} {fv : Value} {pos : Pos} {R : HP} (W : Wd w H) (hf : Ev w A env H f (fun _ u => u = fv)) (hk : keepIn (lay01.heap_1 w.params) fv = true) (ho : OpN w A fv [] R)
    (h3 : eval (.Call f [] [] pos) env = (do let g ← eval f env; callWith pos g [] (backTo pos (starEach [] env)) (backToKw pos (keywordEach [] env)))) : Ev w A env H (.Call f [] [] pos) R := by
  intro s Q E k p hQ
  refine Call_ (hf s _ _ k p fun v h' tk k1 p1 r => ?_) h3
  subst r
  exact callWith_K0 (W.grow (k.trans k1)).inK hk (ho _ _ _ _ (W.grow (k.trans k1)) p1 trivial fun v h3 tk3 k3 p3 rv => hQ v h3 tk3 (k1.trans k3) p3 rv)
theorem ev_callB {f : Expr} {id : String} {a : Expr} {es : List Expr} {pos : Pos} {Rs : List HP} {R : HP} (W : Wd w H) (hf : Ev w A env H f (fun _ u => u = .builtin id)) (ha : EvL w A env H (a :: es) Rs) (ho : OpN w A (.builtin id) Rs R)
    (h1 : starEach (a :: es) env = (false, eval a env) :: starEach es env) (h2 : (backTo pos (starEach es env)).any (·.1) = false)
    (h3 : eval (.Call f (a :: es) [] pos) env = (do let g ← eval f env; callWith pos g [] (backTo pos (starEach (a :: es) env)) (backToKw pos (keywordEach [] env)))) : Ev w A env H (.Call f (a :: es) [] pos) R := by
  intro s Q E k p hQ
  refine Call_ (hf s _ _ k p fun v h' tk k1 p1 r => ?_) h3
  subst r
  refine PyProof.Rows.callWith_builtin1 (ha pos _ _ _ (k.trans k1) p1 fun vs h2 tk2 k2 p2 rs => ?_) h1 h2
  exact ho _ _ _ _ (W.grow (k.trans (k1.trans k2))) p2 rs fun v h3 tk3 k3 p3 rv => hQ v h3 tk3 (k1.trans (k2.trans k3)) p3 rv
theorem ev_callT {f : Expr} {id : String} {a : Expr} {es : List Expr} {pos : Pos} {Rs : List HP} {R : HP} (W : Wd w H) (hf : Ev w A env H f (fun _ u => u = .type id)) (ha : EvL w A env H (a :: es) Rs) (ho : OpN w A (.type id) Rs R)
    (h1 : starEach (a :: es) env = (false, eval a env) :: starEach es env) (h2 : (backTo pos (starEach es env)).any (·.1) = false)
    (h3 : eval (.Call f (a :: es) [] pos) env = (do let g ← eval f env; callWith pos g [] (backTo pos (starEach (a :: es) env)) (backToKw pos (keywordEach [] env)))) : Ev w A env H (.Call f (a :: es) [] pos) R := by
  intro s Q E k p hQ
  refine Call_ (hf s _ _ k p fun v h' tk k1 p1 r => ?_) h3
  subst r
  refine PyProof.Rows.callWith_type1 (ha pos _ _ _ (k.trans k1) p1 fun vs h2 tk2 k2 p2 rs => ?_) h1 h2
  exact ho _ _ _ _ (W.grow (k.trans (k1.trans k2))) p2 rs fun v h3 tk3 k3 p3 rv => hQ v h3 tk3 (k1.trans (k2.trans k3)) p3 rv
end
end Mine

open PySem PySem.W PySem.Calls PyProof.Rows
set_option Elab.async false
set_option maxRecDepth 100000
set_option maxHeartbeats 4000000
namespace Mine

/-- room for calls -/
structure Rm (A : Around) : Prop where
  hh : A.handled = none
  depth : A.depth + 60 < recursionLimit
  units : A.units + 600 < cLine

section
variable {w : World} {A : Around} {env : Env} {H : Heap} {a b c d f : UInt64} {n k : Int}

-- floats, ints
theorem o_addff : Op2 w A (binaryOp .Add) (IsF a) (IsF b) (IsF (Float64.add a b)) := by
  rintro s _ _ Q E W p ⟨t, rfl, zt⟩ ⟨u, rfl, zu⟩ h; exact add_float (h _ s.heap _ (Stays.refl _) (Nat.succ_pos _) ⟨_, rfl, Nat.ne_of_gt p⟩)
theorem o_subff : Op2 w A (binaryOp .Sub) (IsF a) (IsF b) (IsF (Float64.sub a b)) := by
  rintro s _ _ Q E W p ⟨t, rfl, zt⟩ ⟨u, rfl, zu⟩ h; exact sub_float (h _ s.heap _ (Stays.refl _) (Nat.succ_pos _) ⟨_, rfl, Nat.ne_of_gt p⟩)
theorem o_mulff : Op2 w A (binaryOp .Mult) (IsF a) (IsF b) (IsF (Float64.mul a b)) := by
  rintro s _ _ Q E W p ⟨t, rfl, zt⟩ ⟨u, rfl, zu⟩ h; exact mul_float (h _ s.heap _ (Stays.refl _) (Nat.succ_pos _) ⟨_, rfl, Nat.ne_of_gt p⟩)
theorem o_divff (hz : Float64.isZero b = false) : Op2 w A (binaryOp .Div) (IsF a) (IsF b) (IsF (Float64.div a b)) := by
  rintro s _ _ Q E W p ⟨t, rfl, zt⟩ ⟨u, rfl, zu⟩ h; exact div_ff hz (h _ s.heap _ (Stays.refl _) (Nat.succ_pos _) ⟨_, rfl, Nat.ne_of_gt p⟩)
theorem o_mulfi (hi : n.natAbs ≤ 8) : Op2 w A (binaryOp .Mult) (IsF a) (IsI n) (IsF (Float64.mul a (Float64.ofInt n))) := by
  rintro s _ _ Q E W p ⟨t, rfl, zt⟩ ⟨u, rfl⟩ h; exact mul_fi_fits (fits_le8 hi) (h _ s.heap _ (Stays.refl _) (Nat.succ_pos _) ⟨_, rfl, Nat.ne_of_gt p⟩)
theorem o_negf : Op1 w A (unaryOp .USub) (IsF a) (IsF (Float64.neg a)) := by
  rintro s _ Q E W p ⟨t, rfl, zt⟩ h; exact AutoFloatOps.neg_0 (h _ s.heap _ (Stays.refl _) (Nat.succ_pos _) ⟨_, rfl, Nat.ne_of_gt p⟩)
theorem o_addii : Op2 w A (binaryOp .Add) (IsI n) (IsI k) (IsI (n + k)) := by
  rintro s _ _ Q E W p ⟨t, rfl⟩ ⟨u, rfl⟩ h; exact add_int (h _ s.heap _ (Stays.refl _) (Nat.succ_pos _) ⟨_, rfl⟩)
theorem o_subii : Op2 w A (binaryOp .Sub) (IsI n) (IsI k) (IsI (n - k)) := by
  rintro s _ _ Q E W p ⟨t, rfl⟩ ⟨u, rfl⟩ h; exact sub_int (h _ s.heap _ (Stays.refl _) (Nat.succ_pos _) ⟨_, rfl⟩)
theorem o_negi : Op1 w A (unaryOp .USub) (IsI n) (IsI (-n)) := by
  rintro s _ Q E W p ⟨t, rfl⟩ h; exact neg_int (h _ s.heap _ (Stays.refl _) (Nat.succ_pos _) ⟨_, rfl⟩)
theorem o_eqff : Op2 w A (compareOp .Eq) (IsF a) (IsF b) (IsB (feq a b)) := by
  rintro s _ _ Q E W p ⟨t, rfl, zt⟩ ⟨u, rfl, zu⟩ h; exact AutoFloatOps.eq_0 (h _ s.heap s.toks (Stays.refl _) p rfl)
theorem o_eqfi : Op2 w A (compareOp .Eq) (IsF a) (IsI n) (IsB (Float64.cmpInt a n == some .eq)) := by
  rintro s _ _ Q E W p ⟨t, rfl, zt⟩ ⟨u, rfl⟩ h; exact eq_fi (h _ s.heap s.toks (Stays.refl _) p rfl)
theorem o_nefi : Op2 w A (compareOp .NotEq) (IsF a) (IsI n) (IsB (Float64.cmpInt a n != some .eq)) := by
  rintro s _ _ Q E W p ⟨t, rfl, zt⟩ ⟨u, rfl⟩ h; exact ne_fi (h _ s.heap s.toks (Stays.refl _) p rfl)
theorem o_nebb {p q : Bool} : Op2 w A (compareOp .NotEq) (IsB p) (IsB q) (IsB (p != q)) := by
  rintro s _ _ Q E W p rfl rfl h; exact ne_bool (h _ s.heap s.toks (Stays.refl _) p rfl)
theorem o_eqbb {p q : Bool} : Op2 w A (compareOp .Eq) (IsB p) (IsB q) (IsB (p == q)) := by
  rintro s _ _ Q E W p rfl rfl h; exact eq_bool (h _ s.heap s.toks (Stays.refl _) p rfl)

-- normals
theorem o_addnn (R : Rm A) (hn : Nn (hyp b d)) : Op2 w A (binaryOp .Add) (IsN a b) (IsN c d) (IsN (Float64.add a c) (hyp b d)) := by
  rintro s _ _ Q E W p ⟨x, rfl, hx⟩ ⟨y, rfl, hy⟩ h
  exact wpAny_with_toks (n := 1) p (c_addnn W hx hy hn (by have := R.depth; omega) fun r h' tk k _ D q => h _ h' tk k q ⟨r, rfl, D⟩)
theorem o_subnn (R : Rm A) (hn : Nn (hyp b d)) : Op2 w A (binaryOp .Sub) (IsN a b) (IsN c d) (IsN (Float64.sub a c) (hyp b d)) := by
  rintro s _ _ Q E W p ⟨x, rfl, hx⟩ ⟨y, rfl, hy⟩ h
  exact wpAny_with_toks (n := 1) p (c_subnn W hx hy hn (by have := R.depth; omega) fun r h' tk k _ D q => h _ h' tk k q ⟨r, rfl, D⟩)
theorem o_addnf (R : Rm A) : Op2 w A (binaryOp .Add) (IsN a b) (IsF f) (IsN (Float64.add a f) b) := by
  rintro s _ _ Q E W p ⟨x, rfl, hx⟩ ⟨t, rfl, zt⟩ h
  exact wpAny_with_toks (n := 1) p (c_addnf W hx R.hh (by have := R.depth; omega) fun r h' tk k _ D q => h _ h' tk k q ⟨r, rfl, D⟩)
theorem o_subnf (R : Rm A) : Op2 w A (binaryOp .Sub) (IsN a b) (IsF f) (IsN (Float64.sub a f) b) := by
  rintro s _ _ Q E W p ⟨x, rfl, hx⟩ ⟨t, rfl, zt⟩ h
  exact wpAny_with_toks (n := 1) p (c_subnf W hx R.hh (by have := R.depth; omega) fun r h' tk k _ D q => h _ h' tk k q ⟨r, rfl, D⟩)
theorem o_mulnf (R : Rm A) (hn : Nn (Float64.mul b (Float64.abs f))) : Op2 w A (binaryOp .Mult) (IsN a b) (IsF f) (IsN (Float64.mul a f) (Float64.mul b (Float64.abs f))) := by
  rintro s _ _ Q E W p ⟨x, rfl, hx⟩ ⟨t, rfl, zt⟩ h
  exact wpAny_with_toks (n := 1) p (c_mulnf W hx R.hh hn (by have := R.depth; omega) fun r h' tk k _ D q => h _ h' tk k q ⟨r, rfl, D⟩)
theorem o_divnf (R : Rm A) (hz : Float64.isZero f = false) (hz2 : Float64.isZero (Float64.abs f) = false) (hn : Nn (Float64.div b (Float64.abs f))) : Op2 w A (binaryOp .Div) (IsN a b) (IsF f) (IsN (Float64.div a f) (Float64.div b (Float64.abs f))) := by
  rintro s _ _ Q E W p ⟨x, rfl, hx⟩ ⟨t, rfl, zt⟩ h
  exact wpAny_with_toks (n := 1) p (c_divnf W hx R.hh hz hz2 hn (by have := R.depth; omega) fun r h' tk k _ D q => h _ h' tk k q ⟨r, rfl, D⟩)
theorem o_addni (R : Rm A) (hi : n.natAbs ≤ 8) : Op2 w A (binaryOp .Add) (IsN a b) (IsI n) (IsN (Float64.add a (Float64.ofInt n)) b) := by
  rintro s _ _ Q E W p ⟨x, rfl, hx⟩ ⟨t, rfl⟩ h
  exact wpAny_with_toks (n := 1) p (c_addni W hx hi R.hh (by have := R.depth; omega) fun r h' tk k _ D q => h _ h' tk k q ⟨r, rfl, D⟩)
theorem o_subni (R : Rm A) (hi : n.natAbs ≤ 8) : Op2 w A (binaryOp .Sub) (IsN a b) (IsI n) (IsN (Float64.sub a (Float64.ofInt n)) b) := by
  rintro s _ _ Q E W p ⟨x, rfl, hx⟩ ⟨t, rfl⟩ h
  exact wpAny_with_toks (n := 1) p (c_subni W hx hi R.hh (by have := R.depth; omega) fun r h' tk k _ D q => h _ h' tk k q ⟨r, rfl, D⟩)
theorem o_mulni (R : Rm A) (hi : n.natAbs ≤ 8) (hn : Nn (Float64.mul b (Float64.abs (Float64.ofInt n)))) : Op2 w A (binaryOp .Mult) (IsN a b) (IsI n) (IsN (Float64.mul a (Float64.ofInt n)) (Float64.mul b (Float64.abs (Float64.ofInt n)))) := by
  rintro s _ _ Q E W p ⟨x, rfl, hx⟩ ⟨t, rfl⟩ h
  exact wpAny_with_toks (n := 1) p (c_mulni W hx hi R.hh hn (by have := R.depth; omega) fun r h' tk k _ D q => h _ h' tk k q ⟨r, rfl, D⟩)
theorem o_divni (R : Rm A) (hi : n.natAbs ≤ 8) (hz : n ≠ 0) (hz2 : Float64.isZero (Float64.abs (Float64.ofInt n)) = false) (hn : Nn (Float64.div b (Float64.abs (Float64.ofInt n)))) : Op2 w A (binaryOp .Div) (IsN a b) (IsI n) (IsN (Float64.div a (Float64.ofInt n)) (Float64.div b (Float64.abs (Float64.ofInt n)))) := by
  rintro s _ _ Q E W p ⟨x, rfl, hx⟩ ⟨t, rfl⟩ h
  exact wpAny_with_toks (n := 1) p (c_divni W hx hi R.hh hz hz2 hn (by have := R.depth; omega) fun r h' tk k _ D q => h _ h' tk k q ⟨r, rfl, D⟩)
theorem o_negn (R : Rm A) : Op1 w A (unaryOp .USub) (IsN a b) (IsN (Float64.neg a) b) := by
  rintro s _ Q E W p ⟨x, rfl, hx⟩ h
  exact wpAny_with_toks (n := 1) p (c_neg W hx (by have := R.depth; omega) fun r h' tk k _ D q => h _ h' tk k q ⟨r, rfl, D⟩)
theorem o_posn (R : Rm A) : Op1 w A (unaryOp .UAdd) (IsN a b) (IsN a b) := by
  rintro s _ Q E W p ⟨x, rfl, hx⟩ h
  exact wpAny_with_toks (n := 1) p (c_pos W hx (by have := R.depth; omega) fun r h' tk k _ D q => h _ h' tk k q ⟨r, rfl, D⟩)
theorem o_addfn (R : Rm A) : Op2 w A (binaryOp .Add) (IsF f) (IsN a b) (IsN (Float64.add a f) b) := by
  rintro s _ _ Q E W p ⟨t, rfl, zt⟩ ⟨x, rfl, hx⟩ h
  exact wpAny_with_toks (n := 1) p (c_addfn W hx R.hh (by have := R.depth; omega) fun r h' tk k _ D q => h _ h' tk k q ⟨r, rfl, D⟩)
theorem o_addin (R : Rm A) (hi : n.natAbs ≤ 8) : Op2 w A (binaryOp .Add) (IsI n) (IsN a b) (IsN (Float64.add a (Float64.ofInt n)) b) := by
  rintro s _ _ Q E W p ⟨t, rfl⟩ ⟨x, rfl, hx⟩ h
  exact wpAny_with_toks (n := 1) p (c_addin W hx hi R.hh (by have := R.depth; omega) fun r h' tk k _ D q => h _ h' tk k q ⟨r, rfl, D⟩)
theorem o_mulfn (R : Rm A) (hn : Nn (Float64.mul b (Float64.abs f))) : Op2 w A (binaryOp .Mult) (IsF f) (IsN a b) (IsN (Float64.mul a f) (Float64.mul b (Float64.abs f))) := by
  rintro s _ _ Q E W p ⟨t, rfl, zt⟩ ⟨x, rfl, hx⟩ h
  exact wpAny_with_toks (n := 1) p (c_mulfn W hx R.hh hn (by have := R.depth; omega) fun r h' tk k _ D q => h _ h' tk k q ⟨r, rfl, D⟩)
theorem o_mulin (R : Rm A) (hi : n.natAbs ≤ 8) (hn : Nn (Float64.mul b (Float64.abs (Float64.ofInt n)))) : Op2 w A (binaryOp .Mult) (IsI n) (IsN a b) (IsN (Float64.mul a (Float64.ofInt n)) (Float64.mul b (Float64.abs (Float64.ofInt n)))) := by
  rintro s _ _ Q E W p ⟨t, rfl⟩ ⟨x, rfl, hx⟩ h
  exact wpAny_with_toks (n := 1) p (c_mulin W hx hi R.hh hn (by have := R.depth; omega) fun r h' tk k _ D q => h _ h' tk k q ⟨r, rfl, D⟩)
theorem o_subfn (R : Rm A) : Op2 w A (binaryOp .Sub) (IsF f) (IsN a b) (IsN (Float64.neg (Float64.sub a f)) b) := by
  rintro s _ _ Q E W p ⟨t, rfl, zt⟩ ⟨x, rfl, hx⟩ h
  exact wpAny_with_toks (n := 1) p (c_subfn W hx R.hh (by have := R.depth; omega) fun r h' tk k _ D q => h _ h' tk k q ⟨r, rfl, D⟩)
theorem o_subin (R : Rm A) (hi : n.natAbs ≤ 8) : Op2 w A (binaryOp .Sub) (IsI n) (IsN a b) (IsN (Float64.neg (Float64.sub a (Float64.ofInt n))) b) := by
  rintro s _ _ Q E W p ⟨t, rfl⟩ ⟨x, rfl, hx⟩ h
  exact wpAny_with_toks (n := 1) p (c_subin W hx hi R.hh (by have := R.depth; omega) fun r h' tk k _ D q => h _ h' tk k q ⟨r, rfl, D⟩)
theorem o_eqnn (R : Rm A) : Op2 w A (compareOp .Eq) (IsN a b) (IsN c d) (IsB (feq a c && feq b d)) := by
  rintro s _ _ Q E W p ⟨x, rfl, hx⟩ ⟨y, rfl, hy⟩ h
  exact wpAny_with_toks (n := 1) p (c_eq W hx hy (by have := R.depth; omega) (by have := R.units; omega) fun h' tk k q => h _ h' tk k q rfl)
theorem o_nenn (R : Rm A) : Op2 w A (compareOp .NotEq) (IsN a b) (IsN c d) (IsB (!(feq a c && feq b d))) := by
  rintro s _ _ Q E W p ⟨x, rfl, hx⟩ ⟨y, rfl, hy⟩ h
  exact wpAny_with_toks (n := 1) p (c_ne W hx hy (by have := R.depth; omega) (by have := R.units; omega) fun h' tk k q => h _ h' tk k q rfl)
theorem o_mean (R : Rm A) : Op1 w A (fun v => getAttr v "mean" true) (IsN a b) (IsF a) := by
  rintro s _ Q E W p ⟨x, rfl, hx⟩ h
  exact wpAny_with_toks (n := 1) p (c_mean W hx (by have := R.depth; omega) fun h' t tk k z q => h _ h' tk k q ⟨t, rfl, z⟩)
theorem o_stdev (R : Rm A) : Op1 w A (fun v => getAttr v "stdev" true) (IsN a b) (IsF b) := by
  rintro s _ Q E W p ⟨x, rfl, hx⟩ h
  exact wpAny_with_toks (n := 1) p (c_stdev W hx (by have := R.depth; omega) fun h' t tk k z q => h _ h' tk k q ⟨t, rfl, z⟩)
theorem o_mk (R : Rm A) (hn : Nn b) : OpN w A (.ref 270) [IsF a, IsF b] (IsN a b) := by
  rintro s vs Q E W p hv h
  match vs, hv with
  | [_, _], ⟨⟨t, rfl, zt⟩, ⟨u, rfl, zu⟩, _⟩ => exact wpAny_with_toks (n := 1) p (c_mk W (by have := R.depth; omega) hn zt zu fun r h' tk k _ D q => h _ h' tk k q ⟨r, rfl, D⟩)
theorem o_mkii (R : Rm A) : OpN w A (.ref 270) [IsI 0, IsI 0] (IsN (Float64.ofInt 0) (Float64.ofInt 0)) := by
  rintro s vs Q E W p hv h
  match vs, hv with
  | [_, _], ⟨⟨t, rfl⟩, ⟨u, rfl⟩, _⟩ => exact wpAny_with_toks (n := 1) p (c_mkii W (by have := R.depth; omega) fun r h' tk k _ D q => h _ h' tk k q ⟨r, rfl, D⟩)
theorem o_mk0 (R : Rm A) : OpN w A (.ref 270) [] (IsN 0 4607182418800017408) := by
  rintro s vs Q E W p hv h
  match vs, hv with
  | [], _ => exact wpAny_with_toks (n := 1) p (c_mk0 W (by have := R.depth; omega) fun r h' tk k _ D q => h _ h' tk k q ⟨r, rfl, D⟩)
theorem o_absf : OpN w A (.builtin "abs") [IsF a] (IsF (Float64.abs a)) := by
  rintro s vs Q E W p hv h
  match vs, hv with
  | [_], ⟨⟨t, rfl, zt⟩, _⟩ => exact Flt.call_abs_float (h _ s.heap _ (Stays.refl _) (Nat.succ_pos _) ⟨_, rfl, Nat.ne_of_gt p⟩)
theorem o_len {Rs : List HP} (hz : Rs.length ≤ 1000) : OpN w A (.builtin "len") [IsL Rs] (IsI (Rs.length : Int)) := by
  intro s vs Q E W p hv h
  cases vs with
  | nil => exact hv.elim
  | cons v r =>
    cases r with
    | cons _ _ => exact hv.2.elim
    | nil =>
      obtain ⟨⟨l, us, e, hl, hu⟩, _⟩ := hv
      subst e
      have hsz : us.toArray.size = Rs.length := by rw [List.size_toArray, hu.length]
      have h63 : ((1000 : Nat) : Int) < 2 ^ 63 := by decide
      have hlt : (us.toArray.size : Int) < 2 ^ 63 := by rw [hsz]; exact Int.lt_of_le_of_lt (Int.ofNat_le.mpr hz) h63
      refine len_list hl hlt ?_
      rw [hsz]
      exact h _ s.heap _ (Stays.refl _) (Nat.succ_pos _) ⟨_, rfl⟩
/-- range(n) -/
def IsR (n : Int) : HP := fun h u => ∃ r t1 t2 t3, u = .ref r ∧ IsRange h r 0 n 1 t1 t2 t3
theorem sR {n} : Stab (IsR n) := by
  rintro h h' u k ⟨r, t1, t2, t3, rfl, e⟩
  exact ⟨r, t1, t2, t3, rfl, k _ _ e rfl⟩
theorem o_range : OpN w A (.type "range") [IsI n] (IsR n) := by
  rintro s vs Q E W p hv h
  obtain ⟨h₀, L, m, l, me, mg, mb, F, X, T⟩ := W
  match vs, hv with
  | [_], ⟨⟨t, rfl⟩, _⟩ => exact wpAny_with_toks (n := 1) p (range1_rows F News.nil fun h' tk t1 t2 t3 hr _ _ k q => h _ h' tk k q ⟨_, _, _, _, rfl, hr⟩)
theorem All2.append : ∀ {Rs Rs' : List HP} {h : Heap} {vs vs' : List Value}, All2 Rs h vs → All2 Rs' h vs' → All2 (Rs ++ Rs') h (vs ++ vs')
  | [], _, _, [], _, _, b => b
  | _ :: _, _, _, _ :: _, _, a, b => ⟨a.1, All2.append a.2 b⟩
theorem StabL.append : ∀ {Rs Rs' : List HP}, StabL Rs → StabL Rs' → StabL (Rs ++ Rs')
  | [], _, _, b => b
  | _ :: _, _, a, b => ⟨a.1, StabL.append a.2 b⟩
theorem o_addll {Rs Rs' : List HP} (hz : Rs.length + Rs'.length ≤ 1000) (s1 : StabL Rs) (s2 : StabL Rs') : Op2 w A (binaryOp .Add) (IsL Rs) (IsL Rs') (IsL (Rs ++ Rs')) := by
  rintro s _ _ Q E W p ⟨l, vs, rfl, hl, hv⟩ ⟨l', vs', rfl, hl', hv'⟩ h
  obtain ⟨h₀, L, m, lo, me, mg, mb, F, X, T⟩ := W
  obtain ⟨⟨cls, dd, data, sl⟩, ho, hc, n, hd⟩ := id hl
  obtain ⟨⟨cls2, dd2, data2, sl2⟩, ho2, hc2, n2, hd2⟩ := id hl'
  simp only at hc hd hc2 hd2
  subst hc hd hc2 hd2
  have e : vs.toArray ++ vs'.toArray = (vs ++ vs').toArray := by simp
  refine concat_meets ⟨_, ho, rfl⟩ ⟨_, ho2, rfl⟩ noFill_list_add seq_list_add PySem.F.slot_list_add PySem.F.entry_list_add (PySem.F.args_list_add_2 _ _) (list_addW l l' vs.toArray vs'.toArray n n2 dd dd2 sl sl2 (by
    rw [List.size_toArray, List.size_toArray, hv.length, hv'.length, sizeLine_eq]; omega)) ⟨ho, ho2, ?_⟩
  rw [e]
  have hk : Stays s.heap (s.heap.push { cls := .type "list", data := .seq (vs ++ vs').toArray }) := fun b o e => Heap.get?_push_of_some _ e
  exact h _ _ s.toks hk p ⟨_, _, rfl, ⟨_, Heap.get?_push_size _ rfl, rfl, 0, rfl⟩, All2.stab (s1.append s2) (.of hk) (hv.append hv')⟩
/-- an item by an index that may be below nought -/
theorem ev_item {e i : Expr} {pos : Pos} {Rs : List HP} {R : HP} {k : Int} (W : Wd w H) (he : Ev w A env H e (IsL Rs)) (hi : Ev w A env H i (IsI k)) (sL' : StabL Rs) (hz : Rs.length ≤ 1000)
    (h0 : -(Rs.length : Int) ≤ k) (h1 : k < Rs.length) (hR : Rs[(if k < 0 then k + Rs.length else k).toNat]? = some R)
    (hsub : ∀ l t, subscripted i false (.ref l) (.int k t) = operate [.ref l, .int k t] (getItem (.ref l) (.int k t))) : Ev w A env H (.Subscript e i pos) R := by
  intro s Q E kk p hQ
  refine Subscript_ (he s _ _ kk p fun v h1' tk1 k1 p1 r => hi _ _ _ (kk.trans k1) p1 fun v2 h2 tk2 k2 p2 r2 => ?_)
  obtain ⟨l, vs, rfl, hl, hv⟩ := r
  obtain ⟨t, rfl⟩ := r2
  have hl2 := IsList.keepD (.of k2) hl
  have hv2 := All2.stab sL' (.of k2) hv
  have hsz : vs.toArray.size = Rs.length := by rw [List.size_toArray, hv.length]
  obtain ⟨u, hu, hr⟩ := hv2.get hR
  have hx : vs.toArray[(if k < 0 then k + Rs.length else k).toNat]? = some u := by simpa using hu
  refine tail_any hl2.typeIs slot_list_getitem.lookup ?_ (hsub l t)
  by_cases hk : k < 0
  · rw [if_pos hk] at hx
    exact wpAny_getItem_list_neg hl2 hk (by rw [hsz]; exact h0) (by omega) (by rw [hsz]; exact hx) (hQ u h2 tk2 (k1.trans k2) p2 hr)
  · rw [if_neg hk] at hx
    exact wpAny_getItem_list hl2 (by omega) (by omega) hx (hQ u h2 tk2 (k1.trans k2) p2 hr)
end
end Mine

open PySem PySem.W PySem.Calls PyProof.Rows
set_option Elab.async false
set_option maxRecDepth 100000
set_option maxHeartbeats 400000
namespace Mine

def KeepE (h h' : Heap) : Prop := ∀ a o, h.get? a = some o → soft o = false → h'.get? a = some o
theorem KeepE.refl (h : Heap) : KeepE h h := fun _ _ e _ => e
theorem KeepE.trans {a b c : Heap} (x : KeepE a b) (y : KeepE b c) : KeepE a c := fun _ _ e s => y _ _ (x _ _ e s) s
theorem KeepE.of {h h' : Heap} (k : Stays h h') : KeepE h h' := fun _ _ e _ => k _ _ e
theorem KeepE.d {h h' : Heap} (k : KeepE h h') : KeepD h h' := fun a o e s => k a o e (by
  unfold soft2 at s
  exact (Bool.or_eq_false_iff.mp s).1)
/-- what stays so for the whole call -/
structure Cx (w : World) (env : Env) (h₀ : Heap) : Prop where
  inK : (lay01.heap_1 w.params).In h₀
  top : ∃ (loose : List Str) (mean : ExcName → Option Value) (mg mb : Str → Option Value), Top view01 loose mean mg mb h₀
  envF : EnvF env
  cell : ∀ x c, env.cells.lookup x = some c → h₀.get? c = none
  inj : ∀ x y c, env.cells.lookup x = some c → env.cells.lookup y = some c → x = y

/-- a state of the frame -/
structure Sto (env : Env) (h₀ : Heap) (Γ : List (Str × HP)) (h : Heap) : Prop where
  fr : ∃ m, Fr h₀ env.locals h m ∧ ∃ y v, m y = some v
  vars : Vars env h Γ
  cel : ∀ x c, env.cells.lookup x = some c → ∃ v, h.IsCell c v
def StabΓ (Γ : List (Str × HP)) : Prop := ∀ x R, Γ.lookup x = some R → Stab R

theorem Sto.wd {w : World} {env : Env} {h₀ h : Heap} {Γ : List (Str × HP)} (C : Cx w env h₀) (S : Sto env h₀ Γ h) : Wd w h := by
  obtain ⟨m, F, _⟩ := S.fr
  obtain ⟨l, me, mg, mb, T⟩ := C.top
  exact ⟨h₀, _, m, l, me, mg, mb, F, C.inK, T⟩
theorem Sto.grow {env : Env} {h₀ h h' : Heap} {Γ : List (Str × HP)} (S : Sto env h₀ Γ h) (sΓ : StabΓ Γ) (k : Stays h h') : Sto env h₀ Γ h' := by
  obtain ⟨⟨m, F, y⟩, V, Ce⟩ := S
  exact ⟨⟨m, Fr.grow F k, y⟩, V.grow sΓ k, fun x c e => by obtain ⟨v, hc⟩ := Ce x c e; exact ⟨v, hc.keeps k⟩⟩

theorem StabΓ.cons {Γ : List (Str × HP)} {x : Str} {R : HP} (s : StabΓ Γ) (r : Stab R) : StabΓ ((x, R) :: Γ) := by
  intro y R' e
  rw [List.lookup_cons] at e
  split at e
  · cases e; exact r
  · exact s y R' e
theorem StabΓ.nil : StabΓ [] := fun _ _ e => by cases e

/-- the frame's own dict is filled -/
theorem soft_frame {h : Heap} {L : Addr} {m : Str → Option Value} {o : Obj} (n : h.Ns L m) {y : Str} {v : Value} (hy : m y = some v) (e : h.get? L = some o) : soft o = true := by
  obtain ⟨o', es, ep, e', d, _, f⟩ := n
  rw [e] at e'; cases e'
  unfold soft
  rw [d]
  have : es.isEmpty = false := by
    cases hh : es.isEmpty with
    | false => rfl
    | true =>
      have h1 := f y
      have h2 : es = #[] := by simpa using hh
      subst h2
      rw [hy] at h1
      simp [nsFind, findBy] at h1
  simp [this]
theorem soft_cell {h : Heap} {c : Addr} {v : Option Value} {o : Obj} (n : h.IsCell c v) (e : h.get? c = some o) : soft o = true := by
  obtain ⟨o', e', d⟩ := n
  rw [e] at e'; cases e'
  unfold soft; rw [d]

def IsVar (env : Env) (x : Str) (h : Heap) : Prop := env.kindOf x = some .local ∨ (env.kindOf x = some .cell ∧ ∃ c v, env.cells.lookup x = some c ∧ h.IsCell c v)

theorem store_any {w : World} {A : Around} {env : Env} {h₀ : Heap} {Γ : List (Str × HP)} {x : Str} {v : Value} {R : HP} {s : Shared} {Q : Unit → Shared → Prop} {E : Value → Shared → Prop} (C : Cx w env h₀) (sΓ : StabΓ Γ) (sR : Stab R)
    (S : Sto env h₀ Γ s.heap) (r : R s.heap v) (hx : IsVar env x s.heap) (hp0 : 0 < s.toks)
    (hQ : ∀ h' tk, KeepE s.heap h' → 0 < tk → Heap.SameBut (match env.kindOf x with | some .cell => (env.cells.lookup x).getD 0 | _ => env.locals) s.heap h' → Sto env h₀ ((x, R) :: Γ) h' → Q () { s with heap := h', toks := tk }) :
    wpAny (model Challenge.rw_oz0058_01.row.prog w) A (storeName env x v) Q E s := by
  obtain ⟨⟨m, F, y, vy, hy⟩, V, Ce⟩ := S
  have cne : ∀ c v, s.heap.IsCell c v → c ≠ env.locals := by
    rintro c v ⟨o1, e1, d1⟩ rfl
    obtain ⟨o2, es2, ep2, e2, d2, _⟩ := F.ns
    rw [e1] at e2; cases e2; rw [d1] at d2; cases d2
  have hp : (env.scope.kind == .class || (env.scope.kind == .module && env.locals != env.globals)) = false := by rw [C.envF.kind]; rfl
  rcases hx with hk | ⟨hk, c, v₀, hc, hcell⟩
  · refine wpAny_storeName_local hk F.ns (fun h' hn hs => ?_) hp
    have kd : KeepE s.heap h' := fun a o e so => by
      by_cases ha : a = env.locals
      · subst ha; rw [soft_frame F.ns hy e] at so; cases so
      · exact (hs.2 a ha).trans e
    refine hQ h' _ kd (Nat.succ_pos _) (by rw [hk]; exact hs) ⟨⟨_, F.set hn hs, if y = x then x else y, ?_⟩, ?_, fun z c e => by obtain ⟨v', hc⟩ := Ce z c e; exact ⟨v', hc.sameBut hs (cne c v' hc)⟩⟩
    · by_cases e : y = x
      · exact ⟨v, by simp [e]⟩
      · exact ⟨vy, by simp [e, hy]⟩
    · intro z R' e
      rw [List.lookup_cons] at e
      split at e
      · rename_i hz
        cases e
        have hz' : z = x := by simpa using hz
        subst hz'
        exact .inl ⟨hk, _, v, hn, by simp, sR _ _ _ kd.d r⟩
      · rename_i hz
        have hz' : z ≠ x := by simpa using hz
        rcases V z R' e with ⟨hk', m', v', hn', hv', hr'⟩ | ⟨hk', c', v', hc', hcell', hr'⟩
        · refine .inl ⟨hk', _, v', hn, ?_, sΓ z R' e _ _ _ kd.d hr'⟩
          have : m z = some v' := by
            obtain ⟨o1, es1, ep1, e1, d1, _, f1⟩ := F.ns
            obtain ⟨o2, es2, ep2, e2, d2, _, f2⟩ := hn'
            rw [e1] at e2; cases e2; rw [d1] at d2; cases d2
            rw [← f1, f2, hv']
          simp [hz', this]
        · refine .inr ⟨hk', c', v', hc', hcell'.sameBut hs ?_, sΓ z R' e _ _ _ kd.d hr'⟩
          rintro rfl
          obtain ⟨o1, e1, d1⟩ := hcell'
          obtain ⟨o2, es2, ep2, e2, d2, _⟩ := F.ns
          rw [e1] at e2; cases e2; rw [d1] at d2; cases d2
  · refine wpAny_storeName_cell C.envF.kind hk hc hcell (fun h' hcell' hs => ?_)
    have hcL : c ≠ env.locals := by
      rintro rfl
      obtain ⟨o1, e1, d1⟩ := hcell
      obtain ⟨o2, es2, ep2, e2, d2, _⟩ := F.ns
      rw [e1] at e2; cases e2; rw [d1] at d2; cases d2
    have kd : KeepE s.heap h' := fun a o e so => by
      by_cases ha : a = c
      · subst ha; rw [soft_cell hcell e] at so; cases so
      · exact (hs.2 a ha).trans e
    refine hQ h' s.toks kd hp0 (by rw [hk, hc]; exact hs) ⟨⟨m, ⟨F.ns.sameBut hs (Ne.symm hcL), fun b o e => ?_, F.above⟩, y, vy, hy⟩, ?_, fun z c' e => by
      by_cases hcc : c' = c
      · subst hcc; exact ⟨_, hcell'⟩
      · obtain ⟨v', hc'⟩ := Ce z c' e; exact ⟨v', hc'.sameBut hs hcc⟩⟩
    · have hb : b ≠ c := by rintro rfl; rw [C.cell x b hc] at e; cases e
      exact (hs.2 b hb).trans (F.keep b o e)
    · intro z R' e
      rw [List.lookup_cons] at e
      split at e
      · rename_i hz
        cases e
        have hz' : z = x := by simpa using hz
        subst hz'
        exact .inr ⟨hk, c, v, hc, hcell', sR _ _ _ kd.d r⟩
      · rename_i hz
        have hz' : z ≠ x := by simpa using hz
        rcases V z R' e with ⟨hk', m', v', hn', hv', hr'⟩ | ⟨hk', c', v', hc', hcell2, hr'⟩
        · exact .inl ⟨hk', m', v', hn'.sameBut hs (Ne.symm hcL), hv', sΓ z R' e _ _ _ kd.d hr'⟩
        · refine .inr ⟨hk', c', v', hc', hcell2.sameBut hs ?_, sΓ z R' e _ _ _ kd.d hr'⟩
          rintro rfl
          exact hz' (C.inj z x c' hc' hc)

/-- a tree of a statement that goes on -/
def Tr (w : World) (A : Around) (env : Env) (h₀ : Heap) (t : Sem Flow) (Γ Γ' : List (Str × HP)) : Prop :=
  ∀ (s : Shared) (Q : Flow → Shared → Prop), Sto env h₀ Γ s.heap → 0 < s.toks →
    (∀ h' tk, KeepE s.heap h' → 0 < tk → Sto env h₀ Γ' h' → Q .next { s with heap := h', toks := tk }) → wpAny (model Challenge.rw_oz0058_01.row.prog w) A t Q (fun _ _ => False) s
/-- every name of the first is so in the second -/
def Sub : List (Str × HP) → List (Str × HP) → Prop
  | [], _ => True
  | p :: r, Γ => Γ.lookup p.1 = some p.2 ∧ Sub r Γ
theorem Sub.get : ∀ {Γ Γ' : List (Str × HP)} {x : Str} {R : HP}, Sub Γ Γ' → Γ.lookup x = some R → Γ'.lookup x = some R
  | [], _, _, _, _, e => by cases e
  | (y, R') :: r, Γ', x, R, s, e => by
    rw [List.lookup_cons] at e
    split at e
    · rename_i hz
      cases e
      have : x = y := by simpa using hz
      subst this
      exact s.1
    · exact Sub.get s.2 e
theorem Sto.sub {env : Env} {h₀ h : Heap} {Γ Γ' : List (Str × HP)} (S : Sto env h₀ Γ' h) (s : Sub Γ Γ') : Sto env h₀ Γ h := ⟨S.fr, fun x R e => S.vars x R (s.get e), S.cel⟩

section
variable {w : World} {A : Around} {env : Env} {h₀ : Heap} {Γ Γ₁ Γ₂ : List (Str × HP)}
theorem tr_nil : Tr w A env h₀ (execs [] env) Γ Γ := fun s _ S p hQ => wpAny_execs_nil (hQ s.heap s.toks (KeepE.refl _) p S)
theorem tr_cons {st : Stmt} {rest : List Stmt} (h : Tr w A env h₀ (exec st env) Γ Γ₁) (hr : Tr w A env h₀ (execs rest env) Γ₁ Γ₂) : Tr w A env h₀ (execs (st :: rest) env) Γ Γ₂ :=
  fun s _ S p hQ => wpAny_execs_cons (h s _ S p fun _ _ k p1 S1 => hr _ _ S1 p1 fun h2 tk2 k2 p2 S2 => hQ h2 tk2 (k.trans k2) p2 S2)
theorem tr_sub {t : Sem Flow} (h : Tr w A env h₀ t Γ Γ₁) (s : Sub Γ₂ Γ₁) : Tr w A env h₀ t Γ Γ₂ := fun _ _ S p hQ => h _ _ S p fun h2 tk2 k2 p2 S2 => hQ h2 tk2 k2 p2 (S2.sub s)
theorem tr_if {t : Expr} {b : List Stmt} {pos : Pos} (C : Cx w env h₀) (sΓ : StabΓ Γ) (h : ∀ H, Wd w H → Vars env H Γ → EvT w A env H t false) : Tr w A env h₀ (exec (.If t b [] pos) env) Γ Γ := by
  intro s Q S p hQ
  refine wpAny_If (h s.heap (S.wd C) S.vars s _ _ (Stays.refl _) p fun h' tk k p1 => ?_)
  rw [if_neg (by decide)]
  exact wpAny_execs_nil (hQ h' tk (.of k) p1 (S.grow sΓ k))
theorem tr_assign {x : Str} {p pos : Pos} {e : Expr} {R : HP} (C : Cx w env h₀) (sΓ : StabΓ Γ) (sR : Stab R) (h : ∀ H, Wd w H → Vars env H Γ → Ev w A env H e R)
    (hx : ∀ h, Sto env h₀ Γ h → IsVar env x h) (hsw : swapsWith e (some (.Name x p)) pos.line env = pure false) : Tr w A env h₀ (exec (.Assign [.Name x p] e pos) env) Γ ((x, R) :: Γ) := by
  intro s Q S p hQ
  refine wpAny_Assign_Name (h s.heap (S.wd C) S.vars s _ _ (Stays.refl _) p fun v h' tk k p1 r => ?_) hsw
  have S1 := S.grow sΓ k
  exact store_any C sΓ sR S1 r (hx _ S1) p1 fun h2 tk2 k2 p2 _ S2 => hQ h2 tk2 ((KeepE.of k).trans k2) p2 S2

theorem store_list (C : Cx w env h₀) : ∀ (ps : List (Str × HP)) (vs : List Value) (Γ : List (Str × HP)) (s : Shared) (Q : Unit → Shared → Prop) (E : Value → Shared → Prop), StabΓ Γ → StabL (ps.map (·.2)) → (∀ p ∈ ps, env.kindOf p.1 = some .local) →
    Sto env h₀ Γ s.heap → 0 < s.toks → All2 (ps.map (·.2)) s.heap vs → (∀ h' tk, KeepE s.heap h' → 0 < tk → Sto env h₀ (ps.reverse ++ Γ) h' → Q () { s with heap := h', toks := tk }) →
    wpAny (model Challenge.rw_oz0058_01.row.prog w) A (assignInOrder (ps.map fun p => bindName env p.1) vs) Q E s
  | [], [], Γ, s, Q, E, _, _, _, S, p, _, hQ => assignInOrder_nil (hQ s.heap s.toks (KeepE.refl _) p S)
  | (x, R) :: ps, v :: vs, Γ, s, Q, E, sΓ, sP, hk, S, p, hv, hQ => by
    refine assignInOrder_cons ?_
    refine wpAny_bindName (store_any C sΓ sP.1 S hv.1 (.inl (hk _ (.head _))) p fun h2 tk2 k2 p2 _ S2 => ?_)
    refine store_list C ps vs ((x, R) :: Γ) _ _ _ (sΓ.cons sP.1) sP.2 (fun p hp => hk p (.tail _ hp)) S2 p2 (All2.stab sP.2 k2.d hv.2) fun h3 tk3 k3 p3 S3 => hQ h3 tk3 (k2.trans k3) p3 ?_
    rw [List.reverse_cons, List.append_assoc]
    exact S3
  | [], _ :: _, _, _, _, _, _, _, _, _, _, hv, _ => hv.elim
  | _ :: _, [], _, _, _, _, _, _, _, _, _, hv, _ => hv.elim
theorem All2.reverse : ∀ {Rs : List HP} {h : Heap} {vs : List Value}, All2 Rs h vs → All2 Rs.reverse h vs.reverse
  | [], _, [], _ => trivial
  | _ :: _, _, _ :: _, r => by
    rw [List.reverse_cons, List.reverse_cons]
    exact All2.append (All2.reverse r.2) ⟨r.1, trivial⟩
theorem StabL.reverse : ∀ {Rs : List HP}, StabL Rs → StabL Rs.reverse
  | [], _ => trivial
  | _ :: _, r => by rw [List.reverse_cons]; exact StabL.append (StabL.reverse r.2) ⟨r.1, trivial⟩
theorem tr_tuple {elts es : List Expr} {k k' : Nat} {tpos vpos pos : Pos} (ps : List (Str × HP)) (C : Cx w env h₀) (hA : A.handled = none) (sΓ : StabΓ Γ) (sP : StabL (ps.map (·.2))) (h : ∀ H, Wd w H → Vars env H Γ → EvL w A env H es (ps.map (·.2)))
    (hk : ∀ p ∈ ps, env.kindOf p.1 = some .local) (hz : ps.length ≤ 1000)
    (hs : swapsWithSole [.Tuple elts k tpos] (.Tuple es k' vpos) pos.line env = pure false)
    (hw : swappedStores [.Tuple elts k tpos] (.Tuple es k' vpos) env = pure (some (ps.map (·.1)))) :
    Tr w A env h₀ (exec (.Assign [.Tuple elts k tpos] (.Tuple es k' vpos) pos) env) Γ (ps ++ Γ) := by
  intro s Q S p hQ
  refine Assign_Tuple_swapped (names := ps.map (·.1)) ?_ hs hw
  refine Tuple_ (h s.heap (S.wd C) S.vars vpos s _ _ (Stays.refl _) p fun vs h1 tk1 k1 p1 rs => ?_)
  have hk1 : Stays h1 (h1.push { cls := .type "tuple", data := .seq vs.toArray }) := fun b o e => Heap.get?_push_of_some _ e
  have hlen : vs.length = ps.length := by rw [rs.length, List.length_map]
  refine wpAny_newObj_type ?_ (by show vs.toArray.size ≤ sizeLine; rw [List.size_toArray, hlen, sizeLine_eq]; omega)
  have ht : (h1.push { cls := .type "tuple", data := .seq vs.toArray }).IsTuple h1.objs.size vs.toArray := ⟨_, Heap.get?_push_size _ rfl, rfl, 0, rfl⟩
  have e1 : (ps.map (·.1)).length = vs.toArray.size := by rw [List.length_map, List.size_toArray, hlen]
  rw [e1]
  refine wpAny_unpackItems_tuple hA ht fun h2 x2 => ?_
  have k2 : Stays (h1.push { cls := .type "tuple", data := .seq vs.toArray }) h2 := fun b o e => x2 b o (fun q => by subst q; exact absurd (Heap.lt_size e) (Nat.lt_irrefl _)) e
  have k3 := (k1.trans hk1).trans k2
  have r3 := (All2.stab sP (KeepD.of (hk1.trans k2)) rs).reverse
  rw [← List.map_reverse] at r3
  have e2 : ((ps.map (·.1)).reverse.map fun n => bindName env n) = ps.reverse.map fun p => bindName env p.1 := by rw [← List.map_reverse, List.map_map]; rfl
  rw [e2]
  refine store_list C ps.reverse _ Γ _ _ _ sΓ (by rw [List.map_reverse]; exact sP.reverse) (fun p hp => hk p (List.mem_reverse.mp hp)) (S.grow sΓ k3) p1 (by simpa using r3) fun h4 tk4 k4 p4 S4 => hQ h4 tk4 ((KeepE.of k3).trans k4) p4 (by simpa using S4)

/-- a loop over what the walk W hands on -/
theorem tr_for {x : Str} {px pos : Pos} {iter : Expr} {body : List Stmt} {Rit : HP} {n : Nat} {Rs : Nat → HP} (C : Cx w env h₀) (sΓ : StabΓ Γ) (sR : ∀ i, i < n → Stab (Rs i))
    (h : ∀ H, Wd w H → Vars env H Γ → Ev w A env H iter Rit) (hx : ∀ h, Sto env h₀ Γ h → IsVar env x h)
    (hit : ∀ (s : Shared) (u : Value) (Q : Value → Shared → Prop) (E : Value → Shared → Prop), Rit s.heap u → (∀ I fp P St h' tk, s.heap.get? I = none → Stays s.heap h' → Walks Challenge.rw_oz0058_01.row.prog w A I fp [I] n P St → St 0 h' →
      (∀ i hh, St i hh → ∀ b ∈ fp, ∀ o, hh.get? b = some o → soft o = false) → (∀ i hh o, St i hh → hh.get? I = some o → soft2 o = true) → I ∈ fp → (∀ i v, P i v → Rs i h' v) → Q (.ref I) { s with heap := h', toks := tk }) → wpAny (model Challenge.rw_oz0058_01.row.prog w) A (pyIter u) Q E s)
    (hb : ∀ i, i < n → Tr w A env h₀ (execs body env) ((x, Rs i) :: Γ) Γ)
    (hs : ∀ x, foldedSetIterable iter env x = pure x) : Tr w A env h₀ (exec (.For (.Name x px) iter body [] pos) env) Γ Γ := by
  intro s Q S p hQ
  refine wpAny_For (h s.heap (S.wd C) S.vars s _ _ (Stays.refl _) p fun u h1 tk1 k1 p1 ru => wpAny_with_toks (n := 1) p1 (hit _ _ _ _ ru fun I fp P St h2 tk2 nI k2 W st soI s2I Ifp hR p2 => ?_)) hs
  have S2 := S.grow sΓ (k1.trans k2)
  have nIs : s.heap.get? I = none := fresh_of k1 nI
  have hI0 : h₀.get? I = none := by
    cases e : h₀.get? I with
    | none => rfl
    | some o =>
      obtain ⟨m0, F0, _⟩ := S.fr
      rw [F0.keep _ _ e] at nIs; cases nIs
  refine codeAny_forLoop
    (fun j s' => ∃ h' tk i, s' = { s with heap := h', toks := tk } ∧ 0 < tk ∧ St i h' ∧ Sto env h₀ Γ h' ∧ (∀ a o, a ≠ I → h2.get? a = some o → soft o = false → h'.get? a = some o) ∧ KeepD h2 h' ∧ i ≤ n ∧ j = n + 1 - i) ?_ (n + 1)
    ⟨h2, tk2, 0, rfl, p2, st, S2, fun _ _ _ e _ => e, KeepD.refl _, Nat.zero_le _, rfl⟩
  rintro j s' ⟨h', tk, i, rfl, p', st', S', K', D', hi, rfl⟩
  have adv : ∀ h₁ : Heap, (∀ b o, b ∉ [I] → h'.get? b = some o → h₁.get? b = some o) → Sto env h₀ Γ h₁ ∧ KeepD h' h₁ := by
    intro h₁ hk₁
    have kd : KeepD h' h₁ := fun a o e so => by
      by_cases ha : a = I
      · subst ha; rw [s2I i h' o st' e] at so; cases so
      · exact hk₁ a o (by simpa using ha) e
    have keepne : ∀ a o, h'.get? a = some o → soft o = true → h₁.get? a = some o := fun a o e so => hk₁ a o (by
      intro hm
      have ha : a = I := by simpa using hm
      subst ha
      rw [soI i h' st' a Ifp o e] at so; cases so) e
    obtain ⟨⟨m, F, y, vy, hy⟩, V, Ce⟩ := S'
    refine ⟨⟨⟨m, ⟨F.ns.at' fun o e => keepne _ _ e (soft_frame F.ns hy e), fun b o e => hk₁ b o (by
      intro hm
      have hb : b = I := by simpa using hm
      subst hb
      rw [hI0] at e; cases e) (F.keep b o e), F.above⟩, y, vy, hy⟩, ?_, fun z c e => by
      obtain ⟨v', o, e1, d1⟩ := Ce z c e
      exact ⟨v', o, keepne _ _ e1 (soft_cell ⟨o, e1, d1⟩ e1), d1⟩⟩, kd⟩
    intro z R e
    rcases V z R e with ⟨hk', m', v', hn', hv', hr'⟩ | ⟨hk', c', v', hc', hcell2, hr'⟩
    · refine .inl ⟨hk', m', v', ?_, hv', sΓ z R e _ _ _ kd hr'⟩
      exact hn'.at' fun o e => keepne _ _ e (soft_frame hn' hv' e)
    · refine .inr ⟨hk', c', v', hc', ?_, sΓ z R e _ _ _ kd hr'⟩
      obtain ⟨o, e1, d1⟩ := hcell2
      exact ⟨o, keepne _ _ e1 (soft_cell ⟨o, e1, d1⟩ e1), d1⟩
  by_cases hlt : i < n
  · refine wpAny_with_toks (n := 1) p' (W.item i _ _ _ hlt st' fun v h3 tk3 pv st3 k3 p3 => ?_)
    obtain ⟨S3, D3⟩ := adv h3 k3
    refine wpAny_assign_Name ?_
    refine store_any C sΓ (sR i hlt) S3 (sR i hlt _ _ _ (D'.trans D3) (hR i v pv)) (hx _ S3) p3 fun h4 tk4 k4 p4 _ S4 => ?_
    refine wpAny_noRaise (hb i hlt _ _ S4 p4 fun h5 tk5 k5 p5 S5 => ?_)
    refine ⟨n + 1 - (i + 1), by omega, h5, tk5, i + 1, rfl, p5, ?_, S5, ?_, ?_, hlt, rfl⟩
    · exact W.frame _ _ _ st3 fun b hb o e => (k4.trans k5) b o e (soI _ _ st3 b hb o e)
    · intro a o ha e so
      exact (k4.trans k5) a o (k3 a o (by simpa using ha) (K' a o ha e so)) so
    · exact D'.trans (D3.trans (k4.trans k5).d)
  · have hin : i = n := by omega
    subst hin
    refine wpAny_with_toks (n := 1) p' (W.done _ _ _ st' fun h3 tk3 k3 p3 => wpAny_execs_nil ?_)
    obtain ⟨S3, D3⟩ := adv h3 k3
    refine hQ h3 tk3 ?_ p3 S3
    intro a o e so
    have ha : a ≠ I := by rintro rfl; rw [nIs] at e; cases e
    exact k3 a o (by simpa using ha) (K' a o ha ((k1.trans k2) a o e) so)
end
end Mine

open PySem PySem.W PySem.Calls PyProof.Rows
set_option Elab.async false
set_option maxRecDepth 100000
set_option maxHeartbeats 400000
namespace Mine

/-- what an iterable hands on: n items, the i-th is Rs i -/
def Hands (w : World) (A : Around) (R : HP) (n : Nat) (Rs : Nat → HP) : Prop :=
  ∀ (s : Shared) (u : Value) (Q : Value → Shared → Prop) (E : Value → Shared → Prop), R s.heap u → (∀ I fp P St h' tk, s.heap.get? I = none → Stays s.heap h' → Walks Challenge.rw_oz0058_01.row.prog w A I fp [I] n P St → St 0 h' →
      (∀ i hh, St i hh → ∀ b ∈ fp, ∀ o, hh.get? b = some o → soft o = false) → (∀ i hh o, St i hh → hh.get? I = some o → soft2 o = true) → I ∈ fp → (∀ b ∈ fp, b < h'.objs.size) → (∀ i v, P i v → Rs i h' v) → Q (.ref I) { s with heap := h', toks := tk }) → wpAny (model Challenge.rw_oz0058_01.row.prog w) A (pyIter u) Q E s

section
variable {w : World} {A : Around} {env : Env} {H : Heap}

theorem getNone {h : Heap} : h.get? h.objs.size = none := by
  cases e : h.get? h.objs.size with
  | none => rfl
  | some o => exact absurd (Heap.lt_size e) (Nat.lt_irrefl _)
theorem hands_list {Rs : List HP} (hh : A.handled = none) (sR : StabL Rs) : Hands w A (IsL Rs) Rs.length (fun i => Rs.getD i fun _ _ => True) := by
  rintro s u Q E ⟨l, vs, rfl, hl, hv⟩ hQ
  have hlt : l < s.heap.objs.size := by obtain ⟨o, e, _⟩ := hl; exact Heap.lt_size e
  have hne : l ≠ s.heap.objs.size := Nat.ne_of_lt hlt
  refine wpAny_pyIter_list hl ?_
  have W := Walks.list (prog := Challenge.rw_oz0058_01.row.prog) (w := w) hh s.heap.objs.size l hne vs.toArray
  have hsz : vs.toArray.size = Rs.length := by rw [List.size_toArray, hv.length]
  rw [hsz] at W
  refine hQ s.heap.objs.size _ _ _ _ s.toks getNone (fun b o e => Heap.get?_push_of_some _ e) W ⟨⟨_, Heap.get?_push_size _ rfl, rfl, rfl⟩, hl.at fun o e => Heap.get?_push_of_some _ e⟩ ?_ ?_ (by simp) ?_ ?_
  · rintro i hh ⟨⟨o1, e1, _, d1⟩, ⟨o2, e2, _, n2, d2⟩⟩ b hb o e
    simp only [List.mem_cons, List.not_mem_nil, or_false] at hb
    rcases hb with rfl | rfl
    · rw [e1] at e; cases e; unfold soft; rw [d1]
    · rw [e2] at e; cases e; unfold soft; rw [d2]
  · rintro i hh o ⟨⟨o1, e1, c1, d1⟩, _⟩ e
    rw [e1] at e; cases e; unfold soft2; rw [c1]; simp
  · intro b hb
    rw [Heap.size_push]
    simp only [List.mem_cons, List.not_mem_nil, or_false] at hb
    rcases hb with rfl | rfl
    · exact Nat.lt_succ_self _
    · exact Nat.lt_succ_of_lt hlt
  · intro i v hp
    have hlt : i < vs.length := by
      rcases Nat.lt_or_ge i vs.length with h | h
      · exact h
      · have : vs.toArray[i]? = none := by simp; exact h
        rw [this] at hp; cases hp
    have hi : i < Rs.length := by rw [← hv.length]; exact hlt
    obtain ⟨v', e', r'⟩ := hv.get (i := i) (R := Rs[i]) (by simp [hi])
    have : v = v' := by
      have h1 : vs[i]? = some v := by simpa using hp
      rw [e'] at h1; exact (Option.some.inj h1).symm
    subst this
    rw [List.getD_eq_getElem?_getD, List.getElem?_eq_getElem hi, Option.getD_some]
    have st : ∀ {Rs : List HP} {i : Nat} (h : i < Rs.length), StabL Rs → Stab Rs[i] := by
      intro Rs
      induction Rs with
      | nil => intro i h; exact absurd h (Nat.not_lt_zero _)
      | cons a r ih => intro i h s; cases i with
        | zero => exact s.1
        | succ j => exact ih (i := j) (by simpa using h) s.2
    exact (st hi sR).mono _ _ _ (fun b o e => Heap.get?_push_of_some _ e) r'
theorem hands_range {n : Nat} (hh : A.handled = none) (hz : n ≤ 1000) : Hands w A (IsR n) n (fun i => IsI (i : Int)) := by
  rintro s u Q E ⟨r, t1, t2, t3, rfl, hr⟩ hQ
  have hs : Builtin.Range.rangeSize 0 n 1 = (n : Int) := by
    unfold Builtin.Range.rangeSize
    rw [if_pos (by decide)]
    split <;> omega
  have hsm : Builtin.Range.small 0 n 1 = true := by
    have fit : ∀ k : Int, 0 ≤ k → k ≤ 1000 → Builtin.Range.rangeFitsLong k = true := by
      intro k h1 h2
      have a : (1000 : Int) < 2 ^ 63 := by decide
      have b : -(2 : Int) ^ 63 ≤ 0 := by decide
      unfold Builtin.Range.rangeFitsLong
      simp only [Bool.and_eq_true, decide_eq_true_eq]
      constructor
      · exact Int.le_trans b h1
      · exact Int.lt_of_le_of_lt h2 a
    unfold Builtin.Range.small
    simp only [hs, fit 0 (by decide) (by decide), fit 1 (by decide) (by decide), fit (n : Int) (by omega) (by omega), Int.zero_add, Int.mul_one, Bool.and_true, Bool.true_and]
    simp
    first | done | (right; exact fit _ (by omega) (by omega)) | (intro _; exact fit _ (by omega) (by omega))
  refine wpAny_pyIter_range hr hsm ?_
  have W := Walks.range (prog := Challenge.rw_oz0058_01.row.prog) (w := w) hh s.heap.objs.size 0 1 n
  refine hQ s.heap.objs.size _ _ _ _ s.toks getNone (fun b o e => Heap.get?_push_of_some _ e) W ?_ ?_ ?_ (by simp) ?_ ?_
  · show IsRangeIter _ _ _ _ _
    rw [hs]
    have := Heap.get?_push_size (h := s.heap) (o := { cls := .type "range_iterator", dict := none, data := .fields #[rawInt 0, rawInt n, rawInt 1], slots := #[] }) rfl
    simpa [IsRangeIter] using this
  · intro i hh st b hb o e
    have hb' : b = s.heap.objs.size := by simpa using hb
    subst hb'
    rw [st] at e; cases e; rfl
  · intro i hh o st e
    rw [st] at e; cases e; rfl
  · intro b hb
    have hb' : b = s.heap.objs.size := by simpa using hb
    subst hb'
    rw [Heap.size_push]; exact Nat.lt_succ_self _
  · rintro i v ⟨t, rfl⟩
    exact ⟨t, by simp⟩

theorem tr_loop {h₀ : Heap} {Γ : List (Str × HP)} {x : Str} {px pos : Pos} {iter : Expr} {body : List Stmt} {Rit : HP} {n : Nat} {Rs : Nat → HP} (C : Cx w env h₀) (sΓ : StabΓ Γ) (sR : ∀ i, i < n → Stab (Rs i))
    (h : ∀ H, Wd w H → Vars env H Γ → Ev w A env H iter Rit) (hx : ∀ h, Sto env h₀ Γ h → IsVar env x h) (hit : Hands w A Rit n Rs)
    (hb : ∀ i, i < n → Tr w A env h₀ (execs body env) ((x, Rs i) :: Γ) Γ)
    (hs : ∀ x, foldedSetIterable iter env x = pure x) : Tr w A env h₀ (exec (.For (.Name x px) iter body [] pos) env) Γ Γ :=
  tr_for C sΓ sR h hx (fun s u Q E r hQ => hit s u Q E r fun I fp P St h' tk a1 a2 a3 a4 a5 a6 a7 _ a9 => hQ I fp P St h' tk a1 a2 a3 a4 a5 a6 a7 a9) hb hs

/-- no list either -/
def KeepH (h h' : Heap) : Prop := ∀ a o, h.get? a = some o → soft2 o = false → o.cls ≠ .type "list" → h'.get? a = some o
def StabH (R : HP) : Prop := ∀ h h' u, KeepH h h' → R h u → R h' u
theorem StabH.stab {R : HP} (s : StabH R) : Stab R := fun h h' u k r => s h h' u (fun a o e so _ => k a o e so) r
theorem hF {f} : StabH (IsF f) := fun _ _ _ _ r => r
theorem hN {a b} : StabH (IsN a b) := by
  rintro h h' u k ⟨x, rfl, ⟨⟨dx, t1, t2, e1, e2, z⟩, n⟩⟩
  exact ⟨x, rfl, ⟨⟨dx, t1, t2, k _ _ e1 rfl (by simp), k _ _ e2 rfl (by simp), z⟩, n⟩⟩
theorem All2.stabH : ∀ {Rs : List HP} {h h' : Heap} {vs : List Value}, (∀ R ∈ Rs, StabH R) → KeepH h h' → All2 Rs h vs → All2 Rs h' vs
  | [], _, _, [], _, _, _ => trivial
  | _ :: _, _, _, _ :: _, s, k, r => ⟨s _ (.head _) _ _ _ k r.1, All2.stabH (fun R hR => s R (.tail _ hR)) k r.2⟩

/-- a comprehension's start: an empty list D and a frame C are laid, both new -/
theorem comp_open {elt iter : Expr} {x : Str} {px : Pos} {ifs : List Expr} {scope : Scope} {cl : List (Str × Addr)} {pos : Pos} {s : Shared} {I : Addr} {fp : List Addr} {RR : Value → Addr → Result → Shared → Prop} {E : Value → Shared → Prop}
    (nocell : ∀ y ∈ scope.names, y.2 ≠ .cell) (isf : scope.kind = .function) (inside : ∀ b ∈ fp, b < s.heap.objs.size)
    (go : ∀ (D C : Addr) (h : Heap), s.heap.get? D = none → s.heap.get? C = none → D ≠ C → D ∉ fp → C ∉ fp → Stays s.heap h → h.Ns C (fun _ => none) → h.PlainList D #[] →
      codeAny (model Challenge.rw_oz0058_01.row.prog w) A (.compStart (.ListComp elt [⟨.Name x px, iter, ifs, 0⟩] scope pos) 0 (.ref I) (.ref D) (compEnvC scope cl C env)) (RR (.ref D) C) { s with heap := h }) :
    wpAny (model Challenge.rw_oz0058_01.row.prog w) A (newList []) (fun acc s₁ => wpAny (model Challenge.rw_oz0058_01.row.prog w) A (newFunctionEnv scope env.globals cl [] env.qual none .none (some env)) (fun cenv s₂ =>
      codeAny (model Challenge.rw_oz0058_01.row.prog w) A (.compStart (.ListComp elt [⟨.Name x px, iter, ifs, 0⟩] scope pos) 0 (.ref I) acc { cenv with scope := relabel scope env }) (RR acc cenv.locals) s₂) E s₁) E s := by
  have beyond : ∀ a, ¬ a < s.heap.objs.size → s.heap.get? a = none := fun a ha => by
    cases q : s.heap.get? a with
    | none => rfl
    | some _ => exact absurd (Heap.lt_size q) ha
  refine wpAny_newObj_type (wpAny_newFunctionEnv nocell (fun _ z => nomatch z) (fun h ns same => ?_) isf)
  dsimp only at ns same
  have one : Stays s.heap (s.heap.push { cls := .type "list", data := .seq ([] : List Value).toArray }) := fun _ _ q => Heap.get?_push_of_some _ q
  have two : Stays (s.heap.push { cls := .type "list", data := .seq ([] : List Value).toArray }) h := fun _ _ q => same.extBut _ _ (Nat.ne_of_lt (Heap.lt_size q)) (Heap.get?_push_of_some _ q)
  have more : s.heap.objs.size < (s.heap.push { cls := .type "list", data := .seq ([] : List Value).toArray }).objs.size := by
    rw [Heap.size_push]; exact Nat.lt_succ_self _
  exact go _ _ h (beyond _ (Nat.lt_irrefl _)) (beyond _ (Nat.lt_asymm more)) (Nat.ne_of_lt more) (fun q => Nat.lt_irrefl _ (inside _ q)) (fun q => Nat.lt_asymm more (inside _ q)) (one.trans two) ns ⟨_, two _ _ (Heap.get?_push_size _ rfl)⟩

/-- a list comprehension without tests, its items told in the heap that it leaves -/
theorem comp_core {elt iter : Expr} {x : Str} {px : Pos} {scope : Scope} {cl : List (Str × Addr)} {pos : Pos} {s₂ : Shared} {I : Addr} {fp : List Addr} {n : Nat} {P : Nat → Value → Prop}
    {St : Nat → Heap → Prop} {Rs : Nat → HP} (W : Walks Challenge.rw_oz0058_01.row.prog w A I fp [I] n P St) (hz : n ≤ 1000) (h0 : 0 < n) (sR : ∀ i, i < n → StabH (Rs i)) {RR : Value → Addr → Result → Shared → Prop}
    (hcell : ∀ y ∈ scope.names, y.2 ≠ .cell) (hkind : scope.kind = .function) (hx : scope.names.lookup x = some .local) (hst : St 0 s₂.heap) (hp0 : 0 < s₂.toks) (hfp : ∀ b ∈ fp, b < s₂.heap.objs.size) (Ifp : I ∈ fp)
    (s2I : ∀ i hh o, St i hh → hh.get? I = some o → soft2 o = true)
    (helt : ∀ i v C H' m, i < n → P i v → s₂.heap.get? C = none → (∀ a o, a ≠ I → s₂.heap.get? a = some o → H'.get? a = some o) → H'.Ns C m → m x = some v → Ev w A (compEnvC scope cl C env) H' elt (Rs i))
    (hRR : ∀ D C h' tk m' (ys : List Value), s₂.heap.get? D = none → s₂.heap.get? C = none → D ≠ C → h'.Ns C m' → (∃ v, m' x = some v) → h'.PlainList D ys.toArray → All2 ((List.range n).map Rs) h' ys →
      (∀ a o, a ≠ I → s₂.heap.get? a = some o → h'.get? a = some o) → 0 < tk → RR (.ref D) C (.ok .next) { s₂ with heap := h', toks := tk }) (E : Value → Shared → Prop) :
    wpAny (model Challenge.rw_oz0058_01.row.prog w) A (newList []) (fun acc s₃ => wpAny (model Challenge.rw_oz0058_01.row.prog w) A (newFunctionEnv scope env.globals cl [] env.qual none .none (some env)) (fun cenv s₄ =>
      codeAny (model Challenge.rw_oz0058_01.row.prog w) A (.compStart (.ListComp elt [⟨.Name x px, iter, [], 0⟩] scope pos) 0 (.ref I) acc { cenv with scope := relabel scope env }) (RR acc cenv.locals) s₄) E s₃) E s₂ := by
  refine comp_open hcell hkind hfp fun D Cc h₁ freshD freshC hDC hDf hCf old hns₁ hacc => ?_
  have hst₁ : St 0 h₁ := W.frame _ _ _ hst fun b _ o e => old b o e
  have kx : (compEnvC scope cl Cc env).kindOf x = some .local := lookup_relabel_local hx
  have kp : ((compEnvC scope cl Cc env).scope.kind == .class || ((compEnvC scope cl Cc env).scope.kind == .module && (compEnvC scope cl Cc env).locals != (compEnvC scope cl Cc env).globals)) = false := by simp [compEnvC, relabel, hkind]
  have loop : ∀ s₃ : Shared, s₃ = { s₂ with heap := h₁ } →
      codeAny (model Challenge.rw_oz0058_01.row.prog w) A (.compLoop (.ListComp elt [⟨.Name x px, iter, [], 0⟩] scope pos) 0 (.ref I) (.ref D) (compEnvC scope cl Cc env))
        (RR (.ref D) Cc) s₃ := by
    rintro s₃ rfl
    refine codeAny_compLoop_tests
      (fun j s' => ∃ h' tk m' i, ∃ ys : List Value, s' = { s₂ with heap := h', toks := tk } ∧ 0 < tk ∧ St i h' ∧ h'.PlainList D ys.toArray ∧ h'.Ns Cc m' ∧ (0 < i → ∃ v, m' x = some v) ∧ All2 ((List.range i).map Rs) h' ys ∧
        (∀ a o, a ≠ I → s₂.heap.get? a = some o → h'.get? a = some o) ∧ i ≤ n ∧ j = n + 1 - i) ?_ (n + 1)
      ⟨h₁, _, _, 0, [], rfl, hp0, hst₁, hacc, hns₁, (fun h => absurd h (Nat.lt_irrefl _)), trivial, fun a o _ e => old a o e, Nat.zero_le _, rfl⟩
    rintro j s' ⟨h', tk, m', i, ys, rfl, p', st', hl', hn', hv', ha', hk', hi, rfl⟩
    have hCI : Cc ≠ I := fun e => hCf (e ▸ Ifp)
    have hDI : D ≠ I := fun e => hDf (e ▸ Ifp)
    by_cases hlt : i < n
    · refine wpAny_with_toks (n := 1) p' (W.item i _ _ _ hlt st' fun v h2 tk2 pv st2 k2 p2 => ?_)
      have k2' : ∀ a o, a ≠ I → h'.get? a = some o → h2.get? a = some o := fun a o ha e => k2 a o (by simpa using ha) e
      refine wpAny_assign_Name (wpAny_storeName_local kx (hn'.at' fun o e => k2' _ o hCI e) (fun h3 hn3 hs3 => ?_) kp)
      have e3 : ∀ a o, a ≠ I → a ≠ Cc → h'.get? a = some o → h3.get? a = some o := fun a o hI hc e => (hs3.2 a hc).trans (k2' a o hI e)
      have s3 : ∀ a o, a ≠ I → s₂.heap.get? a = some o → h3.get? a = some o := fun a o hI e => e3 a o hI (by rintro rfl; rw [freshC] at e; cases e) (hk' a o hI e)
      refine wpAny_pure ?_
      rw [if_pos rfl]
      refine helt i v Cc h3 _ hlt pv freshC s3 hn3 (by simp) _ _ _ (Stays.refl _) (Nat.succ_pos _) fun y h4 tk4 k4 p4 r4 => ?_
      have hl4 : h4.PlainList D ys.toArray := hl'.at fun o e => k4 _ _ (e3 D o hDI hDC e)
      have hlen : ys.length = i := by have := ha'.length; simpa using this
      refine wpAny_list_append_plain (hsz := by rw [List.size_toArray, hlen, sizeLine_eq]; omega) hl4 fun h5 hl5 hs5 => ?_
      have hns5 : h5.Ns Cc _ := ((hn3.keeps k4).sameBut hs5 (Ne.symm hDC))
      have sAll : ∀ R ∈ (List.range i).map Rs, StabH R := by
        intro R hR
        obtain ⟨j, hj, rfl⟩ := List.mem_map.mp hR
        exact sR j (Nat.lt_trans (List.mem_range.mp hj) hlt)
      have k45 : KeepH h4 h5 := fun a o e _ hc => (hs5.2 a (by
        rintro rfl
        obtain ⟨n', e'⟩ := hl4
        rw [e'] at e; cases e; exact hc rfl)).trans e
      have hold : All2 ((List.range i).map Rs) h5 ys := by
        cases i with
        | zero =>
          have : ys = [] := List.length_eq_zero_iff.mp hlen
          subst this; trivial
        | succ i' =>
          obtain ⟨v0, hv0⟩ := hv' (Nat.succ_pos _)
          refine All2.stabH sAll (fun a o e so hc => ?_) ha'
          have hI : a ≠ I := by rintro rfl; rw [s2I _ h' o st' e] at so; cases so
          have hCc' : a ≠ Cc := by
            rintro rfl
            have := soft_frame hn' hv0 e
            unfold soft2 at so; rw [this] at so; cases so
          exact k45 a o (k4 _ _ (e3 a o hI hCc' e)) so hc
      refine ⟨n + 1 - (i + 1), by omega, h5, tk4, _, i + 1, ys ++ [y], rfl, p4, ?_, ?_, hns5, fun _ => ⟨v, by simp⟩, ?_, ?_, hlt, rfl⟩
      · refine W.frame _ _ _ st2 fun b hb o e => ?_
        have hbD : b ≠ D := fun q => hDf (q ▸ hb)
        have hbC : b ≠ Cc := fun q => hCf (q ▸ hb)
        exact (hs5.2 b hbD).trans (k4 _ _ ((hs3.2 b hbC).trans e))
      · simpa using hl5
      · rw [List.range_succ, List.map_append]
        exact All2.append hold ⟨sR i hlt _ _ _ k45 r4, trivial⟩
      · intro a o hI e
        exact (hs5.2 a (by rintro rfl; rw [freshD] at e; cases e)).trans (k4 _ _ (s3 a o hI e))
    · have hin : i = n := by omega
      subst hin
      refine wpAny_with_toks (n := 1) p' (W.done _ _ _ st' fun h2 tk2 k2 p2 => ?_)
      have k2' : ∀ a o, a ≠ I → h'.get? a = some o → h2.get? a = some o := fun a o ha e => k2 a o (by simpa using ha) e
      have sAll : ∀ R ∈ (List.range i).map Rs, StabH R := by
        intro R hR
        obtain ⟨j, hj, rfl⟩ := List.mem_map.mp hR
        exact sR j (List.mem_range.mp hj)
      exact hRR D Cc h2 tk2 m' ys freshD freshC hDC (hn'.at' fun o e => k2' _ o hCI e) (hv' h0) (hl'.at fun o e => k2' _ o hDI e)
        (All2.stabH sAll (fun a o e so _ => k2' a o (by rintro rfl; rw [s2I i h' o st' e] at so; cases so) e) ha') (fun a o hI e => k2' a o hI (hk' a o hI e)) p2
  exact codeAny_compStart_list (loop _ rfl) (W.self 0 _ _ _ hst₁ (loop _ rfl))
end
end Mine

open PySem PySem.W PySem.Calls PyProof.Rows
set_option Elab.async false
set_option maxRecDepth 100000
set_option maxHeartbeats 400000
namespace Mine
section
variable {w : World} {A : Around} {env : Env} {H : Heap}

/-- the item's expression in the comprehension's own frame -/
def Elt (w : World) (A : Around) (env : Env) (H : Heap) (scope : Scope) (cl : List (Str × Addr)) (x : Str) (elt : Expr) (Ri R : HP) : Prop :=
  ∀ C H' m v, (∀ a o, H.get? a = some o → H'.get? a = some o) → H'.Ns C m → m x = some v → Ri H' v → Ev w A (compEnvC scope cl C env) H' elt R

theorem ev_comp {elt iter : Expr} {x : Str} {px : Pos} {scope : Scope} {cl : List (Str × Addr)} {pos : Pos} {n : Nat} {Rit : HP} {Ri Rs : Nat → HP} (hz : n ≤ 1000) (h0 : 0 < n) (sR : ∀ i, i < n → StabH (Rs i)) (sI : ∀ i, i < n → StabH (Ri i))
    (hclos : closureFor scope env = pure cl) (hcell : ∀ y ∈ scope.names, y.2 ≠ .cell) (hkind : scope.kind = .function) (hnames : ∀ y ∈ scope.names, y.2 = .local → scope.names.lookup y.1 = some .local) (hx : scope.names.lookup x = some .local)
    (hi : Ev w A env H iter Rit) (hit : Hands w A Rit n Ri)
    (helt : ∀ i, i < n → Elt w A env H scope cl x elt (Ri i) (Rs i))
    (hs : ∀ x, foldedSetIterable iter env x = pure x) : Ev w A env H (.ListComp elt [⟨.Name x px, iter, [], 0⟩] scope pos) (IsL ((List.range n).map Rs)) := by
  intro s Q E k p hQ
  rw [eval_ListComp]
  refine wpAny_comprehension_free (use := none) rfl hs hclos hkind hnames (hi s _ _ k p fun u h1 tk1 k1 p1 ru => wpAny_with_toks (n := 1) p1 (hit _ _ _ _ ru fun I fp P St h2 tk2 nI k2 W st soI s2I Ifp fpb hR p2 => ?_))
  have nIs : s.heap.get? I = none := fresh_of k1 nI
  refine comp_core W hz h0 sR (RR := fun acc C => compPost (model Challenge.rw_oz0058_01.row.prog w) A E none Q acc C) hcell hkind hx st p2 fpb Ifp s2I (fun i v C H' m hi' pv hC kH hn hm => ?_) ?_ _
  · refine helt i hi' C H' m v (fun a o e => kH a o (by rintro rfl; have := k _ _ e; rw [nIs] at this; cases this) ((k1.trans k2) a o (k _ _ e))) hn hm ?_
    exact sI i hi' _ _ _ (fun a o e so _ => kH a o (by rintro rfl; rw [s2I 0 h2 o st e] at so; cases so) e) (hR i v pv)
  · intro D C h' tk m' ys hD hC hDC hn hv hl ha hk ptk
    obtain ⟨v, hv⟩ := hv
    refine ⟨m', hn, fun h'' hs'' => hQ (.ref D) h'' tk (fun a o e => ?_) ptk ⟨D, ys, rfl, hl.isList.extBut hs''.extBut hDC, ?_⟩⟩
    · have e2 := (k1.trans k2) a o e
      exact (hs''.2 a (by rintro rfl; rw [hC] at e2; cases e2)).trans (hk a o (by rintro rfl; rw [nIs] at e; cases e) e2)
    · refine All2.stabH ?_ (fun a o e so _ => (hs''.2 a ?_).trans e) ha
      · intro R hR
        obtain ⟨j, hj, rfl⟩ := List.mem_map.mp hR
        exact sR j (List.mem_range.mp hj)
      · rintro rfl
        have := soft_frame hn hv e
        unfold soft2 at so; rw [this] at so; cases so

theorem tr_comp {h₀ : Heap} {Γ : List (Str × HP)} {y : Str} {py spos : Pos} {elt iter : Expr} {x : Str} {px : Pos} {scope : Scope} {cl : List (Str × Addr)} {pos : Pos} {n : Nat} {Rit : HP} {Ri Rs : Nat → HP} (Cc : Cx w env h₀) (sΓ : StabΓ Γ) (hz : n ≤ 1000) (h0 : 0 < n) (sR : ∀ i, i < n → StabH (Rs i)) (sI : ∀ i, i < n → StabH (Ri i))
    (hsw : swapsWith (.ListComp elt [⟨.Name x px, iter, [], 0⟩] scope pos) (some (.Name y py)) spos.line env = pure true)
    (hclos : closureFor scope env = pure cl) (hcell : ∀ y ∈ scope.names, y.2 ≠ .cell) (hkind : scope.kind = .function) (hnames : ∀ y ∈ scope.names, y.2 = .local → scope.names.lookup y.1 = some .local) (hx : scope.names.lookup x = some .local)
    (hy : env.kindOf y = some .local)
    (hi : ∀ H, Wd w H → Vars env H Γ → Ev w A env H iter Rit) (hit : Hands w A Rit n Ri)
    (helt : ∀ H, Stays h₀ H → Wd w H → Vars env H Γ → ∀ i, i < n → Elt w A env H scope cl x elt (Ri i) (Rs i))
    (hs : ∀ x, foldedSetIterable iter env x = pure x) : Tr w A env h₀ (exec (.Assign [.Name y py] (.ListComp elt [⟨.Name x px, iter, [], 0⟩] scope pos) spos) env) Γ ((y, IsL ((List.range n).map Rs)) :: Γ) := by
  intro s Q S p hQ
  rw [exec_Assign_Name_used _ _ _ _ hsw]
  refine wpAny_bind (wpAny_standAt (wpAny_bind ?_))
  show wpAny _ A (do let _ ← comprehension (.ListComp elt [⟨.Name x px, iter, [], 0⟩] scope pos) scope env _ (newList []) false (eval iter env) (some (assign (.Name y py) env))) _ _ s
  refine wpAny_bind (wpAny_mono (wpAny_comprehension_free (use := some (assign (.Name y py) env)) (Q := fun _ s' => Q .next s') rfl hs hclos hkind hnames
    (hi s.heap (S.wd Cc) S.vars s _ _ (Stays.refl _) p fun u h1 tk1 k1 p1 ru => wpAny_with_toks (n := 1) p1 (hit _ _ _ _ ru fun I fp P St h2 tk2 nI k2 W st soI s2I Ifp fpb hR p2 => ?_))) (fun _ s' hq => wpAny_pure (wpAny_pure hq)) fun _ _ e => e)
  have nIs : s.heap.get? I = none := fresh_of k1 nI
  refine comp_core W hz h0 sR (RR := fun acc C => compPost (model Challenge.rw_oz0058_01.row.prog w) A (fun _ _ => False) (some (assign (.Name y py) env)) (fun _ s' => Q .next s') acc C) hcell hkind hx st p2 fpb Ifp s2I (fun i v C H' m hi' pv hC kH hn hm => ?_) ?_ _
  · refine helt s.heap (by obtain ⟨_, F0, _⟩ := S.fr; exact F0.keep) (S.wd Cc) S.vars i hi' C H' m v (fun a o e => kH a o (by rintro rfl; rw [nIs] at e; cases e) ((k1.trans k2) a o e)) hn hm ?_
    exact sI i hi' _ _ _ (fun a o e so _ => kH a o (by rintro rfl; rw [s2I 0 h2 o st e] at so; cases so) e) (hR i v pv)
  · intro D C h' tk m' ys hD hC hDC hn hv hl ha hk ptk
    obtain ⟨v, hv⟩ := hv
    have ks : Stays s.heap h' := fun a o e => hk a o (by rintro rfl; rw [nIs] at e; cases e) ((k1.trans k2) a o e)
    have S' := S.grow sΓ ks
    have sAll : ∀ R ∈ (List.range n).map Rs, StabH R := by
      intro R hR
      obtain ⟨j, hj, rfl⟩ := List.mem_map.mp hR
      exact sR j (List.mem_range.mp hj)
    have sAllL : StabL ((List.range n).map Rs) := by
      have : ∀ {l : List HP}, (∀ R ∈ l, StabH R) → StabL l := by
        intro l
        induction l with
        | nil => intro _; trivial
        | cons a r ih => intro h; exact ⟨(h a (.head _)).stab, ih fun R hR => h R (.tail _ hR)⟩
      exact this sAll
    have nCs : s.heap.get? C = none := by
      cases e : s.heap.get? C with
      | none => rfl
      | some o => have := (k1.trans k2) _ _ e; rw [hC] at this; cases this
    have hCL : C ≠ env.locals := by
      rintro rfl
      obtain ⟨mm, F, _⟩ := S.fr
      obtain ⟨o, _, _, e, _⟩ := F.ns
      rw [nCs] at e; cases e
    show wpAny _ A (assign (.Name y py) env (.ref D)) _ _ _
    refine wpAny_assign_Name (store_any Cc sΓ (sL sAllL) S' ⟨D, ys, rfl, hl.isList, ha⟩ (.inl hy) ptk fun h3 tk3 k3 p3 hs3 S3 => ?_)
    rw [hy] at hs3
    dsimp only at hs3
    refine ⟨m', hn.sameBut hs3 hCL, fun h4 hs4 => ?_⟩
    have keC : ∀ o, h3.get? C = some o → soft o = true := fun o e => soft_frame (hn.sameBut hs3 hCL) hv e
    have kd4 : KeepD h3 h4 := fun a o e so => (hs4.2 a (by rintro rfl; unfold soft2 at so; rw [keC o e] at so; cases so)).trans e
    refine hQ h4 tk3 (fun a o e so => (hs4.2 a (by rintro rfl; rw [nCs] at e; cases e)).trans (((KeepE.of ks).trans k3) a o e so)) p3 ?_
    obtain ⟨⟨mm, F, z, vz, hz'⟩, V, Ce⟩ := S3
    have hc0 : h₀.get? C = none := by
      cases e : h₀.get? C with
      | none => rfl
      | some o => obtain ⟨m0, F0, _⟩ := S.fr; rw [F0.keep _ _ e] at nCs; cases nCs
    refine ⟨⟨mm, ⟨F.ns.sameBut hs4 (Ne.symm hCL), fun b o e => (hs4.2 b (by rintro rfl; rw [hc0] at e; cases e)).trans (F.keep b o e), F.above⟩, z, vz, hz'⟩, ?_, fun z' c' e => by
      obtain ⟨v', hc'⟩ := Ce z' c' e
      refine ⟨v', hc'.sameBut hs4 ?_⟩
      rintro rfl
      obtain ⟨o, e1, d1⟩ := hc'
      obtain ⟨o2, es2, ep2, e2, d2, _⟩ := hn.sameBut hs3 hCL
      rw [e1] at e2; cases e2; rw [d1] at d2; cases d2⟩
    have sΓ' := sΓ.cons (x := y) (sL sAllL)
    intro z R e
    rcases V z R e with ⟨hk', m'', v', hn', hv', hr'⟩ | ⟨hk', c', v', hc', hcell2, hr'⟩
    · exact .inl ⟨hk', m'', v', hn'.sameBut hs4 (Ne.symm hCL), hv', sΓ' z R e _ _ _ kd4 hr'⟩
    · refine .inr ⟨hk', c', v', hc', hcell2.sameBut hs4 ?_, sΓ' z R e _ _ _ kd4 hr'⟩
      rintro rfl
      obtain ⟨o, e1, d1⟩ := hcell2
      obtain ⟨o2, es2, ep2, e2, d2, _⟩ := hn.sameBut hs3 hCL
      rw [e1] at e2; cases e2; rw [d1] at d2; cases d2
end
end Mine

open PySem PySem.W PySem.Calls PyProof.Rows
set_option Elab.async false
set_option maxRecDepth 100000
set_option maxHeartbeats 400000
namespace Mine
/-- two that are equal -/
def EqT (w : World) (A : Around) (R R' : HP) : Prop :=
  ∀ (s : Shared) (v u : Value) (Q : Bool → Shared → Prop) (E : Value → Shared → Prop), Wd w s.heap → R s.heap v → R' s.heap u →
    (∀ h' tk, Stays s.heap h' → Q true { s with heap := h', toks := tk }) → wpAny (model Challenge.rw_oz0058_01.row.prog w) A (eqBool v u) Q E s
def EqTs (w : World) (A : Around) : List HP → List HP → Prop
  | [], [] => True
  | R :: r, R' :: r' => EqT w A R R' ∧ EqTs w A r r'
  | _, _ => False
theorem fill3_ (w : World) (h : Heap) : (lay01.heap_1 w.params).In h → Challenge.rw_oz0058_01.row.prog = Challenge.rw_oz0058_01.row.prog := by
  k_fill
  intros; rfl
section
variable {w : World} {A : Around} {a b c d : UInt64}
theorem eqT_bb {p : Bool} : EqT w A (IsB p) (IsB p) := by
  rintro s _ _ Q E W rfl rfl h
  unfold eqBool
  refine wpAny_holding ?_
  refine wpAny_ite_split (fun _ => ?_) (fun hab => absurd (beq_self_eq_true _) hab)
  exact wpAny_bind (wpAny_rule (wpAny_pure (h s.heap s.toks (Stays.refl _))))
theorem eqT_nn (R : A.depth + 6 < recursionLimit) (hu : A.units + 1 < cLine) (he : (feq a c && feq b d) = true) : EqT w A (IsN a b) (IsN c d) := by
  rintro s _ _ Q E W ⟨x, rfl, hx⟩ ⟨y, rfl, hy⟩ h
  unfold eqBool
  refine wpAny_holding ?_
  refine wpAny_ite_split (fun _ => wpAny_bind (wpAny_rule (wpAny_pure (h s.heap s.toks (Stays.refl _))))) (fun _ => ?_)
  have key : wpAny (model Challenge.rw_oz0058_01.row.prog w) A (richCompare .Eq (.ref x) (.ref y)) (fun v s' => wpAny (model Challenge.rw_oz0058_01.row.prog w) A (truthOfDropped v) Q E s') E s :=
    c_eq W hx hy R hu fun h' tk k => by rw [he]; exact wpAny_truthy_bool (h h' tk k)
  exact wpAny_bind key
theorem notTold (X : (lay01.heap_1 w.params).In H) : Looks (model Challenge.rw_oz0058_01.row.prog w) H (sharingNotTold t) false := by
  have e : nsIn (lay01.heap_1 w.params) cStatics sharingNotToldKey = some none := by k_is
  exact (looks_nsIn X e).andThen (Looks.of_pure rfl)
theorem eqT_ff (he : feq a c = true) : EqT w A (IsF a) (IsF c) := by
  rintro s _ _ Q E W ⟨t, rfl, zt⟩ ⟨u, rfl, zu⟩ h
  have X := W.inK
  unfold eqBool
  refine wpAny_holding ?_
  refine wpAny_ite_split (fun _ => wpAny_bind (wpAny_rule (wpAny_pure (h s.heap s.toks (Stays.refl _))))) (fun _ => ?_)
  have hok := h s.heap s.toks (Stays.refl _)
  have last : wpAny (model Challenge.rw_oz0058_01.row.prog w) A (do truthOfDropped (← richCompare .Eq (.float a t) (.float c u))) Q E s :=
    wpAny_bind (AutoFloatOps.eq_0 (show wpAny _ _ (truthOfDropped (.bool (feq a c))) _ _ _ by rw [he]; exact wpAny_truthy_bool hok))
  have both : ∀ r : Bool, wpAny (model Challenge.rw_oz0058_01.row.prog w) A (if r = true then pure true else (fun _ : Unit => do truthOfDropped (← richCompare .Eq (.float a t) (.float c u))) ()) Q E s := fun r => by
    cases r with
    | true => rw [if_pos rfl]; exact wpAny_pure hok
    | false => rw [if_neg (by decide)]; exact last
  dsimp only
  refine wpAny_bind (m := isSame (.float a t) (.float c u)) ?_
  unfold isSame
  dsimp only
  unfold isSame.created
  rw [if_neg (by simp [zt, zu])]
  refine wpAny_ite_split (fun _ => wpAny_pure (both true)) (fun _ => wpAny_ite_split (fun _ => wpAny_pure (both false)) (fun _ => ?_))
  refine wpAny_bind ((notTold X).here ?_)
  rw [if_neg (by decide)]
  refine wpAny_bind ((notTold X).here ?_)
  rw [if_neg (by decide)]
  exact wpAny_bind (wpAny_rule (wpAny_bind (wpAny_askSetting (wpAny_pure (both _)))))

theorem EqTs.get : ∀ {Rs Rs' : List HP} {i : Nat} {R R' : HP}, EqTs w A Rs Rs' → Rs[i]? = some R → Rs'[i]? = some R' → EqT w A R R'
  | [], [], i, _, _, _, e, _ => by simp at e
  | R :: r, R' :: r', 0, _, _, h, e, e' => by simp at e e'; subst e; subst e'; exact h.1
  | R :: r, R' :: r', i + 1, _, _, h, e, e' => EqTs.get (i := i) h.2 (by simpa using e) (by simpa using e')
  | [], _ :: _, _, _, _, h, _, _ => h.elim
  | _ :: _, [], _, _, _, h, _, _ => h.elim
theorem EqTs.length : ∀ {Rs Rs' : List HP}, EqTs w A Rs Rs' → Rs.length = Rs'.length
  | [], [], _ => rfl
  | R :: r, R' :: r', h => by rw [List.length_cons, List.length_cons, EqTs.length h.2]
  | [], _ :: _, h => h.elim
  | _ :: _, [], h => h.elim
open PySem.SeqAt MeetsSeq MeetsSeq2 MeetsSeq3 in
theorem ne_loopE (l b : Addr) {Rs Rs' : List HP} (sR : StabL Rs) (sR' : StabL Rs') (he : EqTs w A.in1 Rs Rs') {dd dd2 : Option Addr} {sl sl2 : Array (Option Value)} {n n2 : Nat} (items items2 : List Value) (k : Nat) :
    ∀ i : Nat, items.length - i = k → ∀ (s : Shared) (RR : Result → Shared → Prop), Wd w s.heap → s.heap.get? l = some { cls := .type "list", dict := dd, data := .seq items.toArray n, slots := sl } →
      s.heap.get? b = some { cls := .type "list", dict := dd2, data := .seq items2.toArray n2, slots := sl2 } → All2 Rs s.heap items → All2 Rs' s.heap items2 →
      (∀ h' tk, Stays s.heap h' → RR (.ok (.ret (.bool false))) { s with heap := h', toks := tk }) →
      wpAny (model Challenge.rw_oz0058_01.row.prog w) A.in1 (Builtin.«list.__eq__.loop» ⟨[.ref l, .ref b, rawInt i, rawInt 3], []⟩)
        (fun fin s' => match fin with | .done f => RR (.ok f) s' | .again c' => c'.quiet = true ∧ codeAny (model Challenge.rw_oz0058_01.row.prog w) A c' RR s') (fun e s' => RR (.error e) s') s := by
  induction k with
  | zero =>
    intro i hk s RR W hl hb ha ha' h
    have hsz : items.toArray.size = items2.toArray.size := by rw [List.size_toArray, List.size_toArray, ha.length, ha'.length, he.length]
    obtain ⟨hp, g, d, tk, os⟩ := s
    wp_walk using AutoSeq1.wpAny_loadPart' hl, AutoSeq1.wpAny_loadPart' hb
    have hi1 : items.toArray[((i : Nat) : Int).toNat]? = none := by simp; omega
    have hi2 : items2.toArray[((i : Nat) : Int).toNat]? = none := by
      have : items.length = items2.length := by simpa using hsz
      simp; omega
    rw [hi1, hi2]
    wp_walk using AutoSeq1.wpAny_loadPart' hl, AutoSeq1.wpAny_loadPart' hb
    show RR (.ok (.ret (.bool (items.toArray.size != items2.toArray.size)))) _
    rw [hsz]
    simpa using h hp tk (Stays.refl _)
  | succ k ih =>
    intro i hk s RR W hl hb ha ha' h
    have hlen : items.length = items2.length := by rw [ha.length, ha'.length, he.length]
    have hlt : i < items.length := by omega
    have hlt2 : i < items2.length := by omega
    obtain ⟨hp, g, d, tk, os⟩ := s
    wp_walk using AutoSeq1.wpAny_loadPart' hl, AutoSeq1.wpAny_loadPart' hb
    have hi1 : items.toArray[((i : Nat) : Int).toNat]? = some items[i] := by simp [hlt]
    have hi2 : items2.toArray[((i : Nat) : Int).toNat]? = some items2[i] := by simp [hlt2]
    have hc : ((i : Int) + 1) = ((i + 1 : Nat) : Int) := by push_cast; rfl
    rw [hi1, hi2]
    have r1 : i < Rs.length := by rw [← ha.length]; exact hlt
    have r2 : i < Rs'.length := by rw [← ha'.length]; exact hlt2
    obtain ⟨v1, e1, q1⟩ := ha.get (i := i) (R := Rs[i]) (by simp [r1])
    obtain ⟨v2, e2, q2⟩ := ha'.get (i := i) (R := Rs'[i]) (by simp [r2])
    have e1' : v1 = items[i] := by rw [List.getElem?_eq_getElem hlt] at e1; exact (Option.some.inj e1).symm
    have e2' : v2 = items2[i] := by rw [List.getElem?_eq_getElem hlt2] at e2; exact (Option.some.inj e2).symm
    subst e1'; subst e2'
    have E1 := he.get (i := i) (R := Rs[i]) (R' := Rs'[i]) (by simp [r1]) (by simp [r2])
    refine wpAny_bind (E1 _ _ _ _ _ W q1 q2 fun h' tk' k' => ?_)
    wp_walk
    rw [hc]
    exact ⟨plainId_quiet plain_eq_loop _, codeAny_builtin entry_eq_loop (by
      rw [Around.under_plainId plain_eq_loop _]
      exact ih (i + 1) (by omega) _ RR (W.grow k') (k' _ _ hl) (k' _ _ hb) (All2.stab sR (.of k') ha) (All2.stab sR' (.of k') ha') fun h'' tk'' k'' => h h'' tk'' (k'.trans k''))⟩
open PySem.SeqAt MeetsSeq MeetsSeq2 MeetsSeq3 in
theorem o_nell {Rs Rs' : List HP} (sR : StabL Rs) (sR' : StabL Rs') (he : EqTs w A.in1 Rs Rs') (hu : A.units < cLine) : Op2 w A (compareOp .NotEq) (IsL Rs) (IsL Rs') (IsB false) := by
  rintro s _ _ Q E W p ⟨l, vs, rfl, hl, hv⟩ ⟨b, us, rfl, hb, hv'⟩ hQ
  have hsz : vs.toArray.size = us.toArray.size := by rw [List.size_toArray, List.size_toArray, hv.length, hv'.length, he.length]
  obtain ⟨⟨cls, dd, data, sl⟩, ho, hc, n, hd⟩ := id hl
  obtain ⟨⟨cls2, dd2, data2, sl2⟩, ho2, hc2, n2, hd2⟩ := id hb
  simp only at hc hd hc2 hd2
  subst hc hd hc2 hd2
  refine cmp_ofNotEq (wpAny_richCompare_same_room (op := .NotEq) (T := "list") ⟨_, ho, rfl⟩ ⟨_, ho2, rfl⟩ PySem.F.slot_list_ne ?_ hu)
  refine wpAny_with_toks (n := 1) p (wpAny_call (codeAny_call_builtin PySem.F.slot_list_ne.plain PySem.F.entry_list_ne (PySem.F.slot_list_ne.check _ _ _ _ _ _ _ _ ⟨_, ho, rfl⟩ (PySem.F.args_list_ne_2 _ _) ?_)))
  have fin : ∀ (RR : Result → Shared → Prop), (∀ h' tk, Stays s.heap h' → RR (.ok (.ret (.bool false))) { s with heap := h', toks := tk }) →
      wpAny (model Challenge.rw_oz0058_01.row.prog w) A.in1 (Builtin.«list.__ne__» ⟨[.ref l, .ref b], []⟩) (fun fin s' => match fin with | .done f => RR (.ok f) s' | .again c' => c'.quiet = true ∧ codeAny (model Challenge.rw_oz0058_01.row.prog w) A c' RR s') (fun e s' => RR (.error e) s') s := by
    intro RR hRR
    obtain ⟨hp, g, d, tk, os⟩ := s
    have f3 := AutoSeq1.sub_list_list
    have hne : ¬ (vs.toArray.size != us.toArray.size) = true := by simp [hsz]
    wp_walk using AutoSeq1.wpAny_loadPart' ho, AutoSeq1.wpAny_loadPart' ho2
    exact ⟨plainId_quiet plain_eq_loop _, codeAny_builtin entry_eq_loop (by
      rw [Around.under_plainId plain_eq_loop _]
      exact ne_loopE l b sR sR' he vs us _ 0 rfl _ RR W ho ho2 hv hv' hRR)⟩
  refine fin (fun r s' => match r with | .ok (.ret v) => 1 ≤ s'.toks → v ≠ .notImplemented ∧ Q v s' | .ok _ => False | .error e => 1 ≤ s'.toks → E e s') fun h' tk k => ?_
  exact fun q => ⟨(fun x => nomatch x), hQ _ h' tk k q rfl⟩
end
end Mine

open PySem PySem.W PySem.Calls PyProof.Rows
set_option Elab.async false
set_option maxRecDepth 100000
set_option maxHeartbeats 1000000
namespace Mine
theorem fill4_ (w : World) (h : Heap) : (lay01.heap_1 w.params).In h → Challenge.rw_oz0058_01.row.prog = Challenge.rw_oz0058_01.row.prog := by
  k_fill
  intros; rfl
local macro_rules | `(tactic| walk_at "stab") => `(tactic| first | exact sF | exact sI | exact sB | exact sN | exact sR | assumption | (refine sL ?_; walk_at "stabl"))
local macro_rules | `(tactic| walk_at "stabl") => `(tactic| first | assumption | exact True.intro | (refine And.intro ?_ ?_; (walk_at "stab"); (walk_at "stabl")))
local macro_rules | `(tactic| walk_at "op") => `(tactic| first
  | with_reducible exact o_addff | with_reducible exact o_subff | with_reducible exact o_mulff | with_reducible exact o_negf
  | with_reducible exact o_addii | with_reducible exact o_subii | with_reducible exact o_negi
  | with_reducible exact o_eqff | with_reducible exact o_eqfi | with_reducible exact o_nebb | with_reducible exact o_eqbb | with_reducible exact o_nefi
  | with_reducible exact o_addnf (by assumption) | with_reducible exact o_subnf (by assumption)
  | with_reducible exact o_negn (by assumption) | with_reducible exact o_posn (by assumption)
  | with_reducible exact o_addfn (by assumption) | with_reducible exact o_subfn (by assumption)
  | with_reducible exact o_eqnn (by assumption) | with_reducible exact o_nenn (by assumption)
  | with_reducible exact o_mean (by assumption) | with_reducible exact o_stdev (by assumption)
  | (with_reducible refine o_mulfi ?_; decide)
  | (with_reducible refine o_divff ?_; walk_at "side")
  | (with_reducible refine o_addni (by assumption) ?_; decide) | (with_reducible refine o_subni (by assumption) ?_; decide)
  | (with_reducible refine o_addin (by assumption) ?_; decide) | (with_reducible refine o_subin (by assumption) ?_; decide)
  | (with_reducible refine o_addnn (by assumption) ?_; walk_at "side") | (with_reducible refine o_subnn (by assumption) ?_; walk_at "side")
  | (with_reducible refine o_mulnf (by assumption) ?_; walk_at "side") | (with_reducible refine o_mulfn (by assumption) ?_; walk_at "side")
  | (with_reducible refine' o_mulni (by assumption) ?h8 ?_; (case h8 => decide); walk_at "side") | (with_reducible refine' o_mulin (by assumption) ?h8 ?_; (case h8 => decide); walk_at "side")
  | (with_reducible refine' o_divnf (by assumption) ?z1 ?z2 ?z3; (case z1 => walk_at "side"); (case z2 => walk_at "side"); (case z3 => walk_at "side"))
  | (with_reducible refine' o_divni (by assumption) ?h8 ?hz ?z2 ?z3; (case h8 => decide); (case hz => decide); (case z2 => walk_at "side"); (case z3 => walk_at "side"))
  | walk_at "op2")
local macro_rules | `(tactic| walk_at "ev") => `(tactic| first
  | with_reducible exact ev_int | with_reducible exact ev_flt
  | ((with_reducible show Ev _ _ _ _ (Expr.Name _ _) _); exact ev_name (by assumption) (by assumption) rfl (by walk_at "stab") rfl)
  | ((with_reducible refine' ev_un (by assumption) ?e ?o); (case e => walk_at "ev"); (case o => walk_at "op"))
  | ((with_reducible refine' ev_bin (by assumption) ?l ?r ?sa ?o); (case l => walk_at "ev"); (case r => walk_at "ev"); (case sa => walk_at "stab"); (case o => walk_at "op"))
  | ((with_reducible refine' ev_cmp (by assumption) ?l ?r ?sa ?o ?hb); (case l => walk_at "ev"); (case r => walk_at "ev"); (case sa => walk_at "stab"); (case o => walk_at "op"); (case hb => rfl))
  | ((with_reducible refine' ev_attr (by assumption) ?e ?o ?he); (case e => walk_at "ev"); (case o => walk_at "op"); (case he => rfl))
  | ((with_reducible refine' ev_list ?l ?s ?z); (case l => walk_at "evl"); (case s => walk_at "stabl"); (case z => (simp only [List.length_cons, List.length_nil]; decide)))
  | ((with_reducible refine' ev_and ?a ?b); (case a => walk_at "ev"); (case b => (intro _; walk_at "ev")))
  | walk_at "ev2")
local macro_rules | `(tactic| walk_at "evl") => `(tactic| first
  | with_reducible exact evl_nil
  | ((with_reducible refine' evl_cons ?a ?s ?b ?he); (case a => walk_at "ev"); (case s => walk_at "stab"); (case b => walk_at "evl"); (case he => rfl)))
local macro_rules | `(tactic| walk_at "evt") => `(tactic| first
  | ((with_reducible refine' evt_cmp (by assumption) ?l ?r ?sa ?o ?hb); (case l => walk_at "ev"); (case r => walk_at "ev"); (case sa => walk_at "stab"); (case o => walk_at "op"); (case hb => rfl))
  | walk_at "evt2")

section
variable {w : World} {A : Around} {env : Env} {H : Heap} {n k : Int}
theorem o_powii (h0 : 0 ≤ k) (h1 : k ≤ 1000000) : Op2 w A (binaryOp .Pow) (IsI 2) (IsI k) (IsI (2 ^ k.toNat)) := by
  rintro s _ _ Q E W p ⟨t, rfl⟩ ⟨u, rfl⟩ h; exact pow_int_small h0 h1 (by decide) (h _ s.heap _ (Stays.refl _) (Nat.succ_pos _) ⟨_, rfl⟩)
theorem o_mulii (hm : IntMulOk n k) : Op2 w A (binaryOp .Mult) (IsI n) (IsI k) (IsI (n * k)) := by
  rintro s _ _ Q E W p ⟨t, rfl⟩ ⟨u, rfl⟩ h; exact mul_int (hm := hm) (h _ s.heap _ (Stays.refl _) (Nat.succ_pos _) ⟨_, rfl⟩)
theorem o_modii (hk : k ≠ 0) : Op2 w A (binaryOp .Mod) (IsI n) (IsI k) (IsI (n.fmod k)) := by
  rintro s _ _ Q E W p ⟨t, rfl⟩ ⟨u, rfl⟩ h; exact mod_int' hk (h _ s.heap _ (Stays.refl _) (Nat.succ_pos _) ⟨_, rfl⟩)
abbrev quo (n k : Int) : UInt64 := Float64.ofFrac (decide (n < 0) != decide (k < 0)) n.natAbs k.natAbs
theorem o_divii (hk : k ≠ 0) (hi : Float64.isInf (quo n k) = false) : Op2 w A (binaryOp .Div) (IsI n) (IsI k) (IsF (quo n k)) := by
  rintro s _ _ Q E W p ⟨t, rfl⟩ ⟨u, rfl⟩ h; exact AutoIntOps.truediv_2 (by simpa using hk) (by rw [show Float64.isInf _ = _ from hi]; decide) (h _ s.heap _ (Stays.refl _) (Nat.succ_pos _) ⟨_, rfl, Nat.ne_of_gt p⟩)
/-- a < b < c over ints -/
theorem evt_chain {a b c : Expr} {pos : Pos} {i j k : Int} (ha : Ev w A env H a (IsI i)) (hb : Ev w A env H b (IsI j)) (hc : Ev w A env H c (IsI k)) (hl : lastMarks [CmpOp.Lt, CmpOp.Lt] [b, c] = false) :
    EvT w A env H (.Compare a [.Lt, .Lt] [b, c] pos) (decide (i < j) && decide (j < k)) := by
  intro s Q E kk p hQ
  refine isTrue_chain (ha s _ _ kk p fun v1 h1 tk1 k1 p1 r1 => ?_) hl
  obtain ⟨t1, rfl⟩ := r1
  refine test_link (hb _ _ _ (kk.trans k1) p1 fun v2 h2 tk2 k2 p2 r2 => ?_)
  obtain ⟨t2, rfl⟩ := r2
  refine lt_int (wpAny_truthy_bool ?_)
  by_cases hij : i < j
  · rw [if_pos (by simpa using hij)]
    refine test_last (hc _ _ _ (kk.trans (k1.trans k2)) p2 fun v3 h3 tk3 k3 p3 r3 => ?_)
    obtain ⟨t3, rfl⟩ := r3
    refine lt_int (wpAny_truthy_bool ?_)
    have := hQ h3 tk3 (k1.trans (k2.trans k3)) p3
    rw [decide_eq_true hij, Bool.true_and] at this
    exact this
  · rw [if_neg (by simpa using hij)]
    have := hQ h2 tk2 (k1.trans k2) p2
    rw [decide_eq_false hij, Bool.false_and] at this
    exact this
end
end Mine

open PySem PySem.W PySem.Calls PyProof.Rows
set_option Elab.async false
set_option maxRecDepth 100000
set_option maxHeartbeats 1000000
namespace Mine
theorem fill5_ (w : World) (h : Heap) : (lay01.heap_1 w.params).In h → Challenge.rw_oz0058_01.row.prog = Challenge.rw_oz0058_01.row.prog := by
  k_fill
  intros; rfl
local macro_rules | `(tactic| walk_at "stab") => `(tactic| first | exact sF | exact sI | exact sB | exact sN | exact sR | assumption | (refine sL ?_; walk_at "stabl"))
local macro_rules | `(tactic| walk_at "stabl") => `(tactic| first | assumption | exact True.intro | (refine And.intro ?_ ?_; (walk_at "stab"); (walk_at "stabl")))
local macro_rules | `(tactic| walk_at "op") => `(tactic| first
  | with_reducible exact o_addff | with_reducible exact o_subff | with_reducible exact o_mulff | with_reducible exact o_negf
  | with_reducible exact o_addii | with_reducible exact o_subii | with_reducible exact o_negi
  | with_reducible exact o_eqff | with_reducible exact o_eqfi | with_reducible exact o_nebb | with_reducible exact o_eqbb | with_reducible exact o_nefi
  | with_reducible exact o_addnf (by assumption) | with_reducible exact o_subnf (by assumption)
  | with_reducible exact o_negn (by assumption) | with_reducible exact o_posn (by assumption)
  | with_reducible exact o_addfn (by assumption) | with_reducible exact o_subfn (by assumption)
  | with_reducible exact o_eqnn (by assumption) | with_reducible exact o_nenn (by assumption)
  | with_reducible exact o_mean (by assumption) | with_reducible exact o_stdev (by assumption)
  | (with_reducible refine o_mulfi ?_; decide)
  | (with_reducible refine o_divff ?_; walk_at "side")
  | (with_reducible refine o_addni (by assumption) ?_; decide) | (with_reducible refine o_subni (by assumption) ?_; decide)
  | (with_reducible refine o_addin (by assumption) ?_; decide) | (with_reducible refine o_subin (by assumption) ?_; decide)
  | (with_reducible refine o_addnn (by assumption) ?_; walk_at "side") | (with_reducible refine o_subnn (by assumption) ?_; walk_at "side")
  | (with_reducible refine o_mulnf (by assumption) ?_; walk_at "side") | (with_reducible refine o_mulfn (by assumption) ?_; walk_at "side")
  | (with_reducible refine' o_mulni (by assumption) ?h8 ?_; (case h8 => decide); walk_at "side") | (with_reducible refine' o_mulin (by assumption) ?h8 ?_; (case h8 => decide); walk_at "side")
  | (with_reducible refine' o_divnf (by assumption) ?z1 ?z2 ?z3; (case z1 => walk_at "side"); (case z2 => walk_at "side"); (case z3 => walk_at "side"))
  | (with_reducible refine' o_divni (by assumption) ?h8 ?hz ?z2 ?z3; (case h8 => decide); (case hz => decide); (case z2 => walk_at "side"); (case z3 => walk_at "side"))
  | walk_at "op2")
local macro_rules | `(tactic| walk_at "ev") => `(tactic| first
  | with_reducible exact ev_int | with_reducible exact ev_flt
  | ((with_reducible show Ev _ _ _ _ (Expr.Name _ _) _); exact ev_name (by assumption) (by assumption) rfl (by walk_at "stab") rfl)
  | ((with_reducible refine' ev_un (by assumption) ?e ?o); (case e => walk_at "ev"); (case o => walk_at "op"))
  | ((with_reducible refine' ev_bin (by assumption) ?l ?r ?sa ?o); (case l => walk_at "ev"); (case r => walk_at "ev"); (case sa => walk_at "stab"); (case o => walk_at "op"))
  | ((with_reducible refine' ev_cmp (by assumption) ?l ?r ?sa ?o ?hb); (case l => walk_at "ev"); (case r => walk_at "ev"); (case sa => walk_at "stab"); (case o => walk_at "op"); (case hb => rfl))
  | ((with_reducible refine' ev_attr (by assumption) ?e ?o ?he); (case e => walk_at "ev"); (case o => walk_at "op"); (case he => rfl))
  | ((with_reducible refine' ev_list ?l ?s ?z); (case l => walk_at "evl"); (case s => walk_at "stabl"); (case z => (simp only [List.length_cons, List.length_nil]; decide)))
  | ((with_reducible refine' ev_and ?a ?b); (case a => walk_at "ev"); (case b => (intro _; walk_at "ev")))
  | walk_at "ev2")
local macro_rules | `(tactic| walk_at "evl") => `(tactic| first
  | with_reducible exact evl_nil
  | ((with_reducible refine' evl_cons ?a ?s ?b ?he); (case a => walk_at "ev"); (case s => walk_at "stab"); (case b => walk_at "evl"); (case he => rfl)))
local macro_rules | `(tactic| walk_at "evt") => `(tactic| first
  | ((with_reducible refine' evt_cmp (by assumption) ?l ?r ?sa ?o ?hb); (case l => walk_at "ev"); (case r => walk_at "ev"); (case sa => walk_at "stab"); (case o => walk_at "op"); (case hb => rfl))
  | walk_at "evt2")
abbrev p53 : Int := (2 : Int) ^ (53 : Int).toNat
abbrev p1074 : Int := (2 : Int) ^ (1074 : Int).toNat
def whole (x : Int) : Int := if (decide (-p53 < x) && decide (x < p53)) = true then x else x.fmod p53
def lawp (x y : Int) : Int := whole x * (2 : Int) ^ ((y + 1074).fmod 2046).toNat
def lf (x y : Int) : UInt64 := quo (lawp x y) p1074

theorem p53_eq : p53 = 9007199254740992 := by decide
theorem whole_lt (x : Int) : (whole x).natAbs < 9007199254740992 := by
  unfold whole
  rw [p53_eq]
  split
  · rename_i h
    simp only [Bool.and_eq_true, decide_eq_true_eq] at h
    omega
  · have h1 := Int.fmod_nonneg_of_pos x (show (0 : Int) < 9007199254740992 by decide)
    have h2 := Int.fmod_lt_of_pos x (show (0 : Int) < 9007199254740992 by decide)
    omega
theorem expo (y : Int) : 0 ≤ (y + 1074).fmod 2046 ∧ (y + 1074).fmod 2046 < 2046 :=
  ⟨Int.fmod_nonneg_of_pos _ (by decide), Int.fmod_lt_of_pos _ (by decide)⟩
theorem p1074_ne : p1074 ≠ 0 := by decide +kernel
theorem lf_fin (x y : Int) : Float64.isInf (lf x y) = false := by
  unfold lf quo
  have hd : p1074.natAbs = 2 ^ 1074 := by decide +kernel
  rw [hd]
  refine Flt.notInf_ofFrac (Nat.two_pow_pos _) ?_
  have hw := whole_lt x
  have he := expo y
  have h1 : (lawp x y).natAbs = (whole x).natAbs * 2 ^ ((y + 1074).fmod 2046).toNat := by
    unfold lawp
    rw [Int.natAbs_mul, Int.natAbs_pow]; rfl
  rw [h1]
  have h2 : 2 ^ ((y + 1074).fmod 2046).toNat ≤ 2 ^ 2045 := Nat.pow_le_pow_right (by decide) (by omega)
  have h3 : (whole x).natAbs * 2 ^ ((y + 1074).fmod 2046).toNat ≤ 9007199254740991 * 2 ^ 2045 := Nat.mul_le_mul (by omega) h2
  generalize (whole x).natAbs * 2 ^ ((y + 1074).fmod 2046).toNat = N at h3
  have h4 : 2 * (N * 2 ^ 1074) ≤ 2 * (9007199254740991 * 2 ^ 2045 * 2 ^ 1074) := Nat.mul_le_mul_left _ (Nat.mul_le_mul_right _ h3)
  refine Nat.lt_of_le_of_lt h4 ?_
  decide +kernel
theorem mulok (x y : Int) : IntMulOk (whole x) ((2 : Int) ^ ((y + 1074).fmod 2046).toNat) :=
  IntMulOk.of_left (intBits_le (Nat.lt_trans (whole_lt x) (by decide)))

section
variable {w : World} {A : Around}
theorem o_lawf {x y : Int} (Rm0 : Rm A) : OpN w A (.ref 281) [IsI x, IsI y] (IsF (lf x y)) := by
  intro s vs Q E W p hv h
  match vs, hv with
  | [_, _], ⟨⟨t, rfl⟩, ⟨u, rfl⟩, _⟩ =>
  have X₀ := W.inK
  obtain ⟨h₀, L, m, l, me, mg, mb, F, X, T⟩ := W
  have T₀ := T.keeps F.keep
  have hdep := Rm0.depth
  refine wpAny_call ?_
  refine' enterD (g := s.heap) (news := []) (od := none) X₀ T₀ (Stays.refl _) (Nat.le_refl _) (fun p hp => nomatch hp) ?k6 ?k7 ?k8 ?k9 ?kB ?_ ?c2 ?c3 ?c4 ?c5
  (case k6 => k_is); (case k7 => k_is); (case k8 => omega); (case k9 => first | exact BindsTo.of_eq rfl | exact binds_K X₀ rfl (by k_is) rfl rfl rfl); (case c5 => decide); (case kB => exact locs rfl); (case c2 => exact rfl); (case c3 => exact rfl); (case c4 => exact rfl)
  intro h' L' F' N' X' T'
  dsimp only
  generalize henv : envOf _ _ L' 281 _ = env'
  have EF : EnvF env' := by subst henv; exact ⟨rfl, rfl, rfl⟩
  have C : Cx w env' s.heap := ⟨X', ⟨_, _, _, _, T'⟩, EF, fun _ _ e => (by subst henv; cases e), fun _ _ _ e => (by subst henv; cases e)⟩
  have S : Sto env' s.heap [("x", IsI x), ("y", IsI y)] h' := by
    subst henv
    refine ⟨⟨_, F', "x", _, rfl⟩, fun z R e => ?_, fun _ _ e => by cases e⟩
    rw [List.lookup_cons] at e
    split at e
    · rename_i hz
      have hz' : z = "x" := by simpa using hz
      subst hz'; cases e
      exact .inl ⟨rfl, _, _, F'.ns, rfl, ⟨_, rfl⟩⟩
    · rw [List.lookup_cons] at e
      split at e
      · rename_i hz
        have hz' : z = "y" := by simpa using hz
        subst hz'; cases e
        exact .inl ⟨rfl, _, _, F'.ns, rfl, ⟨_, rfl⟩⟩
      · cases e
  have sΓ : StabΓ [("x", IsI x), ("y", IsI y)] := (StabΓ.nil.cons sI).cons sI
  refine wpAny_execs_cons (wpAny_noRaise (tr_assign (R := IsI (whole x)) C sΓ sI ?e1 ?e2 ?e3 _ _ S (Nat.succ_pos _) fun h2 tk2 k2 p2 S2 => ?_))
  case e2 => subst henv; exact fun _ _ => .inl rfl
  case e3 => subst henv; rfl
  case e1 =>
    intro H WH V
    refine ev_ite (c := decide (-p53 < x) && decide (x < p53)) (evt_chain (i := -p53) (j := x) (k := p53) ?a ?b ?c rfl) (fun hc => ?x1) (fun hc => ?x2)
    case a => exact ev_un WH (ev_bin WH ev_int ev_int sI (o_powii (by decide) (by decide))) o_negi
    case b => exact ev_name EF V rfl sI rfl
    case c => exact ev_bin WH ev_int ev_int sI (o_powii (by decide) (by decide))
    case x1 =>
      have : whole x = x := by unfold whole; rw [if_pos hc]
      rw [this]
      exact ev_name EF V rfl sI rfl
    case x2 =>
      have : whole x = x.fmod p53 := by unfold whole; rw [if_neg (by rw [hc]; decide)]
      rw [this]
      exact ev_bin WH (ev_name EF V rfl sI rfl) (ev_bin WH ev_int ev_int sI (o_powii (by decide) (by decide))) sI (o_modii (by decide))
  dsimp only
  have WH := S2.wd C
  have V := S2.vars
  have e0 := expo y
  have fin : Float64.isInf (quo (whole x * (2 : Int) ^ ((y + 1074).fmod 2046).toNat) ((2 : Int) ^ (1074 : Int).toNat)) = false := by
    have := lf_fin x y
    unfold lf lawp at this
    exact this
  generalize hE : (y + 1074).fmod 2046 = ex at *
  generalize hT : (2 : Int) ^ (1074 : Int).toNat = tt at *
  have z2 : tt ≠ 0 := hT ▸ p1074_ne
  have mo : IntMulOk (whole x) ((2 : Int) ^ ex.toNat) := hE ▸ mulok x y
  have oT : Op2 w (A.deeper env') (binaryOp .Pow) (IsI 2) (IsI 1074) (IsI tt) := hT ▸ o_powii (by decide) (by decide)
  have oE : Op2 w (A.deeper env') (binaryOp .Mod) (IsI (y + 1074)) (IsI 2046) (IsI ex) := hE ▸ o_modii (by decide)
  refine wpAny_execs_cons (wpAny_Return_some ((ev_bin (R' := IsF (quo (whole x * (2 : Int) ^ ex.toNat) tt)) (Ra := IsI (whole x * (2 : Int) ^ ex.toNat)) (Rb := IsI tt) WH ?l ?r sI (o_divii z2 fin)) _ _ _ (Stays.refl _) p2 fun v h3 tk3 k3 p3 r3 => ?_))
  case r => exact ev_bin WH ev_int ev_int sI oT
  case l =>
    refine ev_bin (Ra := IsI (whole x)) (Rb := IsI ((2 : Int) ^ ex.toNat)) WH (ev_name EF V rfl sI rfl) ?_ sI (o_mulii mo)
    refine ev_bin (Ra := IsI 2) (Rb := IsI ex) WH ev_int ?_ sI (o_powii e0.1 (by omega))
    refine ev_bin (Ra := IsI (y + 1074)) (Rb := IsI 2046) WH ?_ ev_int sI oE
    exact ev_bin (Ra := IsI y) (Rb := IsI 1074) WH (ev_name EF V rfl sI rfl) ev_int sI o_addii
  obtain ⟨_, F2, _⟩ := S2.fr
  refine h v h3 tk3 (fun b o e => k3 _ _ (F2.keep b o e)) p3 ?_
  unfold lf lawp
  rw [hE]
  show IsF (quo (whole x * (2 : Int) ^ ex.toNat) ((2 : Int) ^ (1074 : Int).toNat)) h3 v
  rw [hT]
  exact r3
end
end Mine

open PySem PySem.W PySem.Calls PyProof.Rows
set_option Elab.async false
set_option maxRecDepth 100000
set_option maxHeartbeats 2000000
namespace Mine
theorem fill6_ (w : World) (h : Heap) : (lay01.heap_1 w.params).In h → Challenge.rw_oz0058_01.row.prog = Challenge.rw_oz0058_01.row.prog := by
  k_fill
  intros; rfl
local macro_rules | `(tactic| walk_at "getAttr ref") => `(tactic| ((with_reducible show wpAny _ _ (getAttr _ (PySem.Str.ofString "stdev") _) _ _ _); (rename Fr _ _ _ _ => kF); (rename News _ _ _ _ => kN); (refine' c_stdev ?W ?hx ?r ?_); (case W => exact ⟨_, _, _, _, _, _, _, kF, by with_reducible assumption, by with_reducible assumption⟩); (case hx => exact ⟨⟨_, _, _, (kN _ (.head _)).1, (kN _ (.tail _ (.head _))).1, by assumption, by assumption⟩, by assumption⟩); (case r => k_room); intro h' t' tk' S' z'; (have F2' := Fr.grow kF S'); (have N2' := News.grow kN S'); clear kF kN))
theorem code_deep {prog : Program} {w : World} {A₀ A : Around} {s : Shared} {base h₀ : Heap} {L : Addr} {m : Str → Option Value} {env : Env} {news : List (Addr × Obj)} {K : Frag} {p : Program} {loose : List Str} {mean : ExcName → Option Value} {mg mb : Str → Option Value}
    {R : Result → Shared → Prop} {name qual : Str} {params : Arguments} {body : List Stmt} {scope : Scope} {dV kV doc pm cdv ct oc : Value} {an od : Option Addr} {osl : Array (Option Value)} {f : Addr} {args : Args} {binds : List (Str × Value)}
    (B : Below A₀ base [] h₀) (F : Fr h₀ L s.heap m) (X₀ : K.In h₀) (N : News h₀ L s.heap news) (T : Top p loose mean mg mb h₀) (hA : A.frames = some [env]) (hf : env.frame = some L) (hke : env.scope.kind = .function)
    (ho : K.lookup f = some ⟨oc, od, .func (fnOf name qual params body scope dV kV doc pm an cdv ct), osl⟩) (hcd : codeIn K cdv qual = true) (hroom : A.depth < recursionLimit)
    (hbind : BindsTo s (fnOf name qual params body scope dV kV doc pm an cdv ct) args binds) (hloc : ∀ y ∈ binds, scope.names.lookup y.1 = some .local)
    (h : ∀ g L' h₁, Fr h₀ L g m → Fr g L' h₁ (fun y => binds.reverse.lookup y) → News g L' h₁ news → Below A base [env] g → K.In g → Top p loose mean mg mb g → KtsDicts ([env].filterMap (·.frame)) g →
      wpAny (model prog w) (A.deeper (envOf qual scope L' f cdv)) (execs body (envOf qual scope L' f cdv))
        (fun fl s' => LeaveS0 ([env].filterMap (·.frame)) h₀ L m g R (match fl with | .ret v => v | _ => .none) s')
        (fun e s' => wpAny (model prog w) (A.deeper (envOf qual scope L' f cdv)) (leaving (envOf qual scope L' f cdv) e) (fun _ s'' => R (.error e) s'') (fun e' s'' => R (.error e') s'') s')
        { s with heap := h₁, toks := s.toks + binds.length })
    (hco : scope.isCoroutine = false) (hgen : scope.isGenerator = false) (hk : scope.kind = .function)
    (hcell : ∀ x ∈ scope.names, x.2 ≠ .cell) : codeAny (model prog w) A (.call (.ref f) args) R s := by
  obtain ⟨FG, BG, st, -⟩ := groundX (R := R) B F N hA hf hke
  refine codeAny_call_def (fd := fnOf name qual params body scope dV kV doc pm an cdv ct) (body := body) (binds := binds) hroom ((X₀.keeps F.keep) _ _ ho) rfl (T.nolimit.keeps F.keep) (codeRec_of (X₀.keeps F.keep) hcd) rfl hbind hcell hloc (fun h₁ hns hk₁ => ?_) hco hgen hk
  have none_L : h₀.get? L = none := kts_self FG
  have inF : ∀ b, b ∈ ([env].filterMap (·.frame)) → b = L := fun b hb => by
    obtain ⟨e', he, hf'⟩ := List.mem_filterMap.mp hb
    rw [List.mem_singleton.mp he, hf] at hf'
    exact (Option.some.inj hf').symm
  obtain ⟨oL, es, ep, hLg, hLd, hLk, hLf⟩ := FG.ns
  refine wpAny_mono (h _ s.heap.objs.size h₁ FG ⟨hns, fun b o e => hk₁ b o (of_hideAll _ e), Nat.le_of_eq (hideAll_size _ _)⟩
    (fun p hp => ⟨hk₁ _ _ (N p hp).1, Nat.ne_of_lt (Heap.lt_size (N p hp).1), hideAll_none _ (List.mem_map_of_mem hp)⟩) BG (X₀.keeps st) (T.keeps st) (fun b hb => ⟨oL, es, ep, inF b hb ▸ hLg, hLd⟩)) (fun fl s' hl => ?_) fun _ _ y => y
  obtain ⟨g', L', m', news', T', F', N', k⟩ := hl
  obtain ⟨sl, hs⟩ := T'.up hLg
  have hh : s'.heap.get? L = some { oL with slots := sl } := F'.keep _ _ hs
  refine k ⟨⟨_, es, ep, hh, hLd, hLk, hLf⟩, fun b o e => F'.keep b o (T'.other b o (st b o e) fun q => ?_), FG.above⟩ fun p hp => ⟨(N' p hp).1, fun q => ?_, ?_⟩
  · rw [inF b q, none_L] at e; cases e
  · have z := (N' p hp).2.2; rw [q, hs] at z; cases z
  · cases q : h₀.get? p.1 with
    | none => rfl
    | some o =>
      obtain ⟨sl', hs'⟩ := T'.up (st _ _ q)
      have z := (N' p hp).2.2
      rw [hs'] at z; cases z
theorem w_refused {w : World} {h₀ : Heap} {L a : Addr} {cn : Str} {cs : Scope} {ccd : Value} {cl : List (Str × Addr)} {s : Shared} {m : Str → Option Value} {rest : List (Addr × Obj)} {x dx : Addr} {mu sg : UInt64} {t1 t2 : Tok} {loose : List Str} {mean : ExcName → Option Value} {mg mb : Str → Option Value} {Q : Value → Shared → Prop}
    (hk : cs.kind = .function) (B : Below callerA h₀ [] h₀) (F : Fr h₀ L s.heap m) (N : News h₀ L s.heap ((x, ndObj dx (.float mu t1) (.float sg t2)) :: (dx, dictOf [] 0) :: rest)) (X : (lay01.heap_1 w.params).In h₀) (T : Top view01 loose mean mg mb h₀)
    (hz : Float64.isZero sg = true) (z1 : t1 ≠ 0) (z2 : t2 ≠ 0) (hn : Nn sg)
    (hQ : ∀ h' tk, Fr h₀ L h' m → News h₀ L h' ((x, ndObj dx (.float mu t1) (.float sg t2)) :: (dx, dictOf [] 0) :: rest) → Q (.bool true) { s with heap := h', toks := tk }) :
    wpAny (model Challenge.rw_oz0058_01.row.prog w) (callerA.deeper (envX cn cs L a ccd cl)) (call (.ref 288) [.ref x] []) Q (fun _ _ => False) s := by
  refine wpAny_call ?_
  refine' code_deep (od := none) B F X N T ?kA ?kF ?kK ?k6 ?k7 ?k8 ?k9 ?kB ?_ ?c2 ?c3 ?c4 ?c5
  (case kA => exact rfl); (case kF => exact rfl); (case kK => exact hk); (case k6 => k_is); (case k7 => k_is); (case k8 => k_room); (case k9 => first | exact BindsTo.of_eq rfl | exact binds_K (by k_in) rfl (by k_is) rfl rfl rfl); (case c5 => decide); (case kB => exact locs rfl); (case c2 => exact rfl); (case c3 => exact rfl); (case c4 => exact rfl)
  intro g' L' h' FG' F' N' B' X' T' D'
  dsimp only
  try k_lift B'
  try k_fold
  iterate 40 (all_goals (first | (k_unfold; (try dsimp only)) | walk1 | (dsimp only; walk1) | (leave1; walk_say "STEP leave1"; try dsimp only) | skip))
  all_goals first | exact absurd hz (by assumption) | exact hQ _ _ (by assumption) (by assumption)
end Mine

open PySem
set_option Elab.async false
set_option maxRecDepth 100000
set_option maxHeartbeats 400000
namespace Mine
open PySem.Float64 (Right V dist pack infMag val decode decode_pack val_pack V_lt V_mono V_at V_zero sgn)

theorem v_inj {t u : Nat} (h : V t = V u) : t = u := by
  rcases Nat.lt_trichotomy t u with x | x | x
  · have := V_lt x; omega
  · exact x
  · have := V_lt x; omega
theorem v_max {t : Nat} (h : t < infMag) : V t ≤ (2 ^ 53 - 1) * 2 ^ 2045 := by
  have e : infMag - 1 = 2045 * 2 ^ 52 + (2 ^ 53 - 1) := by decide
  have h1 : V t ≤ V (infMag - 1) := V_mono (by omega)
  rw [e, V_at (by decide) (.inl (by decide))] at h1
  exact h1
theorem v_pos {t : Nat} (h : 0 < t) : 0 < V t := by have := V_lt h; rw [V_zero] at this; exact this
theorem no_over {t D : Nat} (hD : 0 < D) (h : t < infMag) : ¬ D * ((2 ^ 54 - 1) * 2 ^ 2045) ≤ 2 * (D * V t) := by
  intro hc
  have h1 := v_max h
  have hP : 0 < 2 ^ 2045 := Nat.two_pow_pos _
  generalize 2 ^ 2045 = P at *
  have h2 : D * ((2 ^ 54 - 1) * P) ≤ D * (2 * ((2 ^ 53 - 1) * P)) := by
    refine Nat.le_trans hc ?_
    rw [Nat.mul_left_comm]
    exact Nat.mul_le_mul_left _ (Nat.mul_le_mul_left _ h1)
  have h3 := Nat.le_of_mul_le_mul_left h2 hD
  omega
theorem right_exact {r : UInt64} {neg : Bool} {W D t : Nat} (hD : 0 < D) (h : Right r neg W D) (ht : t < infMag) (hW : W = D * V t) : r = pack neg t := by
  obtain ⟨u, rfl, hu, ho, hn⟩ := h
  have h1 : u ≠ infMag := fun e => no_over hD ht (by have := ho.mp e; rwa [hW] at this)
  have h2 := (hn (by omega) t).1
  rw [hW] at h2
  have h3 : dist (D * V t) (D * V t) = 0 := by unfold dist; omega
  rw [h3] at h2
  have h4 : D * V t = D * V u := by unfold dist at h2; omega
  have h5 : V t = V u := Nat.eq_of_mul_eq_mul_left hD h4
  rw [v_inj h5]
theorem dist_mul_l (m a b : Nat) : dist (m * a) (m * b) = m * dist a b := by
  unfold dist
  rw [Nat.mul_add, Nat.mul_sub, Nat.mul_sub]
/-- one right rounding alone -/
theorem right_one {r r' : UInt64} {neg : Bool} {W D W' D' : Nat} (hD : 0 < D) (hD' : 0 < D') (h : Right r neg W D) (h' : Right r' neg W' D') (hW : W * D' = W' * D) : r = r' := by
  obtain ⟨t, rfl, ht, ho, hn⟩ := h
  obtain ⟨u, rfl, hu, ho', hn'⟩ := h'
  have hov : (t = infMag) ↔ (u = infMag) := by
    rw [ho, ho']
    generalize (2 ^ 54 - 1) * 2 ^ 2045 = P
    have e1 : D * D' * P ≤ 2 * (W * D') ↔ D * P ≤ 2 * W := by
      have a1 : D * D' * P = D' * (D * P) := by ac_rfl
      have a2 : 2 * (W * D') = D' * (2 * W) := by ac_rfl
      rw [a1, a2]
      exact ⟨fun x => Nat.le_of_mul_le_mul_left x hD', fun x => Nat.mul_le_mul_left _ x⟩
    have e2 : D * D' * P ≤ 2 * (W' * D) ↔ D' * P ≤ 2 * W' := by
      have a1 : D * D' * P = D * (D' * P) := by ac_rfl
      have a2 : 2 * (W' * D) = D * (2 * W') := by ac_rfl
      rw [a1, a2]
      exact ⟨fun x => Nat.le_of_mul_le_mul_left x hD, fun x => Nat.mul_le_mul_left _ x⟩
    rw [← e1, ← e2, hW]
  by_cases hi : t = infMag
  · rw [hi, hov.mp hi]
  · have hj : u ≠ infMag := fun e => hi (hov.mpr e)
    by_cases hne : t = u
    · rw [hne]
    · exfalso
      have s1 : ∀ x, D' * dist W (D * V x) = dist (W * D') (D * D' * V x) := fun x => by
        rw [← dist_mul_l]; congr 1 <;> ac_rfl
      have s2 : ∀ x, D * dist W' (D' * V x) = dist (W * D') (D * D' * V x) := fun x => by
        rw [← dist_mul_l, hW]; congr 1 <;> ac_rfl
      have h1 : ∀ x, dist (W * D') (D * D' * V t) ≤ dist (W * D') (D * D' * V x) := fun x => by
        rw [← s1, ← s1]; exact Nat.mul_le_mul_left _ (hn (by omega) x).1
      have h2 : ∀ x, dist (W * D') (D * D' * V u) ≤ dist (W * D') (D * D' * V x) := fun x => by
        rw [← s2, ← s2]; exact Nat.mul_le_mul_left _ (hn' (by omega) x).1
      have he := Nat.le_antisymm (h1 u) (h2 t)
      have p1 : t % 2 = 0 := (hn (by omega) u).2 (fun e => hne (v_inj e.symm)) (by
        have := he; rw [← s1, ← s1] at this; exact Nat.eq_of_mul_eq_mul_left hD' this)
      have p2 : u % 2 = 0 := (hn' (by omega) t).2 (fun e => hne (v_inj e)) (by
        have := he.symm; rw [← s2, ← s2] at this; exact Nat.eq_of_mul_eq_mul_left hD this)
      have hP : 0 < D * D' := Nat.mul_pos hD hD'
      have key : ∀ a b, a < b → a % 2 = 0 → b % 2 = 0 → dist (W * D') (D * D' * V a) = dist (W * D') (D * D' * V b) → (∀ x, dist (W * D') (D * D' * V a) ≤ dist (W * D') (D * D' * V x)) → False := by
        intro a b hab ha hb heq hmin
        have hm := hmin (a + 1)
        have l1 : D * D' * V a < D * D' * V (a + 1) := Nat.mul_lt_mul_of_pos_left (V_lt (Nat.lt_succ_self _)) hP
        have l2 : D * D' * V (a + 1) < D * D' * V b := Nat.mul_lt_mul_of_pos_left (V_lt (by omega)) hP
        unfold dist at heq hm
        omega
      rcases Nat.lt_or_gt_of_ne hne with l | l
      · exact key t u l p1 p2 he h1
      · exact key u t l p2 p1 he.symm h2

/-- a finite float, by sign and size -/
theorem fin_of {a : Bool} {t : Nat} (h : t < infMag) : ∃ m e, decode (pack a t) = .fin a m e ∧ m * 2 ^ (e + 1074).toNat = V t := decode_pack a h
theorem isZero_pack {a : Bool} {t : Nat} (h : t < infMag) : Float64.isZero (pack a t) = decide (t = 0) := by
  obtain ⟨m, e, hd, hv⟩ := decode_pack a h
  unfold Float64.isZero
  rw [hd]
  by_cases ht : t = 0
  · subst ht
    rw [V_zero] at hv
    rcases Nat.mul_eq_zero.mp hv with h0 | h0
    · subst h0; rfl
    · exact absurd h0 (Nat.ne_of_gt (Nat.two_pow_pos _))
  · have := v_pos (Nat.pos_of_ne_zero ht)
    cases m with
    | zero => rw [Nat.zero_mul] at hv; omega
    | succ m => simp [ht]
theorem isNaN_pack' (a : Bool) {t : Nat} (h : t ≤ infMag) : Float64.isNaN (pack a t) = false := W.isNaN_pack a h
theorem pack_ext {x y : UInt64} (h : x.toNat = y.toNat) : x = y := UInt64.toNat_inj.mp h
theorem abs_pack {a : Bool} {t : Nat} (h : t ≤ infMag) : Float64.abs (pack a t) = pack false t := by
  unfold Float64.abs
  rw [isNaN_pack' a h, if_neg (by decide)]
  have hi : infMag = 2047 * 2 ^ 52 := rfl
  rw [Float64.pack_toNat a (by omega)]
  congr 1
  cases a <;> simp <;> omega
theorem neg_pack {a : Bool} {t : Nat} (h : t ≤ infMag) : Float64.neg (pack a t) = pack (!a) t := by
  have hi : infMag = 2047 * 2 ^ 52 := rfl
  have hN := Float64.neg_toNat (isNaN_pack' a h)
  have e1 := Float64.pack_toNat a (t := t) (by omega)
  have e2 := Float64.pack_toNat (!a) (t := t) (by omega)
  refine pack_ext ?_
  rw [e2]
  rw [e1] at hN
  have hlt := (Float64.neg (pack a t)).toNat_lt
  generalize (Float64.neg (pack a t)).toNat = N at *
  have i1 : (if true = true then 2 ^ 63 else 0) = 9223372036854775808 := rfl
  have i0 : (if false = true then 2 ^ 63 else 0) = 0 := rfl
  cases a
  · rw [i0] at hN
    have nt : (!false) = true := rfl
    rw [nt, i1]
    have q1 : (0 + t) / 2 ^ 63 = 0 := by omega
    rw [q1] at hN
    have q2 : N / 2 ^ 63 = 1 := by have := hN.2; simpa using this
    omega
  · rw [i1] at hN
    have nt : (!true) = false := rfl
    rw [nt, i0]
    have q1 : (9223372036854775808 + t) / 2 ^ 63 = 1 := by omega
    rw [q1] at hN
    have q2 : N / 2 ^ 63 ≠ 1 := by have := hN.2; simpa using this
    omega
theorem feq_pack {a b : Bool} {t u : Nat} (h : t < infMag) (h' : u < infMag) : (Float64.cmp (pack a t) (pack b u) == some Ordering.eq) = decide (sgn a (V t) = sgn b (V u)) := by
  obtain ⟨m, e, hd, hv⟩ := decode_pack a h
  obtain ⟨m', e', hd', hv'⟩ := decode_pack b h'
  rw [Float64.cmp_right hd hd', val_pack a h, val_pack b h']
  rcases Int.lt_trichotomy (sgn a (V t)) (sgn b (V u)) with x | x | x
  · rw [Int.compare_eq_lt.mpr x]; simp; omega
  · rw [x]; simp
  · rw [Int.compare_eq_gt.mpr x]; simp; omega
theorem feq_same {x : UInt64} (h : Float64.isNaN x = false) : (Float64.cmp x x == some Ordering.eq) = true := by
  unfold Float64.isNaN at h
  unfold Float64.cmp
  cases hd : decode x with
  | nan => rw [hd] at h; cases h
  | inf a => simp
  | fin a m e =>
    show (some (compare (Float64.align a m e a m e).1 (Float64.align a m e a m e).2.1) == some Ordering.eq) = true
    have : (Float64.align a m e a m e).1 = (Float64.align a m e a m e).2.1 := rfl
    rw [this]; simp
theorem nn_pack {t : Nat} (h : t ≤ infMag) : (Float64.cmp (pack false t) 0 == some .lt) = false := by
  rw [Flt.cmp_zero_r]
  rcases Nat.lt_or_eq_of_le h with x | x
  · obtain ⟨m, e, hd, hv⟩ := decode_pack false x
    rw [Float64.cmpInt_right hd, val_pack false x]
    have h0 : (0 : Int) * 2 ^ 1074 = 0 := Int.zero_mul _
    rw [h0]
    have h1 : sgn false (V t) = (V t : Int) := rfl
    rw [h1]
    rcases Nat.eq_zero_or_pos (V t) with z | z
    · rw [z]; rfl
    · rw [Int.compare_eq_gt.mpr (by omega)]; rfl
  · subst x; decide +kernel
theorem cmpInt_pack {a : Bool} {t : Nat} (h : t < infMag) : (Float64.cmpInt (pack a t) 0 == some .eq) = decide (t = 0) := by
  rw [← Flt.isZero_eq, isZero_pack h]

section
variable {a b : Bool} {t u : Nat}
theorem mul_pack (ht : t < infMag) (hu : u < infMag) : Right (Float64.mul (pack a t) (pack b u)) (a != b) (V t * V u) (2 ^ 1074) := by
  obtain ⟨m, e, hd, hv⟩ := decode_pack a ht
  obtain ⟨m', e', hd', hv'⟩ := decode_pack b hu
  have := Float64.mul_right hd hd'
  rwa [Float64.val_natAbs hd, Float64.val_natAbs hd', hv, hv'] at this
theorem div_pack (ht : t < infMag) (hu : u < infMag) (h0 : u ≠ 0) : Right (Float64.div (pack a t) (pack b u)) (a != b) (V t * 2 ^ 1074) (V u) := by
  obtain ⟨m, e, hd, hv⟩ := decode_pack a ht
  obtain ⟨m', e', hd', hv'⟩ := decode_pack b hu
  have hk : m' ≠ 0 := by
    rintro rfl
    rw [Nat.zero_mul] at hv'
    have := v_pos (Nat.pos_of_ne_zero h0)
    omega
  have := Float64.div_right hd hd' hk
  rwa [Float64.val_natAbs hd, Float64.val_natAbs hd', hv, hv'] at this
theorem add_pack (ht : t < infMag) (hu : u < infMag) : (sgn a (V t) + sgn b (V u) = 0 → Float64.add (pack a t) (pack b u) = pack (a && b) 0) ∧
    (sgn a (V t) + sgn b (V u) ≠ 0 → Right (Float64.add (pack a t) (pack b u)) (decide (sgn a (V t) + sgn b (V u) < 0)) (sgn a (V t) + sgn b (V u)).natAbs 1) := by
  obtain ⟨m, e, hd, hv⟩ := decode_pack a ht
  obtain ⟨m', e', hd', hv'⟩ := decode_pack b hu
  have := Float64.add_right hd hd'
  rwa [val_pack a ht, val_pack b hu] at this
theorem inf_pos : 0 < infMag := by decide
theorem mul_zero_l (hu : u < infMag) : Float64.mul (pack a 0) (pack b u) = pack (a != b) 0 :=
  right_exact (Nat.two_pow_pos _) (mul_pack inf_pos hu) inf_pos (by rw [V_zero, Nat.zero_mul, Nat.mul_zero])
theorem div_zero_l (hu : u < infMag) (h0 : u ≠ 0) : Float64.div (pack a 0) (pack b u) = pack (a != b) 0 :=
  right_exact (v_pos (Nat.pos_of_ne_zero h0)) (div_pack inf_pos hu h0) inf_pos (by rw [V_zero, Nat.zero_mul, Nat.mul_zero])
theorem v_one : V (1023 * 2 ^ 52) = 2 ^ 1074 := by
  have : (1023 : Nat) * 2 ^ 52 = 1022 * 2 ^ 52 + 2 ^ 52 := by decide
  rw [this, V_at (by decide) (.inl (by decide)), ← Nat.pow_add]
theorem one_lt : 1023 * 2 ^ 52 < infMag := by decide
theorem div_self (ht : t < infMag) (h0 : t ≠ 0) : Float64.div (pack a t) (pack b t) = pack (a != b) (1023 * 2 ^ 52) :=
  right_exact (v_pos (Nat.pos_of_ne_zero h0)) (div_pack ht ht h0) one_lt (by rw [v_one])
theorem mul_one_l (hu : u < infMag) : Float64.mul (pack false (1023 * 2 ^ 52)) (pack b u) = pack b u := by
  have := right_exact (Nat.two_pow_pos _) (mul_pack (a := false) (b := b) one_lt hu) hu (by rw [v_one])
  simpa using this
theorem sgn_zero (a : Bool) : sgn a 0 = 0 := by cases a <;> rfl
theorem sgn_nat (a : Bool) (n : Nat) : (sgn a n).natAbs = n := Float64.sgn_natAbs a n
theorem sgn_neg (a : Bool) {n : Nat} (h : 0 < n) : decide (sgn a n < 0) = a := by
  unfold sgn
  cases a
  · simp
  · simp; omega
theorem add_zero_l (hu : u < infMag) : Float64.add (pack a 0) (pack b u) = (if u = 0 then pack (a && b) 0 else pack b u) := by
  have h := add_pack (a := a) (b := b) inf_pos hu
  rw [V_zero, sgn_zero, Int.zero_add] at h
  split
  · rename_i e
    subst e
    rw [V_zero, sgn_zero] at h
    exact h.1 rfl
  · rename_i e
    have hv := v_pos (Nat.pos_of_ne_zero e)
    have hne : sgn b (V u) ≠ 0 := fun z => by have := sgn_nat b (V u); rw [z] at this; simp at this; omega
    have h2 := h.2 hne
    rw [sgn_neg b hv, sgn_nat] at h2
    exact right_exact (by decide) h2 hu (by rw [Nat.one_mul])
theorem sub_self (ht : t < infMag) : Float64.sub (pack a t) (pack a t) = pack false 0 := by
  unfold Float64.sub
  rw [neg_pack (Nat.le_of_lt ht)]
  have h := (add_pack (a := a) (b := !a) ht ht).1 (by unfold sgn; cases a <;> simp <;> omega)
  rw [h]
  cases a <;> rfl
theorem eight : Float64.ofInt 8 = pack false (1026 * 2 ^ 52) := by decide +kernel
theorem two : Float64.ofInt 2 = pack false (1024 * 2 ^ 52) := by decide +kernel
theorem v_eight : V (1026 * 2 ^ 52) = 2 ^ 1077 := by
  have : (1026 : Nat) * 2 ^ 52 = 1025 * 2 ^ 52 + 2 ^ 52 := by decide
  rw [this, V_at (by decide) (.inl (by decide)), ← Nat.pow_add]
theorem v_two : V (1024 * 2 ^ 52) = 2 ^ 1075 := by
  have : (1024 : Nat) * 2 ^ 52 = 1023 * 2 ^ 52 + 2 ^ 52 := by decide
  rw [this, V_at (by decide) (.inl (by decide)), ← Nat.pow_add]
theorem v_eighth : V (1020 * 2 ^ 52) = 2 ^ 1071 := by
  have : (1020 : Nat) * 2 ^ 52 = 1019 * 2 ^ 52 + 2 ^ 52 := by decide
  rw [this, V_at (by decide) (.inl (by decide)), ← Nat.pow_add]
theorem div_eight (ht : t < infMag) : Float64.div (pack a t) (pack false (1026 * 2 ^ 52)) = Float64.mul (pack a t) (pack false (1020 * 2 ^ 52)) := by
  refine right_one (Nat.two_pow_pos 1077) (Nat.two_pow_pos 1074) (v_eight ▸ div_pack ht (by decide) (by decide)) (mul_pack ht (by decide)) ?_
  rw [v_eighth, Nat.mul_assoc, Nat.mul_assoc, ← Nat.pow_add, ← Nat.pow_add]
theorem add_self (ht : t < infMag) : Float64.add (pack a t) (pack a t) = Float64.mul (pack a t) (pack false (1024 * 2 ^ 52)) := by
  have h := add_pack (a := a) (b := a) ht ht
  have hm := mul_pack (a := a) (b := false) (u := 1024 * 2 ^ 52) ht (by decide)
  have e1 : (a != false) = a := by cases a <;> rfl
  rw [e1, v_two] at hm
  by_cases e : t = 0
  · subst e
    rw [V_zero, sgn_zero] at h
    rw [h.1 rfl, Bool.and_self]
    exact (right_exact (Nat.two_pow_pos _) hm inf_pos (by rw [V_zero, Nat.zero_mul, Nat.mul_zero])).symm
  · have hv := v_pos (Nat.pos_of_ne_zero e)
    have e2 : sgn a (V t) + sgn a (V t) = sgn a (V t * 2) := by unfold sgn; cases a <;> simp <;> omega
    have h2v : 0 < V t * 2 := by omega
    rw [e2] at h
    have h2 := h.2 (fun z => by have := sgn_nat a (V t * 2); rw [z] at this; simp at this; omega)
    rw [sgn_neg a h2v, sgn_nat] at h2
    refine right_one (by decide) (Nat.two_pow_pos 1074) h2 hm ?_
    rw [Nat.mul_one, Nat.mul_assoc, ← Nat.pow_succ']
theorem right_nan {r : UInt64} {neg : Bool} {W D : Nat} (h : Right r neg W D) : Float64.isNaN r = false := by
  obtain ⟨t, rfl, ht, _⟩ := h; exact isNaN_pack' neg ht
theorem right_nn {r : UInt64} {W D : Nat} (h : Right r false W D) : (Float64.cmp r 0 == some .lt) = false := by
  obtain ⟨t, rfl, ht, _⟩ := h; exact nn_pack ht
end
end Mine

open PySem
set_option Elab.async false
set_option maxRecDepth 100000
set_option maxHeartbeats 400000
namespace Mine
open PySem.Float64 (Right V dist pack infMag val decode decode_pack val_pack V_lt V_mono V_at V_zero sgn)
abbrev fq (x y : UInt64) : Bool := Float64.cmp x y == some Ordering.eq
abbrev Nn' (f : UInt64) : Prop := (Float64.cmp f 0 == some Ordering.lt) = false
/-- finite -/
def Fin' (f : UInt64) : Prop := ∃ a t, t < infMag ∧ f = pack a t
/-- finite, its sign +  -/
def Pos' (f : UInt64) : Prop := ∃ t, t < infMag ∧ f = pack false t
theorem Pos'.fin {f} (h : Pos' f) : Fin' f := by obtain ⟨t, h, e⟩ := h; exact ⟨false, t, h, e⟩
theorem Pos'.abs {f} (h : Pos' f) : Float64.abs f = f := by obtain ⟨t, h, rfl⟩ := h; rw [abs_pack (Nat.le_of_lt h)]
theorem Fin'.abs {f} (h : Fin' f) : Pos' (Float64.abs f) := by obtain ⟨a, t, h, rfl⟩ := h; rw [abs_pack (Nat.le_of_lt h)]; exact ⟨t, h, rfl⟩
theorem Fin'.neg {f} (h : Fin' f) : Fin' (Float64.neg f) := by obtain ⟨a, t, h, rfl⟩ := h; rw [neg_pack (Nat.le_of_lt h)]; exact ⟨!a, t, h, rfl⟩
theorem Fin'.nan {f} (h : Fin' f) : Float64.isNaN f = false := by obtain ⟨a, t, h, rfl⟩ := h; exact isNaN_pack' a (Nat.le_of_lt h)
theorem Pos'.nn {f} (h : Pos' f) : Nn' f := by obtain ⟨t, h, rfl⟩ := h; exact nn_pack (Nat.le_of_lt h)
theorem abs_neg {f} (h : Fin' f) : Float64.abs (Float64.neg f) = Float64.abs f := by
  obtain ⟨a, t, h, rfl⟩ := h
  rw [neg_pack (Nat.le_of_lt h), abs_pack (Nat.le_of_lt h), abs_pack (Nat.le_of_lt h)]
theorem neg_neg {f} (h : Fin' f) : Float64.neg (Float64.neg f) = f := by
  obtain ⟨a, t, h, rfl⟩ := h
  rw [neg_pack (Nat.le_of_lt h), neg_pack (Nat.le_of_lt h), Bool.not_not]
theorem isZero_neg {f} (h : Fin' f) : Float64.isZero (Float64.neg f) = Float64.isZero f := by
  obtain ⟨a, t, h, rfl⟩ := h
  rw [neg_pack (Nat.le_of_lt h), isZero_pack h, isZero_pack h]
theorem isZero_abs {f} (h : Fin' f) : Float64.isZero (Float64.abs f) = Float64.isZero f := by
  obtain ⟨a, t, h, rfl⟩ := h
  rw [abs_pack (Nat.le_of_lt h), isZero_pack h, isZero_pack h]
theorem one_pack : (4607182418800017408 : UInt64) = pack false (1023 * 2 ^ 52) := by decide +kernel
theorem eighth_pack : (4593671619917905920 : UInt64) = pack false (1020 * 2 ^ 52) := by decide +kernel
theorem zero_pack : (0 : UInt64) = pack false 0 := by decide +kernel
theorem pos_one : Pos' 4607182418800017408 := ⟨_, one_lt, one_pack⟩
theorem pos_zero : Pos' 0 := ⟨_, inf_pos, zero_pack⟩
theorem pos_eighth : Pos' 4593671619917905920 := ⟨_, by decide, eighth_pack⟩
theorem pos_eight : Pos' (Float64.ofInt 8) := ⟨_, by decide, eight⟩
theorem pos_two : Pos' (Float64.ofInt 2) := ⟨_, by decide, two⟩
/-- the sign is plain: what two of these make by * is + -/
theorem mul_nn {f g} (h : Pos' f) (h' : Pos' g) : Nn' (Float64.mul f g) := by
  obtain ⟨t, h, rfl⟩ := h; obtain ⟨u, h', rfl⟩ := h'
  exact right_nn (mul_pack h h')
theorem div_nn {f g} (h : Pos' f) (h' : Pos' g) (hz : Float64.isZero g = false) : Nn' (Float64.div f g) := by
  obtain ⟨t, h, rfl⟩ := h; obtain ⟨u, h', rfl⟩ := h'
  exact right_nn (div_pack h h' (by rw [isZero_pack h'] at hz; simpa using hz))
theorem div_nan {f g} (h : Fin' f) (h' : Fin' g) (hz : Float64.isZero g = false) : Float64.isNaN (Float64.div f g) = false := by
  obtain ⟨a, t, h, rfl⟩ := h; obtain ⟨b, u, h', rfl⟩ := h'
  exact right_nan (div_pack h h' (by rw [isZero_pack h'] at hz; simpa using hz))
theorem mul_nan {f g} (h : Fin' f) (h' : Fin' g) : Float64.isNaN (Float64.mul f g) = false := by
  obtain ⟨a, t, h, rfl⟩ := h; obtain ⟨b, u, h', rfl⟩ := h'
  exact right_nan (mul_pack h h')
theorem eighth_eq {m} (hm : Fin' m) : Float64.div m (Float64.ofInt 8) = Float64.mul m 4593671619917905920 := by
  obtain ⟨a, t, h, rfl⟩ := hm
  rw [eight, eighth_pack, div_eight h]
theorem double_eq {m} (hm : Fin' m) : Float64.add m m = Float64.mul m (Float64.ofInt 2) := by
  obtain ⟨a, t, h, rfl⟩ := hm
  rw [two, add_self h]
theorem fq_refl {x} (h : Float64.isNaN x = false) : fq x x = true := feq_same h
theorem fq_of {x y} (e : x = y) (h : Float64.isNaN x = false) : fq x y = true := e ▸ feq_same h
theorem sub_zero {m} (hm : Fin' m) : Float64.sub m m = 0 := by
  obtain ⟨a, t, h, rfl⟩ := hm
  rw [sub_self h, zero_pack]
theorem div_one {s g} (hs : Pos' s) (hg : Pos' g) (e : s = g) (hz : Float64.isZero s = false) : Float64.div s g = 4607182418800017408 := by
  subst e
  obtain ⟨t, h, rfl⟩ := hs
  rw [isZero_pack h] at hz
  rw [div_self h (by simpa using hz), one_pack]
  rfl
/-- nought, of either sign -/
def Zr (f : UInt64) : Prop := ∃ a, f = pack a 0
theorem Zr.fin {f} (h : Zr f) : Fin' f := by obtain ⟨a, rfl⟩ := h; exact ⟨a, 0, inf_pos, rfl⟩
theorem zr_zero : Zr 0 := ⟨false, zero_pack⟩
theorem zr_of {f} (h : Fin' f) (hz : Float64.isZero f = true) : Zr f := by
  obtain ⟨a, t, h, rfl⟩ := h
  rw [isZero_pack h] at hz
  exact ⟨a, by rw [of_decide_eq_true hz]⟩
theorem zr_neg {f} (h : Zr f) : Zr (Float64.neg f) := by obtain ⟨a, rfl⟩ := h; rw [neg_pack (Nat.le_of_lt inf_pos)]; exact ⟨_, rfl⟩
theorem zr_mul {f g} (h : Zr f) (hg : Fin' g) : Zr (Float64.mul f g) := by
  obtain ⟨a, rfl⟩ := h; obtain ⟨b, u, hu, rfl⟩ := hg
  rw [mul_zero_l hu]; exact ⟨_, rfl⟩
theorem zr_div {f g} (h : Zr f) (hg : Fin' g) (hz : Float64.isZero g = false) : Zr (Float64.div f g) := by
  obtain ⟨a, rfl⟩ := h; obtain ⟨b, u, hu, rfl⟩ := hg
  rw [isZero_pack hu] at hz
  rw [div_zero_l hu (by simpa using hz)]; exact ⟨_, rfl⟩
theorem fq_zr {f g} (h : Zr f) (hg : Zr g) : fq f g = true := by
  obtain ⟨a, rfl⟩ := h; obtain ⟨b, rfl⟩ := hg
  unfold fq
  rw [feq_pack inf_pos inf_pos, V_zero, sgn_zero, sgn_zero]; rfl
theorem fq_zr_l {f g x} (h : Zr f) (hg : Zr g) (hx : Fin' x) : fq f x = fq g x := by
  obtain ⟨a, rfl⟩ := h; obtain ⟨b, rfl⟩ := hg; obtain ⟨d, u, hu, rfl⟩ := hx
  unfold fq
  rw [feq_pack inf_pos hu, feq_pack inf_pos hu, V_zero, sgn_zero, sgn_zero]
theorem fq_zr_int {f x} (h : Zr f) (hx : Fin' x) : fq f x = (Float64.cmpInt x 0 == some .eq) := by
  obtain ⟨a, rfl⟩ := h; obtain ⟨d, u, hu, rfl⟩ := hx
  unfold fq
  rw [feq_pack inf_pos hu, cmpInt_pack hu, V_zero, sgn_zero]
  apply decide_eq_decide.mpr
  constructor
  · intro e
    rcases Nat.eq_zero_or_pos u with z | z
    · exact z
    · have hv := v_pos z
      have := sgn_nat d (V u)
      rw [← e] at this
      simp at this
      omega
  · rintro rfl
    rw [V_zero, sgn_zero]
/-- nought added: no other number -/
theorem zr_add {z q} (h : Zr z) (hq : Fin' q) : (∃ a b, q = pack b 0 ∧ Float64.add z q = pack a 0) ∨ Float64.add z q = q := by
  obtain ⟨a, rfl⟩ := h; obtain ⟨b, u, hu, rfl⟩ := hq
  rw [add_zero_l hu]
  split
  · rename_i e; subst e; exact .inl ⟨_, _, rfl, rfl⟩
  · exact .inr rfl
theorem fq_add {z q c} (h : Zr z) (hq : Fin' q) (hc : Fin' c) : fq (Float64.add z q) c = fq q c := by
  rcases zr_add h hq with ⟨a, b, e, e'⟩ | e
  · rw [e', e]; exact fq_zr_l ⟨_, rfl⟩ ⟨_, rfl⟩ hc
  · rw [e]
theorem fq_add_self {z q} (h : Zr z) (hq : Fin' q) : fq (Float64.add z q) q = true := by
  rw [fq_add h hq hq]; exact fq_refl hq.nan
/-- nought + q, q without end or not -/
theorem fq_add_any {q} (hq : ∃ a t, t ≤ infMag ∧ q = pack a t) : fq q (Float64.add 0 q) = true := by
  obtain ⟨a, t, ht, rfl⟩ := hq
  rcases Nat.lt_or_eq_of_le ht with h | h
  · rcases zr_add zr_zero ⟨a, t, h, rfl⟩ with ⟨b, d, e, e'⟩ | e
    · rw [e', e]; exact fq_zr ⟨_, rfl⟩ ⟨_, rfl⟩
    · rw [e]; exact fq_refl (isNaN_pack' a ht)
  · subst h
    cases a <;> decide +kernel
theorem div_form {f g} (h : Fin' f) (h' : Fin' g) (hz : Float64.isZero g = false) : ∃ a t, t ≤ infMag ∧ Float64.div f g = pack a t := by
  obtain ⟨a, t, h, rfl⟩ := h; obtain ⟨b, u, h', rfl⟩ := h'
  obtain ⟨r, e, hr, _⟩ := div_pack (a := a) (b := b) h h' (by rw [isZero_pack h'] at hz; simpa using hz)
  exact ⟨_, r, hr, e⟩
theorem one_mul {k} (hk : Fin' k) : Float64.mul 4607182418800017408 k = k := by
  obtain ⟨a, t, h, rfl⟩ := hk
  rw [one_pack, mul_one_l h]
theorem sub_eq (x y : UInt64) : Float64.sub x y = Float64.add x (Float64.neg y) := by unfold Float64.sub; rfl
theorem fq_neg_sub {z c} (h : Zr z) (hc : Fin' c) : fq (Float64.neg (Float64.sub z c)) c = true := by
  rw [sub_eq]
  rcases zr_add h hc.neg with ⟨a, b, e, e'⟩ | e
  · rw [e']
    have : c = pack (!b) 0 := by rw [← neg_neg hc, e, neg_pack (Nat.le_of_lt inf_pos)]
    rw [this]
    exact fq_zr (zr_neg ⟨_, rfl⟩) ⟨_, rfl⟩
  · rw [e, neg_neg hc]; exact fq_refl hc.nan
theorem fq_sub_neg {z c} (h : Zr z) (hc : Fin' c) : fq (Float64.sub z (Float64.neg c)) c = true := by
  rw [sub_eq, neg_neg hc]; exact fq_add_self h hc
end Mine

open PySem PySem.W PySem.Calls PyProof.Rows
set_option Elab.async false
set_option maxRecDepth 100000
set_option maxHeartbeats 1000000
namespace Mine
theorem fill7_ (w : World) (h : Heap) : (lay01.heap_1 w.params).In h → Challenge.rw_oz0058_01.row.prog = Challenge.rw_oz0058_01.row.prog := by
  k_fill
  intros; rfl
/-- a normal that no object of the base is -/
def IsNF (h₀ : Heap) (mu sg : UInt64) : HP := fun h u => ∃ x dx t1 t2, u = .ref x ∧ h.get? x = some (ndObj dx (.float mu t1) (.float sg t2)) ∧ h.get? dx = some (dictOf [] 0) ∧ t1 ≠ 0 ∧ t2 ≠ 0 ∧ Nn sg ∧ h₀.get? x = none ∧ h₀.get? dx = none
theorem IsNF.n {h₀ h : Heap} {mu sg : UInt64} {u : Value} : IsNF h₀ mu sg h u → IsN mu sg h u := by
  rintro ⟨x, dx, t1, t2, rfl, e1, e2, z1, z2, n, _, _⟩
  exact ⟨x, rfl, ⟨⟨dx, t1, t2, e1, e2, z1, z2⟩, n⟩⟩
theorem hNF {h₀ : Heap} {a b : UInt64} : StabH (IsNF h₀ a b) := by
  rintro h h' u k ⟨x, dx, t1, t2, rfl, e1, e2, z1, z2, n, f1, f2⟩
  exact ⟨x, dx, t1, t2, rfl, k _ _ e1 rfl (by simp), k _ _ e2 rfl (by simp), z1, z2, n, f1, f2⟩
theorem sNF {h₀ : Heap} {a b : UInt64} : Stab (IsNF h₀ a b) := hNF.stab

section
variable {w : World} {A : Around} {env : Env} {H : Heap}
theorem Ev.weak {e : Expr} {R R' : HP} (h : Ev w A env H e R) (k : ∀ h u, R h u → R' h u) : Ev w A env H e R' :=
  fun s _ _ kk p hQ => h s _ _ kk p fun v h3 tk3 k3 p3 rv => hQ v h3 tk3 k3 p3 (k _ _ rv)
theorem ev_nameF {Γ : List (Str × HP)} {x : Str} {pos : Pos} {h₀ : Heap} {a b : UInt64} (F : EnvF env) (V : Vars env H Γ) (hl : Γ.lookup x = some (IsNF h₀ a b)) (hd : (x == ("__debug__" : Str)) = false) : Ev w A env H (.Name x pos) (IsN a b) :=
  (ev_name F V hl sNF hd).weak fun _ _ => IsNF.n
theorem ev_free {x : Str} {pos : Pos} {c : Addr} {v : Value} {R : HP} (hkd : env.scope.kind = .function) (hk : env.kindOf x = some .free) (hc : env.cells.lookup x = some c) (hcell : H.IsCell c (some v)) (hr : R H v) (sR : Stab R)
    (hd : (x == ("__debug__" : Str)) = false) (hcd : (x == ("__classdict__" : Str)) = false) : Ev w A env H (.Name x pos) R := by
  intro s Q E k p hQ
  exact wpAny_Name (wpAny_loadName_free hkd hk hc (hcell.keeps k) (hQ v s.heap s.toks (Stays.refl _) p (sR.mono _ _ _ k hr)) hcd) hd
theorem EvT.cast {e : Expr} {b b' : Bool} (h : EvT w A env H e b) (k : b = b') : EvT w A env H e b' := k ▸ h

/-- where an index that may be below nought stands -/
def idx (n : Nat) (k : Int) : Nat := (if k < 0 then k + n else k).toNat
theorem idx_lt {n : Nat} {k : Int} (h0 : -(n : Int) ≤ k) (h1 : k < n) : idx n k < n := by unfold idx; split <;> omega
theorem stab_map {n : Nat} {f : Nat → HP} (s : ∀ i, i < n → Stab (f i)) : StabL ((List.range n).map f) := by
  have : ∀ {l : List HP}, (∀ R ∈ l, Stab R) → StabL l := by
    intro l
    induction l with
    | nil => intro _; trivial
    | cons a r ih => intro h; exact ⟨h a (.head _), ih fun R hR => h R (.tail _ hR)⟩
  refine this fun R hR => ?_
  obtain ⟨j, hj, rfl⟩ := List.mem_map.mp hR
  exact s j (List.mem_range.mp hj)
theorem ev_at {e i : Expr} {pos : Pos} {n : Nat} {f : Nat → HP} {k : Int} (W : Wd w H) (he : Ev w A env H e (IsL ((List.range n).map f))) (hi : Ev w A env H i (IsI k)) (s : ∀ i, i < n → Stab (f i)) (hz : n ≤ 1000)
    (h0 : -(n : Int) ≤ k) (h1 : k < n) (hsub : ∀ l t, subscripted i false (.ref l) (.int k t) = operate [.ref l, .int k t] (getItem (.ref l) (.int k t))) : Ev w A env H (.Subscript e i pos) (f (idx n k)) := by
  have hl : ((List.range n).map f).length = n := by rw [List.length_map, List.length_range]
  refine ev_item W he hi (stab_map s) (by rw [hl]; exact hz) (by rw [hl]; exact h0) (by rw [hl]; exact h1) ?_ hsub
  rw [hl]
  show ((List.range n).map f)[idx n k]? = _
  rw [List.getElem?_map, List.getElem?_range (idx_lt h0 h1)]
  rfl
/-- NormalDist(mean, spread), not of the base -/
theorem ev_mkF {f a : Expr} {es : List Expr} {pos : Pos} {mu sg : UInt64} {h₀ : Heap} (k0 : Stays h₀ H) (W : Wd w H) (R : Rm A) (hn : Nn sg) (hf : Ev w A env H f (fun _ u => u = .ref 270)) (hk : keepIn (lay01.heap_1 w.params) (.ref 270) = true) (ha : EvL w A env H (a :: es) [IsF mu, IsF sg])
    (h1 : starEach (a :: es) env = (false, eval a env) :: starEach es env) (h2 : (backTo pos (starEach es env)).any (·.1) = false)
    (h3 : eval (.Call f (a :: es) [] pos) env = (do let g ← eval f env; callWith pos g [] (backTo pos (starEach (a :: es) env)) (backToKw pos (keywordEach [] env)))) : Ev w A env H (.Call f (a :: es) [] pos) (IsNF h₀ mu sg) := by
  intro s Q E k p hQ
  refine Call_ (hf s _ _ k p fun v h' tk k1 p1 r => ?_) h3
  subst r
  refine callWith_K (W.grow (k.trans k1)).inK hk (ha pos _ _ _ (k.trans k1) p1 fun vs h2 tk2 k2 p2 rs => ⟨(W.grow (k.trans (k1.trans k2))).inK, ?_⟩) h1 h2
  match vs, rs with
  | [_, _], ⟨⟨t, rfl, zt⟩, ⟨u, rfl, zu⟩, _⟩ =>
    refine wpAny_with_toks (n := 1) p2 (c_mkF (W.grow (k.trans (k1.trans k2))) (by have := R.depth; omega) hn zt zu fun x dx t1 t2 h' tk kk f1 f2 e1 e2 y1 y2 q => ?_)
    have kb : Stays h₀ h2 := k0.trans (k.trans (k1.trans k2))
    exact hQ _ h' tk ((k1.trans k2).trans kk) q ⟨x, dx, t1, t2, rfl, e1, e2, y1, y2, hn, fresh_of kb f1, fresh_of kb f2⟩

variable {h₀ : Heap} {Γ Γ₁ Γ₂ : List (Str × HP)}
/-- an if with an else, its test known -/
theorem tr_ifelse {t : Expr} {b o : List Stmt} {pos : Pos} {c : Bool} (C : Cx w env h₀) (sΓ : StabΓ Γ) (h : ∀ H, Wd w H → Vars env H Γ → EvT w A env H t c) (hb : c = true → Tr w A env h₀ (execs b env) Γ Γ₁) (ho : c = false → Tr w A env h₀ (execs o env) Γ Γ₁) :
    Tr w A env h₀ (exec (.If t b o pos) env) Γ Γ₁ := by
  intro s Q S p hQ
  refine wpAny_If (h s.heap (S.wd C) S.vars s _ _ (Stays.refl _) p fun h' tk k p1 => ?_)
  have S' := S.grow sΓ k
  cases c with
  | true => rw [if_pos rfl]; exact hb rfl _ _ S' p1 fun h2 tk2 k2 p2 S2 => hQ h2 tk2 ((KeepE.of k).trans k2) p2 S2
  | false => rw [if_neg (by decide)]; exact ho rfl _ _ S' p1 fun h2 tk2 k2 p2 S2 => hQ h2 tk2 ((KeepE.of k).trans k2) p2 S2
/-- all objects that the base has not -/
def allNew (h₀ : Heap) (L : Addr) (h : Heap) : List (Addr × Obj) :=
  (List.range h.objs.size).filterMap fun a => if a = L then none else match h₀.get? a with | some _ => none | none => (h.get? a).map fun o => (a, o)
theorem allNew_mem {h₀ h : Heap} {L a : Addr} {o : Obj} (e : h.get? a = some o) (n : h₀.get? a = none) (hL : a ≠ L) : (a, o) ∈ allNew h₀ L h := by
  refine List.mem_filterMap.mpr ⟨a, List.mem_range.mpr (Heap.lt_size e), ?_⟩
  rw [if_neg hL, n, e]; rfl
theorem allNew_news {h₀ h : Heap} {L : Addr} : News h₀ L h (allNew h₀ L h) := by
  intro p hp
  obtain ⟨a, _, e⟩ := List.mem_filterMap.mp hp
  split at e
  · cases e
  · rename_i hL
    split at e
    · cases e
    · rename_i hn
      cases he : h.get? a with
      | none => rw [he] at e; cases e
      | some o => rw [he] at e; cases e; exact ⟨he, hL, hn⟩
theorem tr_refused {cn : Str} {cs : Scope} {L a : Addr} {ccd : Value} {cl : List (Str × Addr)} {mu sg : UInt64} {b : List Stmt} {p1 p2 p3 p4 pos : Pos} (C : Cx w (envX cn cs L a ccd cl) h₀) (hcs : cs.kind = .function) (K0 : Below callerA h₀ [] h₀) (sΓ : StabΓ Γ)
    (hl : Γ.lookup ("x" : Str) = some (IsNF h₀ mu sg)) (hz : Float64.isZero sg = true) (hg : (envX cn cs L a ccd cl).kindOf "_law_refused" = some .globalImplicit) :
    Tr w (callerA.deeper (envX cn cs L a ccd cl)) (envX cn cs L a ccd cl) h₀ (exec (.If (.UnaryOp .Not (.Call (.Name "_law_refused" p1) [.Name "x" p2] [] p3) p4) b [] pos) (envX cn cs L a ccd cl)) Γ Γ := by
  intro s Q S p hQ
  have WD := S.wd C
  refine wpAny_If (isTrue_not (isTrue_plain (Call_ (ev_glob (v := .ref 288) C.envF WD hg (by k_is) rfl s _ _ (Stays.refl _) p fun v h' tk k q1 r => ?_) rfl) rfl))
  subst r
  have S' := S.grow sΓ k
  refine callWith_K (WD.grow k).inK (by k_is) (evl_cons (ev_name C.envF S'.vars hl sNF rfl) sNF evl_nil rfl p3 _ _ _ (Stays.refl _) q1 fun vs h2 tk2 k2 q2 rs => ⟨(WD.grow (k.trans k2)).inK, ?_⟩) rfl rfl
  have S2 := S'.grow sΓ k2
  match vs, rs with
  | [_], ⟨⟨x, dx, t1, t2, rfl, e1, e2, z1, z2, n, f1, f2⟩, _⟩ =>
    obtain ⟨m, F, y, vy, hy⟩ := S2.fr
    obtain ⟨lo, me, mg, mb, T⟩ := C.top
    have hx : x ≠ L := by
      rintro rfl
      have := soft_frame F.ns hy e1
      cases this
    have hdx : dx ≠ L := by
      rintro rfl
      have := soft_frame F.ns hy e2
      cases this
    have N : News h₀ L h2 ((x, ndObj dx (.float mu t1) (.float sg t2)) :: (dx, dictOf [] 0) :: allNew h₀ L h2) := by
      intro q hq
      rcases List.mem_cons.mp hq with rfl | hq
      · exact ⟨e1, hx, f1⟩
      · rcases List.mem_cons.mp hq with rfl | hq
        · exact ⟨e2, hdx, f2⟩
        · exact allNew_news q hq
    refine wpAny_with_toks (n := 1) q2 (wpAny_noRaise (w_refused hcs K0 F N C.inK T hz z1 z2 n fun h3 tk3 F3 N3 q3 => ?_))
    refine wpAny_truthy_bool ?_
    rw [if_neg (by decide)]
    have kept : ∀ a o, a ≠ L → h2.get? a = some o → h3.get? a = some o := fun a o hL e => by
      cases q : h₀.get? a with
      | some o' =>
        have := F.keep _ _ q
        rw [e] at this; cases this
        exact F3.keep _ _ q
      | none => exact (N3 _ (.tail _ (.tail _ (allNew_mem e q hL)))).1
    have ke : KeepE h2 h3 := fun a o e so => by
      by_cases hL : a = L
      · subst hL
        have := soft_frame F.ns hy e
        rw [so] at this; cases this
      · exact kept a o hL e
    refine wpAny_execs_nil (hQ h3 tk3 ((KeepE.of (k.trans k2)).trans ke) q3 ⟨⟨m, F3, y, vy, hy⟩, fun z R e => ?_, fun z c e => by
      obtain ⟨v', o, d0, d1⟩ := S2.cel z c e
      refine ⟨v', o, kept c o ?_ d0, d1⟩
      rintro rfl
      obtain ⟨o2, es2, ep2, d2, d3, _⟩ := F.ns
      rw [d0] at d2; cases d2; rw [d1] at d3; cases d3⟩)
    rcases S2.vars z R e with ⟨hk', m', v', hn', hv', hr'⟩ | ⟨hk', c', v', hc', hcell', hr'⟩
    · refine .inl ⟨hk', m, v', F3.ns, ?_, sΓ z R e _ _ _ ke.d hr'⟩
      obtain ⟨o1, es1, ep1, d0, d1, _, g1⟩ := F.ns
      obtain ⟨o2, es2, ep2, d2, d3, _, g2⟩ := hn'
      rw [d0] at d2; cases d2; rw [d1] at d3; cases d3
      rw [← g1, g2, hv']
    · refine .inr ⟨hk', c', v', hc', ?_, sΓ z R e _ _ _ ke.d hr'⟩
      obtain ⟨o, d0, d1⟩ := hcell'
      refine ⟨o, kept c' o ?_ d0, d1⟩
      rintro rfl
      obtain ⟨o2, es2, ep2, d2, d3, _⟩ := F.ns
      rw [d0] at d2; cases d2; rw [d1] at d3; cases d3
end
end Mine

open PySem PySem.W PySem.Calls PyProof.Rows
set_option Elab.async false
set_option maxRecDepth 100000
set_option maxHeartbeats 1000000
namespace Mine
theorem fill8_ (w : World) (h : Heap) : (lay01.heap_1 w.params).In h → Challenge.rw_oz0058_01.row.prog = Challenge.rw_oz0058_01.row.prog := by
  k_fill
  intros; rfl
def bodyOf : Stmt → List Stmt
  | .FunctionDef _ _ b _ _ _ _ _ _ _ => b
  | _ => []
def forBody : List Stmt → List Stmt
  | .For _ _ b _ _ :: _ => b
  | _ => []
def lawStmts : List Stmt := bodyOf (Challenge.pw_oz0058_01.main.body.getLastD (.Pass ⟨0, 0, 0, 0⟩))
def loopB : List Stmt := forBody (lawStmts.drop 5)
def inB : List Stmt := forBody (loopB.drop 4)
def inB2 : List Stmt := forBody inB
/-- the law's own frame, by its names -/
structure LEnv (env : Env) : Prop where
  f : EnvF env
  i : env.kindOf ("i" : Str) = some .local
  x : env.kindOf ("x" : Str) = some .local
  m : env.kindOf ("m" : Str) = some .local
  s : env.kindOf ("s" : Str) = some .local
  y : env.kindOf ("y" : Str) = some .local
  c : env.kindOf ("c" : Str) = some .local
  k : env.kindOf ("k" : Str) = some .local
  level : env.kindOf ("level" : Str) = some .local
  u : env.kindOf ("u" : Str) = some .local
  w : env.kindOf ("w" : Str) = some .local
  abs : env.kindOf ("abs" : Str) = some .globalImplicit
theorem Sub.cons : ∀ {Γ' Γ : List (Str × HP)} {x : Str} {R : HP}, Sub Γ' Γ → Γ'.lookup x = none → Sub Γ' ((x, R) :: Γ)
  | [], _, _, _, _, _ => trivial
  | (y, R') :: r, Γ, x, R, s, h => by
    rw [List.lookup_cons] at h
    split at h
    · cases h
    · rename_i hy
      refine ⟨?_, Sub.cons s.2 h⟩
      rw [List.lookup_cons]
      have : (y == x) = false := by
        cases q : (y == x) with
        | false => rfl
        | true =>
          have := eq_of_beq q
          subst this
          simp at hy
      rw [this]
      exact s.1
section
variable {w : World} {A : Around} {env : Env} {h₀ : Heap} {Γ : List (Str × HP)} {z o c k s u wv m2 s2 : UInt64}
theorem t_in2 (L : LEnv env) (R : Rm A) (C : Cx w env h₀) (sΓ : StabΓ Γ)
    (hlevel : Γ.lookup ("level" : Str) = some (IsN z o)) (hy : Γ.lookup ("y" : Str) = some (IsNF h₀ c k)) (hc : Γ.lookup ("c" : Str) = some (IsF c)) (hk : Γ.lookup ("k" : Str) = some (IsF k)) (hs : Γ.lookup ("s" : Str) = some (IsF s))
    (hu : Γ.lookup ("u" : Str) = some (IsF u)) (hw : Γ.lookup ("w" : Str) = some (IsF wv)) (hn : Nn (Float64.mul o (Float64.abs u)))
    (hfin : (feq (Float64.add (Float64.mul z u) wv) c && feq (Float64.mul o (Float64.abs u)) k) = (feq wv c && bif (Float64.cmpInt s 0 != some .eq) then feq (Float64.abs u) k else (Float64.cmpInt k 0 == some .eq))) :
    Tr w A env h₀ (execs inB2 env) Γ Γ := by
  refine tr_cons (tr_if C sΓ fun H WH V => ?_) tr_nil
  have eu := ev_name (w := w) (A := A) (pos := ⟨0, 0, 0, 0⟩) L.f V hu sF rfl
  refine EvT.cast (evt_cmp WH (Ra := IsB (feq (Float64.add (Float64.mul z u) wv) c && feq (Float64.mul o (Float64.abs u)) k)) (Rb := IsB (feq wv c && bif (Float64.cmpInt s 0 != some .eq) then feq (Float64.abs u) k else (Float64.cmpInt k 0 == some .eq))) ?l ?r sB o_nebb rfl) (by rw [hfin]; simp)
  case l =>
    exact ev_cmp WH (ev_bin WH (ev_bin WH (ev_name L.f V hu sF rfl) (ev_name L.f V hlevel sN rfl) sF (o_mulfn R hn)) (ev_name L.f V hw sF rfl) sN (o_addnf R)) (ev_nameF L.f V hy rfl) sN (o_eqnn R) rfl
  case r =>
    refine ev_ite (evt_cmp WH (ev_name L.f V hs sF rfl) ev_int sF o_nefi rfl) (fun hz => ?_) fun hz => ?_
    · rw [hz]
      refine ev_and (ev_cmp WH (ev_name L.f V hw sF rfl) (ev_name L.f V hc sF rfl) sF o_eqff rfl) fun _ => ?_
      refine ev_cmp WH (Ra := IsF (Float64.abs u)) ?_ (ev_name L.f V hk sF rfl) sF o_eqff rfl
      exact ev_callB WH (ev_boot L.f WH L.abs (by k_is) rfl (by decide) rfl) (evl_cons (ev_name L.f V hu sF rfl) sF evl_nil rfl) o_absf rfl rfl rfl
    · rw [hz]
      exact ev_and (ev_cmp WH (ev_name L.f V hw sF rfl) (ev_name L.f V hc sF rfl) sF o_eqff rfl) fun _ => ev_cmp WH (ev_name L.f V hk sF rfl) ev_int sF o_eqfi rfl

theorem getD_map {us : List UInt64} {j : Nat} (h : j < us.length) : (us.map IsF).getD j (fun _ _ => True) = IsF us[j] := by
  rw [List.getD_eq_getElem?_getD, List.getElem?_map, List.getElem?_eq_getElem h]; rfl
theorem stabF (us : List UInt64) : StabL (us.map IsF) := by
  induction us with
  | nil => trivial
  | cons a r ih => exact ⟨sF, ih⟩
/-- for w in [c, -c, means[i - 2]] -/
theorem t_inw {n i : Nat} {M : Nat → UInt64} (L : LEnv env) (R : Rm A) (C : Cx w env h₀) (sΓ : StabΓ Γ) (hS : Sub Γ Γ) (h3 : 3 ≤ n) (hz : n ≤ 1000) (hin : i < n)
    (hlevel : Γ.lookup ("level" : Str) = some (IsN z o)) (hy : Γ.lookup ("y" : Str) = some (IsNF h₀ c k)) (hc : Γ.lookup ("c" : Str) = some (IsF c)) (hk : Γ.lookup ("k" : Str) = some (IsF k)) (hs : Γ.lookup ("s" : Str) = some (IsF s))
    (hu : Γ.lookup ("u" : Str) = some (IsF u)) (hw : Γ.lookup ("w" : Str) = none) (hi : Γ.lookup ("i" : Str) = some (IsI (i : Int))) (hm : Γ.lookup ("means" : Str) = some (IsL ((List.range n).map fun j => IsF (M j))))
    (fc : Fin' c) (fM : ∀ j, j < n → Fin' (M j)) (hn : Nn (Float64.mul o (Float64.abs u)))
    (hfin : ∀ wv, Fin' wv → (feq (Float64.add (Float64.mul z u) wv) c && feq (Float64.mul o (Float64.abs u)) k) = (feq wv c && bif (Float64.cmpInt s 0 != some .eq) then feq (Float64.abs u) k else (Float64.cmpInt k 0 == some .eq))) :
    Tr w A env h₀ (execs inB env) Γ Γ := by
  refine tr_cons (tr_loop (Rit := IsL ([c, Float64.neg c, M (idx n ((i : Int) - 2))].map IsF)) C sΓ (fun j hj => ?_) (fun H WH V => ?_) (fun _ _ => .inl L.w) (hands_list R.hh (stabF _)) (fun j hj => ?_) (fun _ => rfl)) tr_nil
  · have hj' : j < [c, Float64.neg c, M (idx n ((i : Int) - 2))].length := by rw [List.length_map] at hj; exact hj
    rw [getD_map hj']; exact sF
  · have ec := ev_name (w := w) (A := A) (pos := ⟨133, 22, 133, 23⟩) L.f V hc sF rfl
    refine ev_list (evl_cons (ev_name L.f V hc sF rfl) sF (evl_cons (ev_un WH (ev_name L.f V hc sF rfl) o_negf) sF (evl_cons (?_) sF evl_nil rfl) rfl) rfl) (stabF [c, Float64.neg c, M (idx n ((i : Int) - 2))]) (by simp)
    exact ev_at (f := fun j => IsF (M j)) WH (ev_name L.f V hm (sL (stab_map fun _ _ => sF)) rfl) (ev_bin WH (ev_name L.f V hi sI rfl) ev_int sI o_subii) (fun _ _ => sF) hz (by omega) (by omega) (fun _ _ => rfl)
  · have hj' : j < [c, Float64.neg c, M (idx n ((i : Int) - 2))].length := by rw [List.length_map] at hj; exact hj
    rw [getD_map hj']
    have fw : Fin' [c, Float64.neg c, M (idx n ((i : Int) - 2))][j] := by
      have : j = 0 ∨ j = 1 ∨ j = 2 := by simp at hj'; omega
      rcases this with rfl | rfl | rfl
      · exact fc
      · exact fc.neg
      · exact fM _ (idx_lt (by omega) (by omega))
    generalize [c, Float64.neg c, M (idx n ((i : Int) - 2))][j] = wv at fw
    exact tr_sub (t_in2 L R C (sΓ.cons sF) hlevel hy hc hk hs hu rfl hn (hfin wv fw)) (hS.cons hw)
/-- for u in [k, -k, s, -spreads[i - 2]] -/
theorem t_inu {n i : Nat} {M S : Nat → UInt64} (L : LEnv env) (R : Rm A) (C : Cx w env h₀) (sΓ : StabΓ Γ) (hS : Sub Γ Γ) (h3 : 3 ≤ n) (hz : n ≤ 1000) (hin : i < n)
    (hlevel : Γ.lookup ("level" : Str) = some (IsN z o)) (hy : Γ.lookup ("y" : Str) = some (IsNF h₀ c k)) (hc : Γ.lookup ("c" : Str) = some (IsF c)) (hk : Γ.lookup ("k" : Str) = some (IsF k)) (hs : Γ.lookup ("s" : Str) = some (IsF s))
    (hu : Γ.lookup ("u" : Str) = none) (hw : Γ.lookup ("w" : Str) = none) (hi : Γ.lookup ("i" : Str) = some (IsI (i : Int))) (hm : Γ.lookup ("means" : Str) = some (IsL ((List.range n).map fun j => IsF (M j)))) (hsp : Γ.lookup ("spreads" : Str) = some (IsL ((List.range n).map fun j => IsF (S j))))
    (fc : Fin' c) (fk : Fin' k) (fs : Fin' s) (fM : ∀ j, j < n → Fin' (M j)) (fS : ∀ j, j < n → Fin' (S j)) (hn : ∀ u, Fin' u → Nn (Float64.mul o (Float64.abs u)))
    (hfin : ∀ u wv, Fin' u → Fin' wv → (feq (Float64.add (Float64.mul z u) wv) c && feq (Float64.mul o (Float64.abs u)) k) = (feq wv c && bif (Float64.cmpInt s 0 != some .eq) then feq (Float64.abs u) k else (Float64.cmpInt k 0 == some .eq))) :
    Tr w A env h₀ (execs (loopB.drop 4) env) Γ Γ := by
  refine tr_cons (tr_loop (Rit := IsL ([k, Float64.neg k, s, Float64.neg (S (idx n ((i : Int) - 2)))].map IsF)) C sΓ (fun j hj => ?_) (fun H WH V => ?_) (fun _ _ => .inl L.u) (hands_list R.hh (stabF _)) (fun j hj => ?_) (fun _ => rfl)) tr_nil
  · have hj' : j < [k, Float64.neg k, s, Float64.neg (S (idx n ((i : Int) - 2)))].length := by rw [List.length_map] at hj; exact hj
    rw [getD_map hj']; exact sF
  · refine ev_list (evl_cons (ev_name L.f V hk sF rfl) sF (evl_cons (ev_un WH (ev_name L.f V hk sF rfl) o_negf) sF (evl_cons (ev_name L.f V hs sF rfl) sF (evl_cons (ev_un WH ?_ o_negf) sF evl_nil rfl) rfl) rfl) rfl) (stabF [k, Float64.neg k, s, Float64.neg (S (idx n ((i : Int) - 2)))]) (by simp)
    exact ev_at (f := fun j => IsF (S j)) WH (ev_name L.f V hsp (sL (stab_map fun _ _ => sF)) rfl) (ev_bin WH (ev_name L.f V hi sI rfl) ev_int sI o_subii) (fun _ _ => sF) hz (by omega) (by omega) (fun _ _ => rfl)
  · have hj' : j < [k, Float64.neg k, s, Float64.neg (S (idx n ((i : Int) - 2)))].length := by rw [List.length_map] at hj; exact hj
    rw [getD_map hj']
    have fw : Fin' [k, Float64.neg k, s, Float64.neg (S (idx n ((i : Int) - 2)))][j] := by
      have : j = 0 ∨ j = 1 ∨ j = 2 ∨ j = 3 := by simp at hj'; omega
      rcases this with rfl | rfl | rfl | rfl
      · exact fk
      · exact fk.neg
      · exact fs
      · exact (fS _ (idx_lt (by omega) (by omega))).neg
    generalize [k, Float64.neg k, s, Float64.neg (S (idx n ((i : Int) - 2)))][j] = uv at fw
    exact tr_sub (t_inw L R C (sΓ.cons sF) (Γ := ("u", IsF uv) :: Γ) (by exact ⟨rfl, hS.cons hu⟩) h3 hz hin hlevel hy hc hk hs rfl hw hi hm fc fM (hn uv fw) (fun wv hw => hfin uv wv fw hw)) (hS.cons hu)
end
end Mine

open PySem PySem.W PySem.Calls PyProof.Rows
set_option Elab.async false
set_option maxRecDepth 100000
set_option maxHeartbeats 1000000
namespace Mine
theorem fill9_ (w : World) (h : Heap) : (lay01.heap_1 w.params).In h → Challenge.rw_oz0058_01.row.prog = Challenge.rw_oz0058_01.row.prog := by
  k_fill
  intros; rfl
def scopeOf : Stmt → Scope
  | .FunctionDef _ _ _ _ _ _ sc _ _ _ => sc
  | _ => { kind := .function, names := [], isGenerator := false, isCoroutine := false, more := [] }
def lawScope : Scope := scopeOf (Challenge.pw_oz0058_01.main.body.getLastD (.Pass ⟨0, 0, 0, 0⟩))
abbrev envL (cn : Str) (L a : Addr) (ccd : Value) (cl : List (Str × Addr)) : Env := envX cn lawScope L a ccd cl
theorem lEnv {cn : Str} {L a : Addr} {ccd : Value} {cl : List (Str × Addr)} : LEnv (envL cn L a ccd cl) :=
  ⟨⟨rfl, rfl, rfl⟩, rfl, rfl, rfl, rfl, rfl, rfl, rfl, rfl, rfl, rfl, rfl⟩
section
variable {w : World} {h₀ : Heap} {cn : Str} {L a : Addr} {ccd : Value} {cl : List (Str × Addr)} {n i : Nat} {M S : Nat → UInt64} {Rrow : HP}
theorem t_rest {A : Around} {env : Env} {Γ : List (Str × HP)} {m s c k : UInt64} (L : LEnv env) (R : Rm A) (hu : A.in1.units + 1 < cLine) (hd : A.in1.depth + 6 < recursionLimit) (C : Cx w env h₀) (sΓ : StabΓ Γ) (hS : Sub Γ Γ) (h3 : 3 ≤ n) (hz : n ≤ 1000) (hin : i < n)
    (hRef : ∀ {Γ : List (Str × HP)} {mu sg : UInt64} {b : List Stmt} {p1 p2 p3 p4 pos : Pos}, StabΓ Γ → Γ.lookup ("x" : Str) = some (IsNF h₀ mu sg) → Float64.isZero sg = true → Tr w A env h₀ (exec (.If (.UnaryOp .Not (.Call (.Name "_law_refused" p1) [.Name "x" p2] [] p3) p4) b [] pos) env) Γ Γ)
    (hx : Γ.lookup ("x" : Str) = some (IsNF h₀ m s)) (hm' : Γ.lookup ("m" : Str) = some (IsF m)) (hplain : Γ.lookup ("plain" : Str) = some (IsN 0 4607182418800017408)) (hlevel : Γ.lookup ("level" : Str) = none)
    (hy : Γ.lookup ("y" : Str) = some (IsNF h₀ c k)) (hc : Γ.lookup ("c" : Str) = some (IsF c)) (hk : Γ.lookup ("k" : Str) = some (IsF k)) (hs : Γ.lookup ("s" : Str) = some (IsF s))
    (hu' : Γ.lookup ("u" : Str) = none) (hw : Γ.lookup ("w" : Str) = none) (hi : Γ.lookup ("i" : Str) = some (IsI (i : Int))) (hm : Γ.lookup ("means" : Str) = some (IsL ((List.range n).map fun j => IsF (M j)))) (hsp : Γ.lookup ("spreads" : Str) = some (IsL ((List.range n).map fun j => IsF (S j))))
    (fm : Fin' m) (ps : Pos' s) (fc : Fin' c) (pk : Pos' k) (fM : ∀ j, j < n → Fin' (M j)) (fS : ∀ j, j < n → Fin' (S j)) :
    Tr w A env h₀ (execs (loopB.drop 2) env) Γ Γ := by
  have unit : A.units < cLine := by have := R.units; omega
  have a8 : Pos' (Float64.abs (Float64.ofInt 8)) := pos_eight.fin.abs
  have z8 : Float64.isZero (Float64.abs (Float64.ofInt 8)) = false := by decide +kernel
  refine tr_cons (tr_if C sΓ fun H WH V => ?_) ?_
  · have ex := @ev_nameF w A env H Γ "x"
    refine evt_of_or (evt_or (EvT.cast (evt_cmp WH (ev_bin WH (ev_nameF L.f V hx rfl) ev_int sN (o_divni R (by decide) (by decide) z8 (div_nn ps a8 z8)))
      (ev_bin WH (ev_nameF L.f V hx rfl) ev_flt sN (o_mulnf R (mul_nn ps pos_eighth.fin.abs))) sN (o_nenn R) rfl) ?_) (evt_or (evt_cmp WH (Ra := IsL [IsF (Float64.add m m), IsF s]) (Rb := IsL [IsF (Float64.mul m (Float64.ofInt 2)), IsF s]) ?_ ?_ (sL ⟨sF, sF, trivial⟩) (o_nell ⟨sF, sF, trivial⟩ ⟨sF, sF, trivial⟩ ⟨eqT_ff ?_, eqT_ff ?_, trivial⟩ unit) rfl) evt_or_nil))
    · have e1 : feq (Float64.div m (Float64.ofInt 8)) (Float64.mul m 4593671619917905920) = true := fq_of (eighth_eq fm) (div_nan fm pos_eight.fin (by decide +kernel))
      have e2 : feq (Float64.div s (Float64.abs (Float64.ofInt 8))) (Float64.mul s (Float64.abs 4593671619917905920)) = true := by
        rw [pos_eight.abs, pos_eighth.abs]
        exact fq_of (eighth_eq ps.fin) (div_nan ps.fin pos_eight.fin (by decide +kernel))
      rw [e1, e2]; rfl
    · exact ev_list (evl_cons (ev_attr WH (ev_bin WH (ev_nameF L.f V hx rfl) (ev_name L.f V hm' sF rfl) sN (o_addnf R)) (o_mean R) rfl) sF (evl_cons (ev_attr WH (ev_bin WH (ev_name L.f V hm' sF rfl) (ev_nameF L.f V hx rfl) sF (o_addfn R)) (o_stdev R) rfl) sF evl_nil rfl) rfl) ⟨sF, sF, trivial⟩ (by simp)
    · exact ev_list (evl_cons (ev_bin WH (ev_name L.f V hm' sF rfl) ev_int sF (o_mulfi (by decide))) sF (evl_cons (ev_name L.f V hs sF rfl) sF evl_nil rfl) rfl) ⟨sF, sF, trivial⟩ (by simp)
    · exact fq_of (double_eq fm) (by rw [double_eq fm]; exact mul_nan fm pos_two.fin)
    · exact fq_refl ps.fin.nan
  have zi : (Float64.cmpInt s 0 == some .eq) = Float64.isZero s := (Flt.isZero_eq s).symm
  cases hzs : Float64.isZero s with
  | true =>
    have zs : Zr s := zr_of ps.fin hzs
    have z0 : Zr (Float64.sub m m) := by rw [sub_zero fm]; exact zr_zero
    refine tr_cons (Γ₁ := ("level", IsN (Float64.sub m m) s) :: Γ) (tr_ifelse (c := true) C sΓ (fun H WH V => EvT.cast (evt_cmp WH (ev_name L.f V hs sF rfl) ev_int sF o_eqfi rfl) (by rw [zi, hzs])) (fun _ => ?_) (fun h => absurd h (by decide))) ?_
    · exact tr_cons (hRef sΓ hx hzs) (tr_cons (tr_assign C sΓ sN (fun H WH V => ev_bin WH (ev_nameF L.f V hx rfl) (ev_name L.f V hm' sF rfl) sN (o_subnf R)) (fun _ _ => .inl L.level) rfl) tr_nil)
    · exact tr_sub (t_inu (z := Float64.sub m m) (o := s) (M := M) (S := S) L R C (sΓ.cons sN) ⟨rfl, hS.cons hlevel⟩ h3 hz hin rfl hy hc hk hs hu' hw hi hm hsp fc pk.fin ps.fin fM fS (fun u fu => mul_nn ps fu.abs) (fun u wv fu fw => by
        have hz' : (Float64.cmpInt s 0 != some .eq) = false := by show (!(Float64.cmpInt s 0 == some .eq)) = false; rw [zi, hzs]; rfl
        rw [hz', show feq (Float64.add (Float64.mul (Float64.sub m m) u) wv) c = feq wv c from fq_add (zr_mul z0 fu) fw fc, show feq (Float64.mul s (Float64.abs u)) k = _ from fq_zr_int (zr_mul zs fu.abs.fin) pk.fin]
        rfl)) (hS.cons hlevel)
  | false =>
    have za : Float64.isZero (Float64.abs s) = false := by rw [ps.abs]; exact hzs
    have zn : Float64.isZero (Float64.neg s) = false := by rw [isZero_neg ps.fin]; exact hzs
    have zna : Float64.isZero (Float64.abs (Float64.neg s)) = false := by rw [abs_neg ps.fin]; exact za
    have n1 : Nn (Float64.div s (Float64.abs s)) := div_nn ps ps.fin.abs za
    have n2 : Nn (Float64.div s (Float64.abs (Float64.neg s))) := div_nn ps ps.fin.neg.abs zna
    have o1 : Float64.div s (Float64.abs s) = 4607182418800017408 := div_one ps ps.fin.abs ps.abs.symm hzs
    have o2 : Float64.div s (Float64.abs (Float64.neg s)) = 4607182418800017408 := by rw [abs_neg ps.fin]; exact o1
    have z0 : Zr (Float64.sub m m) := by rw [sub_zero fm]; exact zr_zero
    have z1 : Zr (Float64.div (Float64.sub m m) s) := zr_div z0 ps.fin hzs
    have one1 : feq (4607182418800017408 : UInt64) 4607182418800017408 = true := fq_refl pos_one.fin.nan
    have nk : ∀ u, Fin' u → Nn (Float64.mul (Float64.div s (Float64.abs s)) (Float64.abs u)) := fun u fu => by rw [o1]; exact mul_nn pos_one fu.abs
    have mk' : feq (Float64.mul (Float64.div s (Float64.abs s)) (Float64.abs k)) k = true := by rw [o1, pk.abs, one_mul pk.fin]; exact fq_refl pk.fin.nan
    have mk2 : feq (Float64.mul (Float64.div s (Float64.abs s)) (Float64.abs (Float64.neg k))) k = true := by rw [abs_neg pk.fin]; exact mk'
    refine tr_cons (Γ₁ := ("level", IsN (Float64.div (Float64.sub m m) s) (Float64.div s (Float64.abs s))) :: Γ) (tr_ifelse (c := false) C sΓ (fun H WH V => EvT.cast (evt_cmp WH (ev_name L.f V hs sF rfl) ev_int sF o_eqfi rfl) (by rw [zi, hzs])) (fun h => absurd h (by decide)) (fun _ => ?_)) ?_
    · have sΓ' : StabΓ (("level", IsN (Float64.div (Float64.sub m m) s) (Float64.div s (Float64.abs s))) :: Γ) := sΓ.cons sN
      have hlv : List.lookup ("level" : Str) (("level", IsN (Float64.div (Float64.sub m m) s) (Float64.div s (Float64.abs s))) :: Γ) = some (IsN (Float64.div (Float64.sub m m) s) (Float64.div s (Float64.abs s))) := rfl
      refine tr_cons (tr_assign C sΓ sN (fun H WH V => ev_bin WH (ev_bin WH (ev_nameF L.f V hx rfl) (ev_name L.f V hm' sF rfl) sN (o_subnf R)) (ev_name L.f V hs sF rfl) sN (o_divnf R hzs za n1)) (fun _ _ => .inl L.level) rfl) ?_
      refine tr_cons (tr_if C sΓ' fun H WH V => ?_) (tr_cons (tr_if C sΓ' fun H WH V => ?_) (tr_cons (tr_if C sΓ' fun H WH V => ?_) tr_nil))
      · refine EvT.cast (evt_cmp WH (ev_bin WH (ev_nameF L.f V hx rfl) (ev_name L.f V hs sF rfl) sN (o_divnf R hzs za n1)) (ev_bin WH (ev_name L.f V hplain sN rfl) (ev_bin WH (ev_name L.f V hm' sF rfl) (ev_name L.f V hs sF rfl) sF (o_divff hzs)) sN (o_addnf R)) sN (o_nenn R) rfl) ?_
        rw [show feq (Float64.div m s) (Float64.add 0 (Float64.div m s)) = true from fq_add_any (div_form fm ps.fin hzs), o1, one1]; rfl
      · have st4 : StabL [IsN (Float64.div (Float64.sub m m) s) (Float64.div s (Float64.abs s)), IsN (Float64.div (Float64.neg (Float64.sub m m)) s) (Float64.div s (Float64.abs s)), IsN (Float64.div (Float64.sub m m) (Float64.neg s)) (Float64.div s (Float64.abs (Float64.neg s))), IsN (Float64.div (Float64.neg (Float64.sub m m)) (Float64.neg s)) (Float64.div s (Float64.abs (Float64.neg s)))] := ⟨sN, sN, sN, sN, trivial⟩
        have st5 : StabL [IsN 0 4607182418800017408, IsN 0 4607182418800017408, IsN 0 4607182418800017408, IsN 0 4607182418800017408] := ⟨sN, sN, sN, sN, trivial⟩
        have ez : ∀ {q g}, Zr q → g = 4607182418800017408 → (feq q 0 && feq g 4607182418800017408) = true := fun hq hg => by rw [show feq _ 0 = true from fq_zr hq zr_zero, hg, one1]; rfl
        refine evt_cmp WH (ev_list (evl_cons (ev_name L.f V hlv sN rfl) sN (evl_cons (ev_bin WH (ev_bin WH (ev_name L.f V hm' sF rfl) (ev_nameF L.f V hx rfl) sF (o_subfn R)) (ev_name L.f V hs sF rfl) sN (o_divnf R hzs za n1)) sN
          (evl_cons (ev_bin WH (ev_bin WH (ev_nameF L.f V hx rfl) (ev_name L.f V hm' sF rfl) sN (o_subnf R)) (ev_un WH (ev_name L.f V hs sF rfl) o_negf) sN (o_divnf R zn zna n2)) sN
          (evl_cons (ev_bin WH (ev_bin WH (ev_name L.f V hm' sF rfl) (ev_nameF L.f V hx rfl) sF (o_subfn R)) (ev_un WH (ev_name L.f V hs sF rfl) o_negf) sN (o_divnf R zn zna n2)) sN evl_nil rfl) rfl) rfl) rfl) st4 (by simp))
          (ev_list (evl_cons (ev_name L.f V hplain sN rfl) sN (evl_cons (ev_name L.f V hplain sN rfl) sN (evl_cons (ev_name L.f V hplain sN rfl) sN (evl_cons (ev_name L.f V hplain sN rfl) sN evl_nil rfl) rfl) rfl) rfl) st5 (by simp))
          (sL st4) (o_nell st4 st5 ⟨eqT_nn hd hu (ez z1 o1), eqT_nn hd hu (ez (zr_div (zr_neg z0) ps.fin hzs) o1), eqT_nn hd hu (ez (zr_div z0 ps.fin.neg zn) o2), eqT_nn hd hu (ez (zr_div (zr_neg z0) ps.fin.neg zn) o2), trivial⟩ unit) rfl
      · generalize hZ : Float64.div (Float64.sub m m) s = z at *
        generalize hO : Float64.div s (Float64.abs s) = o at *
        have st4 : StabL [IsN (Float64.add (Float64.mul z k) c) (Float64.mul o (Float64.abs k)), IsN (Float64.add (Float64.mul z (Float64.neg k)) c) (Float64.mul o (Float64.abs (Float64.neg k))), IsN (Float64.neg (Float64.sub (Float64.mul z k) c)) (Float64.mul o (Float64.abs k)), IsN (Float64.sub (Float64.mul z (Float64.neg k)) (Float64.neg c)) (Float64.mul o (Float64.abs (Float64.neg k)))] := ⟨sN, sN, sN, sN, trivial⟩
        have st5 : StabL [IsN c k, IsN c k, IsN c k, IsN c k] := ⟨sN, sN, sN, sN, trivial⟩
        have zk := zr_mul z1 pk.fin
        have zk2 := zr_mul z1 pk.fin.neg
        have ez : ∀ {q g}, feq q c = true → feq g k = true → (feq q c && feq g k) = true := fun hq hg => by rw [hq, hg]; rfl
        refine evt_cmp WH (ev_list (evl_cons (ev_bin WH (ev_bin WH (ev_name L.f V hlv sN rfl) (ev_name L.f V hk sF rfl) sN (o_mulnf R (nk k pk.fin))) (ev_name L.f V hc sF rfl) sN (o_addnf R)) sN
          (evl_cons (ev_bin WH (ev_name L.f V hc sF rfl) (ev_bin WH (ev_un WH (ev_name L.f V hk sF rfl) o_negf) (ev_name L.f V hlv sN rfl) sF (o_mulfn R (nk _ pk.fin.neg))) sF (o_addfn R)) sN
          (evl_cons (ev_bin WH (ev_name L.f V hc sF rfl) (ev_bin WH (ev_name L.f V hlv sN rfl) (ev_name L.f V hk sF rfl) sN (o_mulnf R (nk k pk.fin))) sF (o_subfn R)) sN
          (evl_cons (ev_bin WH (ev_bin WH (ev_name L.f V hlv sN rfl) (ev_un WH (ev_name L.f V hk sF rfl) o_negf) sN (o_mulnf R (nk _ pk.fin.neg))) (ev_un WH (ev_name L.f V hc sF rfl) o_negf) sN (o_subnf R)) sN evl_nil rfl) rfl) rfl) rfl) st4 (by simp))
          (ev_list (evl_cons (ev_nameF L.f V hy rfl) sN (evl_cons (ev_nameF L.f V hy rfl) sN (evl_cons (ev_nameF L.f V hy rfl) sN (evl_cons (ev_nameF L.f V hy rfl) sN evl_nil rfl) rfl) rfl) rfl) st5 (by simp))
          (sL st4) (o_nell st4 st5 ⟨eqT_nn hd hu (ez (fq_add_self zk fc) mk'), eqT_nn hd hu (ez (fq_add_self zk2 fc) mk2), eqT_nn hd hu (ez (fq_neg_sub zk fc) mk'), eqT_nn hd hu (ez (fq_sub_neg zk2 fc) mk2), trivial⟩ unit) rfl
    · exact tr_sub (t_inu (z := Float64.div (Float64.sub m m) s) (o := Float64.div s (Float64.abs s)) (M := M) (S := S) L R C (sΓ.cons sN) ⟨rfl, hS.cons hlevel⟩ h3 hz hin rfl hy hc hk hs hu' hw hi hm hsp fc pk.fin ps.fin fM fS nk (fun u wv fu fw => by
        have hz' : (Float64.cmpInt s 0 != some .eq) = true := by show (!(Float64.cmpInt s 0 == some .eq)) = true; rw [zi, hzs]; rfl
        rw [hz', show feq (Float64.add (Float64.mul (Float64.div (Float64.sub m m) s) u) wv) c = feq wv c from fq_add (zr_mul z1 fu) fw fc, o1, one_mul fu.abs.fin]
        rfl)) (hS.cons hlevel)
abbrev Γb (h₀ : Heap) (n : Nat) (M S : Nat → UInt64) (Rrow : HP) : List (Str × HP) :=
  [(("plain" : Str), IsN 0 4607182418800017408), (("ring" : Str), IsL ((List.range n).map fun j => IsNF h₀ (M j) (S j))), (("spreads" : Str), IsL ((List.range n).map fun j => IsF (S j))), (("means" : Str), IsL ((List.range n).map fun j => IsF (M j))), (("row" : Str), Rrow)]
theorem t_loop (R : Rm (callerA.deeper (envL cn L a ccd cl))) (C : Cx w (envL cn L a ccd cl) h₀) (K0 : Below callerA h₀ [] h₀) (hu : (callerA.deeper (envL cn L a ccd cl)).in1.units + 1 < cLine) (hd : (callerA.deeper (envL cn L a ccd cl)).in1.depth + 6 < recursionLimit) (sR : Stab Rrow) (h3 : 3 ≤ n) (hz : n ≤ 1000) (hin : i < n)
    (fM : ∀ j, j < n → Fin' (M j)) (pS : ∀ j, j < n → Pos' (S j)) :
    Tr w (callerA.deeper (envL cn L a ccd cl)) (envL cn L a ccd cl) h₀ (execs loopB (envL cn L a ccd cl)) ((("i" : Str), IsI (i : Int)) :: Γb h₀ n M S Rrow) (Γb h₀ n M S Rrow) := by
  have E := lEnv (cn := cn) (L := L) (a := a) (ccd := ccd) (cl := cl)
  have jp : idx n ((i : Int) - 1) < n := idx_lt (by omega) (by omega)
  have ji : idx n (i : Int) < n := idx_lt (by omega) (by omega)
  have sΓ0 : StabΓ ((("i" : Str), IsI (i : Int)) :: Γb h₀ n M S Rrow) := (((((StabΓ.nil.cons sR).cons (sL (stab_map fun _ _ => sF))).cons (sL (stab_map fun _ _ => sF))).cons (sL (stab_map fun _ _ => sNF))).cons sN).cons sI
  refine tr_cons (tr_tuple [("x", IsNF h₀ (M (idx n ((i : Int) - 1))) (S (idx n ((i : Int) - 1)))), ("m", IsF (M (idx n ((i : Int) - 1)))), ("s", IsF (S (idx n ((i : Int) - 1))))] C R.hh sΓ0 ⟨sNF, sF, sF, trivial⟩ (fun H WH V => ?_) ?_ (by show (3 : Nat) ≤ 1000; decide) rfl rfl) ?_
  · refine evl_cons (ev_at (f := fun j => IsNF h₀ (M j) (S j)) WH (ev_name E.f V rfl (sL (stab_map fun _ _ => sNF)) rfl) (ev_bin WH (ev_name E.f V rfl sI rfl) ev_int sI o_subii) (fun _ _ => sNF) hz (by omega) (by omega) (fun _ _ => rfl)) sNF ?_ rfl
    refine evl_cons (ev_at (f := fun j => IsF (M j)) WH (ev_name E.f V rfl (sL (stab_map fun _ _ => sF)) rfl) (ev_bin WH (ev_name E.f V rfl sI rfl) ev_int sI o_subii) (fun _ _ => sF) hz (by omega) (by omega) (fun _ _ => rfl)) sF ?_ rfl
    refine evl_cons (ev_at (f := fun j => IsF (S j)) WH (ev_name E.f V rfl (sL (stab_map fun _ _ => sF)) rfl) (ev_bin WH (ev_name E.f V rfl sI rfl) ev_int sI o_subii) (fun _ _ => sF) hz (by omega) (by omega) (fun _ _ => rfl)) sF evl_nil rfl
  · intro p hp
    simp only [List.mem_cons, List.not_mem_nil, or_false] at hp
    rcases hp with rfl | rfl | rfl
    · exact E.x
    · exact E.m
    · exact E.s
  have sΓ1 : StabΓ ([(("x" : Str), IsNF h₀ (M (idx n ((i : Int) - 1))) (S (idx n ((i : Int) - 1)))), (("m" : Str), IsF (M (idx n ((i : Int) - 1)))), (("s" : Str), IsF (S (idx n ((i : Int) - 1))))] ++ (("i" : Str), IsI (i : Int)) :: Γb h₀ n M S Rrow) := ((sΓ0.cons sF).cons sF).cons sNF
  refine tr_cons (tr_tuple [("y", IsNF h₀ (M (idx n (i : Int))) (S (idx n (i : Int)))), ("c", IsF (M (idx n (i : Int)))), ("k", IsF (S (idx n (i : Int))))] C R.hh sΓ1 ⟨sNF, sF, sF, trivial⟩ (fun H WH V => ?_) ?_ (by show (3 : Nat) ≤ 1000; decide) rfl rfl) ?_
  · refine evl_cons (ev_at (f := fun j => IsNF h₀ (M j) (S j)) WH (ev_name E.f V rfl (sL (stab_map fun _ _ => sNF)) rfl) (ev_name E.f V rfl sI rfl) (fun _ _ => sNF) hz (by omega) (by omega) (fun _ _ => rfl)) sNF ?_ rfl
    refine evl_cons (ev_at (f := fun j => IsF (M j)) WH (ev_name E.f V rfl (sL (stab_map fun _ _ => sF)) rfl) (ev_name E.f V rfl sI rfl) (fun _ _ => sF) hz (by omega) (by omega) (fun _ _ => rfl)) sF ?_ rfl
    refine evl_cons (ev_at (f := fun j => IsF (S j)) WH (ev_name E.f V rfl (sL (stab_map fun _ _ => sF)) rfl) (ev_name E.f V rfl sI rfl) (fun _ _ => sF) hz (by omega) (by omega) (fun _ _ => rfl)) sF evl_nil rfl
  · intro p hp
    simp only [List.mem_cons, List.not_mem_nil, or_false] at hp
    rcases hp with rfl | rfl | rfl
    · exact E.y
    · exact E.c
    · exact E.k
  have sΓ2 : StabΓ ([(("y" : Str), IsNF h₀ (M (idx n (i : Int))) (S (idx n (i : Int)))), (("c" : Str), IsF (M (idx n (i : Int)))), (("k" : Str), IsF (S (idx n (i : Int))))] ++ ([(("x" : Str), IsNF h₀ (M (idx n ((i : Int) - 1))) (S (idx n ((i : Int) - 1)))), (("m" : Str), IsF (M (idx n ((i : Int) - 1)))), (("s" : Str), IsF (S (idx n ((i : Int) - 1))))] ++ (("i" : Str), IsI (i : Int)) :: Γb h₀ n M S Rrow)) := ((sΓ1.cons sF).cons sF).cons sNF
  refine tr_sub (t_rest (M := M) (S := S) E R hu hd C sΓ2 ?_ h3 hz hin (fun sΓ hl hz' => tr_refused C rfl K0 sΓ hl hz' rfl) rfl rfl rfl rfl rfl rfl rfl rfl rfl rfl rfl rfl rfl (fM _ jp) (pS _ jp) (fM _ ji) (pS _ ji) fM fun j hj => (pS j hj).fin) ?_
  · exact ⟨rfl, rfl, rfl, rfl, rfl, rfl, rfl, rfl, rfl, rfl, rfl, rfl, trivial⟩
  · exact ⟨rfl, rfl, rfl, rfl, rfl, trivial⟩
end
end Mine

open PySem PySem.W PySem.Calls PyProof.Rows
set_option Elab.async false
set_option maxRecDepth 100000
set_option maxHeartbeats 1000000
namespace Mine
theorem fill10_ (w : World) (h : Heap) : (lay01.heap_1 w.params).In h → Challenge.rw_oz0058_01.row.prog = Challenge.rw_oz0058_01.row.prog := by
  k_fill
  intros; rfl
theorem ofFrac_fin {b : Bool} {n d : Nat} (h : Float64.isInf (Float64.ofFrac b n d) = false) : Fin' (Float64.ofFrac b n d) := by
  have hl := W.roundMag_le n d
  refine ⟨b, Float64.roundMag n d, ?_, by unfold Float64.ofFrac; rfl⟩
  rcases Nat.lt_or_eq_of_le hl with x | x
  · exact x
  · exfalso
    unfold Float64.ofFrac at h
    rw [x] at h
    revert h
    cases b <;> decide +kernel
theorem lf_fin' (x y : Int) : Fin' (lf x y) := by
  have h := lf_fin x y
  unfold lf quo at *
  exact ofFrac_fin h
theorem hI {n : Int} : StabH (IsI n) := fun _ _ _ _ r => r
theorem map_range (rs : List Int) : rs.map IsI = (List.range rs.length).map fun j => IsI (rs.getD j 0) := by
  refine List.ext_getElem (by simp) fun j h1 h2 => ?_
  have hj : j < rs.length := by simpa using h1
  simp [List.getD_eq_getElem?_getD, List.getElem?_eq_getElem hj]
section
variable {w : World} {h₀ : Heap} {cn : Str} {L a : Addr} {ccd : Value} {c1 c2 c3 : Addr}
abbrev envM (cn : Str) (L a : Addr) (ccd : Value) (c1 c2 c3 : Addr) : Env := envL cn L a ccd [(("spreads" : Str), c3), (("means" : Str), c2), (("row" : Str), c1)]
theorem row_first {A : Around} {ns : List Int} {s : Shared} {Q : Flow → Shared → Prop} (C : Cx w (envM cn L a ccd c1 c2 c3) h₀) (hlen : ns.length ≤ 63) (S : Sto (envM cn L a ccd c1 c2 c3) h₀ [(("script" : Str), IsL (ns.map IsI))] s.heap)
    (hQ : ∀ h' tk, 0 < tk → Sto (envM cn L a ccd c1 c2 c3) h₀ [(("row" : Str), IsL ((ns ++ [49, 0, -3]).map IsI))] h' → Q .next { s with heap := h', toks := tk }) :
    wpAny (model Challenge.rw_oz0058_01.row.prog w) A (exec (lawStmts.headD (.Pass ⟨0, 0, 0, 0⟩)) (envM cn L a ccd c1 c2 c3)) Q (fun _ _ => False) s := by
  have WD := S.wd C
  have stI : ∀ l : List Int, StabL (l.map IsI) := fun l => by
    induction l with
    | nil => trivial
    | cons x r ih => exact ⟨sI, ih⟩
  have sΓ : StabΓ [(("script" : Str), IsL (ns.map IsI))] := StabΓ.nil.cons (sL (stI ns))
  rcases S.vars "script" _ rfl with ⟨hk, m, v, hn, hv, hr⟩ | ⟨hk, _⟩
  · refine wpAny_Assign_Name (wpAny_BinOp (wpAny_Name (wpAny_loadName_local C.envF.kind hk hn hv ?_) rfl)) rfl
    refine List_ (spliced_more (wpAny_Constant_int ?_) rfl)
    refine evl_cons ev_int sI (evl_cons (ev_un (R := IsI 3) (R' := IsI (-3)) WD ev_int o_negi) sI evl_nil rfl) rfl _ _ _ _ (Stays.refl _) (Nat.succ_pos _) fun vs h1 tk1 k1 p1 rs => ?_
    have k1' : Stays s.heap h1 := k1
    have hpush : Stays h1 (h1.push { cls := .type "list", data := .seq (Value.int 49 s.toks :: vs).toArray }) := fun b o e => Heap.get?_push_of_some _ e
    have len2 : vs.length = 2 := rs.length
    refine wpAny_newObj_type ?_ (by
      show (Value.int 49 s.toks :: vs).toArray.size ≤ sizeLine
      rw [List.size_toArray, List.length_cons, len2, sizeLine_eq]; decide)
    have kk := k1'.trans hpush
    refine o_addll (Rs := ns.map IsI) (Rs' := [49, 0, -3].map IsI) (by simp; omega) (stI _) (stI _) _ _ _ _ _ (WD.grow kk) p1 (sL (stI ns) _ _ _ (.of kk) hr) ⟨_, _, rfl, ⟨_, Heap.get?_push_size _ rfl, rfl, 0, rfl⟩, ⟨⟨_, rfl⟩, All2.stab ⟨sI, sI, trivial⟩ (.of hpush) rs⟩⟩ fun v h3 tk3 k3 p3 rv => ?_
    have S3 := S.grow sΓ (kk.trans k3)
    rw [← List.map_append] at rv
    refine store_any C sΓ (sL (stI _)) S3 rv (.inr ⟨rfl, _, _, rfl, (S3.cel ("row" : Str) c1 rfl).choose_spec⟩) p3 fun h4 tk4 k4 p4 _ S4 => ?_
    exact hQ h4 tk4 p4 (S4.sub ⟨rfl, trivial⟩)
  · cases hk

/-- the names of a comprehension's own frame: its i and one or two of the law's cells -/
theorem c_vars {H H' : Heap} {sc : Scope} {cl : List (Str × Addr)} {env : Env} {C : Addr} {m : Str → Option Value} {v : Value} {Γ Γc : List (Str × HP)} {Ri : HP} (V : Vars env H Γ) (kH : Stays H H') (hn : H'.Ns C m) (hm : m ("i" : Str) = some v) (hr : Ri H' v) (sΓ : StabΓ Γ)
    (hki : (compEnvC sc cl C env).kindOf ("i" : Str) = some .local)
    (hc : ∀ x R, Γc.lookup x = some R → Γ.lookup x = some R ∧ env.kindOf x = some .cell ∧ (compEnvC sc cl C env).kindOf x = some .cell ∧ cl.lookup x = env.cells.lookup x) : Vars (compEnvC sc cl C env) H' ((("i" : Str), Ri) :: Γc) := by
  intro x R e
  rw [List.lookup_cons] at e
  split at e
  · rename_i hx
    have hx' : x = "i" := by simpa using hx
    subst hx'; cases e
    exact .inl ⟨hki, m, v, hn, hm, hr⟩
  · obtain ⟨h1, h2, h3, h4⟩ := hc x R e
    rcases V x R h1 with ⟨hk, _⟩ | ⟨_, c, u, hcl, hcell, hu⟩
    · rw [h2] at hk; cases hk
    · exact .inr ⟨h3, c, u, h4.trans hcl, hcell.keeps kH, (sΓ x R h1).mono _ _ _ kH hu⟩
theorem o_lenR {w : World} {A : Around} {n : Nat} {f : Nat → HP} (hz : n ≤ 1000) : OpN w A (.builtin "len") [IsL ((List.range n).map f)] (IsI (n : Int)) := by
  have := o_len (w := w) (A := A) (Rs := (List.range n).map f) (by simpa using hz)
  rwa [List.length_map, List.length_range] at this
def Rv (ns : List Int) (j : Nat) : Int := (ns ++ [49, 0, -3]).getD j 0
def Mn (ns : List Int) (i : Nat) : UInt64 := lf (Rv ns (idx (ns ++ [49, 0, -3]).length (i : Int))) (Rv ns (idx (ns ++ [49, 0, -3]).length ((i : Int) - 1)))
def Sp (ns : List Int) (i : Nat) : UInt64 := Float64.abs (lf (Rv ns (idx (ns ++ [49, 0, -3]).length ((i : Int) - 1))) (Rv ns (idx (ns ++ [49, 0, -3]).length (i : Int))))
abbrev Rrow (ns : List Int) : HP := IsL ((List.range (ns ++ [49, 0, -3]).length).map fun j => IsI (Rv ns j))
theorem len_n (ns : List Int) : (ns ++ [49, 0, -3]).length = ns.length + 3 := by simp
/-- range(len(row)) -/
theorem ev_rng {A : Around} {H : Heap} {Γ : List (Str × HP)} {ns : List Int} {p1 p2 p3 p4 p5 : Pos} (hlen : ns.length ≤ 63) (WH : Wd w H) (V : Vars (envM cn L a ccd c1 c2 c3) H Γ) (hrow : Γ.lookup ("row" : Str) = some (Rrow ns)) :
    Ev w A (envM cn L a ccd c1 c2 c3) H (.Call (.Name "range" p1) [.Call (.Name "len" p2) [.Name "row" p3] [] p4] [] p5) (IsR ((ns ++ [49, 0, -3]).length : Int)) := by
  have E := lEnv (cn := cn) (L := L) (a := a) (ccd := ccd) (cl := [(("spreads" : Str), c3), (("means" : Str), c2), (("row" : Str), c1)])
  have hz : (ns ++ [49, 0, -3]).length ≤ 1000 := by rw [len_n]; omega
  exact ev_callT WH (ev_boot E.f WH rfl (by k_is) rfl (by decide) rfl) (evl_cons (ev_callB WH (ev_boot E.f WH rfl (by k_is) rfl (by decide) rfl) (evl_cons (ev_name E.f V hrow (sL (stab_map fun _ _ => sI)) rfl) (sL (stab_map fun _ _ => sI)) evl_nil rfl) (o_lenR hz) rfl rfl rfl) sI evl_nil rfl) o_range rfl rfl rfl
theorem Ev.castR {A : Around} {env : Env} {H : Heap} {e : Expr} {R R' : HP} (h : Ev w A env H e R) (k : R = R') : Ev w A env H e R' := k ▸ h
theorem idx_nat (n i : Nat) : idx n (i : Int) = i := by unfold idx; rw [if_neg (by omega)]; omega
def compScope : List Stmt → Scope
  | .Assign _ (.ListComp _ _ s _) _ :: _ => s
  | _ => lawScope
theorem cEnvF {sc : Scope} {cl : List (Str × Addr)} {C : Addr} (h : sc.kind = .function) : EnvF (compEnvC sc cl C (envM cn L a ccd c1 c2 c3)) := ⟨h, rfl, rfl⟩
theorem t_law {ns : List Int} {s : Shared} {Q : Flow → Shared → Prop} (K0 : Below callerA h₀ [] h₀) (R : Rm (callerA.deeper (envM cn L a ccd c1 c2 c3))) (hu : (callerA.deeper (envM cn L a ccd c1 c2 c3)).in1.units + 1 < cLine) (hd : (callerA.deeper (envM cn L a ccd c1 c2 c3)).in1.depth + 6 < recursionLimit)
    (C : Cx w (envM cn L a ccd c1 c2 c3) h₀) (hlen : ns.length ≤ 63) (S : Sto (envM cn L a ccd c1 c2 c3) h₀ [(("script" : Str), IsL (ns.map IsI))] s.heap)
    (hQ : ∀ h' tk m, Fr h₀ L h' m → Q (.ret (.bool true)) { s with heap := h', toks := tk }) :
    wpAny (model Challenge.rw_oz0058_01.row.prog w) (callerA.deeper (envM cn L a ccd c1 c2 c3)) (execs lawStmts (envM cn L a ccd c1 c2 c3)) Q (fun _ _ => False) s := by
  have E := lEnv (cn := cn) (L := L) (a := a) (ccd := ccd) (cl := [(("spreads" : Str), c3), (("means" : Str), c2), (("row" : Str), c1)])
  refine wpAny_execs_cons (row_first C hlen S fun h1 tk1 p1 S1 => ?_)
  rw [map_range] at S1
  have hn := len_n ns
  have hz : (ns ++ [49, 0, -3]).length ≤ 1000 := by rw [hn]; omega
  have h0 : 0 < (ns ++ [49, 0, -3]).length := by rw [hn]; omega
  have h3 : 3 ≤ (ns ++ [49, 0, -3]).length := by rw [hn]; omega
  have sR1 : Stab (Rrow ns) := sL (stab_map fun _ _ => sI)
  have sΓ1 : StabΓ [(("row" : Str), Rrow ns)] := StabΓ.nil.cons sR1
  have cellV : ∀ {Γ : List (Str × HP)} {x : Str} {c : Addr}, List.lookup x [(("spreads" : Str), c3), (("means" : Str), c2), (("row" : Str), c1)] = some c → (envM cn L a ccd c1 c2 c3).kindOf x = some .cell → ∀ h, Sto (envM cn L a ccd c1 c2 c3) h₀ Γ h → IsVar (envM cn L a ccd c1 c2 c3) x h := fun hl hk h S => by
    obtain ⟨v, hv⟩ := S.cel _ _ hl
    exact .inr ⟨hk, _, _, hl, hv⟩
  have key : Tr w (callerA.deeper (envM cn L a ccd c1 c2 c3)) (envM cn L a ccd c1 c2 c3) h₀ (exec ((lawStmts.drop 1).headD (.Pass ⟨0, 0, 0, 0⟩)) (envM cn L a ccd c1 c2 c3)) [(("row" : Str), Rrow ns)] [(("means" : Str), IsL ((List.range (ns ++ [49, 0, -3]).length).map fun j => IsF (Mn ns j))), (("row" : Str), Rrow ns)] := by
    refine tr_assign C sΓ1 (sL (stab_map fun _ _ => sF)) (fun H WH V => ?_) (cellV rfl rfl) rfl
    refine ev_comp (Rit := IsR ((ns ++ [49, 0, -3]).length : Int)) (Ri := fun i => IsI (i : Int)) (cl := [(("row" : Str), c1)]) hz h0 (fun _ _ => hF) (fun _ _ => hI) rfl (by decide) rfl (by decide) rfl (ev_rng hlen WH V rfl) (hands_range R.hh hz) (fun i hi C' H' m v kH hn' hm hr => ?_) (fun _ => rfl)
    have V' := c_vars (Γc := [(("row" : Str), Rrow ns)]) V kH hn' hm hr sΓ1 (sc := compScope (lawStmts.drop 1)) (cl := [(("row" : Str), c1)]) rfl (fun x R e => by
      rw [List.lookup_cons] at e
      split at e
      · rename_i hx
        have hx' : x = "row" := by simpa using hx
        subst hx'; exact ⟨by rw [List.lookup_cons]; simpa using e, rfl, rfl, rfl⟩
      · cases e)
    have EF := cEnvF (cn := cn) (L := L) (a := a) (ccd := ccd) (c1 := c1) (c2 := c2) (c3 := c3) (sc := compScope (lawStmts.drop 1)) (cl := [(("row" : Str), c1)]) (C := C') rfl
    have WH' := WH.grow kH
    refine ev_callK WH' (ev_glob (v := .ref 281) EF WH' rfl (by k_is) rfl) (by k_is) (evl_cons ?_ sI (evl_cons ?_ sI evl_nil rfl) rfl) (o_lawf R) rfl rfl rfl
    · exact ev_at (f := fun j => IsI (Rv ns j)) WH' (ev_name EF V' rfl sR1 rfl) (ev_name EF V' rfl sI rfl) (fun _ _ => sI) hz (by omega) (by omega) (fun _ _ => rfl)
    · exact ev_at (f := fun j => IsI (Rv ns j)) WH' (ev_name EF V' rfl sR1 rfl) (ev_bin WH' (ev_name EF V' rfl sI rfl) ev_int sI o_subii) (fun _ _ => sI) hz (by omega) (by omega) (fun _ _ => rfl)
  have sΓ2 : StabΓ [(("means" : Str), IsL ((List.range (ns ++ [49, 0, -3]).length).map fun j => IsF (Mn ns j))), (("row" : Str), Rrow ns)] := sΓ1.cons (sL (stab_map fun _ _ => sF))
  have key2 : Tr w (callerA.deeper (envM cn L a ccd c1 c2 c3)) (envM cn L a ccd c1 c2 c3) h₀ (exec ((lawStmts.drop 2).headD (.Pass ⟨0, 0, 0, 0⟩)) (envM cn L a ccd c1 c2 c3)) [(("means" : Str), IsL ((List.range (ns ++ [49, 0, -3]).length).map fun j => IsF (Mn ns j))), (("row" : Str), Rrow ns)]
      [(("spreads" : Str), IsL ((List.range (ns ++ [49, 0, -3]).length).map fun j => IsF (Sp ns j))), (("means" : Str), IsL ((List.range (ns ++ [49, 0, -3]).length).map fun j => IsF (Mn ns j))), (("row" : Str), Rrow ns)] := by
    refine tr_assign C sΓ2 (sL (stab_map fun _ _ => sF)) (fun H WH V => ?_) (cellV rfl rfl) rfl
    refine ev_comp (Rit := IsR ((ns ++ [49, 0, -3]).length : Int)) (Ri := fun i => IsI (i : Int)) (cl := [(("row" : Str), c1)]) hz h0 (fun _ _ => hF) (fun _ _ => hI) rfl (by decide) rfl (by decide) rfl (ev_rng hlen WH V rfl) (hands_range R.hh hz) (fun i hi C' H' m v kH hn' hm hr => ?_) (fun _ => rfl)
    have V' := c_vars (Γc := [(("row" : Str), Rrow ns)]) V kH hn' hm hr sΓ2 (sc := compScope (lawStmts.drop 2)) (cl := [(("row" : Str), c1)]) rfl (fun x R e => by
      rw [List.lookup_cons] at e
      split at e
      · rename_i hx
        have hx' : x = "row" := by simpa using hx
        subst hx'; cases e; exact ⟨rfl, rfl, rfl, rfl⟩
      · cases e)
    have EF := cEnvF (cn := cn) (L := L) (a := a) (ccd := ccd) (c1 := c1) (c2 := c2) (c3 := c3) (sc := compScope (lawStmts.drop 2)) (cl := [(("row" : Str), c1)]) (C := C') rfl
    have WH' := WH.grow kH
    refine ev_callB WH' (ev_boot EF WH' rfl (by k_is) rfl (by decide) rfl) (evl_cons ?_ sF evl_nil rfl) o_absf rfl rfl rfl
    refine ev_callK WH' (ev_glob (v := .ref 281) EF WH' rfl (by k_is) rfl) (by k_is) (evl_cons ?_ sI (evl_cons ?_ sI evl_nil rfl) rfl) (o_lawf R) rfl rfl rfl
    · exact ev_at (f := fun j => IsI (Rv ns j)) WH' (ev_name EF V' rfl sR1 rfl) (ev_bin WH' (ev_name EF V' rfl sI rfl) ev_int sI o_subii) (fun _ _ => sI) hz (by omega) (by omega) (fun _ _ => rfl)
    · exact ev_at (f := fun j => IsI (Rv ns j)) WH' (ev_name EF V' rfl sR1 rfl) (ev_name EF V' rfl sI rfl) (fun _ _ => sI) hz (by omega) (by omega) (fun _ _ => rfl)
  have sΓ3 : StabΓ [(("spreads" : Str), IsL ((List.range (ns ++ [49, 0, -3]).length).map fun j => IsF (Sp ns j))), (("means" : Str), IsL ((List.range (ns ++ [49, 0, -3]).length).map fun j => IsF (Mn ns j))), (("row" : Str), Rrow ns)] := sΓ2.cons (sL (stab_map fun _ _ => sF))
  have pS : ∀ j, Pos' (Sp ns j) := fun j => (lf_fin' _ _).abs
  have fM : ∀ j, Fin' (Mn ns j) := fun j => lf_fin' _ _
  have key3 : Tr w (callerA.deeper (envM cn L a ccd c1 c2 c3)) (envM cn L a ccd c1 c2 c3) h₀ (exec ((lawStmts.drop 3).headD (.Pass ⟨0, 0, 0, 0⟩)) (envM cn L a ccd c1 c2 c3))
      [(("spreads" : Str), IsL ((List.range (ns ++ [49, 0, -3]).length).map fun j => IsF (Sp ns j))), (("means" : Str), IsL ((List.range (ns ++ [49, 0, -3]).length).map fun j => IsF (Mn ns j))), (("row" : Str), Rrow ns)]
      [(("ring" : Str), IsL ((List.range (ns ++ [49, 0, -3]).length).map fun j => IsNF h₀ (Mn ns j) (Sp ns j))), (("spreads" : Str), IsL ((List.range (ns ++ [49, 0, -3]).length).map fun j => IsF (Sp ns j))), (("means" : Str), IsL ((List.range (ns ++ [49, 0, -3]).length).map fun j => IsF (Mn ns j))), (("row" : Str), Rrow ns)] := by
    refine tr_comp (Rit := IsR ((ns ++ [49, 0, -3]).length : Int)) (Ri := fun i => IsI (i : Int)) (Rs := fun j => IsNF h₀ (Mn ns j) (Sp ns j)) (cl := [(("spreads" : Str), c3), (("means" : Str), c2)]) C sΓ3 hz h0 (fun _ _ => hNF) (fun _ _ => hI) rfl rfl (by decide) rfl (by decide) rfl rfl (fun H WH V => ev_rng hlen WH V rfl) (hands_range R.hh hz) (fun H k0 WH V i hi C' H' m v kH hn' hm hr => ?_) (fun _ => rfl)
    · have V' := c_vars (Γc := [(("means" : Str), IsL ((List.range (ns ++ [49, 0, -3]).length).map fun j => IsF (Mn ns j))), (("spreads" : Str), IsL ((List.range (ns ++ [49, 0, -3]).length).map fun j => IsF (Sp ns j)))]) V kH hn' hm hr sΓ3 (sc := compScope (lawStmts.drop 3)) (cl := [(("spreads" : Str), c3), (("means" : Str), c2)]) rfl (fun x R e => by
        rw [List.lookup_cons] at e
        split at e
        · rename_i hx
          have hx' : x = "means" := by simpa using hx
          subst hx'; cases e; exact ⟨rfl, rfl, rfl, rfl⟩
        · rw [List.lookup_cons] at e
          split at e
          · rename_i hx
            have hx' : x = "spreads" := by simpa using hx
            subst hx'; cases e; exact ⟨rfl, rfl, rfl, rfl⟩
          · cases e)
      have EF := cEnvF (cn := cn) (L := L) (a := a) (ccd := ccd) (c1 := c1) (c2 := c2) (c3 := c3) (sc := compScope (lawStmts.drop 3)) (cl := [(("spreads" : Str), c3), (("means" : Str), c2)]) (C := C') rfl
      have WH' := WH.grow kH
      refine ev_mkF (k0.trans kH) WH' R (pS i).nn (ev_glob (v := .ref 270) EF WH' rfl (by k_is) rfl) (by k_is) (evl_cons ?_ sF (evl_cons ?_ sF evl_nil rfl) rfl) rfl rfl rfl
      · exact Ev.castR (ev_at (f := fun j => IsF (Mn ns j)) WH' (ev_name EF V' rfl (sL (stab_map fun _ _ => sF)) rfl) (ev_name EF V' rfl sI rfl) (fun _ _ => sF) hz (by omega) (by omega) (fun _ _ => rfl)) (by rw [idx_nat])
      · exact Ev.castR (ev_at (f := fun j => IsF (Sp ns j)) WH' (ev_name EF V' rfl (sL (stab_map fun _ _ => sF)) rfl) (ev_name EF V' rfl sI rfl) (fun _ _ => sF) hz (by omega) (by omega) (fun _ _ => rfl)) (by rw [idx_nat])
  have sΓ4 := sΓ3.cons (x := ("ring" : Str)) (sL (stab_map (n := (ns ++ [49, 0, -3]).length) (f := fun j => IsNF h₀ (Mn ns j) (Sp ns j)) fun _ _ => sNF))
  have sΓ5 := sΓ4.cons (x := ("plain" : Str)) (sN (a := 0) (b := 4607182418800017408))
  refine wpAny_execs_cons (key _ _ S1 p1 fun h2 tk2 _ p2 S2 => wpAny_execs_cons (key2 _ _ S2 p2 fun h3' tk3 _ p3 S3 => wpAny_execs_cons (key3 _ _ S3 p3 fun h4 tk4 _ p4 S4 => ?_)))
  refine wpAny_execs_cons (tr_assign C sΓ4 sN (fun H WH V => ev_callK0 WH (ev_glob (v := .ref 270) E.f WH rfl (by k_is) rfl) (by k_is) (o_mk0 R) rfl) (fun _ _ => .inl rfl) rfl _ _ S4 p4 fun h5 tk5 _ p5 S5 => ?_)
  refine wpAny_execs_cons (tr_loop (n := (ns ++ [49, 0, -3]).length) (Rs := fun i => IsI (i : Int)) (Γ := Γb h₀ (ns ++ [49, 0, -3]).length (Mn ns) (Sp ns) (Rrow ns)) C sΓ5 (fun _ _ => sI) (fun H WH V => ev_rng hlen WH V rfl) (fun _ _ => .inl rfl) (hands_range R.hh hz) (fun i hi => t_loop R C K0 hu hd sR1 h3 hz hi (fun j _ => fM j) (fun j _ => pS j)) (fun _ => rfl) _ _ S5 p5 fun h6 tk6 _ p6 S6 => ?_)
  refine wpAny_execs_cons (wpAny_Return_some (wpAny_Constant_bool ?_))
  obtain ⟨_, F6, _⟩ := S6.fr
  exact hQ h6 tk6 _ F6
end
end Mine

open PySem PySem.W PySem.Calls PyProof.Rows
set_option Elab.async false
set_option maxRecDepth 100000
set_option maxHeartbeats 2000000
namespace Mine
theorem ints_all {h : Heap} : ∀ {vs : List Value} {ns : List Int}, IntsAre vs ns → All2 (ns.map IsI) h vs
  | _, _, .nil => trivial
  | _, _, .cons n t r => ⟨⟨t, rfl⟩, ints_all r⟩
theorem rm0 {env : Env} : Rm (callerA.deeper env) := ⟨rfl, by show callerA.depth + 1 + 60 < recursionLimit; decide, by show callerA.units + 3 + 600 < cLine; decide⟩
theorem unit0 {env : Env} : (callerA.deeper env).in1.units + 1 < cLine := by show callerA.units + 3 + 1 + 1 < cLine; decide
theorem depth0 {env : Env} : (callerA.deeper env).in1.depth + 6 < recursionLimit := by show callerA.depth + 1 + 6 < recursionLimit; decide
/-- from the head's state into the law -/
theorem enter {w : World} {h₀ : Heap} {cn : Str} {L a : Addr} {ccd : Value} {ns : List Int} {vs : List Value} {l : Addr} {m : Str → Option Value} {o1 o2 o3 : Obj} {v1 v2 v3 : Option Value} {loose : List Str} {mean : ExcName → Option Value} {mg mb : Str → Option Value} {s : Shared} {Q : Flow → Shared → Prop} {E : Value → Shared → Prop}
    (K0 : Below callerA h₀ [] h₀) (KX : (lay01.heap_1 w.params).In h₀) (T : Top view01 loose mean mg mb h₀) (F : Fr h₀ L s.heap m) (hm : m ("script" : Str) = some (.ref l)) (hL : h₀.IsList l vs.toArray) (hI : IntsAre vs ns) (hlen : ¬ (63 : Int) < (ns.length : Int))
    (N : News h₀ L s.heap [(L + 1 + 1 + 1, o3), (L + 1 + 1, o2), (L + 1, o1)]) (d3 : o3.data = .cell v3) (d2 : o2.data = .cell v2) (d1 : o1.data = .cell v1)
    (hQ : ∀ h' tk m, Fr h₀ L h' m → Q (.ret (.bool true)) { s with heap := h', toks := tk }) :
    wpAny (model Challenge.rw_oz0058_01.row.prog w) (callerA.deeper (envOfC cn lawScope L a ccd)) (execs lawStmts (envOfC cn lawScope L a ccd)) Q E s := by
  have n3 := N _ (.head _)
  have n2 := N _ (.tail _ (.head _))
  have n1 := N _ (.tail _ (.tail _ (.head _)))
  have C : Cx w (envM cn L a ccd (L + 1) (L + 1 + 1) (L + 1 + 1 + 1)) h₀ := by
    refine ⟨KX, ⟨_, _, _, _, T⟩, ⟨rfl, rfl, rfl⟩, fun x c e => ?_, fun x y c e e' => ?_⟩
    · simp only [List.lookup_cons, List.lookup_nil] at e
      split at e
      · cases e; exact n3.2.2
      · split at e
        · cases e; exact n2.2.2
        · split at e
          · cases e; exact n1.2.2
          · cases e
    · have q : ∀ z, List.lookup z [(("spreads" : Str), L + 1 + 1 + 1), (("means" : Str), L + 1 + 1), (("row" : Str), L + 1)] = some c → (z = "spreads" ∧ c = L + 1 + 1 + 1) ∨ (z = "means" ∧ c = L + 1 + 1) ∨ (z = "row" ∧ c = L + 1) := fun z e => by
        simp only [List.lookup_cons, List.lookup_nil] at e
        split at e
        · rename_i h; cases e; exact .inl ⟨by simpa using h, rfl⟩
        · split at e
          · rename_i h; cases e; exact .inr (.inl ⟨by simpa using h, rfl⟩)
          · split at e
            · rename_i h; cases e; exact .inr (.inr ⟨by simpa using h, rfl⟩)
            · cases e
      rcases q x e with ⟨h, hc⟩ | ⟨h, hc⟩ | ⟨h, hc⟩ <;> rcases q y e' with ⟨h', hc'⟩ | ⟨h', hc'⟩ | ⟨h', hc'⟩ <;> first
        | exact h.trans h'.symm
        | (exfalso; have q0 : @Eq Nat _ _ := hc.symm.trans hc'; omega)
  have S : Sto (envM cn L a ccd (L + 1) (L + 1 + 1) (L + 1 + 1 + 1)) h₀ [(("script" : Str), IsL (ns.map IsI))] s.heap := by
    refine ⟨⟨m, F, "script", _, hm⟩, fun z R e => ?_, fun x c e => ?_⟩
    · rw [List.lookup_cons] at e
      split at e
      · rename_i hz
        have hz' : z = "script" := by simpa using hz
        subst hz'; cases e
        exact .inl ⟨rfl, m, _, F.ns, hm, l, vs, rfl, IsList.keepD (.of F.keep) hL, ints_all hI⟩
      · cases e
    · simp only [List.lookup_cons, List.lookup_nil] at e
      split at e
      · cases e; exact ⟨_, o3, n3.1, d3⟩
      · split at e
        · cases e; exact ⟨_, o2, n2.1, d2⟩
        · split at e
          · cases e; exact ⟨_, o1, n1.1, d1⟩
          · cases e
  exact wpAny_noRaise (t_law K0 rm0 unit0 depth0 C (by omega) S hQ)

theorem holds : PySem.Challenge.rw_oz0058_01.Holds := hd01 (by
  k_go0
  (all_goals try k_fold)
  (rename Fr _ _ _ _ => F)
  (rename IntsAre _ _ => hI)
  (rename CellsAre _ _ _ => X0)
  (rename News _ _ _ _ => N0)
  (rename (Heap.IsList _ _ _) => hL)
  (rename Below _ _ _ _ => K0)
  (rename Frag.In _ _ => KX)
  (rename Top _ _ _ _ _ _ => T)
  (rename (_ = #[]) => hg)
  (rename (¬ _ < _) => hlen)
  (rcases X0 with _ | ⟨d3, X0⟩; rcases X0 with _ | ⟨d2, X0⟩; rcases X0 with _ | ⟨d1, X0⟩)
  refine enter (ns := _) K0 KX T F rfl hL hI hlen N0 d3 d2 d1 fun h' tk m' F' => ?_
  k_unfold
  clear F
  dsimp only
  wrow_close)
end Mine

theorem PySem.Challenge.cw_oz0058_01_holds : PySem.Challenge.rw_oz0058_01.Holds :=
  Mine.holds
