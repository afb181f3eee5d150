import PyProof.Rows.All
import Wide.All
import OpenK.AllK
import Wide.FinOn
import PyProof.Rows.WhileGen
import PyProof.EnumFor
import PyProof.EnumMake
import PyProof.StrLawsIdx
import PyProof.StrLawsNeg
import PyProof.StrLawsLast
import PyProof.StrLawsTight
import PyProof.EqAt
import PyProof.MinMaxWalk
import KE.KSortKey
import PyProof.ZipIter
import PyProof.SetRoads
import PyProof.EnumIter
import PyProof.WalksMore
import Lean
import PySem.Challenge.RW_ik0008_01

section -- T2
open PySem PySem.W PyProof.Rows
set_option Elab.async false
set_option maxRecDepth 100000
set_option maxHeartbeats 0
namespace Mine
/-- the text's top less the rows that bind nothing -/
noncomputable def view0 : Program := { PySem.Challenge.pw_ik0008_01 with main := { PySem.Challenge.pw_ik0008_01.main with body := [0, 1, 3, 5, 7, 9, 10, 12, 14, 15, 17, 18, 19, 20, 21, 23, 24, 25, 26, 27, 29, 30, 31, 32, 33, 34, 35, 36, 37].filterMap fun i => PySem.Challenge.pw_ik0008_01.main.body[i]? } }
set_option hygiene false
section
local macro_rules | `(tactic| o_head $_H) => `(tactic| assumption)
/-- the objects that the call can come to, written out by the library -/
theorem hk : OpenRow.Holds PySem.Challenge.rw_ik0008_01.row → OpenRow.Holds PySem.Challenge.rw_ik0008_01.row := by
  intro h
  k_head
end
noncomputable abbrev asK : List Addr := [2, 3, 15, 17, 18, 20, 21, 29, 31, 32, 34, 35, 36, 38, 39, 41, 42, 43, 50, 52, 53, 55, 56, 57, 58, 59, 62, 69, 71, 72, 74, 75, 76, 78, 79, 81, 82, 83, 85, 86, 88, 89, 90, 91, 92, 95, 97, 98, 100, 101, 102, 104, 105, 107, 108, 109, 111, 112, 114, 115, 116, 118, 119, 121, 122, 123, 125, 126, 128, 129, 130, 132, 133, 135, 136, 137, 139, 140, 142, 143, 144, 146, 147, 149, 150, 151, 153, 154, 156, 157, 161, 163, 164, 166, 167, 168, 170, 171, 173, 174, 175, 177, 178, 180, 181, 182, 184, 185, 187, 188, 189, 192, 193, 194, 196, 197, 199, 200, 201, 203, 204, 206, 207, 208, 210, 211, 213, 214, 215, 217, 218, 220, 221, 222, 224, 225, 227, 228, 229, 231, 232, 234, 235, 236, 239, 240, 241, 244, 245, 246, 249, 250]
theorem asK_eq : ∀ P, asK = (hk.heap_1 P).map (·.1) := fun _ => by kernel_rfl
noncomputable abbrev kH : Hook := kHook hk.heap_1 asK asK_eq
noncomputable abbrev Xt0 : Shared → Bool := fun s => xlAt view0 [] s && recOk (RowW.records (OpenRow.toRowW PySem.Challenge.rw_ik0008_01.row)) s
noncomputable abbrev bootS (w : World) (os : OsState) : Shared := ⟨boot_heap w.params, Array.mk [], boot_drawn, boot_toks, os⟩
theorem ends_boot (w : World) : ∃ os : OsState, openEnds treeTable PySem.Challenge.pw_ik0008_01 w 3632 = topFrom treeTable PySem.Challenge.pw_ik0008_01 w 3632 (bootS w os) := by
  have b := boot_open (p := PySem.Challenge.pw_ik0008_01) (N := 3632) (by kernel_rfl) (by decide) (fun s => by kernel_rfl) w
  obtain ⟨s, hs, hv⟩ := Option.map_eq_some_iff.mp b
  refine ⟨s.os, ?_⟩
  unfold openEnds
  rw [hs, Option.bind_some]
  obtain ⟨h, g, d, t, os⟩ := s
  simp only [Prod.mk.injEq] at hv
  obtain ⟨rfl, rfl, rfl, rfl⟩ := hv
  rfl
/-- the top's run in the world that answers no -/
theorem run_no : ∀ (w : World) (os : OsState), (topFrom treeTable PySem.Challenge.pw_ik0008_01 (w.withFollow "special-get-raises" false) 3632 (bootS (w.withFollow "special-get-raises" false) os)).map (fun s => (openSeen view0 [] (importedModules PySem.Challenge.pw_ik0008_01.main.body) Xt0 true s, kH.obs s)) = some (openGood view0 [], kH.val (w.withFollow "special-get-raises" false)) := by
  intro w os
  unfold topFrom
  rw [PySem.W.Fast.te14082659384304107361, PySem.W.Fast.te14364793385576792824]
  kernel_rfl
/-- the top's run in the world that answers yes -/
theorem run_yes : ∀ (w : World) (os : OsState), (topFrom treeTable PySem.Challenge.pw_ik0008_01 (w.withFollow "special-get-raises" true) 3632 (bootS (w.withFollow "special-get-raises" true) os)).map (fun s => (openSeen view0 [] (importedModules PySem.Challenge.pw_ik0008_01.main.body) Xt0 true s, kH.obs s)) = some (openGood view0 [], kH.val (w.withFollow "special-get-raises" true)) := by
  intro w os
  unfold topFrom
  rw [PySem.W.Fast.te14082659384304107361, PySem.W.Fast.te14364793385576792824]
  kernel_rfl
theorem left0 : LeftO PySem.Challenge.pw_ik0008_01 view0 [] Xt0 kH.obs kH.val 3632 := fun w => by
  have e := World.withFollow_self w "special-get-raises"
  obtain ⟨os, ho⟩ := ends_boot w
  rw [ho]
  cases hb : w.params.followText "special-get-raises" <;> rw [hb] at e
  · have := run_no w os; rw [e] at this; exact this
  · have := run_yes w os; rw [e] at this; exact this
theorem law_said : OpenLaw.wellSaid PySem.Challenge.rw_ik0008_01 = true := by
  rw [PySem.W.Fast.te9446332074065402090]
  kernel_rfl
local macro_rules | `(tactic| o_law) => `(tactic| refine holds_law law_said fun said => ?_)
local macro_rules | `(tactic| k_head) => `(tactic| refine holds_open (q := view0) (loose := []) (Xt := Xt0) (XP := XL view0 []) (Yf := kH.obs) (Ya := kH.val) (YP := kH.says) (N := 3632) left0 kH.of kH.keeps (fun s e => xl_of s (Bool.and_eq_true_iff.mp e).1) XL.keeps (by rfl) (by rfl) (by rfl) (fun s e => recFacts_of (Bool.and_eq_true_iff.mp e).2) (by rfl) (by first | assumption | decide +kernel) (by decide +kernel) ⟨rfl, rfl, rfl, rfl, rfl, by decide +kernel⟩ ?hw ?hc)
open_top hd for PySem.Challenge.rw_ik0008_01
end Mine
end

section -- C0
open PySem PySem.W PyProof.Rows
set_option Elab.async false
set_option maxRecDepth 100000
set_option maxHeartbeats 0
namespace Mine

/-- a call of the def at f, from a def's frame -/
noncomputable def Con (w : World) (mean : ExcName → Option Value) (mg mb : Str → Option Value) (D : Nat) (f : Addr) (news : List (Addr × Obj)) (vs : List Value) (R : Value → List (Addr × Obj) → Prop) : Prop :=
  ∀ (dp un : Nat) (gd : Option (List Code)) (cn : Str) (cs : Scope) (a : Addr) (ccd : Value) (cl : List (Str × Addr)) (outer : List Env) (A₀ : Around) (base h₀ : Heap) (L : Addr) (m : Str → Option Value) (s : Shared) (Q E : Value → Shared → Prop),
    Below A₀ base outer h₀ → Fr h₀ L s.heap m → Frag.In (hk.heap_1 w.params) h₀ → News h₀ L s.heap news → Top view0 (looseW view0 []) mean mg mb h₀ → cs.kind = .function → dp + D < recursionLimit → un + 8 * D < cLine →
    (∀ r tl h' tk', Fr h₀ L h' m → News h₀ L h' (tl ++ news) → R r tl → Q r { s with heap := h', toks := tk' }) →
    wpAny (model PySem.Challenge.rw_ik0008_01.row.prog w) (ktrTop dp un gd cn cs L a ccd cl outer) (call (.ref f) vs) Q E s

end Mine
namespace Mine
noncomputable abbrev tupO (vs : List Value) : Obj := { cls := .type "tuple", data := .seq vs.toArray }

theorem con_use {w : World} {mean : ExcName → Option Value} {mg mb : Str → Option Value} {D : Nat} {f : Addr} {news : List (Addr × Obj)} {vs : List Value} {R : Value → List (Addr × Obj) → Prop}
    {dp un : Nat} {gd : Option (List Code)} {cn : Str} {cs : Scope} {a : Addr} {ccd : Value} {cl : List (Str × Addr)} {outer : List Env} {A₀ : Around} {base h₀ : Heap} {L : Addr} {m : Str → Option Value} {s : Shared} {Q E : Value → Shared → Prop}
    (C : Con w mean mg mb D f news vs R) (B : Below A₀ base outer h₀) (F : Fr h₀ L s.heap m) (X : Frag.In (hk.heap_1 w.params) h₀) (N : News h₀ L s.heap news) (T : Top view0 (looseW view0 []) mean mg mb h₀) (hk : cs.kind = .function) (hdp : dp + D < recursionLimit) (hu : un + 8 * D < cLine)
    (ret : ∀ r tl h' tk', Fr h₀ L h' m → News h₀ L h' (tl ++ news) → R r tl → Q r { s with heap := h', toks := tk' }) :
    wpAny (model PySem.Challenge.rw_ik0008_01.row.prog w) (ktrTop dp un gd cn cs L a ccd cl outer) (call (.ref f) vs) Q E s :=
  C _ _ _ _ _ _ _ _ _ _ _ _ _ _ _ _ _ B F X N T hk hdp hu ret

noncomputable abbrev RVal (v : Value) (r : Value) (tl : List (Addr × Obj)) : Prop := tl = [] ∧ r = v
noncomputable abbrev RStr (x : Str) (r : Value) (tl : List (Addr × Obj)) : Prop := tl = [] ∧ ∃ x' t, r = .str x' t ∧ x' = x
noncomputable abbrev RBool (b : Bool) (r : Value) (tl : List (Addr × Obj)) : Prop := tl = [] ∧ ∃ b', r = .bool b' ∧ b' = b
noncomputable abbrev RTup2 (x y : Str) (r : Value) (tl : List (Addr × Obj)) : Prop := ∃ a x' t y' u, r = .ref a ∧ tl = [(a, tupO [.str x' t, .str y' u])] ∧ x' = x ∧ y' = y
noncomputable abbrev RTup3 (x y z : Str) (r : Value) (tl : List (Addr × Obj)) : Prop := ∃ a x' t y' u z' v, r = .ref a ∧ tl = [(a, tupO [.str x' t, .str y' u, .str z' v])] ∧ x' = x ∧ y' = y ∧ z' = z
noncomputable abbrev RTup4 (x y z z₂ : Str) (r : Value) (tl : List (Addr × Obj)) : Prop := ∃ a x' t y' u z' v z₂' v₂, r = .ref a ∧ tl = [(a, tupO [.str x' t, .str y' u, .str z' v, .str z₂' v₂])] ∧ x' = x ∧ y' = y ∧ z' = z ∧ z₂' = z₂
noncomputable abbrev RList (xs : List Str) (r : Value) (tl : List (Addr × Obj)) : Prop := ∃ a qs k, r = .ref a ∧ tl = [(a, listOf (strValues qs).toArray k)] ∧ qs.map (·.1) = xs
theorem news_end0 {h₀ h : Heap} {L : Addr} {rest news : List (Addr × Obj)} (N : News h₀ L h rest) (hs : ∀ p ∈ news, p ∈ rest) : News h₀ L h ([] ++ news) := fun p hp => N p (hs p hp)
theorem news_end1 {h₀ h : Heap} {L : Addr} {q : Addr × Obj} {rest news : List (Addr × Obj)} (N : News h₀ L h (q :: rest)) (hs : ∀ p ∈ news, p ∈ rest) : News h₀ L h ([q] ++ news) := fun p hp => by
  cases hp with
  | head => exact N _ (.head _)
  | tail _ hp => exact N _ (.tail _ (hs p hp))
section
variable {w : World} {mean : ExcName → Option Value} {mg mb : Str → Option Value} {D : Nat} {f : Addr} {news : List (Addr × Obj)} {vs : List Value}
    {dp un : Nat} {gd : Option (List Code)} {cn : Str} {cs : Scope} {a : Addr} {ccd : Value} {cl : List (Str × Addr)} {outer : List Env} {A₀ : Around} {base h₀ : Heap} {L : Addr} {m : Str → Option Value} {s : Shared} {Q E : Value → Shared → Prop}
theorem con_useV {v : Value} (C : Con w mean mg mb D f news vs (RVal v)) (B : Below A₀ base outer h₀) (F : Fr h₀ L s.heap m) (X : Frag.In (hk.heap_1 w.params) h₀) (N : News h₀ L s.heap news) (T : Top view0 (looseW view0 []) mean mg mb h₀) (hk : cs.kind = .function) (hdp : dp + D < recursionLimit) (hu : un + 8 * D < cLine)
    (ret : ∀ h' tk', Fr h₀ L h' m → News h₀ L h' news → Q v { s with heap := h', toks := tk' }) :
    wpAny (model PySem.Challenge.rw_ik0008_01.row.prog w) (ktrTop dp un gd cn cs L a ccd cl outer) (call (.ref f) vs) Q E s :=
  con_use C B F X N T hk hdp hu (fun r tl h' tk' F' N' hR => by obtain ⟨rfl, rfl⟩ := hR; exact ret h' tk' F' N')
theorem con_useS {x : Str} (C : Con w mean mg mb D f news vs (RStr x)) (B : Below A₀ base outer h₀) (F : Fr h₀ L s.heap m) (X : Frag.In (hk.heap_1 w.params) h₀) (N : News h₀ L s.heap news) (T : Top view0 (looseW view0 []) mean mg mb h₀) (hk : cs.kind = .function) (hdp : dp + D < recursionLimit) (hu : un + 8 * D < cLine)
    (ret : ∀ t h' tk', Fr h₀ L h' m → News h₀ L h' news → Q (.str x t) { s with heap := h', toks := tk' }) :
    wpAny (model PySem.Challenge.rw_ik0008_01.row.prog w) (ktrTop dp un gd cn cs L a ccd cl outer) (call (.ref f) vs) Q E s :=
  con_use C B F X N T hk hdp hu (fun r tl h' tk' F' N' hR => by obtain ⟨rfl, x', t, rfl, rfl⟩ := hR; exact ret t h' tk' F' N')
theorem con_useB {b : Bool} (C : Con w mean mg mb D f news vs (RBool b)) (B : Below A₀ base outer h₀) (F : Fr h₀ L s.heap m) (X : Frag.In (hk.heap_1 w.params) h₀) (N : News h₀ L s.heap news) (T : Top view0 (looseW view0 []) mean mg mb h₀) (hk : cs.kind = .function) (hdp : dp + D < recursionLimit) (hu : un + 8 * D < cLine)
    (ret : ∀ h' tk', Fr h₀ L h' m → News h₀ L h' news → Q (.bool b) { s with heap := h', toks := tk' }) :
    wpAny (model PySem.Challenge.rw_ik0008_01.row.prog w) (ktrTop dp un gd cn cs L a ccd cl outer) (call (.ref f) vs) Q E s :=
  con_use C B F X N T hk hdp hu (fun r tl h' tk' F' N' hR => by obtain ⟨rfl, b', rfl, rfl⟩ := hR; exact ret h' tk' F' N')
theorem con_useT {x y : Str} (C : Con w mean mg mb D f news vs (RTup2 x y)) (B : Below A₀ base outer h₀) (F : Fr h₀ L s.heap m) (X : Frag.In (hk.heap_1 w.params) h₀) (N : News h₀ L s.heap news) (T : Top view0 (looseW view0 []) mean mg mb h₀) (hk : cs.kind = .function) (hdp : dp + D < recursionLimit) (hu : un + 8 * D < cLine)
    (ret : ∀ b t u h' tk', Fr h₀ L h' m → News h₀ L h' ((b, tupO [.str x t, .str y u]) :: news) → Q (.ref b) { s with heap := h', toks := tk' }) :
    wpAny (model PySem.Challenge.rw_ik0008_01.row.prog w) (ktrTop dp un gd cn cs L a ccd cl outer) (call (.ref f) vs) Q E s :=
  con_use C B F X N T hk hdp hu (fun r tl h' tk' F' N' hR => by obtain ⟨b, x', t, y', u, rfl, rfl, rfl, rfl⟩ := hR; exact ret b t u h' tk' F' N')
theorem con_useT3 {x y z : Str} (C : Con w mean mg mb D f news vs (RTup3 x y z)) (B : Below A₀ base outer h₀) (F : Fr h₀ L s.heap m) (X : Frag.In (hk.heap_1 w.params) h₀) (N : News h₀ L s.heap news) (T : Top view0 (looseW view0 []) mean mg mb h₀) (hk : cs.kind = .function) (hdp : dp + D < recursionLimit) (hu : un + 8 * D < cLine)
    (ret : ∀ b t u v h' tk', Fr h₀ L h' m → News h₀ L h' ((b, tupO [.str x t, .str y u, .str z v]) :: news) → Q (.ref b) { s with heap := h', toks := tk' }) :
    wpAny (model PySem.Challenge.rw_ik0008_01.row.prog w) (ktrTop dp un gd cn cs L a ccd cl outer) (call (.ref f) vs) Q E s :=
  con_use C B F X N T hk hdp hu (fun r tl h' tk' F' N' hR => by obtain ⟨b, x', t, y', u, z', v, rfl, rfl, rfl, rfl, rfl⟩ := hR; exact ret b t u v h' tk' F' N')
theorem con_useT4 {x y z z₂ : Str} (C : Con w mean mg mb D f news vs (RTup4 x y z z₂)) (B : Below A₀ base outer h₀) (F : Fr h₀ L s.heap m) (X : Frag.In (hk.heap_1 w.params) h₀) (N : News h₀ L s.heap news) (T : Top view0 (looseW view0 []) mean mg mb h₀) (hk : cs.kind = .function) (hdp : dp + D < recursionLimit) (hu : un + 8 * D < cLine)
    (ret : ∀ b t u v v₂ h' tk', Fr h₀ L h' m → News h₀ L h' ((b, tupO [.str x t, .str y u, .str z v, .str z₂ v₂]) :: news) → Q (.ref b) { s with heap := h', toks := tk' }) :
    wpAny (model PySem.Challenge.rw_ik0008_01.row.prog w) (ktrTop dp un gd cn cs L a ccd cl outer) (call (.ref f) vs) Q E s :=
  con_use C B F X N T hk hdp hu (fun r tl h' tk' F' N' hR => by obtain ⟨b, x', t, y', u, z', v, z₂', v₂, rfl, rfl, rfl, rfl, rfl, rfl⟩ := hR; exact ret b t u v v₂ h' tk' F' N')
theorem con_useL {xs : List Str} (C : Con w mean mg mb D f news vs (RList xs)) (B : Below A₀ base outer h₀) (F : Fr h₀ L s.heap m) (X : Frag.In (hk.heap_1 w.params) h₀) (N : News h₀ L s.heap news) (T : Top view0 (looseW view0 []) mean mg mb h₀) (hk : cs.kind = .function) (hdp : dp + D < recursionLimit) (hu : un + 8 * D < cLine)
    (ret : ∀ b qs k h' tk', qs.map (·.1) = xs → Fr h₀ L h' m → News h₀ L h' ((b, listOf (strValues qs).toArray k) :: news) → Q (.ref b) { s with heap := h', toks := tk' }) :
    wpAny (model PySem.Challenge.rw_ik0008_01.row.prog w) (ktrTop dp un gd cn cs L a ccd cl outer) (call (.ref f) vs) Q E s :=
  con_use C B F X N T hk hdp hu (fun r tl h' tk' F' N' hR => by obtain ⟨b, qs, k, rfl, rfl, e⟩ := hR; exact ret b qs k h' tk' e F' N')
end
end Mine
end

section -- R1
open PySem PySem.W PyProof.Rows PySem.Calls
set_option Elab.async false
set_option maxRecDepth 100000
set_option maxHeartbeats 0
namespace Mine
section
variable {prog : Program} {w : World} {A : Around} {E : Value → Shared → Prop} {s : Shared}

theorem str_meta : typeOf (.type "str") = pure (.type "type") := PySem.F.isi_meta_str
theorem str_self : isSubtype (.type "str") (.type "str") = pure true := PySem.isSubtype_str_str
theorem tup_tup : isSubtype (.type "tuple") (.type "tuple") = pure true := PySem.W.KPt.sub_tt
theorem issub_str1 {k : Value} {dep : Int} {tk : Tok} {Q : Fin → Shared → Prop} (hk : k = .int dep tk) (hq : Q (.done (.ret (.bool true))) s) :
    wpAny (model prog w) A (Builtin.«issubclass.nested» ⟨[.type "str", .type "str", k], []⟩) Q E s := by
  subst hk
  have hm := str_meta
  have hself := str_self
  repeat (any_goals (first | assumption | (rw [if_pos hm]) | (rw [hself]) | wp_step))

theorem kind_nested : builtinKind "issubclass.nested" = none := by decide +kernel
theorem plain_nested : plainId "issubclass.nested" = true := by decide +kernel
theorem args_nested (a b c : Value) : argsOk "issubclass.nested" ⟨[a, b, c], []⟩ := by unfold argsOk; kernel_rfl

theorem issub_tup {o : Obj} {D : Addr} {n : Nat} {k : Value} {tk : Tok} {Q : Fin → Shared → Prop} (hk : k = .int 0 tk)
    (ho : s.heap.get? D = some o) (hc : o.cls = .type "tuple") (hd : o.data = .seq #[.type "str", .type "bytes"] n) (hq : Q (.done (.ret (.bool true))) s) :
    wpAny (model prog w) A (Builtin.«issubclass.nested» ⟨[.type "str", .ref D, k], []⟩) Q E s := by
  subst hk
  have hT : s.TypeIs (.ref D) "tuple" := ⟨o, ho, hc⟩
  have hm := tup_tup
  repeat (any_goals (first | assumption | wp_step))
  rw [hd]
  refine wpAny_pure ?_
  show wpAny _ _ ((forIn (#[Value.type "str", Value.type "bytes"] : Array Value) _ _) >>= _) _ _ _
  rw [← Array.forIn_toList]
  show wpAny _ _ ((forIn [Value.type "str", Value.type "bytes"] _ _) >>= _) _ _ _
  rw [List.forIn_cons]
  refine wpAny_bind (wpAny_bind (wpAny_bind (call_function_meets kind_nested plain_nested F.entry_issubclass_nested (args_nested _ _ _) (S := fun _ R s => R (.ok (.ret (.bool true))) s) (fun _ _ _ _ _ hs => issub_str1 rfl hs) ?_)))
  show wpAny _ _ _ _ _ _
  refine wpAny_bind (wpAny_truthy_bool ?_)
  simp only [if_true]
  exact wpAny_bind (wpAny_pure (wpAny_pure (wpAny_pure (wpAny_pure hq))))

theorem call_issub_tup {o : Obj} {D : Addr} {n : Nat} {Q : Value → Shared → Prop}
    (ho : s.heap.get? D = some o) (hc : o.cls = .type "tuple") (hd : o.data = .seq #[.type "str", .type "bytes"] n) (hq : Q (.bool true) s) :
    wpAny (model prog w) A (call (.builtin "issubclass") [.type "str", .ref D]) Q E s :=
  call_issubclass (S := fun _ R s => (∃ o n, s.heap.get? D = some o ∧ o.cls = .type "tuple" ∧ o.data = .seq #[.type "str", .type "bytes"] n) ∧ R (.ok (.ret (.bool true))) s)
    (fun _ _ _ _ _ hs => by
      obtain ⟨⟨o, n, h1, h2, h3⟩, h4⟩ := hs
      exact issubclass_outer (issub_tup rfl h1 h2 h3 h4)) ⟨⟨o, n, ho, hc, hd⟩, hq⟩
end
end Mine
end

section -- R2
open PySem PySem.W PyProof.Rows PySem.Calls PySem.Builtin PySem.Builtin.Str
set_option Elab.async false
set_option maxRecDepth 100000
set_option maxHeartbeats 0
namespace Mine
section
variable {prog : Program} {w : World} {A : Around} {E : Value → Shared → Prop} {s : Shared} {h₀ : Heap} {L : Addr} {m : Str → Option Value} {news : List (Addr × Obj)}

theorem sliceApplied_02 {sl : Addr} {u : Tok} {Q : Int × Int × Nat → Shared → Prop} (hs : s.heap.IsSliceOf sl .none (.int 2 u) .none) (h : Q (0, 1, 2) s) :
    wpAny (model prog w) A (Builtin.Slice.sliceApplied (.ref sl) (pure ((3 : Nat) : Int))) Q E s := by
  obtain ⟨os, hos, hcs, hds⟩ := id hs
  unfold Builtin.Slice.sliceApplied Builtin.Slice.sliceFields
  refine wpAny_bind (wpAny_bind (wpAny_field hos hds (x := .none) rfl (wpAny_bind (wpAny_field hos hds (x := .int 2 u) rfl (wpAny_bind (wpAny_field hos hds (x := .none) rfl (wpAny_pure ?_)))))))
  refine wpAny_bind (slicePart_none ?_)
  show wpAny _ _ (if ((1 : Int) == 0) = true then _ else _) _ _ s
  rw [if_neg (by decide)]
  refine wpAny_bind (slicePart_none (wpAny_bind (slicePart_int (wpAny_bind (wpAny_pure ?_)))))
  show wpAny _ _ (match Builtin.Slice.sliceAdjust none (some 2) 1 ((3 : Nat) : Int) with | (lo, hi) => pure (lo, (1 : Int), Builtin.Slice.slicePlaces lo hi 1)) _ _ s
  exact wpAny_pure h

theorem getItem_tuple_02 {t sl : Addr} {a b c : Value} {u : Tok} {Q : Value → Shared → Prop} (ht : IsTup s.heap t #[a, b, c]) (hs : s.heap.IsSliceOf sl .none (.int 2 u) .none)
    (h : Q (.ref s.heap.objs.size) { s with heap := s.heap.push { cls := .type "tuple", data := .seq #[a, b] } }) : wpAny (model prog w) A (getItem (.ref t) (.ref sl)) Q E s := by
  obtain ⟨os, hos, hcs, hds⟩ := id hs
  have hTs : s.TypeIs (.ref sl) "slice" := ⟨os, hos, hcs⟩
  unfold getItem
  try with_reducible refine wpAny_holding ?_
  first | refine wpAny_bind (wpAny_pure ?_) | skip
  refine wpAny_bind (wpAny_sequenceKey ht.typeIs (by decide) ?_)
  refine wpAny_bind (wpAny_callSpecial?_slot (name := Str.ofString "__getitem__") ht.typeIs slot_tuple_getitem
    (wpAny_call_entry slot_tuple_getitem ht.typeIs entry_tuple_getitem ?_ (args_tuple_getitem _ _)))
  show wpAny _ _ (Builtin.Tuple.tupleItemsOf (.ref t) >>= _) _ _ s
  refine wpAny_bind (tupleItemsOf_ ht ?_)
  refine wpAny_bind (wpAny_typeOf hTs ?_)
  rw [if_pos (by decide)]
  refine wpAny_bind (sliceApplied_02 hs ?_)
  show wpAny _ _ (if ((0 : Int) == 0 && (1 : Int) == 1 && ((2 : Nat) == 3)) = true then _ else _) _ _ s
  rw [if_neg (by decide)]
  show wpAny _ _ (Builtin.Tuple.tupleExact #[a, b] >>= _) _ _ s
  have hsz : sizeOk (.seq #[a, b]) := by show (2 : Nat) ≤ sizeLine; decide
  first
    | exact wpAny_bind (m := Builtin.Tuple.tupleExact _) (wpAny_newObj_type (wpAny_pure ⟨_, rfl, wpAny_pure h⟩) hsz)
    | exact wpAny_bind (m := Builtin.Tuple.tupleExact _) (wpAny_newObj_type (wpAny_bind (wpAny_pure (wpAny_pure ⟨_, rfl, wpAny_pure h⟩))) hsz)
    | exact wpAny_bind (wpAny_bind (m := Builtin.Tuple.tupleExact _) (wpAny_newObj_type (wpAny_pure (wpAny_pure ⟨_, rfl, wpAny_pure h⟩)) hsz))
    | exact wpAny_bind (wpAny_bind (m := Builtin.Tuple.tupleExact _) (wpAny_newObj_type (wpAny_pure ⟨_, rfl, wpAny_pure h⟩) hsz))

/-- the first two places of a triple -/
theorem slice_tuple_02 {value slice : Expr} {t : Addr} {a b c : Value} {u : Tok} {Q : Value → Shared → Prop}
    (F : Fr h₀ L s.heap m) (N : News h₀ L s.heap news) (ht : IsTup s.heap t #[a, b, c])
    (h : ∀ D h', Fr h₀ L h' m → News h₀ L h' ((D, tupO [a, b]) :: news) → Q (.ref D) { s with heap := h' })
    (hs : subscripted slice false (.ref t) (.ref s.heap.objs.size) = operate [.ref s.heap.objs.size, .ref t] (getItem (.ref t) (.ref s.heap.objs.size)))
    (hg : ∀ r, letTemporaryGo value (.ref t) r = pure ()) :
    wpAny (model prog w) A (subscriptTail value slice (.ref t) (.ref s.heap.objs.size)) Q E { s with heap := s.heap.push { cls := .type "slice", data := .fields #[.none, .int 2 u, .none] } } := by
  have ht' : IsTup (s.heap.push { cls := .type "slice", data := .fields #[.none, .int 2 u, .none] }) t #[a, b, c] := ht.keeps fun _ _ e => Heap.get?_push_of_some _ e
  refine subscriptTail_ops (s := { s with heap := s.heap.push { cls := .type "slice", data := .fields #[.none, .int 2 u, .none] } }) ht'.typeIs slot_tuple_getitem.lookup
    (getItem_tuple_02 ht' (Heap.IsSliceOf.new ..) ?_) hs hg
  have N1 := News.push (F.push { cls := .type "slice", data := .fields #[.none, .int 2 u, .none] }) (N.grown fun _ _ e => Heap.get?_push_of_some _ e) { cls := .type "tuple", data := .seq #[a, b] }
  exact h _ _ ((F.push _).push _) N1

/-- the last of a list of texts -/
theorem item_lastT {value slice : Expr} {a : Addr} {l : List (Str × Tok)} {u : Tok} {Q : Value → Shared → Prop} (hl : s.heap.IsList a (strValues l).toArray)
    (hk : l ≠ []) (h : ∀ y t', (l.map (·.1)).getLast? = some y → Q (.str y t') s)
    (hs : subscripted slice false (.ref a) (.int (-1) u) = operate [.ref a, .int (-1) u] (getItem (.ref a) (.int (-1) u))) :
    wpAny (model prog w) A (subscriptTail value slice (.ref a) (.int (-1) u)) Q E s := by
  obtain ⟨l', q, rfl⟩ : ∃ l' q, l = l' ++ [q] := ⟨l.dropLast, l.getLast hk, (List.dropLast_concat_getLast hk).symm⟩
  refine tail_any hl.typeIs slot_list_getitem.lookup (wpAny_getItem_list_neg (x := .str q.1 q.2) hl (by decide) ?_ ?_ ?_ (h _ _ (by simp))) hs
  · simp only [strValues, List.map_append, List.map_cons, List.map_nil, List.size_toArray, List.length_append, List.length_cons, List.length_nil]
    omega
  · decide
  · have e : ((-1 : Int) + ((strValues (l' ++ [q])).toArray.size : Nat)).toNat = (strValues l').length := by
      simp only [strValues, List.map_append, List.map_cons, List.map_nil, List.size_toArray, List.length_append, List.length_cons, List.length_nil]
      omega
    rw [e]
    simp [strValues]

theorem item_lastB {value slice : Expr} {a : Addr} {l : List (Str × Tok)} {u : Tok} {n : Nat} {Q : Value → Shared → Prop} (hl : s.heap.IsList a (strValues l).toArray)
    (hk : l ≠ []) (hb : ∀ y ∈ l.map (·.1), y.length ≤ n) (h : ∀ y t', (l.map (·.1)).getLast? = some y → y.length ≤ n → Q (.str y t') s)
    (hs : subscripted slice false (.ref a) (.int (-1) u) = operate [.ref a, .int (-1) u] (getItem (.ref a) (.int (-1) u))) :
    wpAny (model prog w) A (subscriptTail value slice (.ref a) (.int (-1) u)) Q E s :=
  item_lastT hl hk (fun y t' e => h y t' e (hb y (List.mem_of_getLast? e))) hs
end
end Mine
end

section -- R3
open PySem PySem.W PyProof.Rows PySem.Calls PySem.SeqAt
set_option Elab.async false
set_option maxRecDepth 100000
set_option maxHeartbeats 0
namespace Mine
section
variable {prog : Program} {w : World} {A : Around} {E : Value → Shared → Prop} {s : Shared} {h₀ : Heap} {L : Addr} {m : Str → Option Value} {news : List (Addr × Obj)}
/-- item by item -/
noncomputable def valEq : Value → Value → Bool
  | .str x _, .str y _ => x == y
  | .int a _, .int b _ => a == b
  | _, _ => false
inductive Alike : List Value → List Value → Prop
  | nil : Alike [] []
  | str {x y : Str} {t u : Tok} {vs ws : List Value} : Alike vs ws → Alike (.str x t :: vs) (.str y u :: ws)
  | int {x y : Int} {t u : Tok} {vs ws : List Value} : Alike vs ws → Alike (.int x t :: vs) (.int y u :: ws)
theorem Alike.len {vs ws : List Value} (h : Alike vs ws) : vs.length = ws.length := by
  induction h with
  | nil => rfl
  | str _ ih => simp [ih]
  | int _ ih => simp [ih]
theorem Alike.at {vs ws : List Value} (h : Alike vs ws) : ∀ j (h1 : j < vs.length) (h2 : j < ws.length), EqAt A s vs[j] ws[j] (valEq (vs.getD j .none) (ws.getD j .none)) := by
  induction h with
  | nil => intro j h1; exact absurd h1 (Nat.not_lt_zero _)
  | str _ ih =>
    intro j h1 h2
    cases j with
    | zero => exact EqAt.str_str _ _ _ _
    | succ j => exact ih j (Nat.lt_of_succ_lt_succ h1) (Nat.lt_of_succ_lt_succ h2)
  | int _ ih =>
    intro j h1 h2
    cases j with
    | zero => exact EqAt.int_int _ _ _ _
    | succ j => exact ih j (Nat.lt_of_succ_lt_succ h1) (Nat.lt_of_succ_lt_succ h2)
noncomputable def allEq : List Value → List Value → Bool
  | v :: vs, w :: ws => valEq v w && allEq vs ws
  | _, _ => true
theorem range_all : ∀ vs ws : List Value, vs.length = ws.length → (List.range vs.length).all (fun j => valEq (vs.getD j .none) (ws.getD j .none)) = allEq vs ws
  | [], [], _ => rfl
  | v :: vs, w :: ws, h => by
    have ih := range_all vs ws (by simpa using h)
    rw [List.length_cons, List.range_succ_eq_map, List.all_cons, List.all_map]
    show (valEq v w && (List.range vs.length).all (fun j => valEq (vs.getD j .none) (ws.getD j .none))) = _
    rw [ih]; rfl
theorem tup_size {vs ws : List Value} (h : Alike vs ws) : ((List.range (min vs.toArray.size ws.toArray.size)).all (fun j => valEq (vs.getD j .none) (ws.getD j .none)) && vs.toArray.size == ws.toArray.size) = allEq vs ws := by
  have e := h.len
  simp only [List.size_toArray, e, Nat.min_self, beq_self_eq_true, Bool.and_true]
  rw [← e]
  exact range_all _ _ e
theorem tup_isTup {a : Addr} {vs : List Value} (N : News h₀ L s.heap news) (hm : (a, tupO vs) ∈ news) : s.heap.IsTuple a vs.toArray := ⟨_, (N _ hm).1, rfl, 0, rfl⟩
theorem eq_tups {a b : Addr} {vs ws : List Value} {Q : Value → Shared → Prop} (N : News h₀ L s.heap news) (ha : (a, tupO vs) ∈ news) (hb : (b, tupO ws) ∈ news) (he : Alike vs ws) (hu : A.units < cLine)
    (h : Q (.bool (allEq vs ws)) s) : wpAny (model prog w) A (compareOp .Eq (.ref a) (.ref b)) Q E s := by
  refine cmp_ofEq (RcAt.tuples (e := fun j => valEq (vs.getD j .none) (ws.getD j .none)) (tup_isTup N ha) (tup_isTup N hb) hu (fun j h1 h2 => ?_) prog w E Q ?_)
  · have := he.at (A := A.in1) (s := s) j (by simpa using h1) (by simpa using h2)
    simpa using this
  · rw [tup_size he]; exact h
theorem ne_tups {a b : Addr} {vs ws : List Value} {Q : Value → Shared → Prop} (N : News h₀ L s.heap news) (ha : (a, tupO vs) ∈ news) (hb : (b, tupO ws) ∈ news) (he : Alike vs ws) (hu : A.units < cLine)
    (h : Q (.bool (!allEq vs ws)) s) : wpAny (model prog w) A (compareOp .NotEq (.ref a) (.ref b)) Q E s := by
  refine cmp_ofNotEq (RcNeAt.tuples (e := fun j => valEq (vs.getD j .none) (ws.getD j .none)) (tup_isTup N ha) (tup_isTup N hb) hu (fun j h1 h2 => ?_) prog w E Q ?_)
  · have := he.at (A := A.in1) (s := s) j (by simpa using h1) (by simpa using h2)
    simpa using this
  · rw [tup_size he]; exact h

theorem ltOf {d : Addr} : ∀ {l : List (Addr × Obj)}, AllLt d l → ∀ p ∈ l, p.1 < d := fun h => ktn_ltOf h
/-- the end of the turn of a loop over a tuple of one -/
theorem unr1 {q : Addr × Obj} {s₁ : Shared} {news' : List (Addr × Obj)} {rest : (Str → Option Value) → List (Addr × Obj) → Prop} {h' : Heap} {tk : Nat} {m' : Str → Option Value}
    (F : Fr h₀ L h' m') (N : News h₀ L h' (q :: news')) (lt : AllLt q.1 news') (r : rest m' news') : UnrEndW h₀ L s₁ [q] rest { s₁ with heap := h', toks := tk } :=
  ⟨h', tk, m', news', rfl, F, N, fun p hp x hx => by rw [List.mem_singleton.mp hx]; exact Nat.ne_of_lt (ltOf lt p hp), r⟩
end
end Mine
end

section -- R4
open PySem PySem.W PyProof.Rows PySem.Calls PySem.Builtin PySem.Builtin.Str
set_option Elab.async false
set_option maxRecDepth 100000
set_option maxHeartbeats 0
namespace Mine
theorem fmt_pos (x y : Str) (i : Int) (t u v z : Tok) (b : Addr) (hx : x.length ≤ 1000000) (hy : y.length ≤ 1000000) (h0 : 0 ≤ i) (h1 : i < 10 ^ 10) :
    Meets («str.__mod__» ⟨[.str (Str.mk #[37, 115, 58, 37, 100, 40, 37, 115, 41]) z, .ref b], []⟩) (fun _ R s => IsTup s.heap b #[.str x t, .int i u, .str y v] ∧ ∀ t' k, R (.ok (.ret (.str (x ++ Str.ofString ":" ++ Str.ofString (toString i) ++ Str.ofString "(" ++ y ++ Str.ofString ")") t'))) { s with toks := k }) := by
  k_dflt kpt_run
end Mine
namespace Mine
theorem fmt_neg (x y : Str) (t u v z : Tok) (b : Addr) (hx : x.length ≤ 1000000) (hy : y.length ≤ 1000000) :
    Meets («str.__mod__» ⟨[.str (Str.mk #[37, 115, 58, 37, 100, 40, 37, 115, 41]) z, .ref b], []⟩) (fun _ R s => IsTup s.heap b #[.str x t, .int (-3) u, .str y v] ∧ ∀ t' k, R (.ok (.ret (.str (x ++ Str.ofString ":" ++ Str.ofString "-3" ++ Str.ofString "(" ++ y ++ Str.ofString ")") t'))) { s with toks := k }) := by
  k_dflt kpt_run
theorem fmt_brace (t u : Tok) : ∀ y : Str, y.length ≤ 1000000 → Meets («str.__mod__» ⟨[.str (Str.mk #[123, 37, 115, 125]) t, .str y u], []⟩) (fun _ R s => ∀ t' k, R (.ok (.ret (.str (Str.ofString "{" ++ y ++ Str.ofString "}") t'))) { s with toks := k }) := by
  k_dflt kpc_run_s
/-- the text of a function -/
noncomputable def textF (x : Str) (i : Int) (y : Str) : Str := x ++ Str.ofString ":" ++ Str.ofString (toString i) ++ Str.ofString "(" ++ y ++ Str.ofString ")"
theorem neg3 : Str.ofString (toString (-3 : Int)) = Str.ofString "-3" := by decide
section
variable {prog : Program} {w : World} {A : Around} {E : Value → Shared → Prop} {s : Shared} {h₀ : Heap} {L : Addr} {m : Str → Option Value} {news : List (Addr × Obj)}
theorem mod_func {x y : Str} {i : Int} {t u v z : Tok} {b : Addr} {Q : Value → Shared → Prop} (N : News h₀ L s.heap news) (hb : (b, tupO [.str x t, .int i u, .str y v]) ∈ news) (hx : x.length ≤ 1000000) (hy : y.length ≤ 1000000)
    (hi : i = 0 ∨ i = 7 ∨ i = 12 ∨ i = -3) (h : ∀ t' k, Q (.str (textF x i y) t') { s with toks := k }) : wpAny (model prog w) A (binaryOp .Mod (.str (Str.ofString "%s:%d(%s)") z) (.ref b)) Q E s := by
  refine KPt.mod_tuple N hb (X' := Str.mk #[37, 115, 58, 37, 100, 40, 37, 115, 41]) (by decide) (T := textF x i y) ?_ h
  by_cases h0 : 0 ≤ i
  · exact fmt_pos x y i t u v z b hx hy h0 (by omega)
  · have e : i = -3 := by omega
    subst e
    unfold textF
    rw [neg3]
    exact fmt_neg x y t u v z b hx hy
theorem mod_brace {y : Str} {t u : Tok} {Q : Value → Shared → Prop} (hy : y.length ≤ 1000000) (h : ∀ t' k, Q (.str (Str.ofString "{" ++ y ++ Str.ofString "}") t') { s with toks := k }) :
    wpAny (model prog w) A (binaryOp .Mod (.str (Str.ofString "{%s}") t) (.str y u)) Q E s :=
  KPc.mod_str (X' := Str.mk #[123, 37, 115, 125]) (T := fun z => Str.ofString "{" ++ z ++ Str.ofString "}") (by decide) hy (fmt_brace t u) h
end
end Mine
end

section -- R5
open PySem PySem.W PyProof.Rows PySem.Calls PySem.Builtin PySem.Builtin.Str
set_option Elab.async false
set_option maxRecDepth 100000
set_option maxHeartbeats 0
namespace Mine
section
variable {prog : Program} {w : World} {A : Around} {E : Value → Shared → Prop} {s : Shared} {env : Env} {h₀ : Heap} {x : Str} {body : List Stmt} {Q : Flow → Shared → Prop}
theorem sv_get {ps : List (Str × Tok)} {i : Nat} {v : Value} (h : (strValues ps)[i]? = some v) : ∃ c t, v = .str c t ∧ (ps.map (·.1))[i]? = some c := by
  unfold strValues at h
  rw [List.getElem?_map] at h
  obtain ⟨p, hp, rfl⟩ := Option.map_eq_some_iff.mp h
  exact ⟨p.1, p.2, rfl, by rw [List.getElem?_map, hp]; rfl⟩
theorem sv_len (ps : List (Str × Tok)) : (strValues ps).length = ps.length := by unfold strValues; exact List.length_map ..
theorem take_succ {l : List Str} {i : Nat} {c : Str} (h : l[i]? = some c) : l.take (i + 1) = l.take i ++ [c] ∧ l = l.take i ++ c :: l.drop (i + 1) := by
  have e : l.take (i + 1) = l.take i ++ [c] := by rw [List.take_add_one, h]; rfl
  refine ⟨e, ?_⟩
  have h9 := List.take_append_drop (i + 1) l
  rw [e, List.append_assoc] at h9
  exact h9.symm
/-- a loop over a list of texts that the ledger holds -/
theorem iter_strs {l : Addr} {ps : List (Str × Tok)} {nn : Nat} {m₀ : Str → Option Value} {news : List (Addr × Obj)} (J : List Str → (Str → Option Value) → List (Addr × Obj) → Prop)
    (hh : A.handled = none) (hl : (l, listOf (strValues ps).toArray nn) ∈ news) (F : Fr h₀ env.locals s.heap m₀) (N : News h₀ env.locals s.heap news) (hj : J [] m₀ news)
    (turn : ∀ pre c t post m₁ news₁ h tk own, ps.map (·.1) = pre ++ c :: post → OwnOff own (news₁.map (·.1)) → (l, listOf (strValues ps).toArray nn) ∈ news₁ → J pre m₁ news₁ → Fr h₀ env.locals h (fun y => if y = x then some (.str c t) else m₁ y) → News h₀ env.locals h (news₁ ++ own) →
      wpAny (model prog w) A (execs body env) (InvPostG h₀ env.locals (fun m' nx => (l, listOf (strValues ps).toArray nn) ∈ nx ∧ J (pre ++ [c]) m' nx) own { s with heap := h, toks := tk } Q) E { s with heap := h, toks := tk })
    (done : ∀ m₁ news₁ h tk, J (ps.map (·.1)) m₁ news₁ → Fr h₀ env.locals h m₁ → News h₀ env.locals h news₁ → Q .next { s with heap := h, toks := tk }) :
    wpAny (model prog w) A (pyIter (.ref l)) (fun it s₂ => LoopAtV prog w A h₀ env x body Q E it s₂) E s := by
  refine kdl_iter (fun i m nx => J ((ps.map (·.1)).take i) m nx) hh hl F N hj ?_ ?_
  · intro i v m₁ news₁ h tk own hv ho hm hJ F₁ N₁
    obtain ⟨c, t, rfl, hc⟩ := sv_get hv
    obtain ⟨e1, e2⟩ := take_succ hc
    rw [e1]
    exact turn _ c t _ m₁ news₁ h tk own e2 ho hm hJ F₁ N₁
  · intro m₁ news₁ h tk hJ F₁ N₁
    rw [sv_len, show (ps.map (·.1)).take ps.length = ps.map (·.1) from List.take_of_length_le (by rw [List.length_map]; exact Nat.le_refl _)] at hJ
    exact done m₁ news₁ h tk hJ F₁ N₁
end
end Mine
end

section -- R6
open PySem PySem.W PyProof.Rows PySem.Calls PySem.Builtin PySem.Builtin.Str PySem.SeqAt
set_option Elab.async false
set_option maxRecDepth 100000
set_option maxHeartbeats 0
namespace Mine
section
variable {prog : Program} {w : World} {A : Around} {E : Value → Shared → Prop} {s : Shared} {h₀ : Heap} {L : Addr} {m : Str → Option Value} {news : List (Addr × Obj)} {Q : Value → Shared → Prop}
theorem ne_nil {a b : Addr} {ps : List (Str × Tok)} {n k : Nat} (N : News h₀ L s.heap news) (ha : (a, listOf (strValues ps).toArray n) ∈ news) (hb : (b, listOf #[] k) ∈ news) (hu : A.units < cLine)
    (h : Q (.bool (!ps.isEmpty)) s) : wpAny (model prog w) A (compareOp .NotEq (.ref a) (.ref b)) Q E s := by
  have h1 : s.heap.IsList a (strValues ps).toArray := News.isList N ha
  have h2 : s.heap.IsList b #[] := News.isList N hb
  cases ps with
  | nil => exact cmp_ofNotEq (RcNeAt.lists (e := fun _ => true) h1 h2 rfl hu (fun j j1 _ => absurd j1 (Nat.not_lt_zero _)) prog w E Q h)
  | cons p r => exact cmp_ofNotEq (RcNeAt.lists_lengths h1 h2 (by simp [strValues]) hu prog w E Q h)
theorem sv_dropLast (ps : List (Str × Tok)) : (strValues ps).dropLast = strValues ps.dropLast := by unfold strValues; rw [List.map_dropLast]
theorem sl_init {value slice : PySem.Expr} {l : Addr} {ps : List (Str × Tok)} {n : Nat} {u : Tok} (F : Fr h₀ L s.heap m) (N : News h₀ L s.heap news) (hl : (l, listOf (strValues ps).toArray n) ∈ news) (hz : ps.length ≤ sizeLine)
    (h : ∀ D h', Fr h₀ L h' m → News h₀ L h' ((D, listOf (strValues ps.dropLast).toArray 0) :: news) → (∀ p ∈ news, p.1 < D) → Q (.ref D) { s with heap := h' })
    (hs : subscripted slice false (.ref l) (.ref s.heap.objs.size) = operate [.ref s.heap.objs.size, .ref l] (getItem (.ref l) (.ref s.heap.objs.size))) (ht : ∀ r, letTemporaryGo value (.ref l) r = pure ()) :
    wpAny (model prog w) A (subscriptTail value slice (.ref l) (.ref s.heap.objs.size)) Q E { s with heap := s.heap.push { cls := .type "slice", data := .fields #[.none, .int (-1) u, .none] } } := by
  refine kms_slice_lit (zs := strValues ps.dropLast) F N (News.isList N hl) .none (.int _ _) ?_ h hs ht (by rw [List.size_toArray, sv_len]; exact hz)
  show ((strValues ps).drop 0).take (kms_hi (some (-1)) (strValues ps).length - 0) = _
  have e : kms_hi (some (-1)) (strValues ps).length = (strValues ps).length - 1 := by unfold kms_hi; rfl
  rw [List.drop_zero, Nat.sub_zero, e, ← List.dropLast_eq_take, sv_dropLast]
theorem add_strs {a b : Addr} {ps qs : List (Str × Tok)} {n k : Nat} (F : Fr h₀ L s.heap m) (N : News h₀ L s.heap news) (ha : (a, listOf (strValues ps).toArray n) ∈ news) (hb : (b, listOf (strValues qs).toArray k) ∈ news) (hz : ps.length + qs.length ≤ sizeLine)
    (h : ∀ D h', Fr h₀ L h' m → News h₀ L h' ((D, listOf (strValues (ps ++ qs)).toArray 0) :: news) → (∀ p ∈ news, p.1 < D) → Q (.ref D) { s with heap := h' }) : wpAny (model prog w) A (binaryOp .Add (.ref a) (.ref b)) Q E s := by
  refine add_arrays F N (News.isList N ha) (News.isList N hb) (fun h' F' N' => h _ h' F' ?_ (fun p hp => Heap.lt_size (N p hp).1)) (by simp only [List.size_toArray, sv_len]; exact hz)
  have e : strValues (ps ++ qs) = strValues ps ++ strValues qs := by unfold strValues; rw [List.map_append]
  rw [e]; exact N'
end

/-! ## a loop whose state is a list of texts and an int -/
noncomputable def stepL (root : Str) (st : List Str × Int) (c : Str) : List Str × Int :=
  if (c == Str.ofString "..") = true ∧ st.1 ≠ [] then (st.1.dropLast, st.2)
  else if (c == Str.ofString "..") = true ∧ (root == Str.ofString "") = true then (st.1, st.2 + 1)
  else if (!([Str.ofString "", Str.ofString ".", Str.ofString ".."].any (· == c))) = true then (st.1 ++ [c], st.2)
  else st
theorem stepL_len {root : Str} {st : List Str × Int} {c : Str} : (stepL root st c).1.length ≤ st.1.length + 1 ∧ (stepL root st c).2 ≤ st.2 + 1 ∧ st.2 ≤ (stepL root st c).2 := by
  unfold stepL
  split
  · simp only [List.length_dropLast]; omega
  · split
    · simp only; omega
    · split
      · simp only [List.length_append, List.length_cons, List.length_nil]; omega
      · omega
theorem stepL_mem {root : Str} {st : List Str × Int} {c d : Str} (h : d ∈ (stepL root st c).1) : d ∈ st.1 ∨ d = c := by
  unfold stepL at h
  split at h
  · exact .inl (List.dropLast_subset _ h)
  · split at h
    · exact .inl h
    · split at h
      · rcases List.mem_append.mp h with h | h
        · exact .inl h
        · exact .inr (List.mem_singleton.mp h)
      · exact .inl h
theorem foldL_len (root : Str) : ∀ (cs : List Str) (st : List Str × Int), (cs.foldl (stepL root) st).1.length ≤ st.1.length + cs.length ∧ (cs.foldl (stepL root) st).2 ≤ st.2 + cs.length ∧ st.2 ≤ (cs.foldl (stepL root) st).2
  | [], st => by simp
  | c :: r, st => by
    have h1 := foldL_len root r (stepL root st c)
    have h2 := stepL_len (root := root) (st := st) (c := c)
    simp only [List.foldl_cons, List.length_cons]
    omega
theorem foldL_mem (root : Str) : ∀ (cs : List Str) (st : List Str × Int) (d : Str), d ∈ (cs.foldl (stepL root) st).1 → d ∈ st.1 ∨ d ∈ cs
  | [], _, _, h => .inl h
  | c :: r, st, d, h => by
    rcases foldL_mem root r (stepL root st c) d h with h | h
    · rcases stepL_mem h with h | h
      · exact .inl h
      · exact .inr (h ▸ .head _)
    · exact .inr (.tail _ h)

noncomputable abbrev nmN : Str := Str.ofString "names"
noncomputable abbrev nmU : Str := Str.ofString "ups"
noncomputable abbrev nmP : Str := Str.ofString "piece"
/-- what stands between the turns of the loop of _law_plain -/
noncomputable def PlJ (root : Str) (m₀ : Str → Option Value) (l : Addr) (ps : List (Str × Tok)) (rest : List (Addr × Obj)) (pre : List Str) (m : Str → Option Value) (nx : List (Addr × Obj)) : Prop :=
  ∃ D cs ups tu, m nmN = some (.ref D) ∧ m nmU = some (.int ups tu) ∧ (∀ z, z ≠ nmN → z ≠ nmU → z ≠ nmP → m z = m₀ z) ∧ nx = (D, listOf (strValues cs).toArray 0) :: (l, listOf (strValues ps).toArray 0) :: rest ∧ (cs.map (·.1), ups) = pre.foldl (stepL root) ([], 0)
section
variable {prog : Program} {w : World} {A : Around} {E : Value → Shared → Prop} {s : Shared} {env : Env} {h₀ : Heap} {body : List Stmt} {Q : Flow → Shared → Prop}
theorem iter_plain {l D₀ : Addr} {ps : List (Str × Tok)} {m₀ : Str → Option Value} {t₀ : Tok} {news : List (Addr × Obj)} (root : Str) (rest : List (Addr × Obj))
    (hh : A.handled = none) (F : Fr h₀ env.locals s.heap m₀) (N : News h₀ env.locals s.heap news) (hD : (D₀, listOf #[] 0) ∈ news) (hl : (l, listOf (strValues ps).toArray 0) ∈ news) (h1 : m₀ nmN = some (.ref D₀)) (h2 : m₀ nmU = some (.int 0 t₀)) (hr : ∀ p ∈ rest, p ∈ news) (hlen : ps.length ≤ 2000)
    (turn : ∀ pre c t post D cs ups tu h tk own, ps.map (·.1) = pre ++ c :: post → (cs.map (·.1), ups) = pre.foldl (stepL root) ([], 0) → (cs.length ≤ 2000 ∧ 0 ≤ ups ∧ ups ≤ 2000) → OwnOff own (D :: l :: rest.map (·.1)) →
      Fr h₀ env.locals h (fun y => if y = nmP then some (.str c t) else if y = nmN then some (.ref D) else if y = nmU then some (.int ups tu) else m₀ y) → News h₀ env.locals h ((D, listOf (strValues cs).toArray 0) :: (l, listOf (strValues ps).toArray 0) :: (rest ++ own)) →
      wpAny (model prog w) A (execs body env) (InvPostG h₀ env.locals (fun m' nx => (l, listOf (strValues ps).toArray 0) ∈ nx ∧ PlJ root m₀ l ps rest (pre ++ [c]) m' nx) own { s with heap := h, toks := tk } Q) E { s with heap := h, toks := tk })
    (done : ∀ D cs ups tu u h tk, (cs.map (·.1), ups) = (ps.map (·.1)).foldl (stepL root) ([], 0) → Fr h₀ env.locals h (fun y => if y = nmN then some (.ref D) else if y = nmU then some (.int ups tu) else if y = nmP then u else m₀ y) → News h₀ env.locals h ((D, listOf (strValues cs).toArray 0) :: (l, listOf (strValues ps).toArray 0) :: rest) → Q .next { s with heap := h, toks := tk }) :
    wpAny (model prog w) A (pyIter (.ref l)) (fun it s₂ => LoopAtV prog w A h₀ env nmP body Q E it s₂) E s := by
  have N' : News h₀ env.locals s.heap ((D₀, listOf (strValues []).toArray 0) :: (l, listOf (strValues ps).toArray 0) :: rest) := fun p hp => by
    rcases List.mem_cons.mp hp with rfl | hp
    · exact N _ hD
    · rcases List.mem_cons.mp hp with rfl | hp
      · exact N _ hl
      · exact N _ (hr p hp)
  refine iter_strs (PlJ root m₀ l ps rest) hh (.tail _ (.head _)) F N' ⟨D₀, [], 0, t₀, h1, h2, fun _ _ _ _ => rfl, rfl, rfl⟩ ?_ ?_
  · rintro pre c t post m₁ news₁ h tk own e ho _ ⟨D, cs, ups, tu, k1, k2, k3, rfl, k4⟩ F₁ N₁
    have hp : pre.length ≤ 2000 := by
      have := congrArg List.length e
      simp only [List.length_map, List.length_append, List.length_cons] at this
      omega
    have hb : cs.length ≤ 2000 ∧ 0 ≤ ups ∧ ups ≤ 2000 := by
      have := foldL_len root pre ([], 0)
      rw [← k4] at this
      simp only [List.length_map, List.length_nil] at this
      omega
    refine turn pre c t post D cs ups tu h tk own e k4 hb ho ?_ N₁
    have em : (fun y => if y = nmP then some (Value.str c t) else m₁ y) = fun y => if y = nmP then some (.str c t) else if y = nmN then some (.ref D) else if y = nmU then some (.int ups tu) else m₀ y := by
      funext y
      by_cases y1 : y = nmP
      · simp only [if_pos y1]
      · simp only [if_neg y1]
        by_cases y2 : y = nmN
        · rw [if_pos y2, y2]; exact k1
        · rw [if_neg y2]
          by_cases y3 : y = nmU
          · rw [if_pos y3, y3]; exact k2
          · rw [if_neg y3]; exact k3 y y2 y3 y1
    rw [← em]; exact F₁
  · rintro m₁ news₁ h tk ⟨D, cs, ups, tu, k1, k2, k3, rfl, k4⟩ F₁ N₁
    refine done D cs ups tu (m₁ nmP) h tk k4 ?_ N₁
    have em : m₁ = fun y => if y = nmN then some (.ref D) else if y = nmU then some (.int ups tu) else if y = nmP then m₁ nmP else m₀ y := by
      funext y
      by_cases y2 : y = nmN
      · rw [if_pos y2, y2]; exact k1
      · rw [if_neg y2]
        by_cases y3 : y = nmU
        · rw [if_pos y3, y3]; exact k2
        · rw [if_neg y3]
          by_cases y1 : y = nmP
          · rw [if_pos y1, y1]
          · rw [if_neg y1]; exact k3 y y2 y3 y1
    rw [← em]; exact F₁
/-- the turn's end -/
theorem plain_end' {root : Str} {m₀ m' : Str → Option Value} {l D : Addr} {ps cs : List (Str × Tok)} {pre : List Str} {c : Str} {ups : Int} {tu : Tok} {news' own rest : List (Addr × Obj)} {h₀ h' : Heap} {tk : Nat} {s₁ : Shared} {L : Addr}
    (F : Fr h₀ L h' m') (N : News h₀ L h' news') (k1 : m' nmN = some (.ref D)) (k2 : m' nmU = some (.int ups tu)) (k3 : ∀ z, z ≠ nmN → z ≠ nmU → z ≠ nmP → m' z = m₀ z)
    (hD : (D, listOf (strValues cs).toArray 0) ∈ news') (hl : (l, listOf (strValues ps).toArray 0) ∈ news') (ho : ∀ p ∈ rest ++ own, p ∈ news') (off : OwnOff own (D :: l :: rest.map (·.1))) (st : (cs.map (·.1), ups) = stepL root (pre.foldl (stepL root) ([], 0)) c) :
    InvEndG h₀ L (fun m' nx => (l, listOf (strValues ps).toArray 0) ∈ nx ∧ PlJ root m₀ l ps rest (pre ++ [c]) m' nx) own s₁ { s₁ with heap := h', toks := tk } := by
  refine InvEndG.intro F N ⟨.tail _ (.head _), D, cs, ups, tu, k1, k2, k3, rfl, ?_⟩ off ?_ (fun p hp => ho p (List.mem_append.mpr (.inr hp)))
  · rw [List.foldl_append]; exact st
  · intro p hp
    rcases List.mem_cons.mp hp with rfl | hp
    · exact hD
    · rcases List.mem_cons.mp hp with rfl | hp
      · exact hl
      · exact ho p (List.mem_append.mpr (.inl hp))
theorem off_new' {own rest : List (Addr × Obj)} {D D' : Addr} {ls : List Addr} (h : OwnOff own (D :: ls)) (lt : ∀ p ∈ rest, p.1 < D') (hs : ∀ p ∈ own, p ∈ rest) : OwnOff own (D' :: ls) := by
  intro p hp b hb
  rcases List.mem_cons.mp hb with rfl | hb
  · exact Nat.ne_of_lt (lt p (hs p hp))
  · exact h p hp b (.tail _ hb)
end
end Mine
end

section -- R7
open PySem PySem.W PyProof.Rows PySem.Calls PySem.Builtin PySem.Builtin.Str PySem.SeqAt
set_option Elab.async false
set_option maxRecDepth 100000
set_option maxHeartbeats 0
namespace Mine
theorem sum_le : ∀ l : List Str, (∀ d ∈ l, d.length ≤ 1000) → (l.map (·.length)).sum ≤ 1000 * l.length := by
  intro l
  induction l with
  | nil => intro _; simp
  | cons a r ih =>
    intro h
    have := ih fun d hd => h d (.tail _ hd)
    have := h a (.head _)
    simp only [List.map_cons, List.sum_cons, List.length_cons]
    omega
theorem joined_len {sep : Str} {texts : List Str} (h1 : ∀ d ∈ texts, d.length ≤ 1000) (h2 : texts.length ≤ 8000) (h3 : sep.length ≤ 1) : (Txt.join sep texts).length ≤ 9000000 := by
  show (glued sep texts).length ≤ _
  rw [StrLaws.glued_eq_join]
  have := StrLaws.join_length_le sep texts
  have := sum_le texts h1
  have : texts.length * sep.length ≤ texts.length * 1 := Nat.mul_le_mul_left _ h3
  omega
theorem joinOk_of {sep : Str} {texts : List Str} (h1 : ∀ d ∈ texts, d.length ≤ 1000) (h2 : texts.length ≤ 8000) (h3 : sep.length ≤ 1) : JoinOk sep texts = true := by
  unfold JoinOk
  rw [StrLaws.joinTotal, Bool.not_eq_true']
  have e1 := sum_le texts h1
  have e2 : texts.length * sep.length ≤ texts.length * 1 := Nat.mul_le_mul_left _ h3
  unfold tooLong
  rw [sizeLine_eq]
  exact decide_eq_false (by omega)
theorem fold_one (v : Value) : ∀ (n : Nat) (a : Array Value), List.foldl (fun x1 x2 => x1 ++ x2) a (List.replicate n #[v]) = a ++ (List.replicate n v).toArray
  | 0, a => by simp
  | n + 1, a => by
    rw [List.replicate_succ, List.foldl_cons, fold_one v n, List.replicate_succ, ← Array.toList_inj]
    simp
section
variable {prog : Program} {w : World} {A : Around} {E : Value → Shared → Prop} {s : Shared} {h₀ : Heap} {L : Addr} {m : Str → Option Value} {news : List (Addr × Obj)} {Q : Value → Shared → Prop}
theorem mul_strs {l : Addr} {c : Str} {t u : Tok} {k : Nat} {x : Int} (F : Fr h₀ L s.heap m) (N : News h₀ L s.heap news) (hl : (l, listOf (strValues [(c, t)]).toArray k) ∈ news) (h0 : 0 ≤ x) (h1 : x ≤ 100000)
    (h : ∀ D h', Fr h₀ L h' m → News h₀ L h' ((D, listOf (strValues (List.replicate x.toNat (c, t))).toArray 0) :: news) → (∀ p ∈ news, p.1 < D) → Q (.ref D) { s with heap := h' }) : wpAny (model prog w) A (binaryOp .Mult (.ref l) (.int x u)) Q E s := by
  refine mul_list (items := #[.str c t]) (k := k) F N (N _ hl).1 (by omega) (by omega) (by simp; omega) (fun h' F' N' => h _ h' F' ?_ (fun p hp => Heap.lt_size (N p hp).1))
  have e : List.foldl (fun x1 x2 => x1 ++ x2) #[] (List.replicate (if (#[Value.str c t]).isEmpty = true then 0 else x.toNat) #[Value.str c t]) = (strValues (List.replicate x.toNat (c, t))).toArray := by
    rw [if_neg (by simp), fold_one]
    simp [strValues]
  rw [e] at N'
  exact N'
/-- one text of a list's join -/
theorem join_strs {x : Str} {t : Tok} {D : Addr} {l : List (Str × Tok)} {n : Nat} (N : News h₀ L s.heap news) (hl : (D, listOf (strValues l).toArray n) ∈ news) (h1 : ∀ d ∈ l.map (·.1), d.length ≤ 1000) (h2 : l.length ≤ 8000) (h3 : x.length ≤ 1)
    (hq : ∀ t' k, (Txt.join x (l.map (·.1))).length ≤ 9000000 → Q (.str (Txt.join x (l.map (·.1))) t') { s with toks := k }) : wpAny (model prog w) A (call (.builtin "str.join") [.str x t, .ref D]) Q E s := by
  have ok := joinOk_of (sep := x) h1 (by rw [List.length_map]; exact h2) h3
  exact SC.join (News.isList N hl) rfl ok (fun t' k => hq t' k (joined_len h1 (by rw [List.length_map]; exact h2) h3))
end
section
variable {root c : Str} {cs : List (Str × Tok)} {ups : Int} {st : List Str × Int} {t : Tok}
theorem st_1 (k : (cs.map (·.1), ups) = st) (h1 : (c == Str.ofString "..") = true) (h2 : cs.isEmpty = true) (h3 : (root == Str.ofString "") = true) : (cs.map (·.1), ups + 1) = stepL root st c := by
  subst k
  have : cs = [] := List.isEmpty_iff.mp h2
  subst this
  simp only [stepL, h1, h3, List.map_nil, ne_eq, not_true, and_false, if_false, and_self, if_true]
theorem st_2 (k : (cs.map (·.1), ups) = st) (h2 : cs.isEmpty = true) (h3 : (root == Str.ofString "") = false) (h4 : ([Str.ofString "", Str.ofString ".", Str.ofString ".."].any fun x => x == c) = true) : (cs.map (·.1), ups) = stepL root st c := by
  subst k
  have : cs = [] := List.isEmpty_iff.mp h2
  subst this
  simp only [stepL, h3, h4, List.map_nil, ne_eq, not_true, and_false, if_false, Bool.not_true, Bool.false_eq_true]
theorem st_3 (k : (cs.map (·.1), ups) = st) (h2 : cs.isEmpty = true) (h3 : (root == Str.ofString "") = false) (h4 : ([Str.ofString "", Str.ofString ".", Str.ofString ".."].any fun x => x == c) = false) : ((cs ++ [(c, t)]).map (·.1), ups) = stepL root st c := by
  subst k
  have : cs = [] := List.isEmpty_iff.mp h2
  subst this
  simp only [stepL, h3, h4, List.map_nil, ne_eq, not_true, and_false, if_false, Bool.not_false, if_true, List.nil_append, List.map_cons, Bool.false_eq_true]
theorem st_4 (k : (cs.map (·.1), ups) = st) (h1 : (c == Str.ofString "..") = true) (h2 : cs.isEmpty = false) : (cs.dropLast.map (·.1), ups) = stepL root st c := by
  subst k
  have : cs.map (·.1) ≠ [] := by
    intro e
    rw [List.map_eq_nil_iff] at e
    subst e
    exact absurd h2 (by decide)
  simp only [stepL, h1, this, ne_eq, not_false_eq_true, and_self, if_true, List.map_dropLast]
theorem st_5 (k : (cs.map (·.1), ups) = st) (h1 : (c == Str.ofString "..") = false) (h4 : ([Str.ofString "", Str.ofString ".", Str.ofString ".."].any fun x => x == c) = true) : (cs.map (·.1), ups) = stepL root st c := by
  subst k
  simp only [stepL, h1, h4, Bool.false_eq_true, false_and, if_false, Bool.not_true]
theorem st_6 (k : (cs.map (·.1), ups) = st) (h1 : (c == Str.ofString "..") = false) (h4 : ([Str.ofString "", Str.ofString ".", Str.ofString ".."].any fun x => x == c) = false) : ((cs ++ [(c, t)]).map (·.1), ups) = stepL root st c := by
  subst k
  simp only [stepL, h1, h4, Bool.false_eq_true, false_and, if_false, Bool.not_false, if_true, List.map_append, List.map_cons, List.map_nil]
end
noncomputable abbrev rootRaw (x : Str) : Str := Txt.slice x none (some ((x.length : Int) - ((Txt.lstripChars x (Str.ofString "/")).length : Int)))
noncomputable def plainSt (x : Str) : List Str × Int := (Txt.split x (Str.ofString "/")).foldl (stepL (rootRaw x)) ([], 0)
theorem split_len (x y : Str) : (Txt.split x y).length ≤ x.length + 2 := by
  unfold Txt.split
  split
  · simp
  · split
    · simp
    · rw [length_partsBetween]
      have := StrLaws.occ_length_le x y 0 x.length (x.length + 1)
      omega
noncomputable def plainF (x : Str) : Str := (if ((rootRaw x).length : Int) < 3 then rootRaw x else Str.ofString "/") ++ Txt.join (Str.ofString "/") (List.replicate (plainSt x).2.toNat (Str.ofString "..") ++ (plainSt x).1)
theorem dd_mem {cs : List (Str × Tok)} {n : Nat} {t : Tok} (h : ∀ d ∈ cs.map (·.1), d.length ≤ 1000) : ∀ d ∈ (List.replicate n (Str.ofString "..", t) ++ cs).map (·.1), d.length ≤ 1000 := by
  intro d hd
  rw [List.map_append, List.map_replicate] at hd
  rcases List.mem_append.mp hd with hd | hd
  · rw [List.eq_of_mem_replicate hd]; show (Str.ofString "..").length ≤ 1000; decide
  · exact h d hd
theorem plain_facts {x root : Str} {ps cs : List (Str × Tok)} {ups : Int} (hx : x.length ≤ 1000) (hp : ps.map (fun x => x.1) = Txt.split x (Str.ofString "/")) (k : (cs.map (·.1), ups) = (ps.map (·.1)).foldl (stepL root) ([], 0)) :
    cs.length ≤ 2000 ∧ 0 ≤ ups ∧ ups ≤ 2000 ∧ ∀ d ∈ cs.map (·.1), d.length ≤ 1000 := by
  have h1 := foldL_len root (ps.map (·.1)) ([], 0)
  have h2 := split_len x (Str.ofString "/")
  rw [← hp] at h2
  have h3 : ∀ d, d ∈ cs.map (·.1) → _ := fun d hd => foldL_mem root (ps.map (·.1)) ([], 0) d (by rw [← k]; exact hd)
  rw [← k] at h1
  simp only [List.length_map, List.length_nil] at h1 h2
  refine ⟨by omega, by omega, by omega, fun d hd => ?_⟩
  rcases h3 d hd with h | h
  · cases h
  · rw [hp] at h
    have := part_short h
    omega
theorem plainF_1 {x : Str} {ps cs : List (Str × Tok)} {ups : Int} {t : Tok} (hp : ps.map (fun x => x.1) = Txt.split x (Str.ofString "/")) (k : (cs.map (·.1), ups) = (ps.map (·.1)).foldl (stepL (rootRaw x)) ([], 0)) (h : ((rootRaw x).length : Int) < 3) :
    rootRaw x ++ Txt.join (Str.ofString "/") ((List.replicate ups.toNat (Str.ofString "..", t) ++ cs).map (·.1)) = plainF x := by
  unfold plainF plainSt
  rw [if_pos h, ← hp, ← k, List.map_append, List.map_replicate]
theorem plainF_2 {x : Str} {ps cs : List (Str × Tok)} {ups : Int} {t : Tok} (hp : ps.map (fun x => x.1) = Txt.split x (Str.ofString "/")) (k : (cs.map (·.1), ups) = (ps.map (·.1)).foldl (stepL (rootRaw x)) ([], 0)) (h : ¬ ((rootRaw x).length : Int) < 3) :
    Str.ofString "/" ++ Txt.join (Str.ofString "/") ((List.replicate ups.toNat (Str.ofString "..", t) ++ cs).map (·.1)) = plainF x := by
  unfold plainF plainSt
  rw [if_neg h, ← hp, ← k, List.map_append, List.map_replicate]
end Mine
end

section -- R8
open PySem PySem.W PyProof.Rows PySem.Calls PySem.Builtin PySem.Builtin.Str PySem.SeqAt
set_option Elab.async false
set_option maxRecDepth 100000
set_option maxHeartbeats 0
namespace Mine
section
variable {prog : Program} {w : World} {A : Around} {E : Value → Shared → Prop} {s : Shared} {h₀ : Heap} {L : Addr} {m : Str → Option Value} {news : List (Addr × Obj)}
theorem truthy_strs {l : Addr} {ps : List (Str × Tok)} {n : Nat} {Q : Bool → Shared → Prop} (N : News h₀ L s.heap news) (hl : (l, listOf (strValues ps).toArray n) ∈ news) (hz : ps.length ≤ 100000)
    (h : ∀ k, Q (!ps.isEmpty) { s with toks := k }) : wpAny (model prog w) A (truthy (.ref l)) Q E s := by
  refine wpAny_truthy_list (News.isList N hl) (by rw [List.size_toArray, sv_len]; omega) ?_
  have e : (!(strValues ps).toArray.isEmpty) = !ps.isEmpty := by cases ps <;> simp [strValues]
  rw [e]
  exact h _
theorem append_strs {D : Addr} {cs : List (Str × Tok)} {c : Str} {t : Tok} {n : Nat} {keep : List (Addr × Obj)} {Q : Value → Shared → Prop} (F : Fr h₀ L s.heap m) (N : News h₀ L s.heap news) (hD : (D, listOf (strValues cs).toArray n) ∈ news) (hs : ∀ p ∈ keep, p ∈ news) (hne : ∀ p ∈ keep, p.1 ≠ D) (hz : cs.length ≤ 100000)
    (h : ∀ h', Fr h₀ L h' m → News h₀ L h' ((D, listOf (strValues (cs ++ [(c, t)])).toArray (n + 1)) :: keep) → Q .none { s with heap := h' }) : wpAny (model prog w) A (call (.builtin "list.append") [.ref D, .str c t]) Q E s := by
  have N' : News h₀ L s.heap ((D, listOf (strValues cs).toArray n) :: keep) := fun p hp => by
    rcases List.mem_cons.mp hp with rfl | hp
    · exact N _ hD
    · exact N _ (hs p hp)
  have e : (strValues cs).toArray.push (.str c t) = (strValues (cs ++ [(c, t)])).toArray := by simp [strValues]
  refine append_K F N' (Upd.head hne) (fun h' F' N' => h h' F' ?_) (by rw [List.size_toArray, sv_len, sizeLine_eq]; omega)
  rw [e] at N'; exact N'
theorem pop_strs {D : Addr} {cs : List (Str × Tok)} {n : Nat} {keep : List (Addr × Obj)} {Q : Value → Shared → Prop} (F : Fr h₀ L s.heap m) (N : News h₀ L s.heap news) (hD : (D, listOf (strValues cs).toArray n) ∈ news) (hs : ∀ p ∈ keep, p ∈ news) (hne : ∀ p ∈ keep, p.1 ≠ D) (hc : cs ≠ []) (hz : cs.length ≤ 100000)
    (h : ∀ y t h', Fr h₀ L h' m → News h₀ L h' ((D, listOf (strValues cs.dropLast).toArray (n + 1)) :: keep) → Q (.str y t) { s with heap := h' }) : wpAny (model prog w) A (call (.builtin "list.pop") [.ref D]) Q E s := by
  have N' : News h₀ L s.heap ((D, listOf (strValues cs).toArray n) :: keep) := fun p hp => by
    rcases List.mem_cons.mp hp with rfl | hp
    · exact N _ hD
    · exact N _ (hs p hp)
  obtain ⟨c', q, rfl⟩ : ∃ l' q, cs = l' ++ [q] := ⟨cs.dropLast, cs.getLast hc, (List.dropLast_concat_getLast hc).symm⟩
  have e : strValues (c' ++ [q]) = strValues c' ++ [.str q.1 q.2] := by simp [strValues]
  refine kl_pop (p := strValues c') (y := .str q.1 q.2) F N' (by show kl_last (strValues (c' ++ [q])) = _; rw [e]; exact kpa_last _ _) (Upd.head hne) (by show (strValues (c' ++ [q])).length ≤ _; rw [sv_len, sizeLine_eq]; omega) (fun h' F' N' => h q.1 q.2 h' F' ?_)
  rw [List.dropLast_concat]
  exact N'
end

theorem off_of {rest all : List (Addr × Obj)} {D : Addr} (lt : ∀ p ∈ all, p.1 < D) (hs : ∀ p ∈ rest, p ∈ all) : ∀ p ∈ rest, p.1 ≠ D := fun p hp => Nat.ne_of_lt (lt p (hs p hp))
theorem piece_le {ps : List (Str × Tok)} {x y c : Str} {pre post : List Str} (hsp : ps.map (fun x => x.1) = Txt.split x y) (e : ps.map (·.1) = pre ++ c :: post) : c.length ≤ x.length := by
  refine part_short (y := y) ?_
  rw [← hsp, e]
  exact List.mem_append.mpr (.inr (.head _))
theorem split_len9 {ps : List (Str × Tok)} {x y : Str} (hsp : ps.map (fun x => x.1) = Txt.split x y) : ps.length ≤ x.length + 2 := by
  have := split_len x y
  rw [← hsp, List.length_map] at this
  exact this
/-! ## the loop of normpath -/
noncomputable def stepN (root : Str) (st : List Str) (c : Str) : List Str :=
  if (c.length : Int) = 0 ∨ (c == Str.ofString ".") = true then st
  else if (c != Str.ofString "..") = true ∨ ((root.length : Int) = 0 ∧ st = []) ∨ (∃ y, st.getLast? = some y ∧ (y == Str.ofString "..") = true) then st ++ [c]
  else st.dropLast
theorem stepN_len {root : Str} {st : List Str} {c : Str} : (stepN root st c).length ≤ st.length + 1 := by
  unfold stepN
  split
  · omega
  · split
    · simp
    · simp only [List.length_dropLast]; omega
theorem stepN_mem {root : Str} {st : List Str} {c d : Str} (h : d ∈ stepN root st c) : d ∈ st ∨ d = c := by
  unfold stepN at h
  split at h
  · exact .inl h
  · split at h
    · rcases List.mem_append.mp h with h | h
      · exact .inl h
      · exact .inr (List.mem_singleton.mp h)
    · exact .inl (List.dropLast_subset _ h)
theorem foldN_len (root : Str) : ∀ (cs st : List Str), (cs.foldl (stepN root) st).length ≤ st.length + cs.length
  | [], st => by simp
  | c :: r, st => by
    have h1 := foldN_len root r (stepN root st c)
    have h2 := stepN_len (root := root) (st := st) (c := c)
    simp only [List.foldl_cons, List.length_cons]
    omega
theorem foldN_mem (root : Str) : ∀ (cs st : List Str) (d : Str), d ∈ cs.foldl (stepN root) st → d ∈ st ∨ d ∈ cs
  | [], _, _, h => .inl h
  | c :: r, st, d, h => by
    rcases foldN_mem root r (stepN root st c) d h with h | h
    · rcases stepN_mem h with h | h
      · exact .inl h
      · exact .inr (h ▸ .head _)
    · exact .inr (.tail _ h)
noncomputable abbrev nmC : Str := Str.ofString "comp"
noncomputable def NmJ (root : Str) (m₀ : Str → Option Value) (l D : Addr) (ps : List (Str × Tok)) (rest : List (Addr × Obj)) (pre : List Str) (m : Str → Option Value) (nx : List (Addr × Obj)) : Prop :=
  ∃ cs k, (∀ z, z ≠ nmC → m z = m₀ z) ∧ nx = (D, listOf (strValues cs).toArray k) :: (l, listOf (strValues ps).toArray 0) :: rest ∧ cs.map (·.1) = pre.foldl (stepN root) []
section
variable {prog : Program} {w : World} {A : Around} {E : Value → Shared → Prop} {s : Shared} {env : Env} {h₀ : Heap} {body : List Stmt} {Q : Flow → Shared → Prop}
theorem iter_norm {l D : Addr} {ps : List (Str × Tok)} {m₀ : Str → Option Value} {news : List (Addr × Obj)} (root : Str) (rest : List (Addr × Obj))
    (hh : A.handled = none) (F : Fr h₀ env.locals s.heap m₀) (N : News h₀ env.locals s.heap news) (hD : (D, listOf #[] 0) ∈ news) (hl : (l, listOf (strValues ps).toArray 0) ∈ news) (hr : ∀ p ∈ rest, p ∈ news)
    (hoff : ∀ p ∈ (l, listOf (strValues ps).toArray 0) :: rest, p.1 ≠ D) (hlen : ps.length ≤ 2000)
    (turn : ∀ pre c t post cs k h tk own, ps.map (·.1) = pre ++ c :: post → cs.map (·.1) = pre.foldl (stepN root) [] → cs.length ≤ 2000 → OwnOff own (D :: l :: rest.map (·.1)) → (∀ p ∈ (l, listOf (strValues ps).toArray 0) :: (rest ++ own), p.1 ≠ D) →
      Fr h₀ env.locals h (fun y => if y = nmC then some (.str c t) else m₀ y) → News h₀ env.locals h ((D, listOf (strValues cs).toArray k) :: (l, listOf (strValues ps).toArray 0) :: (rest ++ own)) →
      wpAny (model prog w) A (execs body env) (InvPostG h₀ env.locals (fun m' nx => (l, listOf (strValues ps).toArray 0) ∈ nx ∧ NmJ root m₀ l D ps rest (pre ++ [c]) m' nx) own { s with heap := h, toks := tk } Q) E { s with heap := h, toks := tk })
    (done : ∀ cs k u h tk, cs.map (·.1) = (ps.map (·.1)).foldl (stepN root) [] → Fr h₀ env.locals h (fun y => if y = nmC then u else m₀ y) → News h₀ env.locals h ((D, listOf (strValues cs).toArray k) :: (l, listOf (strValues ps).toArray 0) :: rest) → Q .next { s with heap := h, toks := tk }) :
    wpAny (model prog w) A (pyIter (.ref l)) (fun it s₂ => LoopAtV prog w A h₀ env nmC body Q E it s₂) E s := by
  have N' : News h₀ env.locals s.heap ((D, listOf (strValues []).toArray 0) :: (l, listOf (strValues ps).toArray 0) :: rest) := fun p hp => by
    rcases List.mem_cons.mp hp with rfl | hp
    · exact N _ hD
    · rcases List.mem_cons.mp hp with rfl | hp
      · exact N _ hl
      · exact N _ (hr p hp)
  refine iter_strs (NmJ root m₀ l D ps rest) hh (.tail _ (.head _)) F N' ⟨[], 0, fun _ _ => rfl, rfl, rfl⟩ ?_ ?_
  · rintro pre c t post m₁ news₁ h tk own e ho _ ⟨cs, k, k3, rfl, k4⟩ F₁ N₁
    have hp : pre.length ≤ 2000 := by
      have := congrArg List.length e
      simp only [List.length_map, List.length_append, List.length_cons] at this
      omega
    have hb : cs.length ≤ 2000 := by
      have := foldN_len root pre []
      rw [← k4] at this
      simp only [List.length_map, List.length_nil] at this
      omega
    refine turn pre c t post cs k h tk own e k4 hb ho ?_ ?_ N₁
    · intro p hp
      rcases List.mem_cons.mp hp with rfl | hp
      · exact hoff _ (.head _)
      · rcases List.mem_append.mp hp with hp | hp
        · exact hoff _ (.tail _ hp)
        · exact ho p hp D (.head _)
    · have em : (fun y => if y = nmC then some (Value.str c t) else m₁ y) = fun y => if y = nmC then some (.str c t) else m₀ y := by
        funext y
        by_cases y1 : y = nmC
        · simp only [if_pos y1]
        · simp only [if_neg y1]; exact k3 y y1
      rw [← em]; exact F₁
  · rintro m₁ news₁ h tk ⟨cs, k, k3, rfl, k4⟩ F₁ N₁
    refine done cs k (m₁ nmC) h tk k4 ?_ N₁
    have em : m₁ = fun y => if y = nmC then m₁ nmC else m₀ y := by
      funext y
      by_cases y1 : y = nmC
      · rw [if_pos y1, y1]
      · rw [if_neg y1]; exact k3 y y1
    rw [← em]; exact F₁
theorem norm_end {root : Str} {m₀ m' : Str → Option Value} {l D : Addr} {ps cs : List (Str × Tok)} {pre : List Str} {c : Str} {k : Nat} {news' own rest : List (Addr × Obj)} {h₀ h' : Heap} {tk : Nat} {s₁ : Shared} {L : Addr}
    (F : Fr h₀ L h' m') (N : News h₀ L h' news') (k3 : ∀ z, z ≠ nmC → m' z = m₀ z)
    (hD : (D, listOf (strValues cs).toArray k) ∈ news') (hl : (l, listOf (strValues ps).toArray 0) ∈ news') (ho : ∀ p ∈ rest ++ own, p ∈ news') (off : OwnOff own (D :: l :: rest.map (·.1))) (st : cs.map (·.1) = stepN root (pre.foldl (stepN root) []) c) :
    InvEndG h₀ L (fun m' nx => (l, listOf (strValues ps).toArray 0) ∈ nx ∧ NmJ root m₀ l D ps rest (pre ++ [c]) m' nx) own s₁ { s₁ with heap := h', toks := tk } := by
  refine InvEndG.intro F N ⟨.tail _ (.head _), cs, k, k3, rfl, ?_⟩ off ?_ (fun p hp => ho p (List.mem_append.mpr (.inr hp)))
  · rw [List.foldl_append]; exact st
  · intro p hp
    rcases List.mem_cons.mp hp with rfl | hp
    · exact hD
    · rcases List.mem_cons.mp hp with rfl | hp
      · exact hl
      · exact ho p (List.mem_append.mpr (.inl hp))
end
section
variable {root c y : Str} {cs : List (Str × Tok)} {st : List Str} {t : Tok}
theorem sn_1 (k : cs.map (·.1) = st) (h : (c.length : Int) = 0) : cs.map (·.1) = stepN root st c := by
  unfold stepN; rw [if_pos (.inl h)]; exact k
theorem sn_2 (k : cs.map (·.1) = st) (h : (c == Str.ofString ".") = true) : cs.map (·.1) = stepN root st c := by
  unfold stepN; rw [if_pos (.inr h)]; exact k
theorem sn_not (h1 : (c.length : Int) ≠ 0) (h2 : (c == Str.ofString ".") = false) : ¬ ((c.length : Int) = 0 ∨ (c == Str.ofString ".") = true) := by
  rw [h2]; simp only [Bool.false_eq_true, or_false]; exact h1
theorem sn_3 (k : cs.map (·.1) = st) (h1 : (c.length : Int) ≠ 0) (h2 : (c == Str.ofString ".") = false) (h3 : (c != Str.ofString "..") = true) : (cs ++ [(c, t)]).map (·.1) = stepN root st c := by
  unfold stepN; rw [if_neg (sn_not h1 h2), if_pos (.inl h3), List.map_append, k]; rfl
theorem sn_4 (k : cs.map (·.1) = st) (h1 : (c.length : Int) ≠ 0) (h2 : (c == Str.ofString ".") = false) (h3 : (root.length : Int) = 0) (h4 : cs.isEmpty = true) : (cs ++ [(c, t)]).map (·.1) = stepN root st c := by
  have : cs = [] := List.isEmpty_iff.mp h4
  subst this
  unfold stepN; rw [if_neg (sn_not h1 h2), if_pos (.inr (.inl ⟨h3, k.symm⟩)), ← k]; rfl
theorem sn_5 (k : cs.map (·.1) = st) (h1 : (c.length : Int) ≠ 0) (h2 : (c == Str.ofString ".") = false) (h3 : (cs.map (·.1)).getLast? = some y) (h4 : (y == Str.ofString "..") = true) : (cs ++ [(c, t)]).map (·.1) = stepN root st c := by
  unfold stepN; rw [if_neg (sn_not h1 h2), if_pos (.inr (.inr ⟨y, k ▸ h3, h4⟩)), List.map_append, k]; rfl
theorem sn_no (k : cs.map (·.1) = st) (h1 : (c.length : Int) ≠ 0) (h2 : (c == Str.ofString ".") = false) (h3 : (c != Str.ofString "..") = false) (h4 : ¬ ((root.length : Int) = 0 ∧ st = [])) (h5 : ∀ y, st.getLast? = some y → (y == Str.ofString "..") = false) : cs.dropLast.map (·.1) = stepN root st c := by
  unfold stepN
  rw [if_neg (sn_not h1 h2), if_neg, List.map_dropLast, k]
  rintro (h | h | ⟨y, hy, h⟩)
  · rw [h3] at h; cases h
  · exact h4 h
  · rw [h5 y hy] at h; cases h
theorem sn_6 (k : cs.map (·.1) = st) (h1 : (c.length : Int) ≠ 0) (h2 : (c == Str.ofString ".") = false) (h3 : (c != Str.ofString "..") = false) (h4 : (root.length : Int) ≠ 0) (h5 : cs.isEmpty = true) : cs.map (·.1) = stepN root st c := by
  have : cs = [] := List.isEmpty_iff.mp h5
  subst this
  exact sn_no k h1 h2 h3 (fun h => h4 h.1) (fun y hy => by rw [← k] at hy; cases hy)
theorem sn_7 (k : cs.map (·.1) = st) (h1 : (c.length : Int) ≠ 0) (h2 : (c == Str.ofString ".") = false) (h3 : (c != Str.ofString "..") = false) (h4 : cs.isEmpty = false) (h5 : (cs.map (·.1)).getLast? = some y) (h6 : (y == Str.ofString "..") = false) : cs.dropLast.map (·.1) = stepN root st c := by
  refine sn_no k h1 h2 h3 (fun h => ?_) (fun z hz => ?_)
  · rw [← k, List.map_eq_nil_iff] at h
    rw [h.2] at h4; cases h4
  · rw [← k, h5] at hz
    rw [← Option.some.inj hz]; exact h6
end
end Mine
end

section -- R9
open PySem PySem.W PyProof.Rows PySem.Calls PySem.Builtin PySem.Builtin.Str PySem.SeqAt
set_option Elab.async false
set_option maxRecDepth 100000
set_option maxHeartbeats 0
namespace Mine
theorem keep_t {b : Bool} (h : b = false) : (!b) = true := by rw [h]; rfl
theorem keep_f {b : Bool} (h : b = true) : (!b) = false := by rw [h]; rfl
/-- what stands behind a turn of a comprehension -/
noncomputable def CompFin (h₀ : Heap) (L : Addr) (m : Str → Option Value) (s : Shared) (I : Addr) (oI : Obj) (C : Addr) (oC : Obj) (D : Addr) (oD : Obj) (news : List (Addr × Obj)) (s' : Shared) : Prop :=
  ∃ h' tk' all, s' = { s with heap := h', toks := tk' } ∧ Fr h₀ L h' m ∧ News h₀ L h' all ∧ (∀ p ∈ (I, oI) :: (C, oC) :: (D, oD) :: news, p ∈ all)
theorem CompFin.mk {h₀ : Heap} {L : Addr} {m : Str → Option Value} {s : Shared} {I : Addr} {oI : Obj} {C : Addr} {oC : Obj} {D : Addr} {oD : Obj} {news all : List (Addr × Obj)} {h' : Heap} {tk' : Nat}
    (F : Fr h₀ L h' m) (N : News h₀ L h' all) (hs : ∀ p ∈ (I, oI) :: (C, oC) :: (D, oD) :: news, p ∈ all) : CompFin h₀ L m s I oI C oC D oD news { s with heap := h', toks := tk' } := ⟨h', tk', all, rfl, F, N, hs⟩
section
variable {prog : Program} {w : World} {A : Around} {h₀ : Heap} {L : Addr} {m : Str → Option Value} {env : Env} {ct elt : Expr} {x : Str} {scope : Scope} {cl : List (Str × Addr)} {s : Shared} {S : List (Addr × Obj) → Prop} {P : Nat → Value → Prop} {Fin : List Value → List (Addr × Obj) → Prop} {news : List (Addr × Obj)}
theorem comp_filter {ps : List (Str × Tok)} {n : Nat} (keep : Str → Bool) (hn : n = ps.length) (hS : S news) (hP : ∀ i v, P i v → (strValues ps)[i]? = some v)
    (turn : ∀ c t I oI C oC D m₂ ys h tk (E' : Value → Shared → Prop), (c, t) ∈ ps → LCg.NsObj oC m₂ → m₂ x = some (.str c t) → Fr h₀ L h m → News h₀ L h ((I, oI) :: (C, oC) :: (D, LCg.lst (strValues ys)) :: news) →
      wpAny (model prog w) A (isTrue ct (compEnvC scope cl C env) (eval ct (compEnvC scope cl C env))) (fun b s' => if b = true then keep c = true ∧ wpAny (model prog w) A (eval elt (compEnvC scope cl C env)) (fun y s'' => y = .str c t ∧ CompFin h₀ L m s I oI C oC D (LCg.lst (strValues ys)) news s'') E' s'
        else keep c = false ∧ CompFin h₀ L m s I oI C oC D (LCg.lst (strValues ys)) news s') E' { s with heap := h, toks := tk })
    (fin : Fin (strValues (ps.filter fun p => keep p.1)) news) : LCt.CompRestT prog w A h₀ L m env ct elt x scope cl s S P Fin n 0 [] news := by
  subst hn
  have key : ∀ (j i : Nat) (ys : List (Str × Tok)), i + j = ps.length → ys = (ps.take i).filter (fun p => keep p.1) → LCt.CompRestT prog w A h₀ L m env ct elt x scope cl s S P Fin j i (strValues ys) news := by
    intro j
    induction j with
    | zero =>
      intro i ys hi hy
      have e : i = ps.length := by omega
      subst e
      rw [List.take_length] at hy
      subst hy
      exact LCt.CompRestT.zero fin
    | succ j ih =>
      intro i ys hi hy
      refine LCt.CompRestT.succ ?_
      intro v I oI C oC D m₂ h tk E' hv hC hx F N off ne
      have hlt : i < ps.length := by omega
      have hv' := hP i v hv
      unfold strValues at hv'
      rw [List.getElem?_map, List.getElem?_eq_getElem hlt] at hv'
      have ev : v = .str ps[i].1 ps[i].2 := (Option.some.inj hv').symm
      subst ev
      have hs : ps.take (i + 1) = ps.take i ++ [ps[i]] := by rw [List.take_add_one, List.getElem?_eq_getElem hlt] <;> rfl
      refine wpAny_mono (turn ps[i].1 ps[i].2 I oI C oC D m₂ ys h tk E' (List.getElem_mem hlt) hC hx F N) (fun b s₂ hq => ?_) fun _ _ e => e
      cases b with
      | true =>
        simp only [if_true] at hq ⊢
        refine wpAny_mono hq.2 (fun y s₃ hr => ?_) fun _ _ e => e
        obtain ⟨rfl, h', tk', all, rfl, F', N', hsub⟩ := hr
        refine LCg.CompEnd.intro F' N' news hsub off hS ?_
        have e2 : strValues ys ++ [.str ps[i].1 ps[i].2] = strValues (ys ++ [ps[i]]) := by simp [strValues]
        rw [e2]
        refine ih (i + 1) _ (by omega) ?_
        rw [hs, List.filter_append, ← hy]
        simp [hq.1]
      | false =>
        simp only [Bool.false_eq_true, if_false] at hq ⊢
        obtain ⟨h', tk', all, rfl, F', N', hsub⟩ := hq.2
        refine LCg.CompEnd.intro F' N' news hsub off hS ?_
        refine ih (i + 1) _ (by omega) ?_
        rw [hs, List.filter_append, ← hy]
        simp [hq.1]
  exact key ps.length 0 [] (by omega) (by simp)
end
end Mine
end

section -- S0
open PySem PySem.W PyProof.Rows PySem.Calls
set_option Elab.async false
namespace Mine
/-! what each def reckons, over Strs, as the walk says it -/
noncomputable abbrev headRaw (x : Str) : Str := Txt.slice x none (some (Txt.rfind x (Str.ofString "/") + 1))
noncomputable abbrev tailF (x : Str) : Str := Txt.slice x (some (Txt.rfind x (Str.ofString "/") + 1)) none
noncomputable def headF (x : Str) : Str := if ((headRaw x).length : Int) ≠ 0 ∧ (headRaw x != Txt.mul (Str.ofString "/") (headRaw x).length) = true then Txt.rstripChars (headRaw x) (Str.ofString "/") else headRaw x
theorem headF_1 {x : Str} (h1 : ((headRaw x).length : Int) ≠ 0) (h2 : (headRaw x != Txt.mul (Str.ofString "/") (headRaw x).length) = true) : Txt.rstripChars (headRaw x) (Str.ofString "/") = headF x := (if_pos ⟨h1, h2⟩).symm
theorem headF_2 {x : Str} (h2 : (headRaw x != Txt.mul (Str.ofString "/") (headRaw x).length) = false) : headRaw x = headF x := (if_neg fun h => by rw [h2] at h; exact absurd h.2 (by decide)).symm
theorem headF_3 {x : Str} (h1 : ((headRaw x).length : Int) = 0) : headRaw x = headF x := (if_neg fun h => h.1 h1).symm

noncomputable def rootF (x : Str) : Str × Str :=
  if (Txt.slice x none (some 1) != Str.ofString "/") = true then (Str.ofString "", x)
  else if (Txt.slice x (some 1) (some 2) != Str.ofString "/") = true then (Str.ofString "/", Txt.slice x (some 1) none)
  else if (Txt.slice x (some 2) (some 3) == Str.ofString "/") = true then (Str.ofString "/", Txt.slice x (some 1) none)
  else (Txt.slice x none (some 2), Txt.slice x (some 2) none)
theorem rootF_1 {x : Str} (h1 : (Txt.slice x none (some 1) != Str.ofString "/") = true) : rootF x = (Str.ofString "", x) := if_pos h1
theorem rootF_2 {x : Str} (h1 : (Txt.slice x none (some 1) != Str.ofString "/") = false) (h2 : (Txt.slice x (some 1) (some 2) != Str.ofString "/") = true) : rootF x = (Str.ofString "/", Txt.slice x (some 1) none) := by
  unfold rootF; rw [if_neg (ne_true_of_eq_false h1), if_pos h2]
theorem rootF_3 {x : Str} (h1 : (Txt.slice x none (some 1) != Str.ofString "/") = false) (h2 : (Txt.slice x (some 1) (some 2) != Str.ofString "/") = false) (h3 : (Txt.slice x (some 2) (some 3) == Str.ofString "/") = true) : rootF x = (Str.ofString "/", Txt.slice x (some 1) none) := by
  unfold rootF; rw [if_neg (ne_true_of_eq_false h1), if_neg (ne_true_of_eq_false h2), if_pos h3]
theorem rootF_4 {x : Str} (h1 : (Txt.slice x none (some 1) != Str.ofString "/") = false) (h2 : (Txt.slice x (some 1) (some 2) != Str.ofString "/") = false) (h3 : (Txt.slice x (some 2) (some 3) == Str.ofString "/") = false) : rootF x = (Txt.slice x none (some 2), Txt.slice x (some 2) none) := by
  unfold rootF; rw [if_neg (ne_true_of_eq_false h1), if_neg (ne_true_of_eq_false h2), if_neg (ne_true_of_eq_false h3)]

noncomputable def builtF (x : Str) : Str := if (Txt.slice x none (some 1) ++ Txt.slice x (some (-1)) none == Str.ofString "<>") = true then Str.ofString "{" ++ Txt.slice x (some 1) (some (-1)) ++ Str.ofString "}" else x
theorem builtF_1 {x : Str} (h : (Txt.slice x none (some 1) ++ Txt.slice x (some (-1)) none == Str.ofString "<>") = true) : Str.ofString "{" ++ Txt.slice x (some 1) (some (-1)) ++ Str.ofString "}" = builtF x := (if_pos h).symm
theorem builtF_2 {x : Str} (h : (Txt.slice x none (some 1) ++ Txt.slice x (some (-1)) none == Str.ofString "<>") = false) : x = builtF x := (if_neg (ne_true_of_eq_false h)).symm

noncomputable abbrev rdO (x : Str) : Int := Txt.rfind x (Str.ofString "(")
noncomputable abbrev rdC (x : Str) : Int := Txt.rfind (Txt.slice x none (some (rdO x))) (Str.ofString ":")
noncomputable abbrev rd1 (x : Str) : Str := Txt.slice x none (some (rdC x))
noncomputable abbrev rd2 (x : Str) : Str := Txt.slice x (some (rdC x + 1)) (some (rdO x))
noncomputable abbrev rd3 (x : Str) : Str := Txt.slice x (some (rdO x + 1)) (some (-1))
noncomputable abbrev rd4 (x : Str) : Str := Txt.slice x (some (-1)) none

noncomputable def extP (x : Str) : Prop := Txt.rfind x (Str.ofString "/") < Txt.rfind x (Str.ofString ".") ∧ ∃ n : Nat, Txt.rfind x (Str.ofString "/") + 1 + 1 * (n : Int) < Txt.rfind x (Str.ofString ".") ∧ (Txt.slice x (some (Txt.rfind x (Str.ofString "/") + 1 + 1 * (n : Int))) (some (Txt.rfind x (Str.ofString "/") + 1 + 1 * (n : Int) + 1)) != Str.ofString ".") = true
open Classical in
noncomputable def extF (x : Str) : Str × Str := if extP x then (Txt.slice x none (some (Txt.rfind x (Str.ofString "."))), Txt.slice x (some (Txt.rfind x (Str.ofString "."))) none) else (x, Txt.slice x none (some 0))
theorem extF_1 {x : Str} (h : extP x) : extF x = (Txt.slice x none (some (Txt.rfind x (Str.ofString "."))), Txt.slice x (some (Txt.rfind x (Str.ofString "."))) none) := if_pos h
theorem extF_2 {x : Str} (h : ¬ extP x) : extF x = (x, Txt.slice x none (some 0)) := if_neg h

noncomputable def cutEnd (y : Str) : Str := if 1 < (Txt.split (Txt.lstripChars y (Str.ofString ".")) (Str.ofString ".")).length then Str.ofString "." ++ (((Txt.split (Txt.lstripChars y (Str.ofString ".")) (Str.ofString ".")).getLast?).getD Str.empty) else Str.ofString ""
noncomputable def cutF (x y : Str) : Str := Txt.slice x none (some ((x.length : Int) - ((cutEnd y).length : Int)))

theorem cutEnd_1 {y z : Str} {l : List (Str × Tok)} (h1 : 1 < (l.length : Int)) (h2 : l.map (fun x => x.1) = Txt.split (Txt.lstripChars y (Str.ofString ".")) (Str.ofString ".")) (h3 : (l.map (fun x => x.1)).getLast? = some z) : Str.ofString "." ++ z = cutEnd y := by
  unfold cutEnd
  rw [← h2, h3, if_pos (by rw [List.length_map]; omega)]
  rfl
theorem cutEnd_2 {y : Str} {l : List (Str × Tok)} (h1 : ¬ 1 < (l.length : Int)) (h2 : l.map (fun x => x.1) = Txt.split (Txt.lstripChars y (Str.ofString ".")) (Str.ofString ".")) : Str.ofString "" = cutEnd y := by
  unfold cutEnd
  rw [← h2, if_neg (by rw [List.length_map]; omega)]
theorem cutF_1 {x y z : Str} {l : List (Str × Tok)} (h1 : 1 < (l.length : Int)) (h2 : l.map (fun x => x.1) = Txt.split (Txt.lstripChars y (Str.ofString ".")) (Str.ofString ".")) (h3 : (l.map (fun x => x.1)).getLast? = some z) :
    Txt.slice x none (some ((x.length : Int) - (((Str.ofString ".").length + z.length : Nat) : Int))) = cutF x y := by
  unfold cutF
  rw [← cutEnd_1 h1 h2 h3, Str.length_append]
theorem cutF_2 {x y : Str} {l : List (Str × Tok)} (h1 : ¬ 1 < (l.length : Int)) (h2 : l.map (fun x => x.1) = Txt.split (Txt.lstripChars y (Str.ofString ".")) (Str.ofString ".")) :
    Txt.slice x none (some ((x.length : Int) - ((0 : Nat) : Int))) = cutF x y := by
  unfold cutF
  rw [← cutEnd_2 h1 h2]
  rfl
theorem extW {x : Str} {n : Int} (h0 : 0 ≤ n) (h1 : Txt.rfind x (Str.ofString "/") + 1 + 1 * n < Txt.rfind x (Str.ofString "."))
    (h2 : (Txt.slice x (some (Txt.rfind x (Str.ofString "/") + 1 + 1 * n)) (some (Txt.rfind x (Str.ofString "/") + 1 + 1 * n + 1)) != Str.ofString ".") = true) :
    ∃ n : Nat, Txt.rfind x (Str.ofString "/") + 1 + 1 * (n : Int) < Txt.rfind x (Str.ofString ".") ∧ (Txt.slice x (some (Txt.rfind x (Str.ofString "/") + 1 + 1 * (n : Int))) (some (Txt.rfind x (Str.ofString "/") + 1 + 1 * (n : Int) + 1)) != Str.ofString ".") = true := by
  obtain ⟨k, rfl⟩ := Int.eq_ofNat_of_zero_le h0
  exact ⟨k, h1, h2⟩
theorem extN_1 {x : Str} {n : Int} (h0 : 0 ≤ n) (hp : Passed (fun j => decide (Txt.rfind x (Str.ofString "/") + 1 + 1 * j < Txt.rfind x (Str.ofString "."))) (fun j => if (Txt.slice x (some (Txt.rfind x (Str.ofString "/") + 1 + 1 * j)) (some (Txt.rfind x (Str.ofString "/") + 1 + 1 * j + 1)) != Str.ofString ".") = true then true else false) n)
    (he : Txt.rfind x (Str.ofString ".") ≤ Txt.rfind x (Str.ofString "/") + 1 + 1 * n) : ¬ extP x := by
  rintro ⟨_, k, h1, h2⟩
  have := (hp k (by omega) (by omega)).2
  simp only [h2, if_true] at this
  exact absurd this (by decide)

noncomputable def joinF (a b : Str) : Str :=
  if Txt.startswith b (Str.ofString "/") = true ∨ (a.length : Int) = 0 then b
  else if Txt.endswith a (Str.ofString "/") = true then a ++ b else a ++ (Str.ofString "/" ++ b)
theorem joinF_1 {a b : Str} (h : Txt.startswith b (Str.ofString "/") = true) : b = joinF a b := (if_pos (.inl h)).symm
theorem joinF_2 {a b : Str} (h : (a.length : Int) = 0) : b = joinF a b := (if_pos (.inr h)).symm
theorem joinF_3 {a b : Str} (h1 : Txt.startswith b (Str.ofString "/") = false) (h2 : (a.length : Int) ≠ 0) (h3 : Txt.endswith a (Str.ofString "/") = true) : a ++ b = joinF a b := by
  unfold joinF; rw [if_neg (by rw [h1]; simp only [Bool.false_eq_true, false_or]; exact h2), if_pos h3]
theorem joinF_4 {a b : Str} (h1 : Txt.startswith b (Str.ofString "/") = false) (h2 : (a.length : Int) ≠ 0) (h3 : Txt.endswith a (Str.ofString "/") = false) : a ++ (Str.ofString "/" ++ b) = joinF a b := by
  unfold joinF; rw [if_neg (by rw [h1]; simp only [Bool.false_eq_true, false_or]; exact h2), if_neg (ne_true_of_eq_false h3)]

noncomputable def fssF (x : Str) (i : Int) (y : Str) : Str :=
  if (x == Str.ofString "~" && i == 0) = true then
    if Txt.startswith y (Str.ofString "<") = true ∧ Txt.endswith y (Str.ofString ">") = true then Str.ofString "{" ++ Txt.slice y (some 1) (some (-1)) ++ Str.ofString "}" else y
  else textF x i y
theorem fssF_1 {x y : Str} {i : Int} (h1 : (x == Str.ofString "~" && i == 0) = true) (h2 : Txt.startswith y (Str.ofString "<") = true) (h3 : Txt.endswith y (Str.ofString ">") = true) : Str.ofString "{" ++ Txt.slice y (some 1) (some (-1)) ++ Str.ofString "}" = fssF x i y := by
  unfold fssF; rw [if_pos h1, if_pos ⟨h2, h3⟩]
theorem fssF_2 {x y : Str} {i : Int} (h1 : (x == Str.ofString "~" && i == 0) = true) (h2 : Txt.startswith y (Str.ofString "<") = false) : y = fssF x i y := by
  unfold fssF; rw [if_pos h1, if_neg (by rw [h2]; simp)]
theorem fssF_3 {x y : Str} {i : Int} (h1 : (x == Str.ofString "~" && i == 0) = true) (h2 : Txt.startswith y (Str.ofString "<") = true) (h3 : Txt.endswith y (Str.ofString ">") = false) : y = fssF x i y := by
  unfold fssF; rw [if_pos h1, if_neg (by rw [h3]; simp)]
theorem fssF_4 {x y : Str} {i : Int} (h1 : (x == Str.ofString "~" && i == 0) = false) : textF x i y = fssF x i y := by
  unfold fssF; rw [if_neg (ne_true_of_eq_false h1)]
theorem rootF_len (x : Str) : (rootF x).2.length ≤ x.length ∧ (rootF x).1.length ≤ x.length + 1 := by
  unfold rootF
  split
  · exact ⟨Nat.le_refl _, by show (Str.ofString "").length ≤ _; exact Nat.zero_le _⟩
  · split
    · exact ⟨Txt.slice_le _ _ _, by show (Str.ofString "/").length ≤ _; exact Nat.succ_le_succ (Nat.zero_le _)⟩
    · split
      · exact ⟨Txt.slice_le _ _ _, by show (Str.ofString "/").length ≤ _; exact Nat.succ_le_succ (Nat.zero_le _)⟩
      · exact ⟨Txt.slice_le _ _ _, Nat.le_succ_of_le (Txt.slice_le _ _ _)⟩
noncomputable def normF (x : Str) : Str :=
  if (x.length : Int) = 0 then Str.ofString "."
  else if (((rootF x).1 ++ Txt.join (Str.ofString "/") ((Txt.split (rootF x).2 (Str.ofString "/")).foldl (stepN (rootF x).1) [])).length : Int) ≠ 0 then (rootF x).1 ++ Txt.join (Str.ofString "/") ((Txt.split (rootF x).2 (Str.ofString "/")).foldl (stepN (rootF x).1) [])
  else Str.ofString "."

section
variable {x : Str} {ps cs : List (Str × Tok)}
theorem norm_facts {root : Str} {y : Str} (hy : y.length ≤ 1000) (hp : ps.map (fun x => x.1) = Txt.split y (Str.ofString "/")) (k : cs.map (·.1) = (ps.map (·.1)).foldl (stepN root) []) :
    cs.length ≤ 2000 ∧ ∀ d ∈ cs.map (·.1), d.length ≤ 1000 := by
  have h1 := foldN_len root (ps.map (·.1)) []
  have h2 := split_len y (Str.ofString "/")
  rw [← hp] at h2
  have h3 : ∀ d, d ∈ cs.map (·.1) → _ := fun d hd => foldN_mem root (ps.map (·.1)) [] d (by rw [← k]; exact hd)
  rw [← k] at h1
  simp only [List.length_map, List.length_nil] at h1 h2
  refine ⟨by omega, fun d hd => ?_⟩
  rcases h3 d hd with h | h
  · cases h
  · rw [hp] at h
    have := part_short h
    omega
theorem normF_0 (h : (x.length : Int) = 0) : Str.ofString "." = normF x := by unfold normF; rw [if_pos h]
theorem normF_1 (h : (x.length : Int) ≠ 0) (hp : ps.map (fun x => x.1) = Txt.split (rootF x).2 (Str.ofString "/")) (k : cs.map (·.1) = (ps.map (·.1)).foldl (stepN (rootF x).1) []) (h2 : (((rootF x).1 ++ Txt.join (Str.ofString "/") (cs.map (·.1))).length : Int) ≠ 0) :
    (rootF x).1 ++ Txt.join (Str.ofString "/") (cs.map (·.1)) = normF x := by
  unfold normF
  rw [if_neg h, ← hp, ← k, if_pos h2]
theorem normF_2 (h : (x.length : Int) ≠ 0) (hp : ps.map (fun x => x.1) = Txt.split (rootF x).2 (Str.ofString "/")) (k : cs.map (·.1) = (ps.map (·.1)).foldl (stepN (rootF x).1) []) (h2 : (((rootF x).1 ++ Txt.join (Str.ofString "/") (cs.map (·.1))).length : Int) = 0) :
    Str.ofString "." = normF x := by
  unfold normF
  rw [if_neg h, ← hp, ← k, if_neg (fun h => h h2)]
end

noncomputable abbrev plainPiece (c : Str) : Bool := !([Str.ofString "", Str.ofString "."].any fun x => x == c)
noncomputable def lastOf (l : List Str) : Str := (l.getLast?).getD Str.empty
noncomputable def piecesF (x y : Str) : List Str := (Txt.split x (Str.ofString "/")).dropLast.filter plainPiece ++ [lastOf (Txt.split y (Str.ofString "/"))]
theorem last_at {l : List Str} {z : Str} {n : Nat} (hn : n = l.length) (h : l[((-1 : Int) + (n : Int)).toNat]? = some z) : lastOf l = z := by
  subst hn
  have e : ((-1 : Int) + (l.length : Int)).toNat = l.length - 1 := by omega
  rw [e] at h
  unfold lastOf
  rw [List.getLast?_eq_getElem?, h]
  rfl
theorem pieces_1 {x y z : Str} {ps qs : List (Str × Tok)} {t : Tok} (h1 : ps.map (fun x => x.1) = Txt.split x (Str.ofString "/")) (h2 : qs.map (fun x => x.1) = Txt.split y (Str.ofString "/")) (h3 : (qs.map (fun x => x.1))[((-1 : Int) + (qs.length : Int)).toNat]? = some z) :
    (ps.dropLast.filter (fun p => !([Str.ofString "", Str.ofString "."].any fun x => x == p.1)) ++ [(z, t)]).map (·.1) = piecesF x y := by
  unfold piecesF
  rw [← h1, ← h2, last_at (List.length_map ..).symm h3, List.map_append, ← List.map_dropLast, List.filter_map]
  rfl
end Mine
end

section -- L0
open PySem PySem.W PyProof.Rows PySem.Calls
set_option Elab.async false
namespace Mine
/-! plain lemmas on sizes -/
theorem split_ne (x y : Str) : Txt.split x y ≠ [] := by
  unfold Txt.split
  split
  · simp
  · split
    · simp
    · intro h
      have := congrArg List.length h
      rw [length_partsBetween] at this
      simp at this
noncomputable def wt : List Str → Nat
  | [] => 0
  | x :: l => x.length + 1 + wt l
theorem wt_append : ∀ (a b : List Str), wt (a ++ b) = wt a + wt b
  | [], b => by simp [wt]
  | x :: a, b => by simp only [List.cons_append, wt, wt_append a b]; omega
theorem wt_dropLast : ∀ a : List Str, wt a.dropLast ≤ wt a
  | [] => Nat.le_refl _
  | [x] => by simp [wt]
  | x :: y :: l => by
    have := wt_dropLast (y :: l)
    simp only [List.dropLast_cons₂, wt] at this ⊢; omega
theorem stepN_wt (root : Str) (st : List Str) (c : Str) : wt (stepN root st c) ≤ wt st + (c.length + 1) := by
  unfold stepN
  split
  · omega
  · split
    · rw [wt_append]; simp only [wt]; omega
    · exact Nat.le_trans (wt_dropLast st) (by omega)
theorem foldN_wt (root : Str) : ∀ (l st : List Str), wt (l.foldl (stepN root) st) ≤ wt st + wt l
  | [], st => by simp [wt]
  | c :: l, st => by
    have h1 := foldN_wt root l (stepN root st c)
    have h2 := stepN_wt root st c
    simp only [List.foldl_cons, wt]; omega
theorem stepL_wt (root : Str) (st : List Str × Int) (c : Str) (h0 : 0 ≤ st.2) : wt (stepL root st c).1 + 3 * (stepL root st c).2.toNat ≤ wt st.1 + 3 * st.2.toNat + (c.length + 1) ∧ 0 ≤ (stepL root st c).2 := by
  unfold stepL
  split
  · have := wt_dropLast st.1
    simp only; omega
  · split
    · rename_i h
      have e : c = Str.ofString ".." := by simpa using h.1
      have e2 : c.length = 2 := by rw [e]; rfl
      simp only; omega
    · split
      · simp only [wt_append, wt]; omega
      · omega
theorem foldL_wt (root : Str) : ∀ (l : List Str) (st : List Str × Int), 0 ≤ st.2 → wt (l.foldl (stepL root) st).1 + 3 * (l.foldl (stepL root) st).2.toNat ≤ wt st.1 + 3 * st.2.toNat + wt l
  | [], st, _ => by simp [wt]
  | c :: l, st, h0 => by
    have h2 := stepL_wt root st c h0
    have h1 := foldL_wt root l (stepL root st c) h2.2
    simp only [List.foldl_cons, wt]; omega
theorem join_len : ∀ (l : List Str), (Str.join (Str.ofString "/") l).length ≤ wt l
  | [] => Nat.zero_le _
  | [x] => by
    show x.length ≤ _
    simp only [wt]; omega
  | x :: y :: l => by
    have h := join_len (y :: l)
    have e : Str.join (Str.ofString "/") (x :: y :: l) = x ++ Str.ofString "/" ++ Str.join (Str.ofString "/") (y :: l) := rfl
    have e1 : (Str.ofString "/").length = 1 := rfl
    rw [e, Str.length_append, Str.length_append, e1]
    simp only [wt] at h ⊢; omega
theorem join_len_eq : ∀ (l : List Str), l ≠ [] → (Str.join (Str.ofString "/") l).length + 1 = wt l
  | [], h => absurd rfl h
  | [x], _ => by
    show x.length + 1 = _
    simp only [wt]
  | x :: y :: l, _ => by
    have h := join_len_eq (y :: l) (by simp)
    have e : Str.join (Str.ofString "/") (x :: y :: l) = x ++ Str.ofString "/" ++ Str.join (Str.ofString "/") (y :: l) := rfl
    have e1 : (Str.ofString "/").length = 1 := rfl
    rw [e, Str.length_append, Str.length_append, e1]
    simp only [wt] at h ⊢; omega
theorem split_wt (x : Str) : wt (Txt.split x (Str.ofString "/")) = x.length + 1 := by
  rw [← join_len_eq _ (split_ne x _), StrLaws.join_split]
theorem wt_dd : ∀ n : Nat, wt (List.replicate n (Str.ofString "..")) = 3 * n
  | 0 => rfl
  | n + 1 => by
    have e : (Str.ofString "..").length = 2 := rfl
    simp only [List.replicate_succ, wt, wt_dd n, e]; omega
theorem plainF_len {x : Str} (hx : x.length ≤ 490) : (plainF x).length ≤ 1000 := by
  unfold plainF
  have h1 := foldL_wt (rootRaw x) (Txt.split x (Str.ofString "/")) ([], 0) (Int.le_refl _)
  rw [split_wt] at h1
  have h2 : (Txt.join (Str.ofString "/") (List.replicate (plainSt x).2.toNat (Str.ofString "..") ++ (plainSt x).1)).length ≤ x.length + 1 := by
    unfold Txt.join
    rw [StrLaws.glued_eq_join]
    refine Nat.le_trans (join_len _) ?_
    rw [wt_append, wt_dd]
    unfold plainSt
    simp only [wt] at h1
    have e0 : (0 : Int).toNat = 0 := rfl
    omega
  have h3 : (if ((rootRaw x).length : Int) < 3 then rootRaw x else Str.ofString "/").length ≤ x.length + 1 := by
    split
    · exact Nat.le_succ_of_le (Txt.slice_le _ _ _)
    · show 1 ≤ _; omega
  rw [Str.length_append]; omega
theorem normF_len {x : Str} (hx : x.length ≤ 490) : (normF x).length ≤ 1000 := by
  have h0 := rootF_len x
  have h1 := foldN_wt (rootF x).1 (Txt.split (rootF x).2 (Str.ofString "/")) []
  rw [split_wt] at h1
  have h2 : (Txt.join (Str.ofString "/") ((Txt.split (rootF x).2 (Str.ofString "/")).foldl (stepN (rootF x).1) [])).length ≤ x.length + 1 := by
    unfold Txt.join
    rw [StrLaws.glued_eq_join]
    refine Nat.le_trans (join_len _) ?_
    simp only [wt] at h1
    omega
  have e1 : (Str.ofString ".").length = 1 := rfl
  unfold normF
  split
  · omega
  · split
    · rw [Str.length_append]; omega
    · omega
end Mine
end

section -- S1
open PySem PySem.W PyProof.Rows PySem.Calls
set_option Elab.async false
namespace Mine
theorem len_int {i : Int} (hi : i = 0 ∨ i = 7 ∨ i = 12 ∨ i = -3) : (Str.ofString (toString i)).length ≤ 2 := by
  rcases hi with rfl | rfl | rfl | rfl <;> decide
theorem fssF_len {x y : Str} {i : Int} (hx : x.length ≤ 100) (hy : y.length ≤ 100) (hi : i = 0 ∨ i = 7 ∨ i = 12 ∨ i = -3) : (fssF x i y).length ≤ 300 := by
  have h1 : (Str.ofString "{").length = 1 := rfl
  have h2 : (Str.ofString "}").length = 1 := rfl
  have h3 : (Str.ofString ":").length = 1 := rfl
  have h4 : (Str.ofString "(").length = 1 := rfl
  have h5 : (Str.ofString ")").length = 1 := rfl
  have h6 := Txt.slice_le y (some 1) (some (-1))
  have h7 := len_int hi
  unfold fssF textF
  split
  · split
    · simp only [Str.length_append]; omega
    · omega
  · simp only [Str.length_append]; omega
theorem builtF_len {y : Str} (hy : y.length ≤ 100) : (builtF y).length ≤ 300 := by
  have h1 : (Str.ofString "{").length = 1 := rfl
  have h2 : (Str.ofString "}").length = 1 := rfl
  have h6 := Txt.slice_le y (some 1) (some (-1))
  unfold builtF
  split
  · simp only [Str.length_append]; omega
  · omega
theorem plainF_len' {x : Str} {c : Nat} (hx : x.length ≤ 490) (hc : 1000 ≤ c) : (plainF x).length ≤ c := Nat.le_trans (plainF_len hx) hc
theorem normF_len' {x : Str} {c : Nat} (hx : x.length ≤ 490) (hc : 1000 ≤ c) : (normF x).length ≤ c := Nat.le_trans (normF_len hx) hc
theorem le_c {n k c : Nat} (h : n ≤ k) (hc : k ≤ c) : n ≤ c := Nat.le_trans h hc
theorem app_len {x y : Str} {a b c : Nat} (hx : x.length ≤ a) (hy : y.length ≤ b) (h : a + b ≤ c) : (x ++ y).length ≤ c := by
  rw [Str.length_append]; omega
theorem slice_len {x : Str} {l u : Option Int} {c : Nat} (hx : x.length ≤ c) : (Txt.slice x l u).length ≤ c := Nat.le_trans (Txt.slice_le _ _ _) hx
theorem last_len {x y : Str} {ps : List (Str × Tok)} {n : Nat} {c : Nat} (h : ps.map (fun x => x.1) = Txt.split x (Str.ofString "/")) (h2 : (ps.map (fun x => x.1))[n]? = some y) (hx : x.length ≤ c) : y.length ≤ c :=
  Nat.le_trans (part_short (h ▸ List.mem_of_getElem? h2)) hx
theorem lastOf_len {x y : Str} {c : Nat} (hx : x.length ≤ c) : (lastOf (Txt.split x y)).length ≤ c := by
  unfold lastOf
  cases h : (Txt.split x y).getLast? with
  | none => exact Nat.zero_le _
  | some z => exact Nat.le_trans (part_short (List.mem_of_getLast? h)) hx
theorem rstrip_len {x y : Str} {c : Nat} (hx : x.length ≤ c) : (Txt.rstripChars x y).length ≤ c := Nat.le_trans (len_stripBy _ _ _ _) hx
theorem add_sz {x y : Str} (hx : x.length ≤ 500) (hy : y.length ≤ 500) : x.length + y.length ≤ sizeLine := by rw [sizeLine_eq]; omega
noncomputable def orS (x y : Str) : Str := if (x.length : Int) ≠ 0 then x else y
theorem orS_1 {x y : Str} (h : (x.length : Int) ≠ 0) : x = orS x y := (if_pos h).symm
theorem orS_2 {x y : Str} (h : (x.length : Int) = 0) : y = orS x y := (if_neg fun k => k h).symm
theorem orS_len {x y : Str} {c : Nat} (hx : x.length ≤ c) (hy : y.length ≤ c) : (orS x y).length ≤ c := by unfold orS; split <;> assumption
theorem bne_f {x y : Str} (e : x = y) (h : (x != y) = true) : False := by subst e; simp at h
theorem beq_f {x y : Str} (e : x = y) (h : (x == y) = false) : False := by subst e; simp at h
noncomputable abbrev SL : Str := Str.ofString "/"
noncomputable abbrev lastP (x : Str) : Str := lastOf (Txt.split x (Str.ofString "/"))
noncomputable abbrev ownP (x T : Str) : Str := lastOf (Txt.split x (Str.ofString "/")) ++ Txt.slice T (some (x.length : Int)) none
noncomputable abbrev headP (x : Str) : Str := Txt.slice x none (some ((x.length : Int) - ((lastOf (Txt.split x (Str.ofString "/"))).length : Int)))
noncomputable def foldP (x : Str) : Str := orS (Txt.rstripChars (headP x) (Str.ofString "/")) (headP x)
/-- what the plain law says of one function -/
structure OneOk (x y : Str) (i : Int) : Prop where
  nb : ¬ ((x == Str.ofString "~") = true ∧ i = 0)
  f1 : (rd1 (fssF x i y) == x && (rd2 (fssF x i y) == Str.ofString (toString i) && (rd3 (fssF x i y) == y && rd4 (fssF x i y) == Str.ofString ")"))) = true
  f2 : (if Txt.startswith (fssF x i y) (Str.ofString "/") = true then Str.ofString "True" else Str.ofString "False") = (if (Txt.slice x none (some 1) == Str.ofString "/") = true then Str.ofString "True" else Str.ofString "False")
  f3 : (lastP x == Str.ofString "~") = true ∧ i = 0 → fssF (tailF x) i y = builtF y
  f3' : ¬ ((lastP x == Str.ofString "~") = true ∧ i = 0) → fssF (tailF x) i y = ownP x (fssF x i y)
  f4 : normF x = orS (plainF x) (Str.ofString ".")
  f5 : normF (headP x) = orS (plainF (headP x)) (Str.ofString ".")
  f6 : headF x = foldP x
  f7 : headF (fssF x i y) = foldP x
  f7' : tailF (fssF x i y) = ownP x (fssF x i y)
  f8 : (extF x).1 = cutF x (lastP x)
  f8' : (extF x).2 = cutEnd (lastP x)
  f9 : (extF (fssF x i y)).1 = cutF (fssF x i y) (ownP x (fssF x i y))
  f9' : (extF (fssF x i y)).2 = cutEnd (ownP x (fssF x i y))
  f10 : normF (fssF x i y) = joinF (plainF (headP x)) (ownP x (fssF x i y))
  f11 : headF (normF (fssF x i y)) = plainF (headP x)
  f11' : tailF (normF (fssF x i y)) = ownP x (fssF x i y)
section
variable {prog : Program} {w : World} {A : Around} {E : Value → Shared → Prop} {s : Shared} {env : Env} {h₀ : Heap} {L : Addr} {m : Str → Option Value} {news : List (Addr × Obj)}
theorem item_lastS {value slice : Expr} {a : Addr} {l : List (Str × Tok)} {x y : Str} {u : Tok} {Q : Value → Shared → Prop} (hl : s.heap.IsList a (strValues l).toArray)
    (hz : l.map (fun x => x.1) = Txt.split x y) (h : ∀ t', Q (.str (lastOf (Txt.split x y)) t') s)
    (hs : subscripted slice false (.ref a) (.int (-1) u) = operate [.ref a, .int (-1) u] (getItem (.ref a) (.int (-1) u))) :
    wpAny (model prog w) A (subscriptTail value slice (.ref a) (.int (-1) u)) Q E s :=
  item_lastT hl (fun e => by subst e; exact split_ne x y hz.symm) (fun z t' e => by
    have : lastOf (Txt.split x y) = z := by unfold lastOf; rw [← hz, e]; rfl
    exact this ▸ h t') hs
theorem len_str9 {x : Str} {t : Tok} {Q : Value → Shared → Prop} (hx : x.length ≤ 1000) (h : Q (.int x.length (s.toks + 1)) { s with toks := s.toks + 1 + 1 }) : wpAny (model prog w) A (call (.builtin "len") [.str x t]) Q E s :=
  P.len_str (by omega) h
theorem truthy9 {x : Str} {t : Tok} {Q : Bool → Shared → Prop} (hx : x.length ≤ 1000) (h : Q ((x.length : Int) != 0) { s with toks := s.toks + 1 + 1 }) : wpAny (model prog w) A (PySem.truthy (.str x t)) Q E s :=
  SBL.truthy (by omega) h
/-- where a part may only end with what the rest needs -/
noncomputable def IfF (P : Bool → Prop) (h₀ : Heap) (L : Addr) (m : Str → Option Value) (s : Shared) (news : List (Addr × Obj)) (b : Bool) (s' : Shared) : Prop :=
  P b ∧ ∃ h tk all, s' = { s with heap := h, toks := tk } ∧ Fr h₀ L h m ∧ News h₀ L h all ∧ ∀ p ∈ news, p ∈ all
theorem IfF.mk {P : Bool → Prop} {b : Bool} {all : List (Addr × Obj)} {h' : Heap} {tk' : Nat} (hp : P b) (F : Fr h₀ L h' m) (N : News h₀ L h' all) (hs : ∀ p ∈ news, p ∈ all) : IfF P h₀ L m s news b { s with heap := h', toks := tk' } := ⟨hp, h', tk', all, rfl, F, N, hs⟩
theorem walk_if_false {test : Expr} {body : List Stmt} {pos : Pos} {Q : Flow → Shared → Prop} (_F : Fr h₀ L s.heap m) (_N : News h₀ L s.heap news)
    (h : wpAny (model prog w) A (isTrue test env (eval test env)) (IfF (fun b => b = false) h₀ L m s news) E s)
    (k : ∀ h' tk', Fr h₀ L h' m → News h₀ L h' news → Q .next { s with heap := h', toks := tk' }) :
    wpAny (model prog w) A (exec (.If test body [] pos) env) Q E s := by
  refine wpAny_If (wpAny_mono h (fun b s₂ hq => ?_) fun _ _ e => e)
  obtain ⟨rfl, h', tk, all, rfl, F', N', hs⟩ := hq
  simp only [Bool.false_eq_true, if_false]
  exact wpAny_execs_nil (k h' tk F' (fun p hp => N' p (hs p hp)))
theorem walk_if_true {test : Expr} {body orelse : List Stmt} {pos : Pos} {Q : Flow → Shared → Prop} (_F : Fr h₀ L s.heap m) (_N : News h₀ L s.heap news)
    (h : wpAny (model prog w) A (isTrue test env (eval test env)) (IfF (fun b => b = true) h₀ L m s news) E s)
    (k : ∀ h' tk', Fr h₀ L h' m → News h₀ L h' news → wpAny (model prog w) A (execs body env) Q E { s with heap := h', toks := tk' }) :
    wpAny (model prog w) A (exec (.If test body orelse pos) env) Q E s := by
  refine wpAny_If (wpAny_mono h (fun b s₂ hq => ?_) fun _ _ e => e)
  obtain ⟨rfl, h', tk, all, rfl, F', N', hs⟩ := hq
  simp only [if_true]
  exact k h' tk F' (fun p hp => N' p (hs p hp))
/-- the value of an assignment, its ways joined -/
noncomputable def AsF (h₀ : Heap) (L : Addr) (m : Str → Option Value) (s : Shared) (news : List (Addr × Obj)) (x : Str) (z : Str) (f : Flow) (s' : Shared) : Prop :=
  f = .next ∧ ∃ h tk t all z', s' = { s with heap := h, toks := tk } ∧ z' = z ∧ Fr h₀ L h (bindM m x (some (.str z' t))) ∧ News h₀ L h all ∧ ∀ p ∈ news, p ∈ all
theorem AsF.mk {x z z' : Str} {t : Tok} {all : List (Addr × Obj)} {h' : Heap} {tk' : Nat} {m₂ : Str → Option Value} (e : z' = z) (F : Fr h₀ L h' m₂) (N : News h₀ L h' all) (hs : ∀ p ∈ news, p ∈ all) (em : m₂ = bindM m x (some (.str z' t))) : AsF h₀ L m s news x z .next { s with heap := h', toks := tk' } :=
  ⟨rfl, h', tk', t, all, z', rfl, e, em ▸ F, N, hs⟩
theorem assign_join {st : Stmt} {x z : Str} {y₀ : Str} {i₀ : Int} {x₀ : Str} (_ok : OneOk x₀ y₀ i₀) (hz : z = foldP x₀) {Q : Flow → Shared → Prop} (_F : Fr h₀ L s.heap m) (_N : News h₀ L s.heap news)
    (h : wpAny (model prog w) A (exec st env) (AsF h₀ L m s news x z) E s)
    (k : ∀ h' tk' t, Fr h₀ L h' (bindM m x (some (.str z t))) → News h₀ L h' news → Q .next { s with heap := h', toks := tk' }) :
    wpAny (model prog w) A (exec st env) Q E s := by
  refine wpAny_mono h (fun f s₂ hq => ?_) fun _ _ e => e
  obtain ⟨rfl, h', tk, t, all, z', rfl, rfl, F', N', hs⟩ := hq
  exact k h' tk t F' (fun p hp => N' p (hs p hp))
end
theorem bne_eqf {x y : Str} (e : x = y) : (x != y) = false := by subst e; simp
theorem beq_eqt {x y : Str} (e : x = y) : (x == y) = true := by subst e; simp
theorem and2 {a b c d : Str} (h : a = b) (k : c = d) : (a == b && c == d) = true := by subst h; subst k; simp
theorem OneOk.asg {x y : Str} {i : Int} (_ : OneOk x y i) : x = x := rfl
end Mine
end

section -- R10
open PySem PySem.W PyProof.Rows PySem.Calls PySem.Builtin PySem.Builtin.Str PySem.SeqAt
set_option Elab.async false
set_option maxRecDepth 100000
set_option maxHeartbeats 0
namespace Mine
noncomputable abbrev nmLeft : Str := Str.ofString "left"
noncomputable abbrev nmPath : Str := Str.ofString "path"
/-- the loop of _law_func: how far left and path have come -/
noncomputable def LfInv (l : Int) (p : Str) : Prop := 0 ≤ l ∧ ((l ≤ 4680 ∧ p.length = 0) ∨ (l ≤ 584 ∧ p.length ≤ 3) ∨ (l ≤ 72 ∧ p.length ≤ 6) ∨ (l ≤ 8 ∧ p.length ≤ 9) ∨ (l = 0 ∧ p.length ≤ 12))
theorem LfInv.short {l : Int} {p : Str} (h : LfInv l p) : p.length ≤ 12 := by
  obtain ⟨_, h⟩ := h; omega
theorem LfInv.bound {l : Int} {p : Str} (h : LfInv l p) : 0 ≤ l ∧ l ≤ 4680 := by
  obtain ⟨_, h⟩ := h; omega
theorem LfInv.step {l : Int} {p c : Str} (h : LfInv l p) (hl : 0 < l) (hc : c.length ≤ 3) : LfInv ((l - 1).fdiv 8) (p ++ c) ∧ ((l - 1).fdiv 8).toNat < l.toNat := by
  obtain ⟨h0, h⟩ := h
  have e : (l - 1).fdiv 8 = (l - 1) / 8 := Int.fdiv_eq_ediv_of_nonneg _ (by decide)
  have e2 : (p ++ c).length = p.length + c.length := Str.length_append _ _
  rw [e]
  unfold LfInv
  rw [e2]
  refine ⟨⟨by omega, ?_⟩, by omega⟩
  omega
noncomputable def LfJ (m₀ : Str → Option Value) (news : List (Addr × Obj)) (n : Nat) (m : Str → Option Value) (nx : List (Addr × Obj)) : Prop :=
  ∃ l p t u, LfInv l p ∧ n = l.toNat ∧ m nmLeft = some (.int l t) ∧ m nmPath = some (.str p u) ∧ (∀ z, z ≠ nmLeft → z ≠ nmPath → m z = m₀ z) ∧ ∀ q ∈ news, q ∈ nx
theorem LfJ.frame {m₀ : Str → Option Value} {m : Str → Option Value} {l : Int} {p : Str} {t u : Tok} (h1 : m nmLeft = some (.int l t)) (h2 : m nmPath = some (.str p u)) (h3 : ∀ z, z ≠ nmLeft → z ≠ nmPath → m z = m₀ z) :
    m = fun y => if y = nmLeft then some (.int l t) else if y = nmPath then some (.str p u) else m₀ y := by
  funext y
  by_cases e1 : y = nmLeft
  · subst e1; rw [if_pos rfl]; exact h1
  · rw [if_neg e1]
    by_cases e2 : y = nmPath
    · subst e2; rw [if_pos rfl]; exact h2
    · rw [if_neg e2]; exact h3 y e1 e2
section
variable {prog : Program} {w : World} {A : Around} {E : Value → Shared → Prop} {Q : Flow → Shared → Prop} {s : Shared} {env : Env} {h₀ : Heap} {L : Addr}
theorem while_lf {test : Expr} {body : List Stmt} {pos : Pos} {m : Str → Option Value} {news : List (Addr × Obj)} {l : Int} {p : Str} {t u : Tok}
    (F : Fr h₀ L s.heap m) (N : News h₀ L s.heap news) (h1 : m nmLeft = some (.int l t)) (h2 : m nmPath = some (.str p u)) (hi : LfInv l p)
    (turn : ∀ l p t u h₁ tk₁, Fr h₀ L h₁ (fun y => if y = nmLeft then some (.int l t) else if y = nmPath then some (.str p u) else m y) → News h₀ L h₁ news → LfInv l p →
      wpAny (model prog w) A (isTrue test env (eval test env)) (fun b s₂ =>
        if b = true then wpAny (model prog w) A (execs body env) (WhileStep2 h₀ L s (LfJ m news) Q l.toNat) E s₂ else Q .next s₂) E { s with heap := h₁, toks := tk₁ })
    (hE : PassesOwn (model prog w) A env E) :
    wpAny (model prog w) A (exec (.While test body [] pos) env) Q E s := by
  refine While_inv2 (LfJ m news) F N ⟨l, p, t, u, hi, rfl, h1, h2, fun _ _ _ => rfl, fun _ h => h⟩ ?_ hE
  rintro n m₁ news₁ h₁ tk₁ F₁ N₁ ⟨l, p, t, u, hi, rfl, e1, e2, e3, hs⟩
  rw [LfJ.frame e1 e2 e3] at F₁
  refine wpAny_mono (turn l p t u h₁ tk₁ F₁ (fun q hq => N₁ q (hs q hq)) hi) (fun b s₂ hq => ?_) fun _ _ e => e
  cases b with
  | true => exact hq
  | false => exact hq
theorem lf_next {m m₂ : Str → Option Value} {news news₂ : List (Addr × Obj)} {l : Int} {p c : Str} {t u : Tok} {h' : Heap} {tk : Nat}
    (F : Fr h₀ L h' m₂) (N : News h₀ L h' news₂) (hs : ∀ q ∈ news, q ∈ news₂) (hi : LfInv l p) (hl : 0 < l) (hc : c.length ≤ 3)
    (e1 : m₂ nmLeft = some (.int ((l - 1).fdiv 8) t)) (e2 : m₂ nmPath = some (.str (p ++ c) u)) (e3 : ∀ z, z ≠ nmLeft → z ≠ nmPath → m₂ z = m z) :
    WhileStep2 h₀ L s (LfJ m news) Q l.toNat .next { s with heap := h', toks := tk } :=
  ⟨h', tk, m₂, news₂, _, rfl, F, N, (hi.step hl hc).2, _, _, t, u, (hi.step hl hc).1, rfl, e1, e2, e3, hs⟩
theorem item_any {value slice : Expr} {a : Addr} {ps : List (Str × Tok)} {k : Int} {u : Tok} {Q : Value → Shared → Prop} (hl : s.heap.IsList a (strValues ps).toArray)
    (h0 : 0 ≤ k) (h1 : k < (ps.length : Int)) (hb : ps.length < 1000) (h : ∀ y t', (y, t') ∈ ps → Q (.str y t') s)
    (hs : subscripted slice false (.ref a) (.int k u) = operate [.ref a, .int k u] (getItem (.ref a) (.int k u))) :
    wpAny (model prog w) A (subscriptTail value slice (.ref a) (.int k u)) Q E s := by
  have hk : k.toNat < ps.length := by omega
  refine tail_any hl.typeIs slot_list_getitem.lookup (wpAny_getItem_list (x := .str ps[k.toNat].1 ps[k.toNat].2) hl h0 (by omega) (by simp [strValues, hk]) (h _ _ (List.getElem_mem hk))) hs
theorem item_tab8 {value slice : Expr} {a : Addr} {k : Int} {u t1 t2 t3 t4 t5 t6 t7 t8 : Tok} {a1 a2 a3 a4 a5 a6 a7 a8 : Str} {Q : Value → Shared → Prop} (hl : s.heap.IsList a #[.str a1 t1, .str a2 t2, .str a3 t3, .str a4 t4, .str a5 t5, .str a6 t6, .str a7 t7, .str a8 t8])
    (h : ∀ y t', y ∈ [a1, a2, a3, a4, a5, a6, a7, a8] → Q (.str y t') s)
    (hs : subscripted slice false (.ref a) (.int (k.fmod 8) u) = operate [.ref a, .int (k.fmod 8) u] (getItem (.ref a) (.int (k.fmod 8) u))) :
    wpAny (model prog w) A (subscriptTail value slice (.ref a) (.int (k.fmod 8) u)) Q E s := by
  have e : k.fmod 8 = k % 8 := Int.fmod_eq_emod_of_nonneg _ (by decide)
  refine item_any (ps := [(a1, t1), (a2, t2), (a3, t3), (a4, t4), (a5, t5), (a6, t6), (a7, t7), (a8, t8)]) hl (by omega) (by simp only [List.length_cons, List.length_nil]; omega) (by simp) (fun y t' hm => h y t' ?_) hs
  simp only [List.mem_cons, Prod.mk.injEq, List.not_mem_nil, or_false] at hm ⊢
  rcases hm with ⟨h, _⟩ | ⟨h, _⟩ | ⟨h, _⟩ | ⟨h, _⟩ | ⟨h, _⟩ | ⟨h, _⟩ | ⟨h, _⟩ | ⟨h, _⟩ <;> simp [h]
theorem item_tab4 {value slice : Expr} {a : Addr} {k : Int} {u t1 t2 t3 t4 : Tok} {a1 a2 a3 a4 : Int} {Q : Value → Shared → Prop} (hl : s.heap.IsList a #[.int a1 t1, .int a2 t2, .int a3 t3, .int a4 t4])
    (h : ∀ i t', (i = a1 ∨ i = a2 ∨ i = a3 ∨ i = a4) → Q (.int i t') s)
    (hs : subscripted slice false (.ref a) (.int (k.fmod 4) u) = operate [.ref a, .int (k.fmod 4) u] (getItem (.ref a) (.int (k.fmod 4) u))) :
    wpAny (model prog w) A (subscriptTail value slice (.ref a) (.int (k.fmod 4) u)) Q E s := by
  have e : k.fmod 4 = k % 4 := Int.fmod_eq_emod_of_nonneg _ (by decide)
  have h4 : (k.fmod 4).toNat = 0 ∨ (k.fmod 4).toNat = 1 ∨ (k.fmod 4).toNat = 2 ∨ (k.fmod 4).toNat = 3 := by omega
  rcases h4 with h4 | h4 | h4 | h4
  · exact tail_any hl.typeIs slot_list_getitem.lookup (wpAny_getItem_list (x := .int a1 t1) hl (by omega) (by omega) (by rw [h4]; rfl) (h _ _ (.inl rfl))) hs
  · exact tail_any hl.typeIs slot_list_getitem.lookup (wpAny_getItem_list (x := .int a2 t2) hl (by omega) (by omega) (by rw [h4]; rfl) (h _ _ (.inr (.inl rfl)))) hs
  · exact tail_any hl.typeIs slot_list_getitem.lookup (wpAny_getItem_list (x := .int a3 t3) hl (by omega) (by omega) (by rw [h4]; rfl) (h _ _ (.inr (.inr (.inl rfl))))) hs
  · exact tail_any hl.typeIs slot_list_getitem.lookup (wpAny_getItem_list (x := .int a4 t4) hl (by omega) (by omega) (by rw [h4]; rfl) (h _ _ (.inr (.inr (.inr rfl))))) hs
end
theorem lf_init (k : Int) : LfInv (k.fmod 4681) (Str.ofString "") := by
  have e : k.fmod 4681 = k % 4681 := Int.fmod_eq_emod_of_nonneg _ (by decide)
  have h0 : (Str.ofString "").length = 0 := rfl
  unfold LfInv
  rw [e, h0]
  omega
theorem pick_len {c : Str} {x : Nat} (h : c ∈ [Str.ofString "/", Str.ofString "a", Str.ofString "~", Str.ofString ".", Str.ofString "..", Str.ofString "b/", Str.ofString "../", { cps := #[x] }]) : c.length ≤ 3 := by
  simp only [List.mem_cons, List.not_mem_nil, or_false] at h
  rcases h with rfl | rfl | rfl | rfl | rfl | rfl | rfl | rfl
  all_goals first | decide | exact (by decide : 1 ≤ 3)
end Mine
end

section -- R11
open PySem PySem.W PyProof.Rows PySem.Calls
set_option Elab.async false
set_option maxRecDepth 100000
namespace Mine
structure PickS (c : Str) (l : List Str) : Prop where
  mem : c ∈ l
structure PickI (i a1 a2 a3 a4 : Int) : Prop where
  mem : i = a1 ∨ i = a2 ∨ i = a3 ∨ i = a4
section
variable {prog : Program} {w : World} {A : Around} {E : Value → Shared → Prop} {s : Shared} {h₀ : Heap} {L : Addr} {news : List (Addr × Obj)}
theorem pick_tab8 {value slice : Expr} {a : Addr} {k : Int} {u t1 t2 t3 t4 t5 t6 t7 t8 : Tok} {a1 a2 a3 a4 a5 a6 a7 a8 : Str} {Q : Value → Shared → Prop} (hl : s.heap.IsList a #[.str a1 t1, .str a2 t2, .str a3 t3, .str a4 t4, .str a5 t5, .str a6 t6, .str a7 t7, .str a8 t8])
    (h : ∀ y t', PickS y [a1, a2, a3, a4, a5, a6, a7, a8] → Q (.str y t') s)
    (hs : subscripted slice false (.ref a) (.int (k.fmod 8) u) = operate [.ref a, .int (k.fmod 8) u] (getItem (.ref a) (.int (k.fmod 8) u))) :
    wpAny (model prog w) A (subscriptTail value slice (.ref a) (.int (k.fmod 8) u)) Q E s := item_tab8 hl (fun y t' hy => h y t' ⟨hy⟩) hs
theorem pick_tab4 {value slice : Expr} {a : Addr} {k : Int} {u t1 t2 t3 t4 : Tok} {a1 a2 a3 a4 : Int} {Q : Value → Shared → Prop} (hl : s.heap.IsList a #[.int a1 t1, .int a2 t2, .int a3 t3, .int a4 t4])
    (h : ∀ i t', PickI i a1 a2 a3 a4 → Q (.int i t') s)
    (hs : subscripted slice false (.ref a) (.int (k.fmod 4) u) = operate [.ref a, .int (k.fmod 4) u] (getItem (.ref a) (.int (k.fmod 4) u))) :
    wpAny (model prog w) A (subscriptTail value slice (.ref a) (.int (k.fmod 4) u)) Q E s := item_tab4 hl (fun y t' hy => h y t' ⟨hy⟩) hs
end
theorem pickS_len {c : Str} {x : Nat} (h : PickS c [Str.ofString "/", Str.ofString "a", Str.ofString "~", Str.ofString ".", Str.ofString "..", Str.ofString "b/", Str.ofString "../", { cps := #[x] }]) : c.length ≤ 3 := pick_len h.mem
noncomputable def names8 : List Str := [Str.ofString "f", Str.ofString "<f>", Str.ofString "<>", Str.ofString "", Str.ofString "g.h", Str.ofString "<f", Str.ofString "f>", Str.ofString "<<f>>"]
noncomputable def FuncOut (r : Value) (tl : List (Addr × Obj)) : Prop := ∃ a p t i v y u, r = .ref a ∧ tl = [(a, tupO [.str p t, .int i v, .str y u])] ∧ p.length ≤ 12 ∧ (i = 0 ∨ i = 7 ∨ i = 12 ∨ i = -3) ∧ y ∈ names8
theorem getD_pick (j : Nat) : ([0, 7, 12, -3] : List Int).getD j 0 = 0 ∨ ([0, 7, 12, -3] : List Int).getD j 0 = 7 ∨ ([0, 7, 12, -3] : List Int).getD j 0 = 12 ∨ ([0, 7, 12, -3] : List Int).getD j 0 = -3 := by
  rcases j with _ | _ | _ | _ | j <;> simp
theorem FuncOut.mk {a : Addr} {p y : Str} {t v u : Tok} {i l : Int} (hi : LfInv l p) (h4 : i = 0 ∨ i = 7 ∨ i = 12 ∨ i = -3) (hy : PickS y [Str.ofString "f", Str.ofString "<f>", Str.ofString "<>", Str.ofString "", Str.ofString "g.h", Str.ofString "<f", Str.ofString "f>", Str.ofString "<<f>>"]) :
    FuncOut (.ref a) [(a, tupO [.str p t, .int i v, .str y u])] := ⟨a, p, t, i, v, y, u, rfl, rfl, hi.short, h4, hy.mem⟩
end Mine
end

section -- P1
open PySem PySem.W PyProof.Rows PySem.Calls PySem.Builtin
set_option Elab.async false
set_option maxRecDepth 100000
set_option maxHeartbeats 0
namespace Mine
section
variable {prog : Program} {w : World} {A : Around} {E : Value → Shared → Prop} {s : Shared} {h₀ : Heap} {m : Str → Option Value} {env : Env} {news : List (Addr × Obj)}
noncomputable def ForSrc9 (prog : Program) (w : World) (A : Around) (env : Env) (target : Expr) (body : List Stmt) (Q : Flow → Shared → Prop) (x : Value) (s₁ : Shared) : Prop :=
  wpAny (model prog w) A (pyIter x) (fun it s₂ => codeAny (model prog w) A (.forLoop target it body [] env) (fun r s' => match r with | .ok f => Q f s' | .error e => cameBackBy (model prog w) A env (fun _ _ => False) e s') s₂) (fun _ _ => False) s₁
theorem For_enum9 {target iter : Expr} {body : List Stmt} {pos : Pos} {Q : Flow → Shared → Prop} (h : wpAny (model prog w) A (eval iter env) (ForSrc9 prog w A env target body Q) (fun _ _ => False) s)
    (hs : ∀ x, foldedSetIterable iter env x = pure x := by intro _; rfl) : wpAny (model prog w) A (exec (.For target iter body [] pos) env) Q E s :=
  wpAny_mono (wpAny_For h hs) (fun _ _ h => h) (fun _ _ h => h.elim)
noncomputable def EnumPost (h₀ : Heap) (L : Addr) (m : Str → Option Value) (xi xv : Str) (led : List (Addr × Obj)) (K' : Prop) (s₁ : Shared) (Q : Flow → Shared → Prop) (f : Flow) (s₂ : Shared) : Prop :=
  (f = .next ∧ K' ∧ ∃ h' tk' all m₂, s₂ = { s₁ with heap := h', toks := tk' } ∧ Fr h₀ L h' m₂ ∧ (∀ z, z ≠ xi → z ≠ xv → m₂ z = m z) ∧ News h₀ L h' all ∧ ∀ p ∈ led, p ∈ all) ∨ (f = .brk ∧ Q .next s₂)
theorem EnumPost.next {L : Addr} {xi xv : Str} {led all : List (Addr × Obj)} {K' : Prop} {s₁ : Shared} {Q : Flow → Shared → Prop} {h' : Heap} {tk' : Nat} {m₂ : Str → Option Value} (hK : K') (F : Fr h₀ L h' m₂) (N : News h₀ L h' all) (hm : ∀ z, z ≠ xi → z ≠ xv → m₂ z = m z) (hs : ∀ p ∈ led, p ∈ all) :
    EnumPost h₀ L m xi xv led K' s₁ Q .next { s₁ with heap := h', toks := tk' } := .inl ⟨rfl, hK, h', tk', all, m₂, rfl, F, hm, N, hs⟩
theorem EnumPost.brk {L : Addr} {xi xv : Str} {led : List (Addr × Obj)} {K' : Prop} {s₁ s₂ : Shared} {Q : Flow → Shared → Prop} (h : Q .next s₂) : EnumPost h₀ L m xi xv led K' s₁ Q .brk s₂ := .inr ⟨rfl, h⟩
theorem call_enum9 {l : Addr} {ps : List (Str × Tok)} {k : Nat} {xi xv : Str} {pi pv pt : Pos} {x1} {body : List Stmt} {Q : Flow → Shared → Prop} (K : Nat → Prop) (hh : A.handled = none)
    (hxi : env.kindOf xi = some .local) (hxv : env.kindOf xv = some .local) (hp : (env.scope.kind == .class || (env.scope.kind == .module && env.locals != env.globals)) = false)
    (F : Fr h₀ env.locals s.heap m) (N : News h₀ env.locals s.heap news) (hl : (l, listOf (strValues ps).toArray k) ∈ news) (k0 : K 0)
    (turn : ∀ i c t ti h tk e oe it oi, ps[i]? = some (c, t) → K i → Fr h₀ env.locals h (fun y => if y = xv then some (.str c t) else if y = xi then some (.int i ti) else m y) → News h₀ env.locals h ((e, oe) :: (it, oi) :: news) →
      wpAny (model prog w) A (execs body env) (EnumPost h₀ env.locals m xi xv ((e, oe) :: (it, oi) :: news) (K (i + 1)) { s with heap := h, toks := tk } Q) (fun _ _ => False) { s with heap := h, toks := tk })
    (done : K ps.length → ∀ h tk m₁, (∀ z, z ≠ xi → z ≠ xv → m₁ z = m z) → Fr h₀ env.locals h m₁ → News h₀ env.locals h news → Q .next { s with heap := h, toks := tk }) :
    wpAny (model prog w) A (call (.type "enumerate") [.ref l]) (ForSrc9 prog w A env (.Tuple [.Name xi pi, .Name xv pv] x1 pt) body Q) E s := by
  refine call_enumerate_list (News.isList N hl) fun hE he hit hz hk => ?_
  have FE := F.keeps hk
  have NE := N.grown hk
  have hLs : env.locals < s.heap.objs.size := F.ns.lt
  generalize hIt : s.heap.objs.size = it at *
  have fresh : ∀ b, it ≤ b → h₀.get? b = none := fun b hb => Heap.get?_none_of_le (Nat.le_trans F.above (Nat.le_trans (Nat.le_of_lt hLs) hb))
  have hei : it + 1 ≠ it := Nat.succ_ne_self _
  have heL : it + 1 ≠ env.locals := Nat.ne_of_gt (Nat.lt_succ_of_lt hLs)
  have hiL : it ≠ env.locals := Nat.ne_of_gt hLs
  have he0 : h₀.get? (it + 1) = none := fresh _ (Nat.le_succ _)
  have hi0 : h₀.get? it = none := fresh _ (Nat.le_refl _)
  have nlt : ∀ p ∈ news, p.1 < it := fun p hp => hIt ▸ Heap.lt_size (N p hp).1
  have offE : ∀ p ∈ news, p.1 ≠ it + 1 := fun p hp => Nat.ne_of_lt (Nat.lt_succ_of_lt (nlt p hp))
  have offI : ∀ p ∈ news, p.1 ≠ it := fun p hp => Nat.ne_of_lt (nlt p hp)
  unfold ForSrc9
  refine wpAny_pyIter_enum he ?_
  have key : codeAny (model prog w) A (.forLoop (.Tuple [.Name xi pi, .Name xv pv] x1 pt) (.ref (it + 1)) body [] env) (fun r s' => match r with | .ok f => Q f s' | .error e => cameBackBy (model prog w) A env (fun _ _ => False) e s') { s with heap := hE } := by
    refine codeAny_forLoop_any
      (fun n s' => ∃ h' tk m' i old, s' = { s with heap := h', toks := tk } ∧ IsEnum h' (it + 1) it ((i : Nat) : Int) old ∧ h'.IsListIter it l i ∧ Fr h₀ env.locals h' m' ∧ (∀ z, z ≠ xi → z ≠ xv → m' z = m z) ∧ News h₀ env.locals h' news ∧ K i ∧ i ≤ ps.length ∧ n = ps.length + 1 - i) ?_ (ps.length + 1)
      ⟨hE, s.toks, m, 0, .none, rfl, he, hit, FE, fun _ _ _ => rfl, NE, k0, Nat.zero_le _, rfl⟩
    rintro n s' ⟨H, tk, m', i, old, rfl, he', hit', F', hm', N', hK, hi, rfl⟩
    have hl' : H.IsList l (strValues ps).toArray := News.isList N' hl
    have hsz : (strValues ps).toArray.size = ps.length := by rw [List.size_toArray, sv_len]
    cases hv : (strValues ps).toArray[i]? with
    | none =>
      have hsi : i = ps.length := Nat.le_antisymm hi (hsz ▸ (by simpa using hv))
      refine wpAny_pyNext_enum_end hh he' hit' hl' hv fun h₁ he₁ => wpAny_execs_nil ?_
      refine done (hsi ▸ hK) h₁ tk m' hm' ?_ ?_
      · exact ⟨F'.ns.extBut he₁ hiL.symm, fun b o e => he₁ b o (fun q => by rw [q, hi0] at e; cases e) (F'.keep b o e), F'.above⟩
      · exact fun p hp => ⟨he₁ _ _ (offI p hp) (N' p hp).1, (N' p hp).2⟩
    | some v =>
      have hlt : i < ps.length := hsz ▸ (Array.getElem?_eq_some_iff.mp hv).1
      have hps : ps[i]? = some (ps[i].1, ps[i].2) := List.getElem?_eq_getElem hlt
      have hvv : v = .str ps[i].1 ps[i].2 := by
        have : (strValues ps).toArray[i]? = some (.str ps[i].1 ps[i].2) := by simp [strValues, hlt]
        exact Option.some.inj (hv.symm.trans this)
      subst hvv
      have heH : it + 1 < H.objs.size := Heap.lt_size he'
      have hLH : env.locals < H.objs.size := F'.ns.lt
      obtain ⟨oi, hoi, _⟩ := id hit'
      have hiH : it < H.objs.size := Heap.lt_size hoi
      refine wpAny_pyNext_enum_item he' hit' hl' hv hei fun h₁ heo hit₁ ht₁ hz₁ hk₁ => ?_
      refine wpAny_letOwnedTupleGo_enum heo fun h₂ he₂ hs₂ => ?_
      replace hs₂ : Heap.SameBut (it + 1) h₁ h₂ := hs₂
      have ht₂ : h₂.IsTuple H.objs.size #[.int i tk, .str ps[i].1 ps[i].2] := ⟨_, (hs₂.2 _ (Nat.ne_of_gt heH)).trans ht₁, rfl, _, rfl⟩
      have hz₂ : h₂.objs.size = H.objs.size + 1 := hs₂.1.trans hz₁
      refine wpAny_assign_Tuple hh ht₂ rfl rfl fun h₃ hx₃ => ?_
      replace hx₃ : Heap.ExtBut h₂.objs.size h₂ h₃ := hx₃
      have old₃ : ∀ b o, b < H.objs.size → h₂.get? b = some o → h₃.get? b = some o := fun b o hb x => hx₃ b o (by rw [hz₂]; exact Nat.ne_of_lt (Nat.lt_succ_of_lt hb)) x
      have up3 : ∀ b o, b ≠ it + 1 → b ≠ it → H.get? b = some o → h₃.get? b = some o := fun b o h1 h2 x => old₃ b o (Heap.lt_size x) ((hs₂.2 b h1).trans (hk₁ b o h1 h2 x))
      have F₃ : Fr h₀ env.locals h₃ m' := ⟨F'.ns.at' fun o x => up3 _ o heL.symm hiL.symm x, fun b o x => up3 b o (fun q => by rw [q, he0] at x; cases x) (fun q => by rw [q, hi0] at x; cases x) (F'.keep b o x), F'.above⟩
      have N₃ : News h₀ env.locals h₃ news := fun p hp => ⟨up3 _ _ (offE p hp) (offI p hp) (N' p hp).1, (N' p hp).2⟩
      have hL₀ : h₀.get? env.locals = none := Heap.get?_none_of_le F'.above
      show wpAny _ A (do holding [.str ps[i].1 ps[i].2] (assign (.Name xi pi) env (.int i tk)); do holding [] (assign (.Name xv pv) env (.str ps[i].1 ps[i].2)); pure ()) _ _ _
      refine wpAny_bind (wpAny_holding (wpAny_assign_Name (wpAny_storeName_local hxi F₃.ns (fun h₄ hn₄ hs₄ => ?_) hp)))
      replace hs₄ : Heap.SameBut env.locals h₃ h₄ := hs₄
      refine wpAny_bind (wpAny_holding (wpAny_assign_Name (wpAny_storeName_local hxv hn₄ (fun h₅ hn₅ hs₅ => wpAny_pure ?_) hp)))
      replace hs₅ : Heap.SameBut env.locals h₄ h₅ := hs₅
      have up5 : ∀ b o, b ≠ env.locals → h₃.get? b = some o → h₅.get? b = some o := fun b o h1 x => hs₅.extBut b o h1 (hs₄.extBut b o h1 x)
      have em : (fun y => if y = xv then some (Value.str ps[i].1 ps[i].2) else (fun y => if y = xi then some (.int i tk) else m' y) y) = fun y => if y = xv then some (Value.str ps[i].1 ps[i].2) else if y = xi then some (.int i tk) else m y := by
        funext y
        by_cases y1 : y = xv
        · simp only [if_pos y1]
        · simp only [if_neg y1]
          by_cases y2 : y = xi
          · simp only [if_pos y2]
          · simp only [if_neg y2]; exact hm' y y2 y1
      have F₅ : Fr h₀ env.locals h₅ (fun y => if y = xv then some (.str ps[i].1 ps[i].2) else if y = xi then some (.int i tk) else m y) := by
        rw [← em]
        exact ⟨hn₅, fun b o x => up5 b o (fun q => by rw [q, hL₀] at x; cases x) (F₃.keep b o x), F₃.above⟩
      obtain ⟨oi₁, hoi₁, hci₁, hdi₁⟩ := hit₁
      have zI : h₅.get? it = some oi₁ := up5 it _ hiL (old₃ it _ hiH ((hs₂.2 it hei.symm).trans hoi₁))
      have zE := up5 (it + 1) _ heL (old₃ (it + 1) _ heH he₂)
      have N₅ : News h₀ env.locals h₅ ((it + 1, _) :: (it, oi₁) :: news) := fun p hp => by
        rcases List.mem_cons.mp hp with rfl | hp
        · exact ⟨zE, heL, he0⟩
        · rcases List.mem_cons.mp hp with rfl | hp
          · exact ⟨zI, hiL, hi0⟩
          · exact ⟨up5 _ _ (N₃ p hp).2.1 (N₃ p hp).1, (N₃ p hp).2⟩
      refine wpAny_passesOwn PassesOwn.never (wpAny_mono (turn i _ _ _ h₅ _ _ _ _ _ hps hK F₅ N₅) (fun f s₃ hq => ?_) fun _ _ x => x)
      rcases hq with ⟨rfl, hK', h₆, tk₆, all, m₂, rfl, F₆, hm₂, N₆, hsub⟩ | ⟨rfl, hq⟩
      · have qE := (N₆ _ (hsub _ (.head _))).1
        have qI := (N₆ _ (hsub _ (.tail _ (.head _)))).1
        refine ⟨ps.length + 1 - (i + 1), by omega, h₆, tk₆, m₂, i + 1, .str ps[i].1 ps[i].2, rfl, ?_, ⟨oi₁, qI, hci₁, hdi₁⟩, F₆, hm₂, fun p hp => N₆ p (hsub _ (.tail _ (.tail _ hp))), hK', hlt, rfl⟩
        have : ((i + 1 : Nat) : Int) = (i : Int) + 1 := by push_cast; rfl
        rw [this]; exact qE
      · exact hq
  exact key
/-- one text of a list -/
theorem item_nat {value slice : Expr} {a : Addr} {ps : List (Str × Tok)} {i : Nat} {u : Tok} {Q : Value → Shared → Prop} (hl : s.heap.IsList a (strValues ps).toArray)
    (hb : ps.length ≤ 100000) (h1 : i < ps.length) (h : ∀ y t', (ps.map (·.1))[i]? = some y → Q (.str y t') s)
    (hs : subscripted slice false (.ref a) (.int (i : Int) u) = operate [.ref a, .int (i : Int) u] (getItem (.ref a) (.int (i : Int) u))) :
    wpAny (model prog w) A (subscriptTail value slice (.ref a) (.int (i : Int) u)) Q E s := by
  have e : ps[i]? = some (ps[i].1, ps[i].2) := List.getElem?_eq_getElem h1
  exact tail_any hl.typeIs slot_list_getitem.lookup (wpAny_getItem_list (x := .str ps[i].1 ps[i].2) hl (by omega) (by omega) (by simp [strValues, h1]) (h _ _ (by rw [List.getElem?_map, e]; rfl))) hs
theorem sl_upto {L : Addr} {value slice : PySem.Expr} {l : Addr} {ps : List (Str × Tok)} {n i : Nat} {u : Tok} {Q : Value → Shared → Prop} (F : Fr h₀ L s.heap m) (N : News h₀ L s.heap news) (hl : (l, listOf (strValues ps).toArray n) ∈ news) (hz : ps.length ≤ 100000) (hi : i ≤ ps.length)
    (h : ∀ D h', Fr h₀ L h' m → News h₀ L h' ((D, listOf (strValues (ps.take i)).toArray 0) :: news) → (∀ p ∈ news, p.1 < D) → Q (.ref D) { s with heap := h' })
    (hs : subscripted slice false (.ref l) (.ref s.heap.objs.size) = operate [.ref s.heap.objs.size, .ref l] (getItem (.ref l) (.ref s.heap.objs.size))) (ht : ∀ r, letTemporaryGo value (.ref l) r = pure ()) :
    wpAny (model prog w) A (subscriptTail value slice (.ref l) (.ref s.heap.objs.size)) Q E { s with heap := s.heap.push { cls := .type "slice", data := .fields #[.none, .int (i : Int) u, .none] } } := by
  refine kms_slice_lit (zs := strValues (ps.take i)) F N (News.isList N hl) .none (.int _ _) ?_ h hs ht (by rw [List.size_toArray, sv_len, sizeLine_eq]; omega)
  show ((strValues ps).drop 0).take (kms_hi (some (i : Int)) (strValues ps).length - 0) = _
  have e : kms_hi (some (i : Int)) (strValues ps).length = i := by
    show (if (i : Int) < 0 then (strValues ps).length - (-(i : Int)).toNat else min (i : Int).toNat (strValues ps).length) = i
    rw [if_neg (by omega), sv_len]
    simp [hi]
  rw [List.drop_zero, Nat.sub_zero, e]
  unfold strValues
  rw [List.map_take]
end
end Mine
end

section -- Y1
open PySem PySem.W PyProof.Rows PySem.Calls
set_option Elab.async false
set_option maxRecDepth 100000
namespace Mine
section
variable {prog : Program} {w : World} {A : Around} {E : Value → Shared → Prop} {s : Shared} {h₀ : Heap} {m : Str → Option Value} {env : Env} {news : List (Addr × Obj)}
/-- the end of a turn that leaves things as they were but for the names of xs -/
noncomputable def TurnEnd (h₀ : Heap) (L : Addr) (m : Str → Option Value) (xs : List Str) (led : List (Addr × Obj)) (s₁ : Shared) (f : Flow) (s₂ : Shared) : Prop :=
  f = .next ∧ ∃ h' tk' all m₂, s₂ = { s₁ with heap := h', toks := tk' } ∧ Fr h₀ L h' m₂ ∧ (∀ z, z ∉ xs → m₂ z = m z) ∧ News h₀ L h' all ∧ ∀ p ∈ led, p ∈ all
theorem TurnEnd.mk {L : Addr} {xs : List Str} {led all : List (Addr × Obj)} {s₁ : Shared} {h' : Heap} {tk' : Nat} {m₂ : Str → Option Value} (F : Fr h₀ L h' m₂) (N : News h₀ L h' all) (hm : ∀ z, z ∉ xs → m₂ z = m z) (hs : ∀ p ∈ led, p ∈ all) :
    TurnEnd h₀ L m xs led s₁ .next { s₁ with heap := h', toks := tk' } := ⟨rfl, h', tk', all, m₂, rfl, F, hm, N, hs⟩
theorem rng_for9 {r : Addr} {b : Int} {t u v : Tok} {n : Nat} {x : Str} {px : Pos} {body : List Stmt} {Q : Flow → Shared → Prop} (xs : List Str) (hxs : x ∈ xs) (hh : A.handled = none)
    (hx : env.kindOf x = some .local) (hp : (env.scope.kind == .class || (env.scope.kind == .module && env.locals != env.globals)) = false)
    (hr : IsRange s.heap r 0 b 1 t u v) (hsm : Builtin.Range.small 0 b 1 = true) (hn : Builtin.Range.rangeSize 0 b 1 = ((n : Nat) : Int))
    (F : Fr h₀ env.locals s.heap m) (N : News h₀ env.locals s.heap news)
    (hne : ∃ p, p ∈ news)
    (turn : ∀ (i : Nat) (ti : Tok) (m₁ : Str → Option Value) h gn dr tk os it oi, i < n → (∀ z, z ∉ xs → m₁ z = m z) → Fr h₀ env.locals h (fun y => if y = x then some (.int (i : Int) ti) else m₁ y) → News h₀ env.locals h ((it, oi) :: news) →
      wpAny (model prog w) A (execs body env) (TurnEnd h₀ env.locals m xs ((it, oi) :: news) ⟨h, gn, dr, tk, os⟩) (fun _ _ => False) ⟨h, gn, dr, tk, os⟩)
    (done : ∀ h tk (m₁ : Str → Option Value), (∀ z, z ∉ xs → m₁ z = m z) → Fr h₀ env.locals h m₁ → News h₀ env.locals h news → Q .next { s with heap := h, toks := tk }) :
    ForSrc9 prog w A env (.Name x px) body Q (.ref r) s := by
  unfold ForSrc9
  refine wpAny_pyIter_range hr hsm ?_
  have hI0 : h₀.get? s.heap.objs.size = none := Heap.get?_none_of_le (Nat.le_trans F.above (Nat.le_of_lt F.ns.lt))
  have F1 : Fr h₀ env.locals (s.heap.push { cls := .type "range_iterator", data := .fields #[rawInt 0, rawInt (Builtin.Range.rangeSize 0 b 1), rawInt 1] }) m := F.push _
  have N1 := N.grown (h' := s.heap.push { cls := .type "range_iterator", data := .fields #[rawInt 0, rawInt (Builtin.Range.rangeSize 0 b 1), rawInt 1] }) fun _ _ e => Heap.get?_push_of_some _ e
  have W := Walks.range (prog := prog) (w := w) hh s.heap.objs.size 0 1 n
  refine codeAny_forLoop_fr2 (s := { s with heap := s.heap.push { cls := .type "range_iterator", data := .fields #[rawInt 0, rawInt (Builtin.Range.rangeSize 0 b 1), rawInt 1] } })
    W hx hp (fun q => ?_) (fun b hb => by rw [List.mem_singleton.mp hb]; exact hI0) (fun p hp q => ?_) ?_ F1 N1 (fun _ m' news' => (∀ z, z ∉ xs → m' z = m z) ∧ news' = news) ⟨fun _ _ => rfl, rfl⟩ ?_ ?_
  · exact absurd F.ns.lt (List.mem_singleton.mp q ▸ Nat.lt_irrefl _)
  · exact absurd (Heap.lt_size (N p hp).1) (List.mem_singleton.mp q ▸ Nat.lt_irrefl _)
  · show IsRangeIter _ _ _ _ _
    rw [hn]
    simpa using Heap.get?_push_size _ rfl
  · rintro i v m₁ news₁ s₁ own hi ⟨ti, rfl⟩ ⟨hm₁, rfl⟩ _ hown hall F' N'
    have e1 : (0 : Int) + (i : Int) * 1 = (i : Int) := by omega
    rw [e1] at F'
    have key : ∃ q : Addr × Obj, News h₀ env.locals s₁.heap (q :: news₁) ∧ ∀ p ∈ own, p = q := by
      cases own with
      | nil =>
        obtain ⟨p, hp⟩ := hne
        exact ⟨p, fun z hz => N' z (by rcases List.mem_cons.mp hz with rfl | hz; exact hp; exact hz), fun _ hp => nomatch hp⟩
      | cons q rest =>
        refine ⟨q, fun z hz => N' z (by rcases List.mem_cons.mp hz with rfl | hz; exact List.mem_append_left _ (.head _); exact List.mem_append_right _ hz), fun p hp => ?_⟩
        have h1 := List.mem_singleton.mp (hown p hp)
        have h2 := List.mem_singleton.mp (hown q (.head _))
        have g1 := (N' p (List.mem_append_left _ hp)).1
        have g2 := (N' q (List.mem_append_left _ (.head _))).1
        rw [h1] at g1
        rw [h2, g1] at g2
        exact Prod.ext (h1.trans h2.symm) (Option.some.inj g2)
    obtain ⟨⟨it, oi⟩, Nq, hq⟩ := key
    obtain ⟨h₁, g₁, d₁, tk₁, os₁⟩ := s₁
    refine wpAny_mono (turn i ti m₁ h₁ g₁ d₁ tk₁ os₁ it oi hi hm₁ F' Nq) (fun f s₂ hf => ?_) fun _ _ hf => hf.elim
    obtain ⟨rfl, h', tk', all, m₂, rfl, F₂, hm₂, N₂, hs⟩ := hf
    refine LoopStep2.intro (s₁ := ⟨h₁, g₁, d₁, tk₁, os₁⟩) F₂ (fun p hp => N₂ p (hs p ?_)) rfl ⟨hm₂, rfl⟩
    rcases List.mem_append.mp hp with hp | hp
    · rw [hq p hp]; exact .head _
    · exact .tail _ hp
  · rintro h' tk m' news' F' N' _ ⟨hm', rfl⟩
    exact done h' tk m' hm' F' N'
theorem rng_for1 {r : Addr} {b : Int} {t u v : Tok} {n : Nat} {x : Str} {px : Pos} {body : List Stmt} {Q : Flow → Shared → Prop} (hh : A.handled = none)
    (hx : env.kindOf x = some .local) (hp : (env.scope.kind == .class || (env.scope.kind == .module && env.locals != env.globals)) = false)
    (hr : IsRange s.heap r 0 b 1 t u v) (hsm : Builtin.Range.small 0 b 1 = true) (hn : Builtin.Range.rangeSize 0 b 1 = ((n : Nat) : Int))
    (F : Fr h₀ env.locals s.heap m) (N : News h₀ env.locals s.heap news) (hne : ∃ p, p ∈ news)
    (turn : ∀ (i : Nat) (ti : Tok) h gn dr tk os it oi, i < n → Fr h₀ env.locals h (fun y => if y = x then some (.int (i : Int) ti) else m y) → News h₀ env.locals h ((it, oi) :: news) →
      wpAny (model prog w) A (execs body env) (TurnEnd h₀ env.locals m [x] ((it, oi) :: news) ⟨h, gn, dr, tk, os⟩) (fun _ _ => False) ⟨h, gn, dr, tk, os⟩)
    (done : ∀ h tk a₁, Fr h₀ env.locals h (fun y => if y = x then a₁ else m y) → News h₀ env.locals h news → Q .next { s with heap := h, toks := tk }) :
    ForSrc9 prog w A env (.Name x px) body Q (.ref r) s := by
  refine rng_for9 [x] (.head _) hh hx hp hr hsm hn F N hne (fun i ti m₁ h gn dr tk os it oi hi hm F' N' => turn i ti h gn dr tk os it oi hi ?_ N') (fun h tk m₁ hm F' N' => done h tk (m₁ x) ?_ N')
  · have e : (fun y => if y = x then some (.int (i : Int) ti) else m₁ y) = fun y => if y = x then some (Value.int (i : Int) ti) else m y := by
      funext y
      by_cases h : y = x
      · rw [if_pos h, if_pos h]
      · rw [if_neg h, if_neg h]; exact hm y (by simpa using h)
    rw [e] at F'; exact F'
  · have e : m₁ = fun y => if y = x then m₁ x else m y := by
      funext y
      by_cases h : y = x
      · rw [if_pos h, h]
      · rw [if_neg h]; exact hm y (by simpa using h)
    rw [e] at F'
    exact F'
theorem rng_for2 {r : Addr} {b : Int} {t u v : Tok} {n : Nat} {x : Str} {px : Pos} {body : List Stmt} {Q : Flow → Shared → Prop} (z : Str) (hh : A.handled = none)
    (hx : env.kindOf x = some .local) (hp : (env.scope.kind == .class || (env.scope.kind == .module && env.locals != env.globals)) = false)
    (hr : IsRange s.heap r 0 b 1 t u v) (hsm : Builtin.Range.small 0 b 1 = true) (hn : Builtin.Range.rangeSize 0 b 1 = ((n : Nat) : Int))
    (F : Fr h₀ env.locals s.heap m) (N : News h₀ env.locals s.heap news) (hne : ∃ p, p ∈ news)
    (turn : ∀ (i : Nat) (ti : Tok) a₂ h gn dr tk os it oi, i < n → Fr h₀ env.locals h (fun y => if y = x then some (.int (i : Int) ti) else if y = z then a₂ else m y) → News h₀ env.locals h ((it, oi) :: news) →
      wpAny (model prog w) A (execs body env) (TurnEnd h₀ env.locals m [x, z] ((it, oi) :: news) ⟨h, gn, dr, tk, os⟩) (fun _ _ => False) ⟨h, gn, dr, tk, os⟩)
    (done : ∀ h tk a₁ a₂, Fr h₀ env.locals h (fun y => if y = x then a₁ else if y = z then a₂ else m y) → News h₀ env.locals h news → Q .next { s with heap := h, toks := tk }) :
    ForSrc9 prog w A env (.Name x px) body Q (.ref r) s := by
  refine rng_for9 [x, z] (.head _) hh hx hp hr hsm hn F N hne (fun i ti m₁ h gn dr tk os it oi hi hm F' N' => turn i ti (m₁ z) h gn dr tk os it oi hi ?_ N') (fun h tk m₁ hm F' N' => done h tk (m₁ x) (m₁ z) ?_ N')
  · have e : (fun y => if y = x then some (.int (i : Int) ti) else m₁ y) = fun y => if y = x then some (Value.int (i : Int) ti) else if y = z then m₁ z else m y := by
      funext y
      by_cases h : y = x
      · rw [if_pos h, if_pos h]
      · rw [if_neg h, if_neg h]
        by_cases h' : y = z
        · rw [if_pos h', h']
        · rw [if_neg h']; exact hm y (by simp [h, h'])
    rw [e] at F'; exact F'
  · have e : m₁ = fun y => if y = x then m₁ x else if y = z then m₁ z else m y := by
      funext y
      by_cases h : y = x
      · rw [if_pos h, h]
      · rw [if_neg h]
        by_cases h' : y = z
        · rw [if_pos h', h']
        · rw [if_neg h']; exact hm y (by simp [h, h'])
    rw [e] at F'
    exact F'
end
end Mine
end

section -- Y2
open PySem PySem.W PyProof.Rows PySem.Calls
set_option Elab.async false
set_option maxRecDepth 100000
namespace Mine
structure Tup where
  a : Addr
  p : Str
  t : Tok
  i : Int
  v : Tok
  y : Str
  u : Tok
noncomputable abbrev Tup.o (x : Tup) : Addr × Obj := (x.a, tupO [.str x.p x.t, .int x.i x.v, .str x.y x.u])
/-- what stands for one entry of found -/
structure TupOk (x : Tup) : Prop where
  short : x.p.length ≤ 12
  line : x.i = 0 ∨ x.i = 7 ∨ x.i = 12 ∨ x.i = -3
  name : x.y ∈ names8
structure FoundOk (g : Nat → Tup) (ys : List Value) (ex : List (Addr × Obj)) : Prop where
  at_ : ∀ j, j < ys.length → ys[j]? = some (.ref (g j).a) ∧ (g j).o ∈ ex ∧ TupOk (g j)
/-- what a call of _law_func gives: a new tuple -/
noncomputable def FuncNew (news : List (Addr × Obj)) (r : Value) (tl : List (Addr × Obj)) : Prop := ∃ x : Tup, r = .ref x.a ∧ tl = [x.o] ∧ TupOk x ∧ ∀ p ∈ news, @Ne Nat p.1 x.a
theorem FuncNew.mk {news : List (Addr × Obj)} {r : Value} {tl : List (Addr × Obj)} {a : Addr} (h : FuncOut r tl) (hr : r = .ref a) (hn : ∀ p ∈ news, p.1 < a) : FuncNew news r tl := by
  obtain ⟨a', p, t, i, v, y, u, rfl, rfl, h1, h2, h3⟩ := h
  cases hr
  exact ⟨⟨_, p, t, i, v, y, u⟩, rfl, rfl, ⟨h1, h2, h3⟩, fun q hq => Nat.ne_of_lt (hn q hq)⟩
section
variable {prog : Program} {w : World} {A : Around} {E : Value → Shared → Prop} {s : Shared} {h₀ : Heap} {L : Addr} {m : Str → Option Value} {env : Env} {elt : Expr} {x : Str} {scope : Scope} {cl : List (Str × Addr)} {S : List (Addr × Obj) → Prop} {Fin : List Value → List (Addr × Obj) → Prop} {news : List (Addr × Obj)}
theorem off3_app {I C D : Addr} : ∀ {l r : List (Addr × Obj)}, LCg.Off3 I C D l → LCg.Off3 I C D r → LCg.Off3 I C D (l ++ r)
  | [], _, _, h => h
  | _ :: _, _, h1, h2 => ⟨h1.1, off3_app h1.2 h2⟩
theorem off3_split {I C D : Addr} : ∀ {l r : List (Addr × Obj)}, LCg.Off3 I C D (l ++ r) → LCg.Off3 I C D l ∧ LCg.Off3 I C D r
  | [], _, h => ⟨trivial, h⟩
  | _ :: _, _, h => ⟨⟨h.1, (off3_split h.2).1⟩, (off3_split h.2).2⟩
/-- `[f(x, ..) for x in cells]` -/
theorem comp_func {vs : List Value} {ns : List Int} {n : Nat} {P : Nat → Value → Prop} (hi : IntsAre vs ns) (h4 : n ≤ 4) (hn : n = vs.length) (hP : ∀ i v, P i v → vs[i]? = some v) (hS : ∀ ex, S (news ++ ex))
    (turn : ∀ (k : Int) t I oI C oC D m₂ ys ex h tk (E' : Value → Shared → Prop), LCg.NsObj oC m₂ → m₂ x = some (.int k t) → Fr h₀ L h m → News h₀ L h ((I, oI) :: (C, oC) :: (D, LCg.lst ys) :: (news ++ ex)) →
      wpAny (model prog w) A (eval elt (compEnvC scope cl C env)) (fun r s'' => ∃ tl h' tk', s'' = { s with heap := h', toks := tk' } ∧ FuncNew ((I, oI) :: (C, oC) :: (D, LCg.lst ys) :: (news ++ ex)) r tl ∧ Fr h₀ L h' m ∧
        News h₀ L h' (tl ++ ((I, oI) :: (C, oC) :: (D, LCg.lst ys) :: (news ++ ex)))) E' { s with heap := h, toks := tk })
    (fin : ∀ g ys ex, ys.length ≤ 4 → FoundOk g ys ex → Fin ys (news ++ ex)) : LCg.CompRest prog w A h₀ L m env elt x scope cl s S P Fin n 0 [] news := by
  subst hn
  have key : ∀ (j i : Nat) (ys : List Value) (g : Nat → Tup) (ex : List (Addr × Obj)), i + j = vs.length → ys.length = i → FoundOk g ys ex → LCg.CompRest prog w A h₀ L m env elt x scope cl s S P Fin j i ys (news ++ ex) := by
    intro j
    induction j with
    | zero =>
      intro i ys g ex hi hy hg
      exact LCg.CompRest.zero (fin g ys ex (by omega) hg)
    | succ j ih =>
      intro i ys g ex hij hy hg
      refine LCg.CompRest.succ ?_
      intro v I oI C oC D m₂ h tk E' hv hC hx F N off ne
      obtain ⟨k, t, rfl, _⟩ := IntsAre.at hi i v (hP i v hv)
      refine wpAny_mono (turn k t I oI C oC D m₂ ys ex h tk E' hC hx F N) (fun r s'' hr => ?_) fun _ _ e => e
      obtain ⟨tl, h', tk', rfl, ⟨z, rfl, rfl, hz, hne⟩, F', N'⟩ := hr
      have hI := hne _ (.head _)
      have hCz := hne _ (.tail _ (.head _))
      have hD := hne _ (.tail _ (.tail _ (.head _)))
      refine LCg.CompEnd.intro F' N' (news ++ (z.o :: ex)) (fun p hp => ?_) (off3_app (off3_split off).1 ⟨⟨fun q => hI q.symm, fun q => hCz q.symm, fun q => hD q.symm⟩, (off3_split off).2⟩) (hS _) ?_
      · rcases List.mem_cons.mp hp with rfl | hp
        · exact .tail _ (.head _)
        · rcases List.mem_cons.mp hp with rfl | hp
          · exact .tail _ (.tail _ (.head _))
          · rcases List.mem_cons.mp hp with rfl | hp
            · exact .tail _ (.tail _ (.tail _ (.head _)))
            · rcases List.mem_append.mp hp with hp | hp
              · exact .tail _ (.tail _ (.tail _ (.tail _ (List.mem_append_left _ hp))))
              · rcases List.mem_cons.mp hp with rfl | hp
                · exact .head _
                · exact .tail _ (.tail _ (.tail _ (.tail _ (List.mem_append_right _ hp))))
      · refine ih (i + 1) _ (fun q => if q = i then z else g q) (z.o :: ex) (by omega) (by simp [hy]) ⟨fun q hq => ?_⟩
        by_cases hqi : q = i
        · subst hqi
          rw [if_pos rfl]
          refine ⟨?_, .head _, hz⟩
          rw [← hy]
          simp
        · rw [if_neg hqi]
          have hq' : q < ys.length := by simp [List.length_append] at hq; omega
          obtain ⟨g1, g2, g3⟩ := hg.at_ q hq'
          exact ⟨by rw [List.getElem?_append_left hq']; exact g1, .tail _ g2, g3⟩
  have := key vs.length 0 [] (fun _ => ⟨0, Str.ofString "", 0, 0, 0, Str.ofString "", 0⟩) [] (by omega) rfl ⟨fun _ h => absurd h (Nat.not_lt_zero _)⟩
  rw [List.append_nil] at this
  exact this
/-- one entry of found -/
theorem item_found {value slice : Expr} {D : Addr} {ys : List Value} {g : Nat → Tup} {ex : List (Addr × Obj)} {j : Nat} {u : Tok} {Q : Value → Shared → Prop} (N : News h₀ L s.heap news) (hl : (D, LCg.lst ys) ∈ news) (hg : FoundOk g ys ex) (hex : ∀ p ∈ ex, p ∈ news) (hj : j < ys.length) (hz : ys.length ≤ 1000)
    (h : News h₀ L s.heap (((g j).a, tupO [.str (g j).p (g j).t, .int (g j).i (g j).v, .str (g j).y (g j).u]) :: news) → TupOk (g j) → Q (.ref (g j).a) s)
    (hs : subscripted slice false (.ref D) (.int (j : Int) u) = operate [.ref D, .int (j : Int) u] (getItem (.ref D) (.int (j : Int) u))) :
    wpAny (model prog w) A (subscriptTail value slice (.ref D) (.int (j : Int) u)) Q E s := by
  obtain ⟨g1, g2, g3⟩ := hg.at_ j hj
  have hL : s.heap.IsList D ys.toArray := News.isList N hl
  exact tail_any hL.typeIs slot_list_getitem.lookup (wpAny_getItem_list (x := .ref (g j).a) hL (by omega) (by omega) (by simpa using g1) (h (fun p hp => by
    rcases List.mem_cons.mp hp with rfl | hp
    · exact N _ (hex _ g2)
    · exact N _ hp) g3)) hs
end
theorem name_short {y : Str} (h : y ∈ names8) : y.length ≤ 5 := by
  unfold names8 at h
  simp only [List.mem_cons, List.not_mem_nil, or_false] at h
  rcases h with rfl | rfl | rfl | rfl | rfl | rfl | rfl | rfl <;> decide
theorem TupOk.x100 {x : Tup} (h : TupOk x) : x.p.length ≤ 100 := Nat.le_trans h.short (by decide)
theorem TupOk.y100 {x : Tup} (h : TupOk x) : x.y.length ≤ 100 := Nat.le_trans (name_short h.name) (by decide)
theorem four_ints {vs : List Value} {ns : List Int} (h : IntsAre vs (ns.take 4)) : vs.toArray.size ≤ 4 := by
  rw [List.size_toArray, h.length, List.length_take]; omega
theorem four_lit {a b c d : Value} : [a, b, c, d].toArray.size ≤ 4 := Nat.le_refl _
theorem ints_lit {a b c d : Int} {t u v x : Tok} : IntsAre [.int a t, .int b u, .int c v, .int d x] [a, b, c, d] := .cons a t (.cons b u (.cons c v (.cons d x .nil)))
theorem four_line {n : Nat} (h : n ≤ 4) : n ≤ sizeLine := by rw [sizeLine_eq]; omega
theorem end_i {x : Str} {v : Option Value} {m : Str → Option Value} : ∀ z, z ∉ [x] → (fun y => if y = x then v else m y) z = m z := fun z hz => if_neg (by simpa using hz)
theorem end_ji {x z' : Str} {a v : Option Value} {a₂ : Option Value} {m : Str → Option Value} : ∀ z, z ∉ [x, z'] → (fun y => if y = z' then a else (fun y => if y = x then v else if y = z' then a₂ else m y) y) z = m z := fun z hz => by
  have h1 : z ≠ x := fun q => hz (by simp [q])
  have h2 : z ≠ z' := fun q => hz (by simp [q])
  dsimp only
  rw [if_neg h2, if_neg h1, if_neg h2]
end Mine
end

section -- Z1
open PySem PySem.W PyProof.Rows PySem.Calls PySem.Builtin PySem.Builtin.Str PySem.StrLaws
set_option Elab.async false
namespace Mine
/-! texts as lists of code points -/
noncomputable abbrev St (l : List Nat) : Str := ⟨l.toArray⟩
theorem st_of (x : Str) : x = St x.cps.toList := by cases x; simp
theorem st_inj {a b : List Nat} (h : St a = St b) : a = b := by
  have := congrArg (fun x : Str => x.cps.toList) h
  simpa using this
theorem st_len (l : List Nat) : (St l).length = l.length := by simp [Str.length]
theorem st_app (a b : List Nat) : St a ++ St b = St (a ++ b) := Str.ext' (by rw [Str.cps_append]; simp)
theorem st_beq (a b : List Nat) : (St a == St b) = (a == b) := by
  by_cases h : a = b
  · subst h; simp
  · rw [beq_eq_false_iff_ne.mpr h]
    exact beq_eq_false_iff_ne.mpr fun e => h (st_inj e)
theorem slice_nat (l : List Nat) {a b : Nat} (hab : a ≤ b) (hb : b ≤ l.length) : Txt.slice (St l) (some (a : Int)) (some (b : Int)) = St ((l.drop a).take (b - a)) := by
  have h := sliceText_nat (St l) hab (by rw [st_len]; exact hb)
  exact (show Txt.slice (St l) (some (a : Int)) (some (b : Int)) = sliceText (St l) (some (a : Int)) (some (b : Int)) from rfl).trans (h.trans (by simp))
theorem slice_to (l : List Nat) {b : Nat} (hb : b ≤ l.length) : Txt.slice (St l) none (some (b : Int)) = St (l.take b) := by
  have h := slice_nat l (Nat.zero_le b) hb
  have e : Txt.slice (St l) none (some (b : Int)) = Txt.slice (St l) (some ((0 : Nat) : Int)) (some (b : Int)) := by
    unfold Txt.slice
    rw [sliceIdx_none_lo]
    rfl
  rw [e, h]; simp
theorem slice_from (l : List Nat) {a : Nat} (ha : a ≤ l.length) : Txt.slice (St l) (some (a : Int)) none = St (l.drop a) := by
  have h := slice_nat l ha (Nat.le_refl _)
  have e : Txt.slice (St l) (some (a : Int)) none = Txt.slice (St l) (some (a : Int)) (some (l.length : Int)) := by
    unfold Txt.slice
    rw [sliceIdx_none_hi, st_len]
  rw [e, h]
  congr 1
  rw [List.take_of_length_le (by simp)]
theorem slice_pre (a b : List Nat) : Txt.slice (St (a ++ b)) none (some (a.length : Int)) = St a := by rw [slice_to _ (by simp), List.take_left]
theorem slice_post (a b : List Nat) : Txt.slice (St (a ++ b)) (some (a.length : Int)) none = St b := by rw [slice_from _ (by simp), List.drop_left]
theorem slice_mid (a b c : List Nat) : Txt.slice (St (a ++ (b ++ c))) (some (a.length : Int)) (some ((a.length + b.length : Nat) : Int)) = St b := by
  rw [slice_nat _ (by omega) (by simp only [List.length_append]; omega)]
  congr 1
  rw [List.drop_left]
  have : a.length + b.length - a.length = b.length := by omega
  rw [this, List.take_left]
theorem slice_neg_from (a b : List Nat) (hb : 0 < b.length) : Txt.slice (St (a ++ b)) (some (-(b.length : Int))) none = St b := by
  have e : Txt.slice (St (a ++ b)) (some (-(b.length : Int))) none = Txt.slice (St (a ++ b)) (some (a.length : Int)) none := by
    unfold Txt.slice
    rw [sliceIdx_neg_lo _ _ (by omega) (by rw [st_len]; simp; omega)]
    have : -(b.length : Int) + ((St (a ++ b)).length : Int) = (a.length : Int) := by rw [st_len]; simp; omega
    rw [this]
  rw [e, slice_post]
theorem slice_neg_to (a b c : List Nat) (hc : 0 < c.length) : Txt.slice (St (a ++ (b ++ c))) (some (a.length : Int)) (some (-(c.length : Int))) = St b := by
  have e : Txt.slice (St (a ++ (b ++ c))) (some (a.length : Int)) (some (-(c.length : Int))) = Txt.slice (St (a ++ (b ++ c))) (some (a.length : Int)) (some ((a.length + b.length : Nat) : Int)) := by
    unfold Txt.slice
    rw [sliceIdx_neg_hi _ _ (by omega) (by rw [st_len]; simp; omega)]
    have : -(c.length : Int) + ((St (a ++ (b ++ c))).length : Int) = ((a.length + b.length : Nat) : Int) := by rw [st_len]; simp; omega
    rw [this]
  rw [e, slice_mid]
theorem at_one (l : List Nat) (c i : Nat) : StrLaws.At (St l) (St [c]) (St l).length i ↔ l[i]? = some c := by
  have := subAt_one (St l) c i
  simpa [StrLaws.At] using this
theorem rfind_at (a b : List Nat) (c : Nat) (hb : c ∉ b) : Txt.rfind (St (a ++ c :: b)) (St [c]) = (a.length : Int) := by
  unfold Txt.rfind
  rcases last_spec (St (a ++ c :: b)) (St [c]) with ⟨_, h⟩ | ⟨i, hi, h1, h2⟩
  · exact absurd ((at_one _ c a.length).mpr (by simp)) (h _)
  · rw [hi]
    have g1 := (at_one _ c i).mp h1
    have hle : ¬ a.length < i := fun hlt => by
      rw [List.getElem?_append_right (by omega)] at g1
      have : i - a.length = (i - a.length - 1) + 1 := by omega
      rw [this, List.getElem?_cons_succ] at g1
      exact hb (List.mem_of_getElem? g1)
    have hge : ¬ i < a.length := fun hlt => h2 _ hlt ((at_one _ c a.length).mpr (by simp))
    have : i = a.length := by omega
    rw [this]
theorem rfind_no (l : List Nat) (c : Nat) (h : c ∉ l) : Txt.rfind (St l) (St [c]) = -1 := by
  unfold Txt.rfind
  rcases last_spec (St l) (St [c]) with ⟨h1, _⟩ | ⟨i, hi, h1, _⟩
  · rw [h1]
  · exact absurd (List.mem_of_getElem? ((at_one _ c i).mp h1)) h
theorem starts_one (l : List Nat) (c : Nat) : Txt.startswith (St l) (St [c]) = (l.head? == some c) := by
  unfold Txt.startswith
  rw [subAt_eq]
  cases l with
  | nil => simp [Str.length]
  | cons d r => simp [Str.length]
end Mine
end

section -- Z2
open PySem PySem.W PyProof.Rows PySem.Calls PySem.Builtin PySem.Builtin.Str PySem.StrLaws
set_option Elab.async false
namespace Mine
noncomputable def jnL (c : Nat) : List (List Nat) → List Nat
  | [] => []
  | [p] => p
  | p :: q :: r => p ++ c :: jnL c (q :: r)
noncomputable def spL (c : Nat) : List Nat → List (List Nat)
  | [] => [[]]
  | d :: r => if d = c then [] :: spL c r else match spL c r with
    | [] => [[d]]
    | p :: q => (d :: p) :: q
theorem spL_ne (c : Nat) : ∀ l, spL c l ≠ []
  | [] => by simp [spL]
  | d :: r => by
    unfold spL
    split
    · simp
    · split <;> simp
theorem jnL_cons (c : Nat) (p : List Nat) {q : List (List Nat)} (h : q ≠ []) : jnL c (p :: q) = p ++ c :: jnL c q := by
  cases q with
  | nil => exact absurd rfl h
  | cons a b => rfl
theorem jnL_spL (c : Nat) : ∀ l, jnL c (spL c l) = l
  | [] => rfl
  | d :: r => by
    have ih := jnL_spL c r
    have hne := spL_ne c r
    unfold spL
    split
    · rename_i h
      rw [jnL_cons c _ hne, ih, h]; rfl
    · cases hs : spL c r with
      | nil => exact absurd hs hne
      | cons p q =>
        rw [hs] at ih
        dsimp only
        cases q with
        | nil => simp only [jnL] at ih ⊢; rw [ih]
        | cons a b => simp only [jnL] at ih ⊢; rw [← ih]; rfl
theorem spL_free (c : Nat) : ∀ l, ∀ p ∈ spL c l, c ∉ p
  | [], p, h => by simp [spL] at h; subst h; simp
  | d :: r, p, h => by
    have ih := spL_free c r
    have hne := spL_ne c r
    unfold spL at h
    split at h
    · rcases List.mem_cons.mp h with rfl | h
      · simp
      · exact ih p h
    · rename_i hd
      cases hs : spL c r with
      | nil => exact absurd hs hne
      | cons a b =>
        rw [hs] at h ih
        dsimp only at h
        rcases List.mem_cons.mp h with rfl | h
        · have := ih a (.head _)
          simp only [List.mem_cons, not_or]
          exact ⟨fun q => hd q.symm, this⟩
        · exact ih p (.tail _ h)
theorem spL_jn1 (c : Nat) : ∀ p : List Nat, c ∉ p → spL c p = [p]
  | [], _ => rfl
  | d :: r, h => by
    have h1 : d ≠ c := fun q => h (by simp [q])
    have h2 : c ∉ r := fun q => h (.tail _ q)
    unfold spL
    rw [if_neg h1, spL_jn1 c r h2]
theorem spL_app (c : Nat) (b : List Nat) : ∀ p : List Nat, c ∉ p → spL c (p ++ c :: b) = p :: spL c b
  | [], _ => by
    show spL c (c :: b) = _
    rw [spL, if_pos rfl]
  | d :: r, h => by
    have h1 : d ≠ c := fun q => h (by simp [q])
    have h2 : c ∉ r := fun q => h (.tail _ q)
    show spL c (d :: (r ++ c :: b)) = _
    rw [spL, if_neg h1, spL_app c b r h2]
theorem spL_jnL (c : Nat) : ∀ L : List (List Nat), L ≠ [] → (∀ p ∈ L, c ∉ p) → spL c (jnL c L) = L
  | [], h, _ => absurd rfl h
  | [p], _, hf => spL_jn1 c p (hf p (.head _))
  | p :: q :: r, _, hf => by
    show spL c (p ++ c :: jnL c (q :: r)) = _
    rw [spL_app c _ p (hf p (.head _)), spL_jnL c (q :: r) (by simp) (fun z hz => hf z (.tail _ hz))]
theorem join_st (c : Nat) : ∀ L : List (List Nat), Str.join (St [c]) (L.map St) = St (jnL c L)
  | [] => rfl
  | [p] => rfl
  | p :: q :: r => by
    have ih := join_st c (q :: r)
    show St p ++ St [c] ++ Str.join (St [c]) ((q :: r).map St) = _
    rw [ih, st_app, st_app]
    congr 1
    simp [jnL]
theorem txt_join (c : Nat) (L : List (List Nat)) : Txt.join (St [c]) (L.map St) = St (jnL c L) := (glued_eq_join _ _).trans (join_st c L)
theorem map_st (l : List Str) : (l.map fun x => x.cps.toList).map St = l := by
  rw [List.map_map]
  conv => rhs; rw [← List.map_id l]
  exact List.map_congr_left fun x _ => (st_of x).symm
theorem split_st (c : Nat) (l : List Nat) : Txt.split (St l) (St [c]) = (spL c l).map St := by
  have h1 := join_split (St l) (St [c])
  have h2 := split_free (St l) c
  have h3 := split_ne (St l) (St [c])
  rw [← map_st (Txt.split (St l) (St [c]))] at h1 h3 ⊢
  have h2' : ∀ p ∈ (Txt.split (St l) (St [c])).map (fun x => x.cps.toList), c ∉ p := fun p hp => by
    obtain ⟨x, hx, rfl⟩ := List.mem_map.mp hp
    exact h2 x hx
  rw [join_st] at h1
  have h4 := st_inj h1
  have h5 := congrArg (spL c) h4
  rw [spL_jnL c _ (fun q => h3 (by rw [q]; rfl)) h2'] at h5
  exact congrArg (List.map St) h5
end Mine
end

section -- Z3
open PySem PySem.W PyProof.Rows PySem.Calls PySem.Builtin PySem.Builtin.Str PySem.StrLaws
set_option Elab.async false
namespace Mine
theorem strSub_st (l : List Nat) (i j : Nat) : strSub (St l) i j = St ((l.drop i).take (j - i)) := by
  rw [st_of (strSub (St l) i j), strSub_toList]
theorem goes_eq (c : Nat) : (St [c]).cps.contains = fun d => d == c := by
  funext d
  simp [Array.contains]
theorem takeW_drop {α : Type} (p : α → Bool) : ∀ l : List α, l.drop (l.takeWhile p).length = l.dropWhile p
  | [] => rfl
  | a :: r => by
    cases h : p a with
    | true => simp [List.takeWhile_cons, List.dropWhile_cons, h, takeW_drop p r]
    | false => simp [List.takeWhile_cons, List.dropWhile_cons, h]
theorem lstrip_st (c : Nat) (l : List Nat) : Txt.lstripChars (St l) (St [c]) = St (l.dropWhile (· == c)) := by
  unfold Txt.lstripChars
  rw [goes_eq]
  have e : PySem.stripped (fun d => d == c) true false (St l) = St (l.dropWhile (· == c)) := by
    unfold PySem.stripped
    rw [strSub_st]
    congr 1
    simp only [stripLo, stripHi, _root_.if_true, Bool.false_eq_true, _root_.if_false, st_len]
    rw [List.take_of_length_le (by rw [List.length_drop]; omega)]
    exact takeW_drop _ l
  unfold Txt.stripBy
  split
  · rename_i h
    rw [← e]
    unfold stripSame at h
    unfold PySem.stripped
    rw [Bool.and_eq_true, beq_iff_eq, beq_iff_eq] at h
    rw [h.2, h.1, strSub_st, st_len]
    simp
  · exact e
theorem rstrip_st (c : Nat) (l : List Nat) : Txt.rstripChars (St l) (St [c]) = St (l.reverse.dropWhile (· == c)).reverse := by
  unfold Txt.rstripChars
  rw [goes_eq]
  have e : PySem.stripped (fun d => d == c) false true (St l) = St (l.reverse.dropWhile (· == c)).reverse := by
    unfold PySem.stripped
    rw [strSub_st]
    congr 1
    simp only [stripLo, stripHi, _root_.if_true, Bool.false_eq_true, _root_.if_false, st_len, List.drop_zero, Nat.sub_zero]
    rw [← takeW_drop (· == c) l.reverse, List.drop_reverse, List.reverse_reverse]
  unfold Txt.stripBy
  split
  · rename_i h
    rw [← e]
    unfold stripSame at h
    unfold PySem.stripped
    rw [Bool.and_eq_true, beq_iff_eq, beq_iff_eq] at h
    rw [h.2, h.1, strSub_st, st_len]
    simp
  · exact e
/-- a path as the part up to its last slash and what comes after it -/
structure HZ (h z : List Nat) : Prop where
  free : 47 ∉ z
  head : h = [] ∨ ∃ k, h = k ++ [47]
theorem hz_rfind {h z : List Nat} (H : HZ h z) : Txt.rfind (St (h ++ z)) (St [47]) + 1 = (h.length : Int) := by
  rcases H.head with rfl | ⟨k, rfl⟩
  · rw [List.nil_append, rfind_no _ _ H.free]; rfl
  · rw [List.append_assoc, show [47] ++ z = 47 :: z from rfl, rfind_at _ _ _ H.free]; simp
theorem hz_head {h z : List Nat} (H : HZ h z) : headRaw (St (h ++ z)) = St h := by
  show Txt.slice (St (h ++ z)) none (some (Txt.rfind (St (h ++ z)) (St [47]) + 1)) = _
  rw [hz_rfind H, slice_pre]
theorem hz_tail {h z : List Nat} (H : HZ h z) : tailF (St (h ++ z)) = St z := by
  show Txt.slice (St (h ++ z)) (some (Txt.rfind (St (h ++ z)) (St [47]) + 1)) none = _
  rw [hz_rfind H, slice_post]
/-- every path falls apart so -/
noncomputable def preL (I : List (List Nat)) : List Nat := (I.map (· ++ [47])).flatten
theorem jn_pre (z : List Nat) : ∀ I : List (List Nat), jnL 47 (I ++ [z]) = preL I ++ z
  | [] => rfl
  | p :: I => by
    rw [List.cons_append, jnL_cons _ _ (by simp), jn_pre z I]
    simp [preL]
theorem pre_head : ∀ I : List (List Nat), preL I = [] ∨ ∃ k, preL I = k ++ [47] := by
  intro I
  rcases List.eq_nil_or_concat I with rfl | ⟨J, p, rfl⟩
  · exact .inl rfl
  · refine .inr ⟨preL J ++ p, ?_⟩
    simp [preL]
theorem path_split (l : List Nat) : ∃ I z, spL 47 l = I ++ [z] ∧ l = preL I ++ z ∧ HZ (preL I) z := by
  rcases List.eq_nil_or_concat (spL 47 l) with h | ⟨I, z, h⟩
  · exact absurd h (spL_ne _ _)
  · have h' : spL 47 l = I ++ [z] := by rw [h]; simp
    refine ⟨I, z, h', ?_, ⟨spL_free 47 l z (by rw [h']; simp), pre_head I⟩⟩
    rw [← jn_pre, ← h', jnL_spL]
theorem split_pre {I : List (List Nat)} {z : List Nat} (h1 : ∀ p ∈ I, 47 ∉ p) (h2 : 47 ∉ z) : spL 47 (preL I ++ z) = I ++ [z] := by
  rw [← jn_pre]
  refine spL_jnL 47 _ (by simp) fun p hp => ?_
  rcases List.mem_append.mp hp with hp | hp
  · exact h1 p hp
  · rw [List.mem_singleton.mp hp]; exact h2
end Mine
end

section -- Z4
open PySem PySem.W PyProof.Rows PySem.Calls PySem.Builtin PySem.Builtin.Str PySem.StrLaws
set_option Elab.async false
namespace Mine
noncomputable def dgL (i : Int) : List Nat := (Str.ofString (toString i)).cps.toList
noncomputable abbrev sfx (i : Int) (y : List Nat) : List Nat := 58 :: (dgL i ++ 40 :: (y ++ [41]))
structure NameOk (y : List Nat) : Prop where
  n47 : 47 ∉ y
  n58 : 58 ∉ y
  n40 : 40 ∉ y
theorem name_ok {y : Str} (h : y ∈ names8) : NameOk y.cps.toList := by
  unfold names8 at h
  simp only [List.mem_cons, List.not_mem_nil, or_false] at h
  rcases h with rfl | rfl | rfl | rfl | rfl | rfl | rfl | rfl <;> exact ⟨by decide, by decide, by decide⟩
structure LineOk (i : Int) : Prop where
  n47 : 47 ∉ dgL i
  n58 : 58 ∉ dgL i
  n40 : 40 ∉ dgL i
  n46 : 46 ∉ dgL i
theorem line_ok {i : Int} (h : i = 0 ∨ i = 7 ∨ i = 12 ∨ i = -3) : LineOk i := by
  rcases h with rfl | rfl | rfl | rfl <;> exact ⟨by decide, by decide, by decide, by decide⟩
theorem text_st (p : List Nat) (i : Int) (y : List Nat) : textF (St p) i (St y) = St (p ++ sfx i y) := by
  unfold textF
  rw [st_of (Str.ofString (toString i))]
  show St p ++ St [58] ++ St (dgL i) ++ St [40] ++ St y ++ St [41] = _
  simp only [st_app]
  congr 1
  simp [sfx]
theorem read_st {p y : List Nat} {i : Int} (hi : LineOk i) (hy : NameOk y) :
    rd1 (St (p ++ sfx i y)) = St p ∧ rd2 (St (p ++ sfx i y)) = St (dgL i) ∧ rd3 (St (p ++ sfx i y)) = St y ∧ rd4 (St (p ++ sfx i y)) = St [41] := by
  have e0 : rdO (St (p ++ sfx i y)) = ((p ++ 58 :: dgL i).length : Int) := by
    have e : p ++ sfx i y = (p ++ 58 :: dgL i) ++ 40 :: (y ++ [41]) := by simp [sfx]
    show Txt.rfind (St (p ++ sfx i y)) (St [40]) = _
    rw [e, rfind_at _ _ _ (by simp [hy.n40])]
  have e1 : rdC (St (p ++ sfx i y)) = (p.length : Int) := by
    show Txt.rfind (Txt.slice (St (p ++ sfx i y)) none (some (rdO (St (p ++ sfx i y))))) (St [58]) = _
    rw [e0]
    have e : p ++ sfx i y = (p ++ 58 :: dgL i) ++ 40 :: (y ++ [41]) := by simp [sfx]
    rw [e, slice_pre, rfind_at _ _ _ hi.n58]
  refine ⟨?_, ?_, ?_, ?_⟩
  · show Txt.slice _ none (some (rdC _)) = _
    rw [e1, slice_pre]
  · show Txt.slice _ (some (rdC _ + 1)) (some (rdO _)) = _
    rw [e1, e0]
    have e : p ++ sfx i y = (p ++ [58]) ++ (dgL i ++ 40 :: (y ++ [41])) := by simp [sfx]
    have e2 : (p.length : Int) + 1 = ((p ++ [58]).length : Int) := by simp
    have e3 : ((p ++ 58 :: dgL i).length : Int) = (((p ++ [58]).length + (dgL i).length : Nat) : Int) := by simp; omega
    rw [e2, e3, e, slice_mid]
  · show Txt.slice _ (some (rdO _ + 1)) (some (-1)) = _
    rw [e0]
    have e : p ++ sfx i y = (p ++ 58 :: dgL i ++ [40]) ++ (y ++ [41]) := by simp [sfx]
    have e2 : ((p ++ 58 :: dgL i).length : Int) + 1 = ((p ++ 58 :: dgL i ++ [40]).length : Int) := by simp; omega
    have h := slice_neg_to (p ++ 58 :: dgL i ++ [40]) y [41] (by simp)
    rw [e2, e]
    exact h
  · show Txt.slice _ (some (-1)) none = _
    have e : p ++ sfx i y = (p ++ 58 :: (dgL i ++ 40 :: y)) ++ [41] := by simp [sfx]
    have h := slice_neg_from (p ++ 58 :: (dgL i ++ 40 :: y)) [41] (by simp)
    rw [e]
    exact h
theorem f1_st {p y : List Nat} {i : Int} (hi : LineOk i) (hy : NameOk y) :
    (rd1 (St (p ++ sfx i y)) == St p && (rd2 (St (p ++ sfx i y)) == Str.ofString (toString i) && (rd3 (St (p ++ sfx i y)) == St y && rd4 (St (p ++ sfx i y)) == Str.ofString ")"))) = true := by
  obtain ⟨h1, h2, h3, h4⟩ := read_st (p := p) hi hy
  rw [h1, h2, h3, h4, st_of (Str.ofString (toString i))]
  show (St p == St p && (St (dgL i) == St (dgL i) && (St y == St y && St [41] == St [41]))) = true
  simp
/-- rooted or not -/
theorem first_st (l : List Nat) : (Txt.slice (St l) none (some 1) == Str.ofString "/") = (l.head? == some 47) := by
  show (Txt.slice (St l) none (some 1) == St [47]) = _
  cases l with
  | nil => rfl
  | cons d r =>
    have h := slice_to (d :: r) (b := 1) (by simp)
    have h' : Txt.slice (St (d :: r)) none (some 1) = St [d] := by simpa using h
    rw [h', st_beq]
    simp
theorem starts_text {p s : List Nat} (hs : s.head? = some 58) : Txt.startswith (St (p ++ s)) (Str.ofString "/") = (Txt.slice (St p) none (some 1) == Str.ofString "/") := by
  rw [first_st]
  show Txt.startswith (St (p ++ s)) (St [47]) = _
  rw [starts_one]
  cases p with
  | nil =>
    show (s.head? == some 47) = _
    rw [hs]; rfl
  | cons d r => rfl
end Mine
end

section -- Z5
open PySem PySem.W PyProof.Rows PySem.Calls PySem.Builtin PySem.Builtin.Str PySem.StrLaws
set_option Elab.async false
namespace Mine
theorem fold_one9 (c : Nat) : ∀ (n : Nat) (acc : List Nat), (List.replicate n (St [c]).cps).foldl (· ++ ·) acc.toArray = (acc ++ List.replicate n c).toArray
  | 0, acc => by simp
  | n + 1, acc => by
    rw [List.replicate_succ, List.foldl_cons]
    have e : acc.toArray ++ (St [c]).cps = (acc ++ [c]).toArray := by simp
    rw [e, fold_one9 c n (acc ++ [c])]
    simp [List.replicate_succ]
theorem mul_st (c n : Nat) : Txt.mul (St [c]) (n : Int) = St (List.replicate n c) := by
  unfold Txt.mul
  split
  · have : n = 0 := by omega
    subst this; rfl
  · split
    · rename_i h
      have h' : n = 1 := by
        have : ((St [c]).length == 0) = false := rfl
        rw [this, Bool.or_false, beq_iff_eq] at h
        omega
      subst h'; rfl
    · have h := fold_one9 c n []
      show (⟨(List.replicate (n : Int).toNat (St [c]).cps).foldl (· ++ ·) #[]⟩ : Str) = _
      rw [Int.toNat_natCast]
      exact congrArg Str.mk (by simpa using h)
theorem all_rep {c : Nat} : ∀ {l : List Nat}, l.dropWhile (· == c) = [] → l = List.replicate l.length c
  | [], _ => rfl
  | d :: r, h => by
    by_cases hd : d = c
    · subst hd
      have h' : r.dropWhile (· == d) = [] := by simpa using h
      rw [List.length_cons, List.replicate_succ, ← all_rep h']
    · exfalso
      have : (d == c) = false := by simpa using hd
      simp [List.dropWhile_cons, this] at h
theorem rep_drop (c n : Nat) : (List.replicate n c).dropWhile (· == c) = [] := by
  induction n with
  | zero => rfl
  | succ n ih => simp [List.replicate_succ, ih]
noncomputable abbrev rsL (h : List Nat) : List Nat := (h.reverse.dropWhile (· == 47)).reverse
noncomputable def foldL (h : List Nat) : List Nat := if rsL h = [] then h else rsL h
theorem rs_nil {h : List Nat} : rsL h = [] ↔ h = List.replicate h.length 47 := by
  unfold rsL
  rw [List.reverse_eq_nil_iff]
  constructor
  · intro q
    have := all_rep q
    have h2 := congrArg List.reverse this
    simpa using h2
  · intro q
    rw [q, List.reverse_replicate]
    exact rep_drop _ _
theorem fold_st (h : List Nat) : orS (Txt.rstripChars (St h) (Str.ofString "/")) (St h) = St (foldL h) := by
  have e : Txt.rstripChars (St h) (Str.ofString "/") = St (rsL h) := rstrip_st 47 h
  rw [e]
  unfold orS foldL
  rw [st_len]
  by_cases q : rsL h = []
  · rw [if_pos q, if_neg (by rw [q]; simp)]
  · rw [if_neg q, if_pos (by simpa using q)]
theorem head_st {h z : List Nat} (H : HZ h z) : headF (St (h ++ z)) = St (foldL h) := by
  have hr := hz_head H
  have hm : Txt.mul (Str.ofString "/") (headRaw (St (h ++ z))).length = St (List.replicate h.length 47) := by
    rw [hr, st_len]; exact mul_st 47 h.length
  have hs : Txt.rstripChars (headRaw (St (h ++ z))) (Str.ofString "/") = St (rsL h) := by rw [hr]; exact rstrip_st 47 h
  unfold headF
  rw [hm, hs, hr, st_len]
  unfold foldL
  by_cases q : rsL h = []
  · rw [if_pos q, if_neg]
    rintro ⟨_, h2⟩
    rw [← rs_nil.mp q] at h2
    simp at h2
  · rw [if_neg q, if_pos]
    refine ⟨fun q2 => q ?_, ?_⟩
    · have : h = [] := by simpa using q2
      subst this; rfl
    · rw [bne_iff_ne]
      intro q2
      exact q (rs_nil.mpr (st_inj q2))
theorem lastOf_st (I : List (List Nat)) (z : List Nat) : lastOf ((I ++ [z]).map St) = St z := by
  unfold lastOf
  simp
section
variable {I : List (List Nat)} {z p : List Nat}
theorem last_st (hs : spL 47 p = I ++ [z]) : lastP (St p) = St z := by
  show lastOf (Txt.split (St p) (St [47])) = _
  rw [split_st, hs, lastOf_st]
theorem own_st (hs : spL 47 p = I ++ [z]) (s : List Nat) : ownP (St p) (St (p ++ s)) = St (z ++ s) := by
  have h := last_st hs
  show lastP (St p) ++ Txt.slice (St (p ++ s)) (some ((St p).length : Int)) none = _
  rw [h, st_len, slice_post, st_app]
theorem headP_st (hs : spL 47 p = I ++ [z]) (hp : p = preL I ++ z) : headP (St p) = St (preL I) := by
  have h := last_st hs
  show Txt.slice (St p) none (some (((St p).length : Int) - ((lastP (St p)).length : Int))) = _
  rw [h, st_len, st_len]
  have e : ((p.length : Int) - (z.length : Int)) = ((preL I).length : Int) := by rw [hp]; simp
  rw [e, hp, slice_pre]
end
theorem sfx_free {i : Int} {y : List Nat} (hi : LineOk i) (hy : NameOk y) : 47 ∉ sfx i y := by
  simp [sfx, hi.n47, hy.n47]
theorem hz_app {h z s : List Nat} (H : HZ h z) (hs : 47 ∉ s) : HZ h (z ++ s) := ⟨fun q => (List.mem_append.mp q).elim H.free hs, H.head⟩
theorem tilde_built {y : Str} (h : y ∈ names8) : fssF (Str.ofString "~") 0 y = builtF y := by
  unfold names8 at h
  simp only [List.mem_cons, List.not_mem_nil, or_false] at h
  rcases h with rfl | rfl | rfl | rfl | rfl | rfl | rfl | rfl <;> decide
theorem fss_text {x y : Str} {i : Int} (h : ¬ ((x == Str.ofString "~") = true ∧ i = 0)) : fssF x i y = textF x i y := by
  unfold fssF
  rw [if_neg]
  intro q
  rw [Bool.and_eq_true] at q
  exact h ⟨q.1, by simpa using q.2⟩
end Mine
end

section -- Z6
open PySem PySem.W PyProof.Rows PySem.Calls PySem.Builtin PySem.Builtin.Str PySem.StrLaws
set_option Elab.async false
namespace Mine
theorem last_occ {c : Nat} : ∀ {z : List Nat}, c ∈ z → ∃ a b, z = a ++ c :: b ∧ c ∉ b
  | [], h => nomatch h
  | d :: r, h => by
    by_cases hr : c ∈ r
    · obtain ⟨a, b, e, hb⟩ := last_occ hr
      exact ⟨d :: a, b, by rw [e]; rfl, hb⟩
    · have : c = d := by
        rcases List.mem_cons.mp h with q | q
        · exact q
        · exact absurd q hr
      subst this
      exact ⟨[], r, rfl, hr⟩
theorem spL_glue (c : Nat) (b : List Nat) : ∀ w : List Nat, spL c (w ++ c :: b) = spL c w ++ spL c b
  | [] => by
    show spL c (c :: b) = [] :: spL c b
    exact if_pos rfl
  | d :: r => by
    have ih := spL_glue c b r
    show spL c (d :: (r ++ c :: b)) = _
    rw [spL, spL, ih]
    by_cases h : d = c
    · rw [if_pos h, if_pos h]; rfl
    · rw [if_neg h, if_neg h]
      cases hs : spL c r with
      | nil => exact absurd hs (spL_ne c r)
      | cons p q => rfl
theorem dropW_free {c : Nat} {b : List Nat} (h : c ∉ b) : b.dropWhile (· == c) = b := by
  cases b with
  | nil => rfl
  | cons d r =>
    have : (d == c) = false := by
      rw [beq_eq_false_iff_ne]
      exact fun q => h (by simp [q])
    simp [List.dropWhile_cons, this]
theorem dropW_app {c : Nat} (b : List Nat) : ∀ a : List Nat, a.dropWhile (· == c) ≠ [] → (a ++ b).dropWhile (· == c) = a.dropWhile (· == c) ++ b
  | [], h => absurd rfl h
  | d :: r, h => by
    by_cases hd : (d == c) = true
    · have e : (d :: r).dropWhile (· == c) = r.dropWhile (· == c) := by simp [List.dropWhile_cons, hd]
      rw [e] at h ⊢
      have e2 : (d :: r ++ b).dropWhile (· == c) = (r ++ b).dropWhile (· == c) := by simp [List.dropWhile_cons, hd]
      rw [e2, dropW_app b r h]
    · simp [List.dropWhile_cons, hd]
theorem dropW_all {c : Nat} (b : List Nat) : ∀ a : List Nat, a.dropWhile (· == c) = [] → (a ++ b).dropWhile (· == c) = b.dropWhile (· == c)
  | [], _ => rfl
  | d :: r, h => by
    by_cases hd : (d == c) = true
    · have e : (d :: r).dropWhile (· == c) = r.dropWhile (· == c) := by simp [List.dropWhile_cons, hd]
      rw [e] at h
      have e2 : (d :: r ++ b).dropWhile (· == c) = (r ++ b).dropWhile (· == c) := by simp [List.dropWhile_cons, hd]
      rw [e2, dropW_all b r h]
    · simp [List.dropWhile_cons, hd] at h
/-- the ending of a last piece -/
noncomputable def endL (z : List Nat) : List Nat := if 1 < (spL 46 (z.dropWhile (· == 46))).length then 46 :: ((spL 46 (z.dropWhile (· == 46))).getLast?).getD [] else []
theorem cutEnd_st (z : List Nat) : cutEnd (St z) = St (endL z) := by
  have e : Txt.split (Txt.lstripChars (St z) (Str.ofString ".")) (Str.ofString ".") = (spL 46 (z.dropWhile (· == 46))).map St := by
    have h := lstrip_st 46 z
    show Txt.split (Txt.lstripChars (St z) (St [46])) (St [46]) = _
    rw [h, split_st]
  unfold cutEnd endL
  rw [e, List.length_map]
  split
  · rw [List.getLast?_map]
    cases h : (spL 46 (z.dropWhile (· == 46))).getLast? with
    | none => exact absurd (List.getLast?_eq_none_iff.mp h) (spL_ne _ _)
    | some w =>
      show St [46] ++ St w = _
      rw [st_app]; rfl
  · rfl
theorem endL_no {z : List Nat} (h : 46 ∉ z) : endL z = [] := by
  unfold endL
  rw [dropW_free h, spL_jn1 46 z h, if_neg (by simp)]
theorem endL_dots {a b : List Nat} (hb : 46 ∉ b) (ha : a.dropWhile (· == 46) = []) : endL (a ++ 46 :: b) = [] := by
  have e : (a ++ 46 :: b).dropWhile (· == 46) = b := by
    rw [dropW_all _ a ha]
    have : (46 :: b).dropWhile (· == 46) = b.dropWhile (· == 46) := by simp [List.dropWhile_cons]
    rw [this, dropW_free hb]
  unfold endL
  rw [e, spL_jn1 46 b hb, if_neg (by simp)]
theorem endL_ext {a b : List Nat} (hb : 46 ∉ b) (ha : a.dropWhile (· == 46) ≠ []) : endL (a ++ 46 :: b) = 46 :: b := by
  have e : (a ++ 46 :: b).dropWhile (· == 46) = a.dropWhile (· == 46) ++ 46 :: b := dropW_app _ a ha
  unfold endL
  rw [e, spL_glue, spL_jn1 46 b hb]
  have : 0 < (spL 46 (a.dropWhile (· == 46))).length := List.length_pos_iff.mpr (spL_ne _ _)
  rw [if_pos (by simp; omega)]
  simp
end Mine
end

section -- Z7
open PySem PySem.W PyProof.Rows PySem.Calls PySem.Builtin PySem.Builtin.Str PySem.StrLaws
set_option Elab.async false
namespace Mine
theorem char_at (h z : List Nat) (n : Nat) (hn : n < z.length) : Txt.slice (St (h ++ z)) (some ((h.length : Int) + 1 * (n : Int))) (some ((h.length : Int) + 1 * (n : Int) + 1)) = St [z[n]] := by
  have e1 : (h.length : Int) + 1 * (n : Int) = ((h.length + n : Nat) : Int) := by push_cast; omega
  have e2 : (h.length : Int) + 1 * (n : Int) + 1 = ((h.length + n + 1 : Nat) : Int) := by push_cast; omega
  rw [e2, e1, slice_nat _ (by omega) (by simp only [List.length_append]; omega)]
  congr 1
  have e3 : h.length + n + 1 - (h.length + n) = 1 := by omega
  rw [e3, List.drop_append, List.drop_of_length_le (by omega), List.nil_append]
  have e4 : h.length + n - h.length = n := by omega
  rw [e4, List.take_one]
  simp [hn]
theorem dropW_ne {c : Nat} : ∀ {a : List Nat}, a.dropWhile (· == c) ≠ [] → ∃ n, ∃ h : n < a.length, a[n] ≠ c
  | [], h => absurd rfl h
  | d :: r, h => by
    by_cases hd : d = c
    · have e : (d :: r).dropWhile (· == c) = r.dropWhile (· == c) := by simp [List.dropWhile_cons, hd]
      rw [e] at h
      obtain ⟨n, hn, hv⟩ := dropW_ne h
      exact ⟨n + 1, by simp; omega, by simpa using hv⟩
    · exact ⟨0, by simp, by simpa using hd⟩
theorem dot_head {h : List Nat} (hh : h = [] ∨ ∃ k, h = k ++ [47]) {z : List Nat} (hz : 46 ∉ z) : Txt.rfind (St (h ++ z)) (St [46]) + 1 ≤ (h.length : Int) - 1 ∨ Txt.rfind (St (h ++ z)) (St [46]) = -1 := by
  by_cases hm : 46 ∈ h
  · left
    obtain ⟨a, b, e, hb⟩ := last_occ hm
    have hbz : 46 ∉ b ++ z := fun q => (List.mem_append.mp q).elim hb hz
    have e2 : h ++ z = a ++ 46 :: (b ++ z) := by rw [e]; simp
    rw [e2, rfind_at _ _ _ hbz]
    rcases hh with rfl | ⟨k, rfl⟩
    · simp at hm
    · cases hb' : b with
      | nil =>
        exfalso
        rw [hb'] at e
        have := congrArg List.getLast? e
        simp at this
      | cons d r =>
        have := congrArg List.length e
        rw [hb'] at this
        simp at this ⊢
        omega
  · right
    rw [rfind_no _ _ (fun q => (List.mem_append.mp q).elim hm hz)]
theorem ext_st {h z : List Nat} (H : HZ h z) : extF (St (h ++ z)) = (St ((h ++ z).take ((h ++ z).length - (endL z).length)), St (endL z)) := by
  have hs := hz_rfind H
  have hs' : Txt.rfind (St (h ++ z)) (Str.ofString "/") = (h.length : Int) - 1 := by
    show Txt.rfind (St (h ++ z)) (St [47]) = _
    omega
  have nop : ¬ extP (St (h ++ z)) → endL z = [] → extF (St (h ++ z)) = (St ((h ++ z).take ((h ++ z).length - (endL z).length)), St (endL z)) := by
    intro hn he
    rw [extF_2 hn, he]
    have e0 : Txt.slice (St (h ++ z)) none (some 0) = St [] := slice_to (h ++ z) (b := 0) (Nat.zero_le _)
    have e1 : (h ++ z).take ((h ++ z).length - ([] : List Nat).length) = h ++ z := List.take_of_length_le (by simp)
    rw [e0, e1]
  by_cases hm : 46 ∈ z
  · obtain ⟨a, b, e, hb⟩ := last_occ hm
    have ez : h ++ z = (h ++ a) ++ 46 :: b := by rw [e]; simp
    have hd : Txt.rfind (St (h ++ z)) (Str.ofString ".") = ((h ++ a).length : Int) := by
      show Txt.rfind (St (h ++ z)) (St [46]) = _
      rw [ez, rfind_at _ _ _ hb]
    by_cases ha : a.dropWhile (· == 46) = []
    · refine nop ?_ (by rw [e]; exact endL_dots hb ha)
      rintro ⟨_, n, h1, h2⟩
      rw [hs', hd] at h1
      rw [hs'] at h2
      have hn : n < a.length := by simp at h1; omega
      have e1 : ((h.length : Int) - 1 + 1) = (h.length : Int) := by omega
      rw [e1, char_at h z n (by rw [e]; simp; omega)] at h2
      have hz46 : z[n]'(by rw [e]; simp; omega) = 46 := by
        have hr := all_rep ha
        have : z[n]? = some 46 := by
          rw [e, List.getElem?_append_left hn, hr]
          simp [hn]
        rw [List.getElem?_eq_getElem (by rw [e]; simp; omega)] at this
        exact Option.some.inj this
      rw [hz46] at h2
      exact absurd h2 (by decide)
    · have hx : extP (St (h ++ z)) := by
        obtain ⟨n, hn, hv⟩ := dropW_ne ha
        refine ⟨by rw [hs', hd]; simp; omega, n, by rw [hs', hd]; simp; omega, ?_⟩
        rw [hs']
        have e1 : ((h.length : Int) - 1 + 1) = (h.length : Int) := by omega
        rw [e1, char_at h z n (by rw [e]; simp; omega), bne_iff_ne]
        intro q
        have q2 := st_inj (show St [z[n]'(by rw [e]; simp; omega)] = St [46] from q)
        have q3 : z[n]'(by rw [e]; simp; omega) = 46 := by simpa using q2
        have q4 : z[n]? = a[n]? := by rw [e, List.getElem?_append_left hn]
        rw [List.getElem?_eq_getElem (by rw [e]; simp; omega), List.getElem?_eq_getElem hn, q3] at q4
        exact hv (Option.some.inj q4).symm
      rw [extF_1 hx, hd]
      have he : endL z = 46 :: b := by rw [e]; exact endL_ext hb ha
      rw [he, ez, slice_pre, slice_post]
      congr 2
      have e5 : ((h ++ a) ++ 46 :: b).length - (46 :: b).length = (h ++ a).length := by simp; omega
      rw [e5, List.take_left]
  · refine nop ?_ (endL_no hm)
    rintro ⟨h1, _⟩
    rw [hs'] at h1
    have h2 : Txt.rfind (St (h ++ z)) (Str.ofString ".") = Txt.rfind (St (h ++ z)) (St [46]) := rfl
    rw [h2] at h1
    rcases dot_head H.head hm with q | q <;> omega
theorem cutF_st (x z : List Nat) (hz : (endL z).length ≤ x.length) : cutF (St x) (St z) = St (x.take (x.length - (endL z).length)) := by
  unfold cutF
  rw [cutEnd_st, st_len, st_len]
  have e : (x.length : Int) - ((endL z).length : Int) = ((x.length - (endL z).length : Nat) : Int) := by omega
  rw [e, slice_to _ (by omega)]
theorem endL_le (z : List Nat) : (endL z).length ≤ z.length := by
  by_cases hm : 46 ∈ z
  · obtain ⟨a, b, e, hb⟩ := last_occ hm
    by_cases ha : a.dropWhile (· == 46) = []
    · rw [e, endL_dots hb ha]; simp
    · rw [e, endL_ext hb ha]; simp
  · rw [endL_no hm]; simp
end Mine
end

section -- Z8
open PySem PySem.W PyProof.Rows PySem.Calls PySem.Builtin PySem.Builtin.Str PySem.StrLaws
set_option Elab.async false
namespace Mine
noncomputable abbrev dd : Str := Str.ofString ".."
structure Rel (free : Bool) (st : List Str) (pl : List Str × Int) : Prop where
  eq : st = List.replicate pl.2.toNat dd ++ pl.1
  nn : 0 ≤ pl.2
  names : ∀ c ∈ pl.1, c ≠ dd
  root : free = false → pl.2 = 0
theorem any3 (c : Str) : ([Str.ofString "", Str.ofString ".", Str.ofString ".."].any (· == c)) = (c == Str.ofString "" || (c == Str.ofString "." || c == dd)) := by
  simp only [List.any_cons, List.any_nil, Bool.or_false]
  rw [BEq.comm (a := Str.ofString ""), BEq.comm (a := Str.ofString "."), BEq.comm (a := Str.ofString "..")]
theorem len0 (c : Str) : (c.length : Int) = 0 ↔ c = Str.ofString "" := by
  rw [st_of c]
  constructor
  · intro h
    have : c.cps.toList = [] := by
      rw [st_len] at h
      exact List.eq_nil_of_length_eq_zero (by omega)
    rw [this]; rfl
  · intro h
    rw [h]; rfl
theorem rel_step {rootN rootL : Str} {st : List Str} {pl : List Str × Int} {free : Bool} (hN : (rootN.length : Int) = 0 ↔ free = true) (hL : (rootL == Str.ofString "") = free) (R : Rel free st pl) (c : Str) : Rel free (stepN rootN st c) (stepL rootL pl c) := by
  obtain ⟨names, ups⟩ := pl
  obtain ⟨rfl, nn, hn, hr⟩ := R
  dsimp only at nn hn hr ⊢
  by_cases c0 : c = Str.ofString ""
  · subst c0
    have e1 : stepN rootN (List.replicate ups.toNat dd ++ names) (Str.ofString "") = List.replicate ups.toNat dd ++ names := if_pos (.inl rfl)
    have e2 : stepL rootL (names, ups) (Str.ofString "") = (names, ups) := by
      unfold stepL
      rw [if_neg (fun h => absurd h.1 (by decide)), if_neg (fun h => absurd h.1 (by decide)), if_neg (by decide)]
    rw [e1, e2]
    exact ⟨rfl, nn, hn, hr⟩
  by_cases c1 : c = Str.ofString "."
  · subst c1
    have e1 : stepN rootN (List.replicate ups.toNat dd ++ names) (Str.ofString ".") = List.replicate ups.toNat dd ++ names := if_pos (.inr (by decide))
    have e2 : stepL rootL (names, ups) (Str.ofString ".") = (names, ups) := by
      unfold stepL
      rw [if_neg (fun h => absurd h.1 (by decide)), if_neg (fun h => absurd h.1 (by decide)), if_neg (by decide)]
    rw [e1, e2]
    exact ⟨rfl, nn, hn, hr⟩
  have n1 : ¬ ((c.length : Int) = 0 ∨ (c == Str.ofString ".") = true) := by
    rintro (h | h)
    · exact c0 ((len0 c).mp h)
    · exact c1 (by simpa using h)
  by_cases c2 : c = dd
  · subst c2
    by_cases hne : names = []
    · subst hne
      by_cases hf : free = true
      · have e2 : stepL rootL ([], ups) dd = ([], ups + 1) := by
          unfold stepL
          rw [if_neg (fun h => h.2 rfl), if_pos ⟨by decide, by rw [hL]; exact hf⟩]
        have e1 : stepN rootN (List.replicate ups.toNat dd ++ []) dd = List.replicate ups.toNat dd ++ [] ++ [dd] := by
          unfold stepN
          rw [if_neg n1, if_pos]
          right
          by_cases hu : ups.toNat = 0
          · left
            exact ⟨hN.mpr hf, by rw [hu]; rfl⟩
          · right
            obtain ⟨k, hk⟩ := Nat.exists_eq_succ_of_ne_zero hu
            refine ⟨dd, ?_, by decide⟩
            rw [hk, List.append_nil, List.replicate_succ']
            simp
        rw [e1, e2]
        refine ⟨?_, by dsimp only; omega, (fun c hc => nomatch hc), fun q => by rw [hf] at q; cases q⟩
        dsimp only
        have : (ups + 1).toNat = ups.toNat + 1 := by omega
        rw [this, List.replicate_succ']
        simp
      · have hf' : free = false := by simpa using hf
        have hu := hr hf'
        subst hu
        have e2 : stepL rootL ([], 0) dd = ([], 0) := by
          unfold stepL
          rw [if_neg (fun h => h.2 rfl), if_neg (fun h => by rw [hL, hf'] at h; exact absurd h.2 (by decide)), if_neg (by decide)]
        have e1 : stepN rootN (List.replicate (0 : Int).toNat dd ++ []) dd = [] := by
          unfold stepN
          rw [if_neg n1, if_neg]
          · rfl
          · rintro (h | ⟨h, _⟩ | ⟨y, h, _⟩)
            · exact absurd h (by decide)
            · exact hf (hN.mp h)
            · exact absurd h (by simp)
        rw [e1, e2]
        exact ⟨rfl, nn, hn, hr⟩
    · have e2 : stepL rootL (names, ups) dd = (names.dropLast, ups) := by
        unfold stepL
        rw [if_pos ⟨by decide, hne⟩]
      have e1 : stepN rootN (List.replicate ups.toNat dd ++ names) dd = (List.replicate ups.toNat dd ++ names).dropLast := by
        unfold stepN
        rw [if_neg n1, if_neg]
        rintro (h | ⟨_, h⟩ | ⟨y, h, hy⟩)
        · exact absurd h (by decide)
        · exact hne (List.append_eq_nil_iff.mp h).2
        · cases hg : names.getLast? with
          | none => exact hne (List.getLast?_eq_none_iff.mp hg)
          | some w =>
            rw [List.getLast?_append, hg] at h
            have hw : w = y := by simpa using h
            subst hw
            exact hn w (List.mem_of_getLast? hg) (by simpa using hy)
      rw [e1, e2]
      refine ⟨?_, nn, fun c hc => hn c (List.dropLast_subset _ hc), hr⟩
      dsimp only
      rw [List.dropLast_append_of_ne_nil hne]
  · have e2 : stepL rootL (names, ups) c = (names ++ [c], ups) := by
      have hcd : (c == Str.ofString "..") = false := beq_eq_false_iff_ne.mpr c2
      unfold stepL
      rw [if_neg (fun h => by rw [hcd] at h; exact absurd h.1 (by decide)), if_neg (fun h => by rw [hcd] at h; exact absurd h.1 (by decide)), if_pos]
      rw [any3, beq_eq_false_iff_ne.mpr c0, beq_eq_false_iff_ne.mpr c1, beq_eq_false_iff_ne.mpr c2]
      rfl
    have e1 : stepN rootN (List.replicate ups.toNat dd ++ names) c = List.replicate ups.toNat dd ++ names ++ [c] := by
      unfold stepN
      rw [if_neg n1, if_pos (.inl (bne_iff_ne.mpr c2))]
    rw [e1, e2]
    refine ⟨by dsimp only; rw [List.append_assoc], nn, fun d hd => ?_, hr⟩
    rcases List.mem_append.mp hd with h | h
    · exact hn d h
    · rw [List.mem_singleton.mp h]; exact c2
theorem rel_fold {rootN rootL : Str} {free : Bool} (hN : (rootN.length : Int) = 0 ↔ free = true) (hL : (rootL == Str.ofString "") = free) : ∀ (cs : List Str) (st : List Str) (pl : List Str × Int), Rel free st pl → Rel free (cs.foldl (stepN rootN) st) (cs.foldl (stepL rootL) pl)
  | [], _, _, R => R
  | c :: cs, st, pl, R => rel_fold hN hL cs _ _ (rel_step hN hL R c)
theorem rel_start {free : Bool} : Rel free [] ([], 0) := ⟨rfl, Int.le_refl _, (fun _ h => nomatch h), fun _ => rfl⟩
end Mine
end

section -- Z9
open PySem PySem.W PyProof.Rows PySem.Calls PySem.Builtin PySem.Builtin.Str PySem.StrLaws
set_option Elab.async false
namespace Mine
theorem lead (l : List Nat) : ∃ k, l = List.replicate k 47 ++ l.dropWhile (· == 47) ∧ (l.dropWhile (· == 47)).head? ≠ some 47 := by
  induction l with
  | nil => exact ⟨0, rfl, by simp⟩
  | cons d r ih =>
    by_cases hd : d = 47
    · subst hd
      obtain ⟨k, h1, h2⟩ := ih
      have e : (47 :: r).dropWhile (· == 47) = r.dropWhile (· == 47) := by simp [List.dropWhile_cons]
      rw [e]
      refine ⟨k + 1, ?_, h2⟩
      rw [List.replicate_succ, List.cons_append, ← h1]
    · have e : (d :: r).dropWhile (· == 47) = d :: r := by
        have : (d == 47) = false := by simpa using hd
        simp [List.dropWhile_cons, this]
      rw [e]
      exact ⟨0, rfl, by simpa using hd⟩
noncomputable def rkL (k : Nat) : List Nat := if k < 3 then List.replicate k 47 else [47]
theorem spL_lead (t : List Nat) : ∀ j, spL 47 (List.replicate j 47 ++ t) = List.replicate j [] ++ spL 47 t
  | 0 => rfl
  | j + 1 => by
    rw [List.replicate_succ, List.replicate_succ, List.cons_append, List.cons_append, ← spL_lead t j]
    exact if_pos rfl
theorem stepN_nil (root : Str) (st : List Str) : stepN root st (St []) = st := if_pos (.inl rfl)
theorem stepL_nil (root : Str) (st : List Str × Int) : stepL root st (St []) = st := by
  unfold stepL
  rw [if_neg (fun h => absurd h.1 (by decide)), if_neg (fun h => absurd h.1 (by decide)), if_neg (by decide)]
theorem foldN_lead (root : Str) (cs : List Str) : ∀ (j : Nat) (st : List Str), (List.replicate j (St []) ++ cs).foldl (stepN root) st = cs.foldl (stepN root) st
  | 0, _ => rfl
  | j + 1, st => by
    rw [List.replicate_succ, List.cons_append, List.foldl_cons, stepN_nil, foldN_lead root cs j st]
theorem foldL_lead (root : Str) (cs : List Str) : ∀ (j : Nat) (st : List Str × Int), (List.replicate j (St []) ++ cs).foldl (stepL root) st = cs.foldl (stepL root) st
  | 0, _ => rfl
  | j + 1, st => by
    rw [List.replicate_succ, List.cons_append, List.foldl_cons, stepL_nil, foldL_lead root cs j st]
theorem split_lead (j : Nat) (t : List Nat) : Txt.split (St (List.replicate j 47 ++ t)) (Str.ofString "/") = List.replicate j (St []) ++ (spL 47 t).map St := by
  show Txt.split _ (St [47]) = _
  rw [split_st, spL_lead, List.map_append, List.map_replicate]
theorem one_st (l : List Nat) (n : Nat) (hn : n < l.length) : Txt.slice (St l) (some (n : Int)) (some ((n : Int) + 1)) = St [l[n]] := by
  have e2 : (n : Int) + 1 = ((n + 1 : Nat) : Int) := by push_cast; rfl
  rw [e2, slice_nat _ (by omega) (by omega)]
  congr 1
  have e3 : n + 1 - n = 1 := by omega
  rw [e3, List.take_one]
  simp [hn]
theorem rootF_st {k : Nat} {t : List Nat} (ht : t.head? ≠ some 47) : ∃ j, rootF (St (List.replicate k 47 ++ t)) = (St (rkL k), St (List.replicate j 47 ++ t)) := by
  have hne : ∀ n (l : List Nat) (_ : l.head? ≠ some 47) (m : Nat), m = n → (Txt.slice (St (List.replicate n 47 ++ l)) (some (m : Int)) (some ((m : Int) + 1)) == Str.ofString "/") = false := by
    rintro n l hl m rfl
    show (_ == St [47]) = false
    cases l with
    | nil =>
      have e : Txt.slice (St (List.replicate m 47 ++ [])) (some (m : Int)) (some ((m : Int) + 1)) = St [] := by
        have h1 : (m : Int) + 1 = ((m + 1 : Nat) : Int) := by push_cast; rfl
        have hle := Txt.slice_le (St (List.replicate m 47 ++ [])) (some (m : Int)) (some ((m : Int) + 1))
        unfold Txt.slice
        rw [h1, st_len]
        have : strSliceIndices (some (m : Int)) (some ((m + 1 : Nat) : Int)) 1 (List.replicate m 47 ++ []).length = [] := by
          simp only [strSliceIndices, sliceRange]
          simp [show ¬ ((m : Int) < 0) by omega, show ¬ ((m : Int) + 1 < 0) by omega]
          split <;> omega
        rw [this]
        by_cases hm : m = 0
        · subst hm; rfl
        · rw [if_neg (by simp; omega)]; rfl
      rw [e, st_beq]; rfl
    | cons d r =>
      rw [one_st _ m (by simp)]
      rw [st_beq]
      have : (List.replicate m 47 ++ d :: r)[m]'(by simp) = d := by simp
      rw [this]
      have : d ≠ 47 := fun q => hl (by simp [q])
      simpa using this
  have hyes : ∀ (n m : Nat), m < n → (Txt.slice (St (List.replicate n 47 ++ t)) (some (m : Int)) (some ((m : Int) + 1)) == Str.ofString "/") = true := by
    intro n m hm
    show (_ == St [47]) = true
    rw [one_st _ m (by simp; omega), st_beq]
    have : (List.replicate n 47 ++ t)[m]'(by simp; omega) = 47 := by
      rw [List.getElem_append_left (by simpa using hm)]
      simp
    rw [this]; rfl
  have h1 : ∀ n, (Txt.slice (St (List.replicate (n + 1) 47 ++ t)) none (some 1) == Str.ofString "/") = true := fun n => by
    rw [first_st, List.replicate_succ]; rfl
  match k with
  | 0 =>
    refine ⟨0, ?_⟩
    have h0 : (Txt.slice (St (List.replicate 0 47 ++ t)) none (some 1) == Str.ofString "/") = false := by
      rw [first_st]
      exact beq_eq_false_iff_ne.mpr ht
    exact rootF_1 (by rw [bne, h0]; rfl)
  | 1 =>
    refine ⟨0, ?_⟩
    have a1 := h1 0
    have a2 : (Txt.slice (St (List.replicate 1 47 ++ t)) (some 1) (some 2) == Str.ofString "/") = false := hne 1 t ht 1 rfl
    rw [rootF_2 (by rw [bne, a1]; rfl) (by rw [bne, a2]; rfl)]
    have e : Txt.slice (St (List.replicate 1 47 ++ t)) (some 1) none = St t := slice_post [47] t
    rw [e]; rfl
  | 2 =>
    refine ⟨0, ?_⟩
    have a1 := h1 1
    have a2 : (Txt.slice (St (List.replicate 2 47 ++ t)) (some 1) (some 2) == Str.ofString "/") = true := hyes 2 1 (by omega)
    have a3 : (Txt.slice (St (List.replicate 2 47 ++ t)) (some 2) (some 3) == Str.ofString "/") = false := hne 2 t ht 2 rfl
    rw [rootF_4 (by rw [bne, a1]; rfl) (by rw [bne, a2]; rfl) a3]
    have e : Txt.slice (St (List.replicate 2 47 ++ t)) (some 2) none = St t := slice_post [47, 47] t
    have e2 : Txt.slice (St (List.replicate 2 47 ++ t)) none (some 2) = St [47, 47] := slice_pre [47, 47] t
    rw [e, e2]; rfl
  | n + 3 =>
    refine ⟨n + 2, ?_⟩
    have a1 := h1 (n + 2)
    have a2 : (Txt.slice (St (List.replicate (n + 3) 47 ++ t)) (some 1) (some 2) == Str.ofString "/") = true := hyes (n + 3) 1 (by omega)
    have a3 : (Txt.slice (St (List.replicate (n + 3) 47 ++ t)) (some 2) (some 3) == Str.ofString "/") = true := hyes (n + 3) 2 (by omega)
    rw [rootF_3 (by rw [bne, a1]; rfl) (by rw [bne, a2]; rfl) a3]
    have e : Txt.slice (St (List.replicate (n + 3) 47 ++ t)) (some 1) none = St (List.replicate (n + 2) 47 ++ t) := by
      have := slice_post [47] (List.replicate (n + 2) 47 ++ t)
      exact this
    rw [e]
    have e2 : rkL (n + 3) = [47] := if_neg (by omega)
    rw [e2]; rfl
theorem rootRaw_st (k : Nat) {t : List Nat} (ht : t.head? ≠ some 47) : rootRaw (St (List.replicate k 47 ++ t)) = St (List.replicate k 47) := by
  have hd : (List.replicate k 47 ++ t).dropWhile (· == 47) = t := by
    rw [dropW_all t _ (rep_drop 47 k)]
    cases t with
    | nil => rfl
    | cons d r =>
      have : (d == 47) = false := by
        rw [beq_eq_false_iff_ne]
        exact fun q => ht (by simp [q])
      simp [List.dropWhile_cons, this]
  have e : Txt.lstripChars (St (List.replicate k 47 ++ t)) (Str.ofString "/") = St t := by
    have := lstrip_st 47 (List.replicate k 47 ++ t)
    rw [hd] at this
    exact this
  show Txt.slice _ none (some (((St (List.replicate k 47 ++ t)).length : Int) - ((Txt.lstripChars (St (List.replicate k 47 ++ t)) (Str.ofString "/")).length : Int))) = _
  rw [e, st_len, st_len]
  have e2 : (((List.replicate k 47 ++ t).length : Int) - (t.length : Int)) = ((List.replicate k 47).length : Int) := by simp
  rw [e2, slice_pre]
end Mine
end

section -- Z10
open PySem PySem.W PyProof.Rows PySem.Calls PySem.Builtin PySem.Builtin.Str PySem.StrLaws
set_option Elab.async false
namespace Mine
/-- the names that are left, with their `..`s -/
noncomputable def namesN (k : Nat) (t : List Nat) : List Str := ((spL 47 t).map St).foldl (stepN (St (rkL k))) []
theorem rk_free (k : Nat) : ((St (rkL k)).length : Int) = 0 ↔ (k == 0) = true := by
  rw [st_len]
  unfold rkL
  split
  · rw [List.length_replicate]; simp
  · simp; omega
theorem rep_free (k : Nat) : (St (List.replicate k 47) == Str.ofString "") = (k == 0) := by
  show (St _ == St []) = _
  rw [st_beq]
  cases k with
  | zero => rfl
  | succ n => rfl
theorem plain_st {k : Nat} {t : List Nat} (ht : t.head? ≠ some 47) : plainF (St (List.replicate k 47 ++ t)) = St (rkL k) ++ Txt.join (Str.ofString "/") (namesN k t) := by
  have hr := rootRaw_st k ht
  have hs := split_lead k t
  have R : Rel (k == 0) (namesN k t) (((spL 47 t).map St).foldl (stepL (St (List.replicate k 47))) ([], 0)) := rel_fold (rk_free k) (rep_free k) _ _ _ rel_start
  have hp : plainSt (St (List.replicate k 47 ++ t)) = ((spL 47 t).map St).foldl (stepL (St (List.replicate k 47))) ([], 0) := by
    unfold plainSt
    rw [hr, hs, foldL_lead]
  unfold plainF
  rw [hp, hr, ← R.eq]
  congr 1
  unfold rkL
  rw [st_len, List.length_replicate]
  by_cases h : k < 3
  · rw [if_pos h, if_pos (by omega)]
  · rw [if_neg h, if_neg (by omega)]; rfl
theorem norm_st {k : Nat} {t : List Nat} (ht : t.head? ≠ some 47) (hne : List.replicate k 47 ++ t ≠ []) :
    normF (St (List.replicate k 47 ++ t)) = orS (St (rkL k) ++ Txt.join (Str.ofString "/") (namesN k t)) (Str.ofString ".") := by
  obtain ⟨j, hr⟩ := rootF_st (k := k) ht
  have hf : (Txt.split (rootF (St (List.replicate k 47 ++ t))).2 (Str.ofString "/")).foldl (stepN (rootF (St (List.replicate k 47 ++ t))).1) [] = namesN k t := by
    rw [hr]
    dsimp only
    rw [split_lead j t, foldN_lead]
    rfl
  unfold normF
  rw [hf, hr]
  dsimp only
  rw [if_neg]
  · rfl
  · rw [st_len]
    intro q
    exact hne (List.eq_nil_of_length_eq_zero (by omega))
theorem norm_plain (x : Str) : normF x = orS (plainF x) (Str.ofString ".") := by
  rw [st_of x]
  generalize x.cps.toList = l
  obtain ⟨k, h1, h2⟩ := lead l
  by_cases hne : l = []
  · subst hne
    have e1 : normF (St []) = Str.ofString "." := if_pos rfl
    have e2 : orS (plainF (St [])) (Str.ofString ".") = Str.ofString "." := by decide
    rw [e1, e2]
  · rw [h1] at hne ⊢
    rw [norm_st h2 hne, plain_st h2]
end Mine
end

section -- Z11
open PySem PySem.W PyProof.Rows PySem.Calls PySem.Builtin PySem.Builtin.Str PySem.StrLaws
set_option Elab.async false
namespace Mine
theorem stepN_ne {root : Str} {st : List Str} {c : Str} (h : ∀ d ∈ st, (d.length : Int) ≠ 0) : ∀ d ∈ stepN root st c, (d.length : Int) ≠ 0 := by
  unfold stepN
  split
  · exact h
  · rename_i h1
    split
    · intro d hd
      rcases List.mem_append.mp hd with q | q
      · exact h d q
      · rw [List.mem_singleton.mp q]; exact fun z => h1 (.inl z)
    · exact fun d hd => h d (List.dropLast_subset _ hd)
theorem foldN_ne {root : Str} : ∀ (cs : List Str) (st : List Str), (∀ d ∈ st, (d.length : Int) ≠ 0) → ∀ d ∈ cs.foldl (stepN root) st, (d.length : Int) ≠ 0
  | [], _, h => h
  | c :: cs, st, h => foldN_ne cs _ (stepN_ne h)
/-- the names as lists -/
noncomputable def namesL (k : Nat) (t : List Nat) : List (List Nat) := (namesN k t).map fun x => x.cps.toList
theorem names_st (k : Nat) (t : List Nat) : namesN k t = (namesL k t).map St := (map_st _).symm
theorem names_ok (k : Nat) (t : List Nat) : ∀ q ∈ namesL k t, q ≠ [] ∧ 47 ∉ q := by
  intro q hq
  obtain ⟨x, hx, rfl⟩ := List.mem_map.mp hq
  refine ⟨fun e => ?_, ?_⟩
  · have := foldN_ne (root := St (rkL k)) ((spL 47 t).map St) [] (fun _ h => nomatch h) x hx
    rw [st_of x, e] at this
    exact this rfl
  · rcases foldN_mem (St (rkL k)) ((spL 47 t).map St) [] x hx with h | h
    · exact nomatch h
    · obtain ⟨p, hp, rfl⟩ := List.mem_map.mp h
      simpa using spL_free 47 t p hp
structure OwnOk (w : List Nat) : Prop where
  n47 : 47 ∉ w
  ne : w ≠ []
  dot : w ≠ [46]
  dots : w ≠ [46, 46]
theorem step_own {root : Str} {st : List Str} {w : List Nat} (h : OwnOk w) : stepN root st (St w) = st ++ [St w] := by
  unfold stepN
  rw [if_neg, if_pos]
  · left
    rw [bne_iff_ne]
    intro q
    exact h.dots (st_inj (show St w = St [46, 46] from q))
  · rintro (q | q)
    · rw [st_len] at q
      exact h.ne (List.eq_nil_of_length_eq_zero (by omega))
    · exact h.dot (st_inj (show St w = St [46] from eq_of_beq q))
theorem names_snoc {k : Nat} {t w : List Nat} (h : OwnOk w) (ht : t = [] ∨ ∃ v, t = v ++ [47]) : namesL k (t ++ w) = namesL k t ++ [w] := by
  have key : namesN k (t ++ w) = namesN k t ++ [St w] := by
    unfold namesN
    rcases ht with rfl | ⟨v, rfl⟩
    · rw [List.nil_append, spL_jn1 47 w h.n47]
      show stepN (St (rkL k)) [] (St w) = stepN (St (rkL k)) [] (St []) ++ [St w]
      rw [step_own h, stepN_nil]
    · have e1 : v ++ [47] ++ w = v ++ 47 :: w := by simp
      rw [e1, spL_glue, spL_jn1 47 w h.n47, show v ++ [47] = v ++ 47 :: [] from rfl, spL_glue, List.map_append, List.map_append, List.foldl_append, List.foldl_append]
      show stepN (St (rkL k)) _ (St w) = stepN (St (rkL k)) _ (St []) ++ [St w]
      rw [step_own h]
      exact congrArg (· ++ [St w]) (stepN_nil _ _).symm
  unfold namesL
  rw [key, List.map_append]
  simp
theorem jn_snoc {w : List Nat} : ∀ {M : List (List Nat)}, M ≠ [] → jnL 47 (M ++ [w]) = jnL 47 M ++ 47 :: w
  | [], h => absurd rfl h
  | [p], _ => rfl
  | p :: q :: r, _ => by
    have ih := jn_snoc (w := w) (M := q :: r) (by simp)
    show p ++ 47 :: jnL 47 ((q :: r) ++ [w]) = _
    rw [ih]
    simp [jnL]
theorem jn_last : ∀ {M : List (List Nat)}, M ≠ [] → (∀ q ∈ M, q ≠ [] ∧ 47 ∉ q) → ∃ a c, jnL 47 M = a ++ [c] ∧ c ≠ 47
  | [], h, _ => absurd rfl h
  | [p], _, h => by
    obtain ⟨h1, h2⟩ := h p (.head _)
    refine ⟨p.dropLast, p.getLast h1, (List.dropLast_concat_getLast h1).symm, fun q => h2 (q ▸ List.getLast_mem h1)⟩
  | p :: q :: r, _, h => by
    obtain ⟨a, c, e, hc⟩ := jn_last (M := q :: r) (by simp) (fun z hz => h z (.tail _ hz))
    refine ⟨p ++ 47 :: a, c, ?_, hc⟩
    show p ++ 47 :: jnL 47 (q :: r) = _
    rw [e]; simp
end Mine
end

section -- Z12
open PySem PySem.W PyProof.Rows PySem.Calls PySem.Builtin PySem.Builtin.Str PySem.StrLaws
set_option Elab.async false
namespace Mine
theorem ends_one (l : List Nat) (c d : Nat) : Txt.endswith (St (l ++ [c])) (St [d]) = (c == d) := by
  unfold Txt.endswith
  rw [subAt_eq]
  have e1 : (St (l ++ [c])).length = l.length + 1 := by rw [st_len]; simp
  have e2 : (St [d]).length = 1 := rfl
  rw [e1, e2]
  have e3 : ((St (l ++ [c])).cps.toList.drop (l.length + 1 - 1)).take 1 = [c] := by simp
  rw [e3]
  have e4 : (St [d]).cps.toList = [d] := by simp
  rw [e4]
  have : decide (0 + 1 ≤ l.length + 1) = true := by simp
  rw [this, Bool.true_and]
  simp
noncomputable def hhL (k : Nat) (M : List (List Nat)) : List Nat := if M = [] then rkL k else rkL k ++ jnL 47 M ++ [47]
theorem rk_shape (k : Nat) : rkL k = [] ∧ k = 0 ∨ ∃ n, rkL k = List.replicate (n + 1) 47 := by
  unfold rkL
  split
  · cases k with
    | zero => exact .inl ⟨rfl, rfl⟩
    | succ n => exact .inr ⟨n, rfl⟩
  · exact .inr ⟨0, rfl⟩
theorem hh_glue {k : Nat} {M : List (List Nat)} {w : List Nat} : rkL k ++ jnL 47 (M ++ [w]) = hhL k M ++ w := by
  unfold hhL
  by_cases h : M = []
  · rw [if_pos h, h]; rfl
  · rw [if_neg h, jn_snoc h]; simp
theorem rep_snoc (n : Nat) : List.replicate (n + 1) 47 = List.replicate n 47 ++ [47] := List.replicate_succ'
theorem hh_hz {k : Nat} {M : List (List Nat)} {w : List Nat} (hw : OwnOk w) : HZ (hhL k M) w := by
  refine ⟨hw.n47, ?_⟩
  unfold hhL
  by_cases h : M = []
  · rw [if_pos h]
    rcases rk_shape k with ⟨h1, _⟩ | ⟨n, h1⟩
    · exact .inl h1
    · exact .inr ⟨List.replicate n 47, by rw [h1, rep_snoc]⟩
  · rw [if_neg h]
    exact .inr ⟨_, rfl⟩
theorem hh_fold {k : Nat} {M : List (List Nat)} (hM : ∀ q ∈ M, q ≠ [] ∧ 47 ∉ q) : foldL (hhL k M) = rkL k ++ jnL 47 M := by
  unfold hhL
  by_cases h : M = []
  · rw [if_pos h, h]
    have e : rsL (rkL k) = [] := by
      rcases rk_shape k with ⟨h1, _⟩ | ⟨n, h1⟩
      · rw [h1]; rfl
      · rw [h1]
        exact rs_nil.mpr (by simp)
    unfold foldL
    rw [if_pos e]
    simp [jnL]
  · rw [if_neg h]
    obtain ⟨a, c, e, hc⟩ := jn_last h hM
    have e2 : rkL k ++ jnL 47 M ++ [47] = (rkL k ++ a ++ [c]) ++ [47] := by rw [e]; simp
    have e3 : rsL (rkL k ++ jnL 47 M ++ [47]) = rkL k ++ a ++ [c] := by
      rw [e2]
      unfold rsL
      have hc' : (c == 47) = false := by simpa using hc
      simp [List.dropWhile_cons, hc']
    unfold foldL
    rw [e3, if_neg (by simp), e]
    simp
theorem join_own {k : Nat} {M : List (List Nat)} {w : List Nat} (hM : ∀ q ∈ M, q ≠ [] ∧ 47 ∉ q) (hw : OwnOk w) : joinF (St (rkL k ++ jnL 47 M)) (St w) = St (hhL k M ++ w) := by
  have hs : Txt.startswith (St w) (Str.ofString "/") = false := by
    show Txt.startswith (St w) (St [47]) = false
    rw [starts_one]
    cases w with
    | nil => rfl
    | cons d r =>
      have : d ≠ 47 := fun q => hw.n47 (by simp [q])
      simpa using this
  unfold joinF
  rw [hs, st_len]
  by_cases h : M = []
  · subst h
    have e0 : jnL 47 [] = [] := rfl
    rw [e0, List.append_nil]
    have e1 : hhL k [] = rkL k := if_pos rfl
    rw [e1]
    rcases rk_shape k with ⟨h1, _⟩ | ⟨n, h1⟩
    · rw [h1, if_pos (.inr rfl)]; rfl
    · rw [h1, if_neg (by simp; omega), if_pos, st_app]
      show Txt.endswith _ (St [47]) = true
      rw [rep_snoc, ends_one]; rfl
  · obtain ⟨a, c, e, hc⟩ := jn_last h hM
    have e2 : rkL k ++ jnL 47 M = (rkL k ++ a) ++ [c] := by rw [e]; simp
    have e3 : Txt.endswith (St (rkL k ++ jnL 47 M)) (Str.ofString "/") = false := by
      show Txt.endswith _ (St [47]) = false
      rw [e2, ends_one]
      simpa using hc
    rw [if_neg (by rw [e2]; simp; omega), if_neg (by rw [e3]; simp)]
    show St (rkL k ++ jnL 47 M) ++ (St [47] ++ St w) = _
    rw [st_app, st_app]
    unfold hhL
    rw [if_neg h]
    congr 1
    simp
/-- a path of a head h and an own last piece w -/
theorem norm_own {h w : List Nat} (hh : h = [] ∨ ∃ v, h = v ++ [47]) (hw : OwnOk w) :
    normF (St (h ++ w)) = joinF (plainF (St h)) (St w) ∧ headF (normF (St (h ++ w))) = plainF (St h) ∧ tailF (normF (St (h ++ w))) = St w := by
  obtain ⟨k, h1, h2⟩ := lead h
  have ht : h.dropWhile (· == 47) = [] ∨ ∃ v, h.dropWhile (· == 47) = v ++ [47] := by
    by_cases q : h.dropWhile (· == 47) = []
    · exact .inl q
    · right
      rcases hh with e | ⟨v, e⟩
      · rw [e] at q; exact absurd rfl q
      · rcases List.eq_nil_or_concat (h.dropWhile (· == 47)) with z | ⟨u, d, z⟩
        · exact absurd z q
        · have z' : h.dropWhile (· == 47) = u ++ [d] := by rw [z]; simp
          have := h1
          rw [z', e] at this
          have hl := congrArg List.getLast? this
          have hd : d = 47 := by
            rw [← List.append_assoc] at hl
            simpa using hl.symm
          exact ⟨u, by rw [z', hd]⟩
  have ht2 : (h.dropWhile (· == 47) ++ w).head? ≠ some 47 := by
    cases hd : h.dropWhile (· == 47) with
    | nil =>
      cases w with
      | nil => exact absurd rfl hw.ne
      | cons d r =>
        intro q
        exact hw.n47 (by simp at q; simp [q])
    | cons d r =>
      rw [hd] at h2
      simpa using h2
  have hM := names_ok k (h.dropWhile (· == 47))
  have e1 : plainF (St h) = St (rkL k ++ jnL 47 (namesL k (h.dropWhile (· == 47)))) := by
    conv => lhs; rw [h1]
    rw [plain_st h2, names_st]
    show St (rkL k) ++ Txt.join (St [47]) _ = _
    rw [txt_join, st_app]
  have e2 : normF (St (h ++ w)) = St (hhL k (namesL k (h.dropWhile (· == 47))) ++ w) := by
    have e3 : h ++ w = List.replicate k 47 ++ (h.dropWhile (· == 47) ++ w) := by
      conv => lhs; rw [h1]
      rw [List.append_assoc]
    have hne : h.dropWhile (· == 47) ++ w ≠ [] := fun q => hw.ne (List.append_eq_nil_iff.mp q).2
    rw [e3, norm_st ht2 (fun q => hne (List.append_eq_nil_iff.mp q).2), names_st, names_snoc hw ht]
    have e4 : St (rkL k) ++ Txt.join (Str.ofString "/") ((namesL k (h.dropWhile (· == 47)) ++ [w]).map St) = St (hhL k (namesL k (h.dropWhile (· == 47))) ++ w) := by
      show St (rkL k) ++ Txt.join (St [47]) _ = _
      rw [txt_join, st_app, hh_glue]
    rw [e4]
    unfold orS
    rw [if_pos]
    rw [st_len]
    intro q
    have q2 : (hhL k (namesL k (h.dropWhile (· == 47))) ++ w).length = 0 := by omega
    exact hw.ne (List.append_eq_nil_iff.mp (List.eq_nil_of_length_eq_zero q2)).2
  refine ⟨?_, ?_, ?_⟩
  · rw [e2, e1, join_own hM hw]
  · rw [e2, head_st (hh_hz hw), hh_fold hM, e1]
  · rw [e2, hz_tail (hh_hz hw)]
end Mine
end

section -- U_lfunc
set_option compiler.extract_closed false
open PySem PySem.W PyProof.Rows PySem.Calls
set_option Elab.async false
set_option maxRecDepth 100000
set_option maxHeartbeats 0
namespace Mine
local macro_rules | `(tactic| walk_at $s:str) => `(tactic| k_extra $s)

local macro_rules | `(tactic| walk_at "subscriptTail") => `(tactic| (k_here; first
  | ((with_reducible refine' pick_tab8 ?k1 ?_ ?k3); (case k1 => exact News.isList (by k_asm) (by k_mem)); (case k3 => with_unfolding_all rfl); intro c9 t9 hc9; (try dsimp only))
  | ((with_reducible refine' pick_tab4 ?k1 ?_ ?k3); (case k1 => exact News.isList (by k_asm) (by k_mem)); (case k3 => with_unfolding_all rfl); intro c9 t9 hc9; (try dsimp only))))
theorem con_law_func (w : World) (mean : ExcName → Option Value) (mg mb : Str → Option Value) (news : List (Addr × Obj)) (n k : Int) (t u : Tok) :
    Con w mean mg mb 10 200 news [.int n t, .int k u] (FuncNew news) := by
  k_with_none
  k_with "mine sz" => (first | assumption | omega | ((simp only [Str.length_append] at *); omega))
  k_with "binaryOp Add str str" => ((k_here; ((rename LfInv _ _ => hi9); (rename PickS _ _ => hc9); (refine SBL.add (hsz := (by exact add_sz (le_c hi9.short (by decide)) (le_c (pickS_len hc9) (by decide)))) ?_); intro _ _)))
  k_with "eval UnaryOp" => ((k_here; (try dsimp only); (with_reducible refine UnaryOp_ ?_); (try dsimp only)))
  k_with "LfInv" => ((k_here; with_reducible exact lf_init _))
  k_with "WhileStep2" => ((k_here; (rename LfInv _ _ => hi9); (rename PickS _ _ => hc9); k_dflt (refine' lf_next (by k_asm) (by k_asm) (by (intro p hp; repeat' (first | exact hp | refine List.Mem.tail _ ?_))) hi9 (by assumption) (pickS_len hc9) (by exact if_pos rfl) (by exact (if_neg (by decide)).trans (if_pos rfl)) (by exact fun z z1 z2 => (if_neg z1).trans ((if_neg z2).trans ((if_neg z1).trans (if_neg z2)))))))
  k_with "exec While Compare cons nil" => ((k_here; (refine while_lf (by k_asm) (by k_asm) rfl rfl ?_ (fun l p t u h₁ tk₁ F₁ N₁ I₁ => ?_) (by passes_own)) <;> (try dsimp only)))
  k_with "exec While" => ((k_here; (refine while_lf (by k_asm) (by k_asm) rfl rfl ?_ (fun l p t u h₁ tk₁ F₁ N₁ I₁ => ?_) (by passes_own)) <;> (try dsimp only)))
  unfold Con
  k_fill
  w_top off
  intro dp un gd cn cs a ccd cl outer A₀ base h₀ L m s Q E B F X N T hk hdp hu hret
  refine wpAny_call ?_
  k_dflt ktr_enter
  k_steps
  all_goals (refine' hret _ [_] _ _ ?eF ?eN ?e; (case eF => k_asm); (case eN => exact news_end1 (by k_asm) (by intro p hp; repeat' (first | exact hp | refine List.Mem.tail _ ?_))); (case e => exact FuncNew.mk (FuncOut.mk (by assumption) (getD_pick _) (by assumption)) rfl (by (rename (@LT.lt Nat _ _ _) ∧ _ => l9); first | exact ktn_ltOf l9.2 | exact ktn_ltOf l9.2.2 | exact ktn_ltOf l9.2.2.2 | exact ktn_ltOf l9.2.2.2.2)))

end Mine
end

section -- U_fss
set_option compiler.extract_closed false
open PySem PySem.W PyProof.Rows PySem.Calls
set_option Elab.async false
set_option maxRecDepth 100000
set_option maxHeartbeats 0
namespace Mine
local macro_rules | `(tactic| walk_at $s:str) => `(tactic| k_extra $s)

theorem con_fss (w : World) (mean : ExcName → Option Value) (mg mb : Str → Option Value) (news : List (Addr × Obj)) (x y : Str) (i : Int) (t u v : Tok) (a₀ : Addr) (hx : x.length ≤ 100000) (hy : y.length ≤ 100000) (hi : i = 0 ∨ i = 7 ∨ i = 12 ∨ i = -3) :
    Con w mean mg mb 12 35 ((a₀, tupO [.str x t, .int i v, .str y u]) :: news) [.ref a₀] (RStr (fssF x i y)) := by
  k_with_none
  k_with "mine sz" => (first | assumption | omega | ((simp only [Str.length_append] at *); omega))
  k_with "mine alike" => (repeat (first | exact Alike.nil | refine Alike.str ?_ | refine Alike.int ?_))
  k_with "compareOp Eq ref ref" => ((k_here; (with_reducible show wpAny _ _ (compareOp CmpOp.Eq (Value.ref _) (Value.ref _)) _ _ _); k_dflt (refine eq_tups (by k_asm) (by k_mem) (by k_mem) (by walk_at "mine alike") (by ktr_units) ?_); (try simp only [allEq, valEq, Bool.and_true])))
  k_with "compareOp NotEq ref ref" => ((k_here; (with_reducible show wpAny _ _ (compareOp CmpOp.NotEq (Value.ref _) (Value.ref _)) _ _ _); k_dflt (refine ne_tups (by k_asm) (by k_mem) (by k_mem) (by walk_at "mine alike") (by ktr_units) ?_); (try simp only [allEq, valEq, Bool.and_true])))
  k_with "subscriptTail Name Slice ref ref" => ((k_here; k_dflt (refine' slice_tuple_02 (by k_asm) (by k_asm) (by exact News.isTup (by k_asm) (by k_mem)) ?_ (by with_unfolding_all rfl) (by (intro _; with_unfolding_all rfl))); intro D' h' F' N'))
  k_with "binaryOp Mod str ref" => ((k_here; k_dflt (refine' mod_func (by k_asm) (by k_mem) (by omega) (by omega) (by assumption) ?_); intro t' k'))
  k_with "binaryOp Mod str str" => ((k_here; k_dflt (refine' mod_brace (by omega) ?_); intro t' k'))
  unfold Con
  k_fill
  w_top off
  intro dp un gd cn cs a ccd cl outer A₀ base h₀ L m s Q E B F X N T hk hdp hu hret
  refine wpAny_call ?_
  k_dflt ktr_enter
  k_steps
  all_goals (refine' hret _ [] _ _ ?eF ?eN ⟨rfl, _, _, rfl, ?e⟩; (case eF => k_asm); (case eN => exact news_end0 (by k_asm) (by intro p hp; repeat' (first | exact hp | refine List.Mem.tail _ ?_))); (case e => with_reducible first | exact fssF_1 (by assumption) (by assumption) (by assumption) | exact fssF_2 (by assumption) (by assumption) | exact fssF_3 (by assumption) (by assumption) (by assumption) | exact fssF_4 (by assumption)))

theorem con_useFss {w : World} {mean : ExcName → Option Value} {mg mb : Str → Option Value} {news : List (Addr × Obj)} {x y : Str} {i : Int} {t u v : Tok} {a₀ : Addr}
    {dp un : Nat} {gd : Option (List Code)} {cn : Str} {cs : Scope} {a : Addr} {ccd : Value} {cl : List (Str × Addr)} {outer : List Env} {A₀ : Around} {base h₀ : Heap} {L : Addr} {m : Str → Option Value} {s : Shared} {Q E : Value → Shared → Prop}
    (hm : (a₀, tupO [.str x t, .int i v, .str y u]) ∈ news) (hx : x.length ≤ 100000) (hy : y.length ≤ 100000) (hi : i = 0 ∨ i = 7 ∨ i = 12 ∨ i = -3)
    (B : Below A₀ base outer h₀) (F : Fr h₀ L s.heap m) (X : Frag.In (hk.heap_1 w.params) h₀) (N : News h₀ L s.heap news) (T : Top view0 (looseW view0 []) mean mg mb h₀) (hk : cs.kind = .function) (hdp : dp + 12 < recursionLimit) (hu : un + 8 * 12 < cLine)
    (ret : ∀ t h' tk', Fr h₀ L h' m → News h₀ L h' news → Q (.str (fssF x i y) t) { s with heap := h', toks := tk' }) :
    wpAny (model PySem.Challenge.rw_ik0008_01.row.prog w) (ktrTop dp un gd cn cs L a ccd cl outer) (call (.ref 35) [.ref a₀]) Q E s :=
  con_useS (con_fss w mean mg mb news x y i t u v a₀ hx hy hi) B F X (fun p hp => by cases hp with | head => exact N _ hm | tail _ hp => exact N _ hp) T hk hdp hu (fun t h' tk' F' N' => ret t h' tk' F' (fun p hp => N' p (.tail _ hp)))

end Mine
end

section -- U_lbuilt
set_option compiler.extract_closed false
open PySem PySem.W PyProof.Rows PySem.Calls
local macro_rules | `(tactic| walk_at "mine pad 1") => `(tactic| fail)
open PySem PySem.W PyProof.Rows PySem.Calls
set_option Elab.async false
set_option maxRecDepth 100000
set_option maxHeartbeats 0
namespace Mine
local macro_rules | `(tactic| walk_at $s:str) => `(tactic| k_extra $s)

theorem con_law_built_in (w : World) (mean : ExcName → Option Value) (mg mb : Str → Option Value) (news : List (Addr × Obj)) (x : Str) (t : Tok) (hx : x.length ≤ 100000) :
    Con w mean mg mb 3 214 news [.str x t] (RStr (builtF x)) := by
  k_with_none
  k_with "mine sz" => (first | assumption | omega | ((simp only [Str.length_append] at *); omega))
  unfold Con
  k_fill
  w_top off
  intro dp un gd cn cs a ccd cl outer A₀ base h₀ L m s Q E B F X N T hk hdp hu hret
  refine wpAny_call ?_
  k_dflt ktr_enter
  k_steps
  all_goals (refine' hret _ [] _ _ ?eF ?eN ⟨rfl, _, _, rfl, ?e⟩; (case eF => k_asm); (case eN => exact news_end0 (by k_asm) (by intro p hp; repeat' (first | exact hp | refine List.Mem.tail _ ?_))); (case e => first | exact builtF_1 (by assumption) | exact builtF_2 (by assumption)))

end Mine
end

section -- U_lonea
set_option compiler.extract_closed false
open PySem PySem.W PyProof.Rows PySem.Calls
local macro_rules | `(tactic| walk_at "mine pad 2") => `(tactic| fail)
open PySem PySem.W PyProof.Rows PySem.Calls
set_option Elab.async false
set_option maxRecDepth 100000
set_option maxHeartbeats 0
namespace Mine
local macro_rules | `(tactic| walk_at $s:str) => `(tactic| k_extra $s)

local macro_rules | `(tactic| walk_at "call ref") => `(tactic| (k_here; (with_reducible show wpAny _ _ (PySem.call (Value.ref 35) _) _ _ _); k_dflt (refine' con_useFss ?km ?kx ?ky ?ki ?k1 ?k2 ?k3 ?k4 ?k5 ?kK ?kd ?ku ?_; (case k1 => k_asm); (case k2 => k_asm); (case k3 => k_asm); (case k4 => k_asm); (case k5 => k_asm); (case km => k_mem); (case kx => (walk_at "mine sz")); (case ky => (walk_at "mine sz")); (case ki => assumption); (case kK => first | exact rfl | assumption); (case kd => ktr_room); (case ku => ktr_units); k_whole; intro t9 h9 tk9 F9 N9; (try dsimp only); (try k_fold))))

theorem con_law_one_a (w : World) (mean : ExcName → Option Value) (mg mb : Str → Option Value) (news : List (Addr × Obj)) (x y : Str) (i : Int) (t u v : Tok) (hx : x.length ≤ 100) (hy : y.length ≤ 100) (hi : i = 0 ∨ i = 7 ∨ i = 12 ∨ i = -3) (ok : (x == Str.ofString "~") = true ∧ i = 0) (oe : fssF x i y = builtF y) :
    Con w mean mg mb 20 235 news [.str x t, .int i v, .str y u] (RBool true) := by
  k_with_none
  k_with "mine sz" => (first | (with_reducible assumption) | (with_reducible exact le_c (k := 100) (by with_reducible assumption) (by decide)) | (with_reducible exact le_c (k := 300) (by with_reducible assumption) (by decide)) | (with_reducible refine slice_len ?_; walk_at "mine sz") | (with_reducible refine lastOf_len ?_; walk_at "mine sz") | (with_reducible refine rstrip_len ?_; walk_at "mine sz") | (with_reducible exact app_len (a := 100) (b := 300) (by walk_at "mine sz") (by walk_at "mine sz") (by omega)) | (with_reducible exact plainF_len' (by walk_at "mine sz") (by decide)) | (with_reducible exact normF_len' (by walk_at "mine sz") (by decide)) | omega)
  k_with "call ref" => ((k_here; (with_reducible show wpAny _ _ (PySem.call (Value.ref 214) _) _ _ _); k_dflt (refine' con_useS (con_law_built_in _ _ _ _ _ _ _ ?_) (by k_asm) (by k_asm) (by k_asm) (by k_asm) (by k_asm) (by first | exact rfl | assumption) (by ktr_room) (by ktr_units) ?_; ((walk_at "mine sz")); k_whole; intro t9 h9 tk9 F9 N9; (try dsimp only); (try k_fold))))
  k_with "mine alike" => (repeat (first | exact Alike.nil | refine Alike.str ?_ | refine Alike.int ?_))
  k_with "compareOp Eq ref ref" => ((k_here; (with_reducible show wpAny _ _ (compareOp CmpOp.Eq (Value.ref _) (Value.ref _)) _ _ _); k_dflt (refine eq_tups (by k_asm) (by k_mem) (by k_mem) (by walk_at "mine alike") (by ktr_units) ?_); (try simp only [allEq, valEq, Bool.and_true])))
  k_with "compareOp NotEq ref ref" => ((k_here; (with_reducible show wpAny _ _ (compareOp CmpOp.NotEq (Value.ref _) (Value.ref _)) _ _ _); k_dflt (refine ne_tups (by k_asm) (by k_mem) (by k_mem) (by walk_at "mine alike") (by ktr_units) ?_); (try simp only [allEq, valEq, Bool.and_true])))
  k_with "exec If" => ((k_here; ((refine walk_if_true (by k_asm) (by k_asm) ?_ (fun h' tk' F' N' => ?_)) <;> (try dsimp only))))
  k_with "IfF" => ((k_here; (refine IfF.mk ?_ (by k_asm) (by k_asm) (by intro p hp; repeat' (first | exact hp | refine List.Mem.tail _ ?_))); (try show _ = true); first | (with_reducible exact rfl) | (rename (_ == Str.ofString "~") = true ∧ _ = (0 : Int) => ok9; with_reducible first | exact absurd ok9.1 (ne_true_of_eq_false (by assumption)) | exact absurd ok9.2 (by assumption))))
  unfold Con
  k_fill
  w_top off
  intro dp un gd cn cs a ccd cl outer A₀ base h₀ L m s Q E B F X N T hk hdp hu hret
  have hz := fssF_len hx hy hi
  have hzb := builtF_len hy
  refine wpAny_call ?_
  k_dflt ktr_enter
  k_steps
  all_goals (refine' hret _ [] _ _ ?eF ?eN ⟨rfl, _, rfl, ?e⟩; (case eF => k_asm); (case eN => exact news_end0 (by k_asm) (by intro p hp; repeat' (first | exact hp | refine List.Mem.tail _ ?_))); (case e => (rename fssF _ _ _ = builtF _ => oe9); with_reducible exact beq_eqt oe9))

end Mine
end

section -- U_sep
set_option compiler.extract_closed false
open PySem PySem.W PyProof.Rows PySem.Calls
set_option Elab.async false
set_option maxRecDepth 100000
set_option maxHeartbeats 0
namespace Mine
local macro_rules | `(tactic| walk_at $s:str) => `(tactic| k_extra $s)

theorem con_get_sep (w : World) (mean : ExcName → Option Value) (mg mb : Str → Option Value) (news : List (Addr × Obj)) (x : Str) (t : Tok) :
    Con w mean mg mb 2 129 news [.str x t] (RStr (Str.ofString "/")) := by
  k_with_none
  k_with "mine sz" => (first | assumption | omega | ((simp only [Str.length_append] at *); omega))
  unfold Con
  k_fill
  w_top off
  intro dp un gd cn cs a ccd cl outer A₀ base h₀ L m s Q E B F X N T hk hdp hu hret
  refine wpAny_call ?_
  k_dflt ktr_enter
  k_steps
  all_goals (refine' hret _ [] _ _ ?eF ?eN ⟨rfl, _, _, rfl, ?e⟩; (case eF => k_asm); (case eN => exact news_end0 (by k_asm) (by intro p hp; repeat' (first | exact hp | refine List.Mem.tail _ ?_))); (case e => rfl))

end Mine
end

section -- U_fsp
set_option compiler.extract_closed false
open PySem PySem.W PyProof.Rows PySem.Calls
local macro_rules | `(tactic| walk_at "mine pad 3") => `(tactic| fail)
open PySem PySem.W PyProof.Rows PySem.Calls
set_option Elab.async false
set_option maxRecDepth 100000
set_option maxHeartbeats 0
namespace Mine
local macro_rules | `(tactic| walk_at $s:str) => `(tactic| k_extra $s)

theorem con_fspath (w : World) (mean : ExcName → Option Value) (mg mb : Str → Option Value) (news : List (Addr × Obj)) (x : Str) (t : Tok) :
    Con w mean mg mb 3 108 news [.str x t] (RVal (.str x t)) := by
  k_with_none
  k_with "mine sz" => (first | assumption | omega | ((simp only [Str.length_append] at *); omega))
  k_with "call builtin:issubclass" => ((k_here; k_dflt (refine' call_issub_tup (News.get (by k_asm) (by k_mem)) rfl rfl ?_)))
  unfold Con
  k_fill
  w_top off
  intro dp un gd cn cs a ccd cl outer A₀ base h₀ L m s Q E B F X N T hk hdp hu hret
  refine wpAny_call ?_
  k_dflt ktr_enter
  k_steps
  all_goals (refine' hret _ [] _ _ ?eF ?eN ⟨rfl, rfl⟩; (case eF => k_asm); (case eN => exact news_end0 (by k_asm) (by intro p hp; repeat' (first | exact hp | refine List.Mem.tail _ ?_))))

end Mine
end

section -- U_isabs
set_option compiler.extract_closed false
open PySem PySem.W PyProof.Rows PySem.Calls
set_option Elab.async false
set_option maxRecDepth 100000
set_option maxHeartbeats 0
namespace Mine
local macro_rules | `(tactic| walk_at $s:str) => `(tactic| k_extra $s)

theorem con_isabs (w : World) (mean : ExcName → Option Value) (mg mb : Str → Option Value) (news : List (Addr × Obj)) (x : Str) (t : Tok) (hx : x.length ≤ 100000) :
    Con w mean mg mb 6 136 news [.str x t] (RBool (Txt.startswith x (Str.ofString "/"))) := by
  k_with_none
  k_with "mine sz" => (first | assumption | omega | ((simp only [Str.length_append] at *); omega))
  k_with "call ref" => ((k_here; (with_reducible show wpAny _ _ (PySem.call (Value.ref 129) _) _ _ _); k_dflt (refine' con_useS (con_get_sep _ _ _ _ _ _ _) (by k_asm) (by k_asm) (by k_asm) (by k_asm) (by k_asm) (by first | exact rfl | assumption) (by ktr_room) (by ktr_units) ?_; k_whole; intro t9 h9 tk9 F9 N9; (try dsimp only); (try k_fold))))
  k_with "call ref" => ((k_here; (with_reducible show wpAny _ _ (PySem.call (Value.ref 108) _) _ _ _); k_dflt (refine' con_useV (con_fspath _ _ _ _ _ _ _) (by k_asm) (by k_asm) (by k_asm) (by k_asm) (by k_asm) (by first | exact rfl | assumption) (by ktr_room) (by ktr_units) ?_; k_whole; intro h9 tk9 F9 N9; (try dsimp only); (try k_fold))))
  unfold Con
  k_fill
  w_top off
  intro dp un gd cn cs a ccd cl outer A₀ base h₀ L m s Q E B F X N T hk hdp hu hret
  refine wpAny_call ?_
  k_dflt ktr_enter
  k_steps
  all_goals (refine' hret _ [] _ _ ?eF ?eN ⟨rfl, _, rfl, ?e⟩; (case eF => k_asm); (case eN => exact news_end0 (by k_asm) (by intro p hp; repeat' (first | exact hp | refine List.Mem.tail _ ?_))); (case e => rfl))

end Mine
end

section -- U_split
set_option compiler.extract_closed false
open PySem PySem.W PyProof.Rows PySem.Calls
local macro_rules | `(tactic| walk_at "mine pad 4") => `(tactic| fail)
open PySem PySem.W PyProof.Rows PySem.Calls
set_option Elab.async false
set_option maxRecDepth 100000
set_option maxHeartbeats 0
namespace Mine
local macro_rules | `(tactic| walk_at $s:str) => `(tactic| k_extra $s)

theorem con_split (w : World) (mean : ExcName → Option Value) (mg mb : Str → Option Value) (news : List (Addr × Obj)) (x : Str) (t : Tok) (hx : x.length ≤ 100000) :
    Con w mean mg mb 6 150 news [.str x t] (RTup2 (headF x) (tailF x)) := by
  k_with_none
  k_with "mine sz" => (first | assumption | omega | ((simp only [Str.length_append] at *); omega))
  k_with "call ref" => ((k_here; (with_reducible show wpAny _ _ (PySem.call (Value.ref 129) _) _ _ _); k_dflt (refine' con_useS (con_get_sep _ _ _ _ _ _ _) (by k_asm) (by k_asm) (by k_asm) (by k_asm) (by k_asm) (by first | exact rfl | assumption) (by ktr_room) (by ktr_units) ?_; k_whole; intro t9 h9 tk9 F9 N9; (try dsimp only); (try k_fold))))
  k_with "call ref" => ((k_here; (with_reducible show wpAny _ _ (PySem.call (Value.ref 108) _) _ _ _); k_dflt (refine' con_useV (con_fspath _ _ _ _ _ _ _) (by k_asm) (by k_asm) (by k_asm) (by k_asm) (by k_asm) (by first | exact rfl | assumption) (by ktr_room) (by ktr_units) ?_; k_whole; intro h9 tk9 F9 N9; (try dsimp only); (try k_fold))))
  unfold Con
  k_fill
  w_top off
  intro dp un gd cn cs a ccd cl outer A₀ base h₀ L m s Q E B F X N T hk hdp hu hret
  refine wpAny_call ?_
  k_dflt ktr_enter
  k_steps
  all_goals (refine' hret _ [_] _ _ ?eF ?eN ⟨_, _, _, _, _, rfl, rfl, ?e0, ?e1⟩; (case eF => k_asm); (case eN => exact news_end1 (by k_asm) (by intro p hp; repeat' (first | exact hp | refine List.Mem.tail _ ?_))); (case e0 => with_reducible first | rfl | exact headF_1 (by assumption) (by assumption) | exact headF_2 (by assumption) | exact headF_3 (by assumption)); (case e1 => with_reducible first | rfl | exact headF_1 (by assumption) (by assumption) | exact headF_2 (by assumption) | exact headF_3 (by assumption)); skip)

end Mine
end

section -- U_base
set_option compiler.extract_closed false
open PySem PySem.W PyProof.Rows PySem.Calls
set_option Elab.async false
set_option maxRecDepth 100000
set_option maxHeartbeats 0
namespace Mine
local macro_rules | `(tactic| walk_at $s:str) => `(tactic| k_extra $s)

theorem con_basename (w : World) (mean : ExcName → Option Value) (mg mb : Str → Option Value) (news : List (Addr × Obj)) (x : Str) (t : Tok) (hx : x.length ≤ 100000) :
    Con w mean mg mb 6 174 news [.str x t] (RStr (tailF x)) := by
  k_with_none
  k_with "mine sz" => (first | assumption | omega | ((simp only [Str.length_append] at *); omega))
  k_with "call ref" => ((k_here; (with_reducible show wpAny _ _ (PySem.call (Value.ref 129) _) _ _ _); k_dflt (refine' con_useS (con_get_sep _ _ _ _ _ _ _) (by k_asm) (by k_asm) (by k_asm) (by k_asm) (by k_asm) (by first | exact rfl | assumption) (by ktr_room) (by ktr_units) ?_; k_whole; intro t9 h9 tk9 F9 N9; (try dsimp only); (try k_fold))))
  k_with "call ref" => ((k_here; (with_reducible show wpAny _ _ (PySem.call (Value.ref 108) _) _ _ _); k_dflt (refine' con_useV (con_fspath _ _ _ _ _ _ _) (by k_asm) (by k_asm) (by k_asm) (by k_asm) (by k_asm) (by first | exact rfl | assumption) (by ktr_room) (by ktr_units) ?_; k_whole; intro h9 tk9 F9 N9; (try dsimp only); (try k_fold))))
  unfold Con
  k_fill
  w_top off
  intro dp un gd cn cs a ccd cl outer A₀ base h₀ L m s Q E B F X N T hk hdp hu hret
  refine wpAny_call ?_
  k_dflt ktr_enter
  k_steps
  all_goals (refine' hret _ [] _ _ ?eF ?eN ⟨rfl, _, _, rfl, ?e⟩; (case eF => k_asm); (case eN => exact news_end0 (by k_asm) (by intro p hp; repeat' (first | exact hp | refine List.Mem.tail _ ?_))); (case e => rfl))

end Mine
end

section -- U_dirn
set_option compiler.extract_closed false
open PySem PySem.W PyProof.Rows PySem.Calls
local macro_rules | `(tactic| walk_at "mine pad 5") => `(tactic| fail)
open PySem PySem.W PyProof.Rows PySem.Calls
set_option Elab.async false
set_option maxRecDepth 100000
set_option maxHeartbeats 0
namespace Mine
local macro_rules | `(tactic| walk_at $s:str) => `(tactic| k_extra $s)

theorem con_dirname (w : World) (mean : ExcName → Option Value) (mg mb : Str → Option Value) (news : List (Addr × Obj)) (x : Str) (t : Tok) (hx : x.length ≤ 100000) :
    Con w mean mg mb 6 181 news [.str x t] (RStr (headF x)) := by
  k_with_none
  k_with "mine sz" => (first | assumption | omega | ((simp only [Str.length_append] at *); omega))
  k_with "call ref" => ((k_here; (with_reducible show wpAny _ _ (PySem.call (Value.ref 129) _) _ _ _); k_dflt (refine' con_useS (con_get_sep _ _ _ _ _ _ _) (by k_asm) (by k_asm) (by k_asm) (by k_asm) (by k_asm) (by first | exact rfl | assumption) (by ktr_room) (by ktr_units) ?_; k_whole; intro t9 h9 tk9 F9 N9; (try dsimp only); (try k_fold))))
  k_with "call ref" => ((k_here; (with_reducible show wpAny _ _ (PySem.call (Value.ref 108) _) _ _ _); k_dflt (refine' con_useV (con_fspath _ _ _ _ _ _ _) (by k_asm) (by k_asm) (by k_asm) (by k_asm) (by k_asm) (by first | exact rfl | assumption) (by ktr_room) (by ktr_units) ?_; k_whole; intro h9 tk9 F9 N9; (try dsimp only); (try k_fold))))
  unfold Con
  k_fill
  w_top off
  intro dp un gd cn cs a ccd cl outer A₀ base h₀ L m s Q E B F X N T hk hdp hu hret
  refine wpAny_call ?_
  k_dflt ktr_enter
  k_steps
  all_goals (refine' hret _ [] _ _ ?eF ?eN ⟨rfl, _, _, rfl, ?e⟩; (case eF => k_asm); (case eN => exact news_end0 (by k_asm) (by intro p hp; repeat' (first | exact hp | refine List.Mem.tail _ ?_))); (case e => with_reducible first | rfl | exact headF_1 (by assumption) (by assumption) | exact headF_2 (by assumption) | exact headF_3 (by assumption)))

end Mine
end

section -- U_lread
set_option compiler.extract_closed false
open PySem PySem.W PyProof.Rows PySem.Calls
set_option Elab.async false
set_option maxRecDepth 100000
set_option maxHeartbeats 0
namespace Mine
local macro_rules | `(tactic| walk_at $s:str) => `(tactic| k_extra $s)

theorem con_law_read (w : World) (mean : ExcName → Option Value) (mg mb : Str → Option Value) (news : List (Addr × Obj)) (x : Str) (t : Tok) (hx : x.length ≤ 100000) :
    Con w mean mg mb 3 207 news [.str x t] (RTup4 (rd1 x) (rd2 x) (rd3 x) (rd4 x)) := by
  k_with_none
  k_with "mine sz" => (first | assumption | omega | ((simp only [Str.length_append] at *); omega))
  unfold Con
  k_fill
  w_top off
  intro dp un gd cn cs a ccd cl outer A₀ base h₀ L m s Q E B F X N T hk hdp hu hret
  refine wpAny_call ?_
  k_dflt ktr_enter
  k_steps
  all_goals (refine' hret _ [_] _ _ ?eF ?eN ⟨_, _, _, _, _, _, _, _, _, rfl, rfl, ?e0, ?e1, ?e2, ?e3⟩; (case eF => k_asm); (case eN => exact news_end1 (by k_asm) (by intro p hp; repeat' (first | exact hp | refine List.Mem.tail _ ?_))); (case e0 => rfl); (case e1 => rfl); (case e2 => rfl); (case e3 => rfl); skip)

end Mine
end

section -- U_sext0
set_option compiler.extract_closed false
open PySem PySem.W PyProof.Rows PySem.Calls
local macro_rules | `(tactic| walk_at "mine pad 6") => `(tactic| fail)
open PySem PySem.W PyProof.Rows PySem.Calls
set_option Elab.async false
set_option maxRecDepth 100000
set_option maxHeartbeats 0
namespace Mine
local macro_rules | `(tactic| walk_at $s:str) => `(tactic| k_extra $s)

theorem con_splitext0 (w : World) (mean : ExcName → Option Value) (mg mb : Str → Option Value) (news : List (Addr × Obj)) (x : Str) (t u v : Tok) (hx : x.length ≤ 100000) :
    Con w mean mg mb 4 115 news [.str x t, .str (Str.ofString "/") u, .none, .str (Str.ofString ".") v] (RTup2 (extF x).1 (extF x).2) := by
  k_with_none
  k_with "mine sz" => (first | assumption | omega | ((simp only [Str.length_append] at *); omega))
  unfold Con
  k_fill
  w_top off
  intro dp un gd cn cs a ccd cl outer A₀ base h₀ L m s Q E B F X N T hk hdp hu hret
  refine wpAny_call ?_
  k_dflt ktr_enter
  k_steps
  all_goals (refine' hret _ [_] _ _ ?eF ?eN ⟨_, _, _, _, _, rfl, rfl, ?e0, ?e1⟩; (case eF => k_asm); (case eN => exact news_end1 (by k_asm) (by intro p hp; repeat' (first | exact hp | refine List.Mem.tail _ ?_))); (case e0 => first | (rw [extF_1 ⟨by assumption, extW (by assumption) (by assumption) (by assumption)⟩]; done) | (rw [extF_2 (extN_1 (by assumption) (by assumption) (by assumption))]; done) | (rw [extF_2 (fun h => absurd h.1 (by assumption))]; done)); (case e1 => first | (rw [extF_1 ⟨by assumption, extW (by assumption) (by assumption) (by assumption)⟩]; done) | (rw [extF_2 (extN_1 (by assumption) (by assumption) (by assumption))]; done) | (rw [extF_2 (fun h => absurd h.1 (by assumption))]; done)); skip)

end Mine
end

section -- U_sext
set_option compiler.extract_closed false
open PySem PySem.W PyProof.Rows PySem.Calls
set_option Elab.async false
set_option maxRecDepth 100000
set_option maxHeartbeats 0
namespace Mine
local macro_rules | `(tactic| walk_at $s:str) => `(tactic| k_extra $s)

theorem con_splitext (w : World) (mean : ExcName → Option Value) (mg mb : Str → Option Value) (news : List (Addr × Obj)) (x : Str) (t : Tok) (hx : x.length ≤ 100000) :
    Con w mean mg mb 8 157 news [.str x t] (RTup2 (extF x).1 (extF x).2) := by
  k_with_none
  k_with "mine sz" => (first | assumption | omega | ((simp only [Str.length_append] at *); omega))
  k_with "call ref" => ((k_here; (with_reducible show wpAny _ _ (PySem.call (Value.ref 108) _) _ _ _); k_dflt (refine' con_useV (con_fspath _ _ _ _ _ _ _) (by k_asm) (by k_asm) (by k_asm) (by k_asm) (by k_asm) (by first | exact rfl | assumption) (by ktr_room) (by ktr_units) ?_; k_whole; intro h9 tk9 F9 N9; (try dsimp only); (try k_fold))))
  k_with "call ref" => ((k_here; (with_reducible show wpAny _ _ (PySem.call (Value.ref 115) _) _ _ _); k_dflt (refine' con_useT (con_splitext0 _ _ _ _ _ _ _ _ _ ?_) (by k_asm) (by k_asm) (by k_asm) (by k_asm) (by k_asm) (by first | exact rfl | assumption) (by ktr_room) (by ktr_units) ?_; ((walk_at "mine sz")); k_whole; intro b9 t9 u9 h9 tk9 F9 N9; (try dsimp only); (try k_fold))))
  unfold Con
  k_fill
  w_top off
  intro dp un gd cn cs a ccd cl outer A₀ base h₀ L m s Q E B F X N T hk hdp hu hret
  refine wpAny_call ?_
  k_dflt ktr_enter
  k_steps
  all_goals (refine' hret _ [_] _ _ ?eF ?eN ⟨_, _, _, _, _, rfl, rfl, ?e0, ?e1⟩; (case eF => k_asm); (case eN => exact news_end1 (by k_asm) (by intro p hp; repeat' (first | exact hp | refine List.Mem.tail _ ?_))); (case e0 => rfl); (case e1 => rfl); skip)

end Mine
end

section -- U_lcut
set_option compiler.extract_closed false
open PySem PySem.W PyProof.Rows PySem.Calls
set_option Elab.async false
set_option maxRecDepth 100000
set_option maxHeartbeats 0
namespace Mine
local macro_rules | `(tactic| walk_at $s:str) => `(tactic| k_extra $s)

local macro_rules | `(tactic| walk_at "subscriptTail Name UnaryOp ref int") => `(tactic| (k_here; k_dflt (refine' item_lastB ?k1 ?k2 ?kb ?_ ?k3; (case k1 => exact News.isList (by k_asm) (by k_mem)); (case kb => assumption); (case k2 => (intro e; subst e; simp_all)); (case k3 => with_unfolding_all rfl)); intro y' t' hl' hn'))

theorem con_law_cut (w : World) (mean : ExcName → Option Value) (mg mb : Str → Option Value) (news : List (Addr × Obj)) (x y : Str) (t u : Tok) (hx : x.length ≤ 100000) (hy : y.length ≤ 100000) :
    Con w mean mg mb 3 221 news [.str x t, .str y u] (RTup2 (cutF x y) (cutEnd y)) := by
  k_with_none
  k_with "mine sz" => (first | assumption | omega | ((simp only [Str.length_append] at *); omega))
  unfold Con
  k_fill
  w_top off
  intro dp un gd cn cs a ccd cl outer A₀ base h₀ L m s Q E B F X N T hk hdp hu hret
  refine wpAny_call ?_
  k_dflt ktr_enter
  k_steps
  all_goals (refine' hret _ [_] _ _ ?eF ?eN ⟨_, _, _, _, _, rfl, rfl, ?e0, ?e1⟩; (case eF => k_asm); (case eN => exact news_end1 (by k_asm) (by intro p hp; repeat' (first | exact hp | refine List.Mem.tail _ ?_))); (case e0 => with_reducible first | exact cutEnd_1 (by assumption) (by assumption) (by assumption) | exact cutEnd_2 (by assumption) (by assumption) | exact cutF_1 (by assumption) (by assumption) (by assumption) | exact cutF_2 (by assumption) (by assumption)); (case e1 => with_reducible first | exact cutEnd_1 (by assumption) (by assumption) (by assumption) | exact cutEnd_2 (by assumption) (by assumption) | exact cutF_1 (by assumption) (by assumption) (by assumption) | exact cutF_2 (by assumption) (by assumption)); skip)

end Mine
end

section -- U_join
set_option compiler.extract_closed false
open PySem PySem.W PyProof.Rows PySem.Calls
set_option Elab.async false
set_option maxRecDepth 100000
set_option maxHeartbeats 0
namespace Mine
local macro_rules | `(tactic| walk_at $s:str) => `(tactic| k_extra $s)

theorem con_join (w : World) (mean : ExcName → Option Value) (mg mb : Str → Option Value) (news : List (Addr × Obj)) (x y : Str) (t u : Tok) (hx : x.length ≤ 100000) (hy : y.length ≤ 100000) :
    Con w mean mg mb 6 143 news [.str x t, .str y u] (RStr (joinF x y)) := by
  k_with_none
  k_with "mine sz" => (first | assumption | omega | ((simp only [Str.length_append] at *); omega))
  k_with "call ref" => ((k_here; (with_reducible show wpAny _ _ (PySem.call (Value.ref 129) _) _ _ _); k_dflt (refine' con_useS (con_get_sep _ _ _ _ _ _ _) (by k_asm) (by k_asm) (by k_asm) (by k_asm) (by k_asm) (by first | exact rfl | assumption) (by ktr_room) (by ktr_units) ?_; k_whole; intro t9 h9 tk9 F9 N9; (try dsimp only); (try k_fold))))
  k_with "call ref" => ((k_here; (with_reducible show wpAny _ _ (PySem.call (Value.ref 108) _) _ _ _); k_dflt (refine' con_useV (con_fspath _ _ _ _ _ _ _) (by k_asm) (by k_asm) (by k_asm) (by k_asm) (by k_asm) (by first | exact rfl | assumption) (by ktr_room) (by ktr_units) ?_; k_whole; intro h9 tk9 F9 N9; (try dsimp only); (try k_fold))))
  k_with "exec For" => ((k_here; (rename Fr _ _ _ _ => lF'); (refine wpAny_mono (E := fun _ _ => False) ?_ (fun _ _ h => h) (fun _ _ h => h.elim)); (with_unfolding_all refine' For_turns (hE := PassesOwn.never) lF' ?_); k_whole))
  k_with "pyIter ref" => ((k_here; (with_reducible show wpAny _ _ (PySem.pyIter (Value.ref _)) (fun it s₂ => TurnsAt _ _ _ _ _ _ _ _ _ it s₂) _ _); (rename Fr _ _ _ _ => lF'); (rename News _ _ _ _ => lN'); (with_unfolding_all refine iter_tupTurns (by rfl) lF' lN' (by k_mem) (by rfl) (by rfl) ?_); clear lF'; intro i' l1; (try k_lt l1)))
  k_with "UnrEndW" => ((k_here; (refine unr1 (by k_asm) (by k_asm) (by k_asm) ⟨by k_subL, ?_⟩)))
  unfold Con
  k_fill
  w_top off
  intro dp un gd cn cs a ccd cl outer A₀ base h₀ L m s Q E B F X N T hk hdp hu hret
  refine wpAny_call ?_
  k_dflt (refine' kp_rest ?k1 ?k2 ?k3 ?k4 ?k5 ?kA ?kF ?kK ?k6 ?k7 ?k8 ?kV ?kP ?kG ?kB ?_ ?c2 ?c3 ?c4 ?c5; (case kA => exact rfl); (case kF => exact rfl); (case kK => assumption); (case k1 => k_asm); (case k2 => k_asm); (case k3 => k_asm); (case k4 => k_asm); (case k5 => k_asm); (case k6 => k_is); (case k7 => k_is); (case k8 => ktr_room); (case kV => kl_lit); (case kP => exact rfl); (case kG => exact fun _ => rfl); (case kB => exact fun _ => locs rfl); (case c5 => decide); (case c2 => exact rfl); (case c3 => exact rfl); (case c4 => exact rfl); k_whole; intro D' g' L' h' l1 FG' F' N' B' X' T'; (try k_lt l1); (try dsimp only); (try k_fold))
  k_steps
  all_goals (refine' hret _ [] _ _ ?eF ?eN ⟨rfl, _, _, rfl, ?e⟩; (case eF => k_asm); (case eN => exact news_end0 (by k_asm) (by intro p hp; repeat' (first | exact hp | refine List.Mem.tail _ ?_))); (case e => with_reducible first | exact joinF_1 (by assumption) | exact joinF_2 (by assumption) | exact joinF_3 (by assumption) (by assumption) (by assumption) | exact joinF_4 (by assumption) (by assumption) (by assumption)))

end Mine
end

section -- U_lplain
set_option compiler.extract_closed false
open PySem PySem.W PyProof.Rows PySem.Calls
local macro_rules | `(tactic| walk_at "mine pad 7") => `(tactic| fail)
open PySem PySem.W PyProof.Rows PySem.Calls
set_option Elab.async false
set_option maxRecDepth 100000
set_option maxHeartbeats 0
namespace Mine
local macro_rules | `(tactic| walk_at $s:str) => `(tactic| k_extra $s)

theorem con_law_plain (w : World) (mean : ExcName → Option Value) (mg mb : Str → Option Value) (news : List (Addr × Obj)) (x : Str) (t : Tok) (hx : x.length ≤ 1000) :
    Con w mean mg mb 10 228 news [.str x t] (RStr (plainF x)) := by
  k_with_none
  k_with "mine sz" => (first | assumption | omega | ((simp only [Str.length_append] at *); omega))
  k_with "compareOp NotEq ref ref" => ((k_here; (with_reducible show wpAny _ _ (compareOp CmpOp.NotEq (Value.ref _) (Value.ref _)) _ _ _); k_dflt (refine' ne_nil (by k_asm) (by k_mem) (by k_mem) (by ktr_units) ?_)))
  k_with "subscriptTail Name Slice ref ref" => ((k_here; k_dflt (refine' sl_init (by k_asm) (by k_asm) (by k_mem) (by (rw [sizeLine_eq]; omega)) ?_ (by with_unfolding_all rfl) (by (intro _; with_unfolding_all rfl))); intro D' h' F' N' l1))
  k_with "mine szl" => (first | (rw [sizeLine_eq]; (try simp only [List.length_cons, List.length_nil, List.length_replicate, List.length_append]); omega) | (refine Nat.le_trans (Nat.add_le_add_right (List.length_filter_le _ _) _) ?_; rw [sizeLine_eq]; (try simp only [List.length_cons, List.length_nil, List.length_dropLast]); omega))
  k_with "binaryOp Add ref ref" => ((k_here; k_dflt (first
    | (refine' add_strs (by k_asm) (by k_asm) (by k_mem) (by k_mem) (by walk_at "mine szl") ?_)
    | (refine' add_strs (qs := [(_, _)]) (by k_asm) (by k_asm) (by k_mem) (by k_mem) (by walk_at "mine szl") ?_)); intro D' h' F' N' l1))
  k_with "binaryOp Mult ref int" => ((k_here; k_dflt (refine' mul_strs (c := Str.ofString "..") (by k_asm) (by k_asm) (by k_mem) (by omega) (by omega) ?_); intro D' h' F' N' l1))
  k_with "call builtin:str.join" => ((k_here; k_dflt (refine' join_strs (by k_asm) (by k_mem) (by first | assumption | exact dd_mem (by assumption)) (by ((try simp only [List.length_append, List.length_replicate]); omega)) (by decide) ?_); intro t' k' hj'))
  k_with "binaryOp Add str str" => (refine PyProof.Rows.add_str ?_; intro _ _)
  unfold Con
  k_fill
  w_top off
  intro dp un gd cn cs a ccd cl outer A₀ base h₀ L m s Q E B F X N T hk hdp hu hret
  refine wpAny_call ?_
  k_dflt ktr_enter
  k_steps
  have hps : ∀ {ps : List (Str × Tok)}, ps.map (fun x => x.1) = Txt.split x (Str.ofString "/") → ps.length ≤ 2000 := fun e => by
    have := split_len x (Str.ofString "/")
    rw [← e, List.length_map] at this
    omega
  refine iter_plain (rootRaw x) news rfl (by k_asm) (by k_asm) (by k_mem) (by k_mem) rfl rfl (by intro p hp; repeat' (first | exact hp | refine List.Mem.tail _ ?_)) (hps (by assumption)) ?_ ?_
  · intro pre c t post D cs ups tu h tk own e k4 hb ho F₁ N₁
    k_steps
    all_goals (refine plain_end' (by k_asm) (by k_asm) rfl rfl ?k3 (by k_mem) (by k_mem) (by intro p hp; repeat' (first | exact hp | refine List.Mem.tail _ ?_)) ?off ?st; (case k3 => (intro z z1 z2 z3; simp only [if_neg z1, if_neg z2, if_neg z3])); (case off => first | exact ho | exact off_new' ho (by assumption) (by intro p hp; repeat' (first | exact List.mem_append.mpr (.inr hp) | refine List.Mem.tail _ ?_))); (case st => with_reducible first | exact st_1 k4 (by assumption) (by assumption) (by assumption) | exact st_2 k4 (by assumption) (by assumption) (by assumption) | exact st_3 k4 (by assumption) (by assumption) (by assumption) | exact st_4 k4 (by assumption) (by assumption) | exact st_5 k4 (by assumption) (by assumption) | exact st_6 k4 (by assumption) (by assumption)))
  · intro D cs ups tu u h tk k4 F₁ N₁
    obtain ⟨f1, f2, f3, f4⟩ := plain_facts hx (by assumption) k4
    k_steps
    all_goals (refine' hret _ [] _ _ ?eF ?eN ⟨rfl, _, _, rfl, ?e⟩; (case eF => k_asm); (case eN => exact news_end0 (by k_asm) (by intro p hp; repeat' (first | exact hp | refine List.Mem.tail _ ?_))); (case e => with_reducible first | exact plainF_1 (by assumption) k4 (by assumption) | exact plainF_2 (by assumption) k4 (by assumption)))


end Mine
end

section -- U_sroot
set_option compiler.extract_closed false
open PySem PySem.W PyProof.Rows PySem.Calls
set_option Elab.async false
set_option maxRecDepth 100000
set_option maxHeartbeats 0
namespace Mine
local macro_rules | `(tactic| walk_at $s:str) => `(tactic| k_extra $s)

theorem con_splitroot (w : World) (mean : ExcName → Option Value) (mg mb : Str → Option Value) (news : List (Addr × Obj)) (x : Str) (t : Tok) (hx : x.length ≤ 100000) :
    Con w mean mg mb 6 167 news [.str x t] (RTup3 (Str.ofString "") (rootF x).1 (rootF x).2) := by
  k_with_none
  k_with "mine sz" => (first | assumption | omega | ((simp only [Str.length_append] at *); omega))
  k_with "call ref" => ((k_here; (with_reducible show wpAny _ _ (PySem.call (Value.ref 129) _) _ _ _); k_dflt (refine' con_useS (con_get_sep _ _ _ _ _ _ _) (by k_asm) (by k_asm) (by k_asm) (by k_asm) (by k_asm) (by first | exact rfl | assumption) (by ktr_room) (by ktr_units) ?_; k_whole; intro t9 h9 tk9 F9 N9; (try dsimp only); (try k_fold))))
  k_with "call ref" => ((k_here; (with_reducible show wpAny _ _ (PySem.call (Value.ref 108) _) _ _ _); k_dflt (refine' con_useV (con_fspath _ _ _ _ _ _ _) (by k_asm) (by k_asm) (by k_asm) (by k_asm) (by k_asm) (by first | exact rfl | assumption) (by ktr_room) (by ktr_units) ?_; k_whole; intro h9 tk9 F9 N9; (try dsimp only); (try k_fold))))
  unfold Con
  k_fill
  w_top off
  intro dp un gd cn cs a ccd cl outer A₀ base h₀ L m s Q E B F X N T hk hdp hu hret
  refine wpAny_call ?_
  k_dflt ktr_enter
  k_steps
  all_goals (refine' hret _ [_] _ _ ?eF ?eN ⟨_, _, _, _, _, _, _, rfl, rfl, ?e0, ?e1, ?e2⟩; (case eF => k_asm); (case eN => exact news_end1 (by k_asm) (by intro p hp; repeat' (first | exact hp | refine List.Mem.tail _ ?_))); (case e0 => first | rfl | (rw [rootF_1 (by assumption)]; done) | (rw [rootF_4 (by assumption) (by assumption) (by assumption)]; done) | (rw [rootF_3 (by assumption) (by assumption) (by assumption)]; done) | (rw [rootF_2 (by assumption) (by assumption)]; done)); (case e1 => first | rfl | (rw [rootF_1 (by assumption)]; done) | (rw [rootF_4 (by assumption) (by assumption) (by assumption)]; done) | (rw [rootF_3 (by assumption) (by assumption) (by assumption)]; done) | (rw [rootF_2 (by assumption) (by assumption)]; done)); (case e2 => first | rfl | (rw [rootF_1 (by assumption)]; done) | (rw [rootF_4 (by assumption) (by assumption) (by assumption)]; done) | (rw [rootF_3 (by assumption) (by assumption) (by assumption)]; done) | (rw [rootF_2 (by assumption) (by assumption)]; done)); skip)

end Mine
end

section -- U_norm
set_option compiler.extract_closed false
open PySem PySem.W PyProof.Rows PySem.Calls
set_option Elab.async false
set_option maxRecDepth 100000
set_option maxHeartbeats 0
namespace Mine
local macro_rules | `(tactic| walk_at $s:str) => `(tactic| k_extra $s)

local macro_rules | `(tactic| walk_at "call builtin:list.append") => `(tactic| (k_here; k_dflt (refine' append_strs ?k1 ?k2 ?k3 ?k4 ?k5 ?k6 ?_; (case k5 => assumption); (case k1 => k_asm); (case k2 => k_asm); (case k3 => k_mem); (case k4 => (intro p hp; repeat' (first | exact hp | refine List.Mem.tail _ ?_))); (case k6 => omega)); intro h' F' N'))
local macro_rules | `(tactic| walk_at "call builtin:list.pop") => `(tactic| (k_here; k_dflt (refine' pop_strs ?k1 ?k2 ?k3 ?k4 ?k5 ?kn ?k6 ?_; (case k5 => assumption); (case k1 => k_asm); (case k2 => k_asm); (case k3 => k_mem); (case kn => walk_at "mine ne"); (case k4 => (intro p hp; repeat' (first | exact hp | refine List.Mem.tail _ ?_))); (case k6 => omega)); intro y' t' h' F' N'))
theorem con_normpath (w : World) (mean : ExcName → Option Value) (mg mb : Str → Option Value) (news : List (Addr × Obj)) (x : Str) (t : Tok) (hx : x.length ≤ 1000) :
    Con w mean mg mb 10 188 news [.str x t] (RStr (normF x)) := by
  k_with_none
  k_with "mine sz" => (first | assumption | omega | ((simp only [Str.length_append] at *); omega))
  k_with "call ref" => ((k_here; (with_reducible show wpAny _ _ (PySem.call (Value.ref 108) _) _ _ _); k_dflt (refine' con_useV (con_fspath _ _ _ _ _ _ _) (by k_asm) (by k_asm) (by k_asm) (by k_asm) (by k_asm) (by first | exact rfl | assumption) (by ktr_room) (by ktr_units) ?_; k_whole; intro h9 tk9 F9 N9; (try dsimp only); (try k_fold))))
  k_with "call ref" => ((k_here; (with_reducible show wpAny _ _ (PySem.call (Value.ref 129) _) _ _ _); k_dflt (refine' con_useS (con_get_sep _ _ _ _ _ _ _) (by k_asm) (by k_asm) (by k_asm) (by k_asm) (by k_asm) (by first | exact rfl | assumption) (by ktr_room) (by ktr_units) ?_; k_whole; intro t9 h9 tk9 F9 N9; (try dsimp only); (try k_fold))))
  k_with "call ref" => ((k_here; (with_reducible show wpAny _ _ (PySem.call (Value.ref 167) _) _ _ _); k_dflt (refine' con_useT3 (con_splitroot _ _ _ _ _ _ _ ?_) (by k_asm) (by k_asm) (by k_asm) (by k_asm) (by k_asm) (by first | exact rfl | assumption) (by ktr_room) (by ktr_units) ?_; ((walk_at "mine sz")); k_whole; intro b9 t9 u9 v9 h9 tk9 F9 N9; (try dsimp only); (try k_fold))))
  k_with "mine ne" => ((intro e9; subst e9; first | (exact absurd (show List.isEmpty ([] : List (Str × Tok)) = false by with_reducible assumption) (by decide)) | simp_all))
  k_with "subscriptTail Name UnaryOp ref int" => ((k_here; k_dflt (refine' item_lastT (by exact News.isList (by k_asm) (by k_mem)) (by walk_at "mine ne") ?_ (by with_unfolding_all rfl)); intro y' t' hl'))
  k_with "truthy str" => ((k_here; k_dflt (refine' SBL.truthy (by (first | omega | ((try simp only [Str.length_append]); omega))) ?_)))
  k_with "truthy ref" => ((k_here; k_dflt (refine' truthy_strs (by k_asm) (by k_mem) (by omega) ?_); intro k'))
  k_with "call builtin:str.split" => ((k_here; (with_reducible rename Fr _ _ _ _ => F'); (with_reducible rename News _ _ _ _ => N'); (refine splitN1 F' N' (by decide) ?_ (by rw [sizeLine_eq]; omega)); intro l' h' k' hsp' F' N'))
  k_with "call builtin:str.join" => ((k_here; k_dflt (refine' join_strs (by k_asm) (by k_mem) (by assumption) (by omega) (by decide) ?_); intro t' k' hj'))
  k_with "newList" => ((k_here; k_dflt (refine' newList_K (hsz := Nat.le_of_ble_eq_true rfl) (by k_asm) (by k_asm) ?_; k_whole); intro l' h' F' N' l1))
  k_with "exec For Name Name cons nil" => ((k_here; (rename Fr _ _ _ _ => lF'); (with_unfolding_all refine' For_invVF lF' (by exact rfl) (by exact rfl) ?_; k_whole)))
  k_with "binaryOp Add str str" => (refine PyProof.Rows.add_str ?_; intro _ _)
  unfold Con
  k_fill
  w_top off
  intro dp un gd cn cs a ccd cl outer A₀ base h₀ L m s Q E B F X N T hk hdp hu hret
  refine wpAny_call ?_
  k_dflt ktr_enter
  have hrl := rootF_len x
  have hps : ∀ {ps : List (Str × Tok)}, ps.map (fun x => x.1) = Txt.split (rootF x).2 (Str.ofString "/") → ps.length ≤ 2000 := fun e => by
    have := split_len (rootF x).2 (Str.ofString "/")
    rw [← e, List.length_map] at this
    omega
  k_steps
  · refine iter_norm (rootF x).1 news rfl (by k_asm) (by k_asm) (by k_mem) (by k_mem) (by intro p hp; repeat' (first | exact hp | refine List.Mem.tail _ ?_)) (off_of (by assumption) (by intro p hp; rcases List.mem_cons.mp hp with rfl | hp; (k_mem); (repeat' (first | exact hp | refine List.Mem.tail _ ?_)))) (hps (by assumption)) ?_ ?_
    · intro pre c t post cs k h tk own e k4 hb ho hof F₁ N₁
      have hc9 := piece_le (by assumption) e
      k_steps
      all_goals (refine norm_end (by k_asm) (by k_asm) ?k3 (by k_mem) (by k_mem) (by intro p hp; repeat' (first | exact hp | refine List.Mem.tail _ ?_)) ho ?st; (case k3 => (intro z z1; simp only [if_neg z1])); (case st => with_reducible first | exact sn_1 k4 (by assumption) | exact sn_2 k4 (by assumption) | exact sn_3 k4 (by assumption) (by assumption) (by assumption) | exact sn_4 k4 (by assumption) (by assumption) (by assumption) (by assumption) | exact sn_5 k4 (by assumption) (by assumption) (by assumption) (by assumption) | exact sn_6 k4 (by assumption) (by assumption) (by assumption) (by assumption) (by assumption) | exact sn_7 k4 (by assumption) (by assumption) (by assumption) (by assumption) (by assumption) (by assumption)))
    · intro cs k u h tk k4 F₁ N₁
      obtain ⟨f1, f2⟩ := norm_facts (Nat.le_trans hrl.1 hx) (by assumption) k4
      k_steps
      all_goals (refine' hret _ [] _ _ ?eF ?eN ⟨rfl, _, _, rfl, ?e⟩; (case eF => k_asm); (case eN => exact news_end0 (by k_asm) (by intro p hp; repeat' (first | exact hp | refine List.Mem.tail _ ?_))); (case e => with_reducible first | exact normF_1 (by assumption) (by assumption) k4 (by assumption) | exact normF_2 (by assumption) (by assumption) k4 (by assumption)))
  all_goals (refine' hret _ [] _ _ ?eF ?eN ⟨rfl, _, _, rfl, ?e⟩; (case eF => k_asm); (case eN => exact news_end0 (by k_asm) (by intro p hp; repeat' (first | exact hp | refine List.Mem.tail _ ?_))); (case e => with_reducible first | exact normF_0 (by assumption)))

end Mine
end

section -- U_loneb
set_option compiler.extract_closed false
open PySem PySem.W PyProof.Rows PySem.Calls
set_option Elab.async false
set_option maxRecDepth 100000
set_option maxHeartbeats 0
namespace Mine
local macro_rules | `(tactic| walk_at $s:str) => `(tactic| k_extra $s)

local macro_rules | `(tactic| walk_at "call ref") => `(tactic| (k_here; (with_reducible show wpAny _ _ (PySem.call (Value.ref 35) _) _ _ _); k_dflt (refine' con_useFss ?km ?kx ?ky ?ki ?k1 ?k2 ?k3 ?k4 ?k5 ?kK ?kd ?ku ?_; (case k1 => k_asm); (case k2 => k_asm); (case k3 => k_asm); (case k4 => k_asm); (case k5 => k_asm); (case km => k_mem); (case kx => (walk_at "mine sz")); (case ky => (walk_at "mine sz")); (case ki => assumption); (case kK => first | exact rfl | assumption); (case kd => ktr_room); (case ku => ktr_units); k_whole; intro t9 h9 tk9 F9 N9; (try dsimp only); (try k_fold))))

theorem con_law_one_b (w : World) (mean : ExcName → Option Value) (mg mb : Str → Option Value) (news : List (Addr × Obj)) (x y : Str) (i : Int) (t u v : Tok) (hx : x.length ≤ 100) (hy : y.length ≤ 100) (hi : i = 0 ∨ i = 7 ∨ i = 12 ∨ i = -3) (ok : OneOk x y i) :
    Con w mean mg mb 20 235 news [.str x t, .int i v, .str y u] (RBool true) := by
  k_with_none
  k_with "mine sz" => (first | (with_reducible assumption) | (with_reducible exact le_c (k := 100) (by with_reducible assumption) (by decide)) | (with_reducible exact le_c (k := 300) (by with_reducible assumption) (by decide)) | (with_reducible refine slice_len ?_; walk_at "mine sz") | (with_reducible refine lastOf_len ?_; walk_at "mine sz") | (with_reducible refine rstrip_len ?_; walk_at "mine sz") | (with_reducible exact app_len (a := 100) (b := 300) (by walk_at "mine sz") (by walk_at "mine sz") (by omega)) | (with_reducible exact plainF_len' (by walk_at "mine sz") (by decide)) | (with_reducible exact normF_len' (by walk_at "mine sz") (by decide)) | omega)
  k_with "call ref" => ((k_here; (with_reducible show wpAny _ _ (PySem.call (Value.ref 129) _) _ _ _); k_dflt (refine' con_useS (con_get_sep _ _ _ _ _ _ _) (by k_asm) (by k_asm) (by k_asm) (by k_asm) (by k_asm) (by first | exact rfl | assumption) (by ktr_room) (by ktr_units) ?_; k_whole; intro t9 h9 tk9 F9 N9; (try dsimp only); (try k_fold))))
  k_with "call ref" => ((k_here; (with_reducible show wpAny _ _ (PySem.call (Value.ref 108) _) _ _ _); k_dflt (refine' con_useV (con_fspath _ _ _ _ _ _ _) (by k_asm) (by k_asm) (by k_asm) (by k_asm) (by k_asm) (by first | exact rfl | assumption) (by ktr_room) (by ktr_units) ?_; k_whole; intro h9 tk9 F9 N9; (try dsimp only); (try k_fold))))
  k_with "call ref" => ((k_here; (with_reducible show wpAny _ _ (PySem.call (Value.ref 136) _) _ _ _); k_dflt (refine' con_useB (con_isabs _ _ _ _ _ _ _ ?_) (by k_asm) (by k_asm) (by k_asm) (by k_asm) (by k_asm) (by first | exact rfl | assumption) (by ktr_room) (by ktr_units) ?_; ((walk_at "mine sz")); k_whole; intro h9 tk9 F9 N9; (try dsimp only); (try k_fold))))
  k_with "call ref" => ((k_here; (with_reducible show wpAny _ _ (PySem.call (Value.ref 150) _) _ _ _); k_dflt (refine' con_useT (con_split _ _ _ _ _ _ _ ?_) (by k_asm) (by k_asm) (by k_asm) (by k_asm) (by k_asm) (by first | exact rfl | assumption) (by ktr_room) (by ktr_units) ?_; ((walk_at "mine sz")); k_whole; intro b9 t9 u9 h9 tk9 F9 N9; (try dsimp only); (try k_fold))))
  k_with "call ref" => ((k_here; (with_reducible show wpAny _ _ (PySem.call (Value.ref 174) _) _ _ _); k_dflt (refine' con_useS (con_basename _ _ _ _ _ _ _ ?_) (by k_asm) (by k_asm) (by k_asm) (by k_asm) (by k_asm) (by first | exact rfl | assumption) (by ktr_room) (by ktr_units) ?_; ((walk_at "mine sz")); k_whole; intro t9 h9 tk9 F9 N9; (try dsimp only); (try k_fold))))
  k_with "call ref" => ((k_here; (with_reducible show wpAny _ _ (PySem.call (Value.ref 181) _) _ _ _); k_dflt (refine' con_useS (con_dirname _ _ _ _ _ _ _ ?_) (by k_asm) (by k_asm) (by k_asm) (by k_asm) (by k_asm) (by first | exact rfl | assumption) (by ktr_room) (by ktr_units) ?_; ((walk_at "mine sz")); k_whole; intro t9 h9 tk9 F9 N9; (try dsimp only); (try k_fold))))
  k_with "call ref" => ((k_here; (with_reducible show wpAny _ _ (PySem.call (Value.ref 214) _) _ _ _); k_dflt (refine' con_useS (con_law_built_in _ _ _ _ _ _ _ ?_) (by k_asm) (by k_asm) (by k_asm) (by k_asm) (by k_asm) (by first | exact rfl | assumption) (by ktr_room) (by ktr_units) ?_; ((walk_at "mine sz")); k_whole; intro t9 h9 tk9 F9 N9; (try dsimp only); (try k_fold))))
  k_with "call ref" => ((k_here; (with_reducible show wpAny _ _ (PySem.call (Value.ref 207) _) _ _ _); k_dflt (refine' con_useT4 (con_law_read _ _ _ _ _ _ _ ?_) (by k_asm) (by k_asm) (by k_asm) (by k_asm) (by k_asm) (by first | exact rfl | assumption) (by ktr_room) (by ktr_units) ?_; ((walk_at "mine sz")); k_whole; intro b9 t9 u9 v9 w9 h9 tk9 F9 N9; (try dsimp only); (try k_fold))))
  k_with "call ref" => ((k_here; (with_reducible show wpAny _ _ (PySem.call (Value.ref 115) _) _ _ _); k_dflt (refine' con_useT (con_splitext0 _ _ _ _ _ _ _ _ _ ?_) (by k_asm) (by k_asm) (by k_asm) (by k_asm) (by k_asm) (by first | exact rfl | assumption) (by ktr_room) (by ktr_units) ?_; ((walk_at "mine sz")); k_whole; intro b9 t9 u9 h9 tk9 F9 N9; (try dsimp only); (try k_fold))))
  k_with "call ref" => ((k_here; (with_reducible show wpAny _ _ (PySem.call (Value.ref 157) _) _ _ _); k_dflt (refine' con_useT (con_splitext _ _ _ _ _ _ _ ?_) (by k_asm) (by k_asm) (by k_asm) (by k_asm) (by k_asm) (by first | exact rfl | assumption) (by ktr_room) (by ktr_units) ?_; ((walk_at "mine sz")); k_whole; intro b9 t9 u9 h9 tk9 F9 N9; (try dsimp only); (try k_fold))))
  k_with "call ref" => ((k_here; (with_reducible show wpAny _ _ (PySem.call (Value.ref 221) _) _ _ _); k_dflt (refine' con_useT (con_law_cut _ _ _ _ _ _ _ _ _ ?_ ?_) (by k_asm) (by k_asm) (by k_asm) (by k_asm) (by k_asm) (by first | exact rfl | assumption) (by ktr_room) (by ktr_units) ?_; ((walk_at "mine sz")); ((walk_at "mine sz")); k_whole; intro b9 t9 u9 h9 tk9 F9 N9; (try dsimp only); (try k_fold))))
  k_with "call ref" => ((k_here; (with_reducible show wpAny _ _ (PySem.call (Value.ref 143) _) _ _ _); k_dflt (refine' con_useS (con_join _ _ _ _ _ _ _ _ _ ?_ ?_) (by k_asm) (by k_asm) (by k_asm) (by k_asm) (by k_asm) (by first | exact rfl | assumption) (by ktr_room) (by ktr_units) ?_; ((walk_at "mine sz")); ((walk_at "mine sz")); k_whole; intro t9 h9 tk9 F9 N9; (try dsimp only); (try k_fold))))
  k_with "call ref" => ((k_here; (with_reducible show wpAny _ _ (PySem.call (Value.ref 228) _) _ _ _); k_dflt (refine' con_useS (con_law_plain _ _ _ _ _ _ _ ?_) (by k_asm) (by k_asm) (by k_asm) (by k_asm) (by k_asm) (by first | exact rfl | assumption) (by ktr_room) (by ktr_units) ?_; ((walk_at "mine sz")); k_whole; intro t9 h9 tk9 F9 N9; (try dsimp only); (try k_fold))))
  k_with "call ref" => ((k_here; (with_reducible show wpAny _ _ (PySem.call (Value.ref 167) _) _ _ _); k_dflt (refine' con_useT3 (con_splitroot _ _ _ _ _ _ _ ?_) (by k_asm) (by k_asm) (by k_asm) (by k_asm) (by k_asm) (by first | exact rfl | assumption) (by ktr_room) (by ktr_units) ?_; ((walk_at "mine sz")); k_whole; intro b9 t9 u9 v9 h9 tk9 F9 N9; (try dsimp only); (try k_fold))))
  k_with "call ref" => ((k_here; (with_reducible show wpAny _ _ (PySem.call (Value.ref 188) _) _ _ _); k_dflt (refine' con_useS (con_normpath _ _ _ _ _ _ _ ?_) (by k_asm) (by k_asm) (by k_asm) (by k_asm) (by k_asm) (by first | exact rfl | assumption) (by ktr_room) (by ktr_units) ?_; ((walk_at "mine sz")); k_whole; intro t9 h9 tk9 F9 N9; (try dsimp only); (try k_fold))))
  k_with "mine ne" => ((intro e9; subst e9; first | (exact absurd (show List.isEmpty ([] : List (Str × Tok)) = false by with_reducible assumption) (by decide)) | simp_all))
  k_with "subscriptTail Name UnaryOp ref int" => ((k_here; k_dflt (refine' item_lastT (by exact News.isList (by k_asm) (by k_mem)) (by walk_at "mine ne") ?_ (by with_unfolding_all rfl)); intro y' t' hl'))
  k_with "truthy str" => ((k_here; k_dflt (refine' SBL.truthy (by (first | omega | ((try simp only [Str.length_append]); omega))) ?_)))
  k_with "truthy ref" => ((k_here; k_dflt (refine' truthy_strs (by k_asm) (by k_mem) (by omega) ?_); intro k'))
  k_with "call builtin:str.split" => ((k_here; (with_reducible rename Fr _ _ _ _ => F'); (with_reducible rename News _ _ _ _ => N'); (refine splitN1 F' N' (by decide) ?_ (by rw [sizeLine_eq]; omega)); intro l' h' k' hsp' F' N'))
  k_with "call builtin:str.join" => ((k_here; k_dflt (refine' join_strs (by k_asm) (by k_mem) (by assumption) (by omega) (by decide) ?_); intro t' k' hj'))
  k_with "call builtin:str.split" => ((k_here; (with_reducible rename Fr _ _ _ _ => F'); (with_reducible rename News _ _ _ _ => N'); (refine splitN1 F' N' (by decide) ?_ (by rw [sizeLine_eq]; omega)); intro l' h' k' hsp' F' N'; (have hsl' := split_len9 hsp'); (try dsimp only)))
  k_with "mine alike" => (repeat (first | exact Alike.nil | refine Alike.str ?_ | refine Alike.int ?_))
  k_with "compareOp Eq ref ref" => ((k_here; (with_reducible show wpAny _ _ (compareOp CmpOp.Eq (Value.ref _) (Value.ref _)) _ _ _); k_dflt (refine eq_tups (by k_asm) (by k_mem) (by k_mem) (by walk_at "mine alike") (by ktr_units) ?_); (try simp only [allEq, valEq, Bool.and_true])))
  k_with "compareOp NotEq ref ref" => ((k_here; (with_reducible show wpAny _ _ (compareOp CmpOp.NotEq (Value.ref _) (Value.ref _)) _ _ _); k_dflt (refine ne_tups (by k_asm) (by k_mem) (by k_mem) (by walk_at "mine alike") (by ktr_units) ?_); (try simp only [allEq, valEq, Bool.and_true])))
  k_with "subscriptTail Call Attribute cons nil UnaryOp ref int" => ((k_here; k_dflt (refine' item_lastS (by exact News.isList (by k_asm) (by k_mem)) (by assumption) ?_ (by with_unfolding_all rfl)); intro t'))
  k_with "binaryOp Add str str" => ((k_here; (refine SBL.add (hsz := (by exact add_sz (by walk_at "mine sz") (by walk_at "mine sz"))) ?_); intro _ _))
  k_with "exec If" => ((k_here; ((refine walk_if_false (by k_asm) (by k_asm) ?_ (fun h' tk' F' N' => ?_)) <;> (try dsimp only))))
  k_with "exec Assign" => ((k_here; (with_reducible show wpAny _ _ (exec (.Assign _ (.BoolOp _ _ _) _) _) _ _ _); (fail_if_success (with_reducible show wpAny _ _ _ (AsF _ _ _ _ _ _ _) _ _)); (rename OneOk _ _ _ => ok9); ((refine assign_join (x := Str.ofString "folder") ok9 rfl (by k_asm) (by k_asm) ?_ (fun h' tk' t' F' N' => ?_)) <;> (try dsimp only))))
  k_with "call builtin:len" => ((k_here; (with_reducible show wpAny _ _ (call (Value.builtin "len") [Value.str _ _]) _ _ _); (refine len_str9 (by walk_at "mine sz") ?_)))
  k_with "truthy str" => ((k_here; (refine truthy9 (by walk_at "mine sz") ?_)))
  k_with "AsF" => ((k_here; (refine AsF.mk ?_ (by k_asm) (by k_asm) (by intro p hp; repeat' (first | exact hp | refine List.Mem.tail _ ?_)) rfl); (unfold foldP); first | (with_reducible exact orS_1 (by assumption)) | (with_reducible exact orS_2 (by assumption))))
  k_with "IfF" => ((k_here; (rename OneOk _ _ _ => ok9); (refine IfF.mk ?_ (by k_asm) (by k_asm) (by intro p hp; repeat' (first | exact hp | refine List.Mem.tail _ ?_))); (try show _ = false); first
    | (with_reducible exact rfl)
    | (with_reducible exact absurd ⟨by assumption, by assumption⟩ ok9.nb)
    | (with_reducible exact absurd ok9.f1 (ne_true_of_eq_false (by assumption)))
    | (with_reducible exact (bne_f ok9.f2 (by assumption)).elim)
    | (with_reducible exact (bne_f (ok9.f3 ⟨by assumption, by assumption⟩) (by assumption)).elim)
    | (with_reducible exact bne_eqf (ok9.f3 ⟨by assumption, by assumption⟩))
    | (with_reducible exact bne_eqf (ok9.f3' (fun h => absurd h.2 (by assumption))))
    | (with_reducible exact bne_eqf (ok9.f3' (fun h => absurd h.1 (ne_true_of_eq_false (by assumption)))))
    | (with_reducible exact (bne_f (ok9.f4.trans (orS_1 (by assumption)).symm) (by assumption)).elim)
    | (with_reducible exact (bne_f (ok9.f4.trans (orS_2 (by assumption)).symm) (by assumption)).elim)
    | (with_reducible exact (bne_f (ok9.f5.trans (orS_1 (by assumption)).symm) (by assumption)).elim)
    | (with_reducible exact (bne_f (ok9.f5.trans (orS_2 (by assumption)).symm) (by assumption)).elim)
    | (with_reducible exact (bne_f ok9.f6 (by assumption)).elim)
    | (with_reducible exact absurd (and2 ok9.f7 ok9.f7') (ne_true_of_eq_false (by assumption)))
    | (with_reducible exact absurd (and2 ok9.f8 ok9.f8') (ne_true_of_eq_false (by assumption)))
    | (with_reducible exact absurd (and2 ok9.f9 ok9.f9') (ne_true_of_eq_false (by assumption)))
    | skip))
  unfold Con
  k_fill
  w_top off
  intro dp un gd cn cs a ccd cl outer A₀ base h₀ L m s Q E B F X N T hk hdp hu hret
  have hz := fssF_len hx hy hi
  have hzb := builtF_len hy
  refine wpAny_call ?_
  k_dflt ktr_enter
  k_steps
  all_goals (refine' hret _ [] _ _ ?eF ?eN ⟨rfl, _, rfl, ?e⟩; (case eF => k_asm); (case eN => exact news_end0 (by k_asm) (by intro p hp; repeat' (first | exact hp | refine List.Mem.tail _ ?_))); (case e => (rename OneOk _ _ _ => ok9); with_reducible first | exact rfl | exact and2 ok9.f11 ok9.f11' | exact (beq_f ok9.f10 (by assumption)).elim))


end Mine
end

section -- U_lone
open PySem PySem.W PyProof.Rows PySem.Calls
set_option Elab.async false
set_option maxRecDepth 100000
set_option maxHeartbeats 0
namespace Mine

noncomputable def OneHyp (x y : Str) (i : Int) : Prop := ((x == Str.ofString "~") = true ∧ i = 0 → fssF x i y = builtF y) ∧ (¬ ((x == Str.ofString "~") = true ∧ i = 0) → OneOk x y i)
theorem con_law_one (w : World) (mean : ExcName → Option Value) (mg mb : Str → Option Value) (news : List (Addr × Obj)) (x y : Str) (i : Int) (t u v : Tok) (hx : x.length ≤ 100) (hy : y.length ≤ 100) (hi : i = 0 ∨ i = 7 ∨ i = 12 ∨ i = -3) (ok : OneHyp x y i) :
    Con w mean mg mb 20 235 news [.str x t, .int i v, .str y u] (RBool true) := by
  by_cases c : (x == Str.ofString "~") = true ∧ i = 0
  · exact con_law_one_a w mean mg mb news x y i t u v hx hy hi c (ok.1 c)
  · exact con_law_one_b w mean mg mb news x y i t u v hx hy hi (ok.2 c)

end Mine
end

section -- X1
open PySem PySem.W PyProof.Rows PySem.Spec PySem.Calls
set_option Elab.async false
set_option maxRecDepth 100000
namespace Mine
theorem entry_unchain : entryFor table "proto.unchain" = some Builtin.«proto.unchain» := entryFor_of_tree (by kernel_rfl)
section
variable {prog : Program} {w : World} {A : Around} {E : Value → Shared → Prop} {s : Shared} {env : Env} {e1 e2 : Addr} {o1 o2 : Obj} {vs1 vs2 : Array Value}
theorem unchain_at (h1 : s.heap.get? e1 = some o1) (d1 : o1.data = .fields vs1) (c1 : vs1[2]? = some .none) {Q : Value → Shared → Prop} (h : Q .none s) :
    wpAny (model prog w) A (runValue (.builtin "proto.unchain" ⟨[.ref e2, .ref e1, .ref e1, .bool false], []⟩)) Q E s := by
  refine wpAny_runValue (codeAny_builtin entry_unchain ?_)
  unfold Builtin.«proto.unchain»
  dsimp only
  refine wpAny_bind (wpAny_field h1 d1 c1 ?_)
  rw [if_pos (by decide)]
  unfold ret
  exact wpAny_pure h
theorem raiseNew_from {α : Type} {Q : α → Shared → Prop} (hh : A.handled = some (.ref e1)) (hne : e1 ≠ e2) (h1 : s.heap.get? e1 = some o1) (d1 : o1.data = .fields vs1) (c1 : vs1[2]? = some .none)
    (h2 : s.heap.get? e2 = some o2) (d2 : o2.data = .fields vs2) (sz : 2 < vs2.size) (h : E (.ref e2) { s with heap := s.heap.update e2 (Obj.mapFields (·.setIfInBounds 2 (.ref e1))) }) :
    wpAny (model prog w) A (raiseNew (.ref e2) : Sem α) Q E s := by
  unfold raiseNew
  refine wpAny_bind (wpAny_handled ?_)
  rw [hh]
  dsimp only
  rw [if_pos (by simpa using hne)]
  refine wpAny_bind (wpAny_holding (unchain_at h1 d1 c1 ?_))
  refine wpAny_bind (m := updateField e2 2 (.ref e1)) ?_
  exact wpAny_setField h2 d2 sz (wpAny_throw h)
theorem mapF_data {o : Obj} {vs : Array Value} {i : Nat} {x : Value} (hd : o.data = .fields vs) : (o.mapFields (·.setIfInBounds i x)).data = .fields (vs.setIfInBounds i x) := Obj.data_mapFields hd _
theorem raise_from {x c : Sem Value} {Q : Flow → Shared → Prop} (hh : A.handled = some (.ref e1))
    (hc : ∀ (s : Shared) (Q : Value → Shared → Prop) (E : Value → Shared → Prop), Q .none s → wpAny (model prog w) A c Q E s)
    (h : wpAny (model prog w) A x (fun v s₁ => ∃ e ob tp, v = .ref e ∧ e1 ≠ e ∧ s₁.heap.get? e = some ob ∧ ob.cls = .type "ValueError" ∧ ob.data = .fields #[tp, .none, .none, .none, .bool false, .none] ∧
      (∃ o1 vs1, s₁.heap.get? e1 = some o1 ∧ o1.data = .fields vs1 ∧ vs1[2]? = some .none) ∧
      ∀ h', (∀ b, b ≠ e → h'.get? b = s₁.heap.get? b) → (∃ ob' vs', h'.get? e = some ob' ∧ ob'.cls = .type "ValueError" ∧ ob'.data = .fields vs' ∧ vs'[1]? = some .none) → E (.ref e) { s₁ with heap := h' }) E s) :
    wpAny (model prog w) A (raiseStmt env (some x) (some c)) Q E s := by
  unfold raiseStmt
  dsimp only
  refine wpAny_bind (wpAny_mono h (fun v s₁ h₁ => ?_) fun _ _ x => x)
  obtain ⟨a, ob, tp, rfl, hne, ha, hcls, hd, ⟨o1, vs1, g1, d1, c1⟩, hE⟩ := h₁
  have hT : s₁.TypeIs (.ref a) "ValueError" := ⟨ob, ha, hcls⟩
  have hnt : ∀ {s₂ : Shared} {ob : Obj} {vs : Array Value} {Q' : Bool → Shared → Prop}, s₂.heap.get? a = some ob → ob.data = .fields vs → Q' false s₂ → wpAny (model prog w) A (isType (.ref a)) Q' E s₂ := by
    intro s₂ ob vs Q' ha hd hq
    simp only [isType, loadHead]
    refine wpAny_bind (wpAny_loadPart ha ?_)
    rw [hd]; exact wpAny_pure hq
  refine wpAny_bind (wpAny_holding (hc _ _ _ ?_))
  refine wpAny_bind (wpAny_pure ?_)
  refine wpAny_bind (wpAny_holding ?_)
  unfold excFromValue isExcClass
  refine wpAny_bind (wpAny_bind (hnt ha hd ?_))
  simp only [Bool.false_eq_true, if_false]
  refine wpAny_pure ?_
  simp only [Bool.false_eq_true, if_false]
  refine wpAny_bind (wpAny_isInstance hT PySem.F.excRaise_ValueError.isExc ?_)
  simp only [if_true]
  refine wpAny_pure ?_
  rw [if_pos (by decide)]
  refine wpAny_bind (wpAny_pure ?_)
  have hf0 : ob.isFreed = false := Obj.isFreed_of_fields hd
  refine wpAny_bind (wpAny_setField ha hd (by simp) ?_)
  have ha1 := Heap.get?_update_self (Obj.mapFields (·.setIfInBounds 3 Value.none)) ha (Obj.isFreed_of_fields (mapF_data hd))
  refine wpAny_bind (wpAny_setField ha1 (mapF_data hd) (by simp) ?_)
  have ha2 := Heap.get?_update_self (Obj.mapFields (·.setIfInBounds 4 (Value.bool true))) ha1 (Obj.isFreed_of_fields (mapF_data (mapF_data hd)))
  refine wpAny_bind (hnt ha2 (mapF_data (mapF_data hd)) ?_)
  simp only [Bool.false_eq_true, if_false]
  unfold raisedInstance
  have hT2 : ({ s₁ with heap := (s₁.heap.update a (Obj.mapFields (·.setIfInBounds 3 Value.none))).update a (Obj.mapFields (·.setIfInBounds 4 (Value.bool true))) } : Shared).TypeIs (.ref a) "ValueError" := ⟨_, ha2, by rw [Obj.cls_mapFields, Obj.cls_mapFields]; exact hcls⟩
  refine wpAny_bind (wpAny_bind (wpAny_typeOf hT2 (wpAny_bind (m := typeOf (.type "ValueError")) (wpAny_pure ?_))))
  rw [if_pos PySem.F.excRaise_ValueError.plainMeta]
  refine wpAny_pure ?_
  unfold setFlight
  refine wpAny_bind (wpAny_bind (wpAny_field ha2 (mapF_data (mapF_data hd)) (x := .none) rfl ?_))
  rw [if_neg (by decide)]
  refine wpAny_pure ?_
  have o1' : ((s₁.heap.update a (Obj.mapFields (·.setIfInBounds 3 Value.none))).update a (Obj.mapFields (·.setIfInBounds 4 (Value.bool true)))).get? e1 = some o1 := by
    rw [Heap.get?_update_other _ _ (Ne.symm hne), Heap.get?_update_other _ _ (Ne.symm hne)]; exact g1
  refine raiseNew_from hh hne o1' d1 c1 ha2 (mapF_data (mapF_data hd)) (by simp) (hE _ (fun b hb => ?_) ⟨_, _, Heap.get?_update_self _ ha2 (Obj.isFreed_of_fields (mapF_data (mapF_data (mapF_data hd)))), by rw [Obj.cls_mapFields, Obj.cls_mapFields, Obj.cls_mapFields]; exact hcls, mapF_data (mapF_data (mapF_data hd)), rfl⟩)
  rw [Heap.get?_update_other _ _ (Ne.symm hb), Heap.get?_update_other _ _ (Ne.symm hb), Heap.get?_update_other _ _ (Ne.symm hb)]
end
end Mine
end

section -- X2
open PySem PySem.W PyProof.Rows PySem.Spec PySem.Calls
set_option Elab.async false
set_option maxRecDepth 100000
namespace Mine
section
variable {M : Model} {A : Around} {E : Value → Shared → Prop} {s : Shared}
/-- the first note of an exception; its other fields stay -/
theorem note_first {base : Heap} {env : Env} {outer : List Env} {L e : Addr} {oe : Obj} {vs : Array Value} {Q : Unit → Shared → Prop}
    (hfr : A.frames = some (env :: outer)) (hl : s.heap.FunFrames base (env :: outer)) (hf : env.frame = some L)
    (he : s.heap.get? e = some oe) (hkb : base.StaysIn s.heap) (hd : oe.data = .fields vs) (h1 : vs[1]? = some .none) (hen : base.get? e = none)
    (h : ∀ h' T oT ts, base.StaysIn h' → h'.FunFrames base (env :: outer) → (∃ oe', h'.get? e = some oe' ∧ oe'.cls = oe.cls ∧ oe'.data = .fields (vs.setIfInBounds 1 (.ref T))) →
      base.get? T = none → T ≠ e → h'.get? T = some oT → oT.data = .fields ts → ts[3]? = some (rawInt L) → s.heap.UpToSlots h' → Q () { s with heap := h' }) :
    wpAny M A (noteFrame (.ref e) env) Q E s := by
  have hsz : 1 < vs.size := (Array.getElem?_eq_some_iff.mp h1).1
  have hene : e ∉ (env :: outer).filterMap (·.frame) := fun hm => by
    obtain ⟨_, o, ho, hnf⟩ := hl.mem hm
    rw [he] at ho; injection ho with ho; subst ho; exact hnf vs hd
  unfold noteFrame
  simp only [hf]
  refine wpAny_bind (wpAny_field he hd h1 ?_)
  rw [if_neg (by decide)]
  refine wpAny_bind (wpAny_frameOf_fun hfr hl hf fun h₁ hs₁ => ?_)
  refine wpAny_bind (wpAny_entryPlaceOf fun pl hpl => ?_)
  unfold EntryCells.newEntry newFields
  refine wpAny_bind (wpAny_newObj_type ?_ (hpl.sizeOk5 _ _ _ _ _))
  have he₁ : h₁.get? e = some oe := (hs₁.2.1 e hene).trans he
  have kb₁ : base.StaysIn h₁ := fun b o hbo => (hs₁.2.1 b fun hm => by rw [(hl.mem hm).1] at hbo; cases hbo).trans (hkb b o hbo)
  generalize hoT : ({ cls := .type "traceback", dict := none, data := .fields ([Value.none, .ref L, .none, rawInt L, .none] ++ (if pl.isEmpty then List.replicate 6 Value.none else pl)).toArray } : Obj) = oT
  have he₂ := Heap.get?_push_of_some (h := h₁) oT he₁
  have hTf : oT.isFreed = false := by rw [← hoT]; rfl
  refine wpAny_setField he₂ hd hsz ?_
  have hTe : h₁.objs.size ≠ e := Nat.ne_of_gt (Heap.lt_size he₁)
  have hd₃ := Obj.data_mapFields hd (·.setIfInBounds 1 (Value.ref h₁.objs.size))
  have he₃ := Heap.get?_update_self (Obj.mapFields (·.setIfInBounds 1 (Value.ref h₁.objs.size))) he₂ (Obj.isFreed_of_fields hd₃)
  have hT₃ := (Heap.get?_update_other (h₁.push oT) (Obj.mapFields (·.setIfInBounds 1 (Value.ref h₁.objs.size))) (Ne.symm hTe)).trans (Heap.get?_push_size h₁ hTf)
  have keep : ∀ b o, b ≠ e → h₁.get? b = some o → ((h₁.push oT).update e (Obj.mapFields (·.setIfInBounds 1 (Value.ref h₁.objs.size)))).get? b = some o :=
    fun b o hbe hb => by
      rw [Heap.get?_update_other _ _ (Ne.symm hbe)]
      exact Heap.get?_push_of_some _ hb
  have noRecord : ∀ b o, s.heap.get? b = some o → (∀ vs, o.data ≠ .fields vs) → b ≠ e := fun b o hb hnf q => by
    rw [q, he] at hb; injection hb with hb; subst hb; exact hnf vs hd
  refine h _ h₁.objs.size oT _ (fun b o hbo => keep b o (fun q => by rw [q, hen] at hbo; cases hbo) (kb₁ b o hbo)) (hl.of_keeps fun b o hb hnf => ?_) ⟨_, he₃, Obj.cls_mapFields _ _, hd₃⟩ kb₁.fresh hTe hT₃ (by rw [← hoT]) ?_ (fun b o hb hnf => ?_)
  · obtain ⟨sl, hs⟩ := hs₁.2.2 b o hb
    exact ⟨_, keep b _ (noRecord b o hb hnf) hs, rfl⟩
  · first | (simp; done) | (rcases hpl with rfl | ⟨_, _, _, _, _, _, _, rfl⟩ <;> simp)
  · obtain ⟨sl, hs⟩ := hs₁.2.2 b o hb
    exact ⟨sl, keep b _ (noRecord b o hb hnf) hs⟩
end

/-- what holds while an exception is handled: the heap's own things stay, the exception e has a traceback T -/
structure Hand (B : Heap) (l : List Env) (hA : Heap) (e : Addr) (h : Heap) : Prop where
  stays : B.StaysIn h
  frames : h.FunFrames B l
  up : hA.UpToSlots h
  new : B.get? e = none
  there : ∃ oe vs T oT ts, h.get? e = some oe ∧ oe.cls = .type "ValueError" ∧ oe.data = .fields vs ∧ vs[1]? = some (.ref T) ∧ vs[2]? = some .none ∧ B.get? T = none ∧ T ≠ e ∧ h.get? T = some oT ∧ oT.data = .fields ts ∧ 3 < ts.size
section
variable {M : Model} {A : Around} {E : Value → Shared → Prop} {s : Shared} {B hA : Heap} {l : List Env} {e : Addr}
theorem Hand.typeIs (H : Hand B l hA e s.heap) : s.TypeIs (.ref e) "ValueError" := by
  obtain ⟨oe, _, _, _, _, he, hc, _⟩ := H.there
  exact ⟨oe, he, hc⟩
theorem Hand.flight (H : Hand B l hA e s.heap) {Q : Unit → Shared → Prop} (h : ∀ h', Hand B l hA e h' → Q () { s with heap := h' }) : wpAny M A (setFlight (.ref e) none) Q E s := by
  obtain ⟨oe, vs, T, oT, ts, he, hc, hd, h1, h2, hnT, hTe, hT, hdT, h3⟩ := H.there
  refine wpAny_setFlight_none he hd h1 hT hdT h3 (h _ ?_)
  have other : ∀ b, b ≠ T → (s.heap.update T (Obj.mapFields (·.setIfInBounds 3 Value.none))).get? b = s.heap.get? b := fun b hb => Heap.get?_update_other _ _ (Ne.symm hb)
  have noRecord : ∀ b o, s.heap.get? b = some o → (∀ vs, o.data ≠ .fields vs) → b ≠ T := fun b o hb hnf q => by
    rw [q, hT] at hb; injection hb with hb; subst hb; exact hnf ts hdT
  exact ⟨fun b o hbo => (other b fun q => by rw [q, hnT] at hbo; cases hbo).trans (H.stays b o hbo), H.frames.of_keeps fun b o hb hnf => ⟨o, (other b (noRecord b o hb hnf)).trans hb, rfl⟩,
    H.up.trans fun b o hb hnf => ⟨o.slots, (other b (noRecord b o hb hnf)).trans hb⟩, H.new,
    ⟨oe, vs, T, _, _, (other e (Ne.symm hTe)).trans he, hc, hd, h1, h2, hnT, hTe, Heap.get?_update_self _ hT (Obj.isFreed_of_fields (Obj.data_mapFields hdT _)), Obj.data_mapFields hdT _, by simp [h3]⟩⟩
end
end Mine
end

section -- X3
open PySem PySem.W PyProof.Rows PySem.Spec PySem.Calls
set_option Elab.async false
set_option maxRecDepth 100000
namespace Mine
noncomputable abbrev frs (l : List Env) : List Addr := l.filterMap (·.frame)
theorem frs_mem {env : Env} {L b : Addr} {outer : List Env} (hf : env.frame = some L) (hm : b ∈ frs (env :: outer)) : b = L ∨ b ∈ frs outer := by
  obtain ⟨env', he, hf'⟩ := List.mem_filterMap.mp hm
  rcases List.mem_cons.mp he with rfl | he
  · exact .inl (Option.some.inj (hf'.symm.trans hf))
  · exact .inr (List.mem_filterMap.mpr ⟨env', he, hf'⟩)
theorem hideAll_stays (h : Heap) (l : List Addr) : (hideAll h l).StaysIn h := fun _ _ q => of_hideAll _ q
section
variable {A₀ : Around} {base g G B h₅ : Heap} {outer : List Env} {L : Addr} {m : Str → Option Value} {env : Env}
theorem groundT (K : Below A₀ base outer g) (F : Fr g L G m) (hf : env.frame = some L) (hBG : ∀ b o, G.get? b = some o → b ∉ frs (env :: outer) → B.get? b = some o) (hBh : B.StaysIn h₅) (hsm : G.UpToSlots h₅) :
    ∃ g', KtsTurn (frs outer) g g' ∧ Fr g' L h₅ m ∧ Below A₀ base outer g' := by
  obtain ⟨T, S⟩ := kts_turn_at (h := h₅) (fs := frs outer) (g := g)
    (fun b hb => by
      obtain ⟨_, o, ho, _⟩ := K.frames.mem hb
      exact ⟨o, ho⟩)
    (fun b o e nm => hBh b o (hBG b o (F.keep b o e) (fun hm => by
      rcases frs_mem hf hm with z | z
      · rw [z, kts_self F] at e
        cases e
      · exact nm z)))
    (fun b o e hm => by
      obtain ⟨_, o', ho', hd⟩ := K.frames.mem hm
      rw [e] at ho'
      cases ho'
      exact hsm b o (F.keep b o e) hd)
  refine ⟨_, T, ⟨hsm.ns F.ns, S, by rw [T.size]; exact F.above⟩, ⟨K.stack, fun b o e => T.other b o (K.stays b o e) (fun hm => by
    rw [(K.frames.mem hm).1] at e
    cases e), K.frames.of_keeps fun b o e _ => ?_⟩⟩
  obtain ⟨sl, hs⟩ := T.up e
  exact ⟨_, hs, rfl⟩
end
section
variable {M : Model} {A : Around} {E : Value → Shared → Prop} {s : Shared} {base : Heap} {l : List Env} {e L : Addr} {cls a0 : Value} {env : Env}
theorem passOn_held {α : Type} {what : String} {Q : α → Shared → Prop} (hf : env.frame = some L) (hh : Heap.FlyingW base l e cls a0 s.heap)
    (hQ : ∀ h', Heap.HeldW base l e cls a0 L h' → s.heap.UpToSlots h' → E (.ref e) { s with heap := h' }) : wpAny M A (PySem.passOn what (.ref e) env : Sem α) Q E s := by
  obtain ⟨k1, k2, k3, oe, vs, T, oT, ts, he, hcls, hd, h1, hnT, hTe, hT, hdT, h3⟩ := hh
  have hsz3 : 3 < ts.size := (Array.getElem?_eq_some_iff.mp h3).1
  unfold PySem.passOn
  refine wpAny_bind (wpAny_field he hd h1 ?_)
  rw [if_neg (show ¬ (Value.ref T == Value.none) = true from by simp)]
  unfold setFlight
  rw [hf]
  refine wpAny_bind (wpAny_bind (wpAny_field he hd h1 ?_))
  rw [if_pos (show (Value.ref T != Value.none) = true from by simp)]
  have other : ∀ b, b ≠ T → (s.heap.update T (Obj.mapFields (·.setIfInBounds 3 (rawInt L)))).get? b = s.heap.get? b := fun b hb => Heap.get?_update_other _ _ (Ne.symm hb)
  have noRecord : ∀ b o, s.heap.get? b = some o → (∀ vs, o.data ≠ .fields vs) → b ≠ T := fun b o hb hnf q => by
    rw [q, hT] at hb; injection hb with hb; subst hb; exact hnf ts hdT
  refine wpAny_setField hT hdT hsz3 (wpAny_throw (hQ _ ⟨fun b o hbo => (other b fun q => by rw [q, hnT] at hbo; cases hbo).trans (k1 b o hbo), k2,
    k3.of_keeps fun b o hb hnf => ⟨o, (other b (noRecord b o hb hnf)).trans hb, rfl⟩, ?_⟩ fun b o hb hnf => ⟨o.slots, (other b (noRecord b o hb hnf)).trans hb⟩))
  exact ⟨oe, vs, T, _, _, (other e (Ne.symm hTe)).trans he, hcls, hd, h1, hnT, hTe, Heap.get?_update_self _ hT (Obj.isFreed_of_fields (Obj.data_mapFields hdT _)), Obj.data_mapFields hdT _, by simp [hsz3]⟩
theorem flying_push {h : Heap} (o : Obj) (hh : Heap.FlyingW base l e cls a0 h) : Heap.FlyingW base l e cls a0 (h.push o) := by
  obtain ⟨k1, k2, k3, oe, vs, T, oT, ts, he, hcls, hd, h1, hnT, hTe, hT, hdT, h3⟩ := hh
  exact ⟨fun b o q => Heap.get?_push_of_some _ (k1 b o q), k2, k3.of_keeps fun b o hb _ => ⟨o, Heap.get?_push_of_some _ hb, rfl⟩, oe, vs, T, oT, ts, Heap.get?_push_of_some _ he, hcls, hd, h1, hnT, hTe, Heap.get?_push_of_some _ hT, hdT, h3⟩
end
section
variable {prog : Program} {w : World} {A A₀ : Around} {s : Shared} {base g hA : Heap} {outer : List Env} {L a e1 : Addr} {m : Str → Option Value} {cn : Str} {cs : Scope} {ccd : Value} {cl : List (Str × Addr)}
  {KF : Frag} {p : Program} {loose : List Str} {mean : ExcName → Option Value} {mg mb : Str → Option Value} {E3 : Value → Shared → Prop} {Q1 Q2 : Flow → Shared → Prop}
  {arg cst : Expr} {msg : Str} {np np2 cpos rpos hpos p1 p2 tpos pos2 : Pos} {kk k1 k2 : Nat} {b₀ : Stmt} {suite : List Stmt} {x1 x2 x3 : Str} {cp mp : Pos}

theorem unlike_chain (hfr : A.frames = some (envX cn cs L a ccd cl :: outer)) (K : Below A₀ base outer g) (F : Fr g L hA m) (hk : cs.kind = .function) (XB : KF.In base) (TB : Top p loose mean mg mb base)
    (hx : Heap.NewExc hA s.heap e1 "ValueError")
    (ex1 : nsIn KF mainGlobals x1 = some none) (hv1 : bootBuiltins x1 = some (.type "ValueError")) (hn1 : x1 ≠ "__name__") (hi1 : (envX cn cs L a ccd cl).kindOf x1 = some .globalImplicit) (hd1 : (x1 == ("__debug__" : Str)) = false)
    (ex2 : nsIn KF mainGlobals x2 = some none) (hv2 : bootBuiltins x2 = some (.type "TypeError")) (hn2 : x2 ≠ "__name__") (hi2 : (envX cn cs L a ccd cl).kindOf x2 = some .globalImplicit) (hd2 : (x2 == ("__debug__" : Str)) = false)
    (ex3 : nsIn KF mainGlobals x3 = some none) (hv3 : bootBuiltins x3 = some (.type "AttributeError")) (hn3 : x3 ≠ "__name__") (hi3 : (envX cn cs L a ccd cl).kindOf x3 = some .globalImplicit) (hd3 : (x3 == ("__debug__" : Str)) = false)
    (hE3 : ∀ h' tk e a0, Heap.HeldW (hideAll hA (frs (envX cn cs L a ccd cl :: outer))) (envX cn cs L a ccd cl :: outer) e (.type "ValueError") a0 L h' → hA.UpToSlots h' → E3 (.ref e) { s with heap := h', toks := tk }) :
    wpAny (model prog w) A (noteFrame (.ref e1) (envX cn cs L a ccd cl)) (fun _ s₂ => wpAny (model prog w) A (setFlight (.ref e1) none) (fun _ s₃ =>
      wpAny (model prog w) A (handleBy (.ref e1) (envX cn cs L a ccd cl)
        [.ExceptHandler (some (.Name x1 np)) none [.Raise (some (.Call (.Name x1 np2) [.Constant (.str msg) k1 mp] [] cpos)) (some (.Constant .none k2 cp)) rpos] hpos]) Q1
        (fun e s' => wpAny (model prog w) A (noteFrame e (envX cn cs L a ccd cl)) (fun _ s₂ => wpAny (model prog w) A (setFlight e none) (fun _ s₃ =>
          wpAny (model prog w) A (handleBy e (envX cn cs L a ccd cl) [.ExceptHandler (some (.Tuple [.Name x2 p1, .Name x3 p2] kk tpos)) none (b₀ :: suite) pos2]) Q2 E3 s₃) E3 s₂) E3 s') s₃)
        (fun e s' => wpAny (model prog w) A (noteFrame e (envX cn cs L a ccd cl)) (fun _ s₂ => wpAny (model prog w) A (setFlight e none) (fun _ s₃ =>
          wpAny (model prog w) A (handleBy e (envX cn cs L a ccd cl) [.ExceptHandler (some (.Tuple [.Name x2 p1, .Name x3 p2] kk tpos)) none (b₀ :: suite) pos2]) Q2 E3 s₃) E3 s₂) E3 s') s₂)
        (fun e s' => wpAny (model prog w) A (noteFrame e (envX cn cs L a ccd cl)) (fun _ s₂ => wpAny (model prog w) A (setFlight e none) (fun _ s₃ =>
          wpAny (model prog w) A (handleBy e (envX cn cs L a ccd cl) [.ExceptHandler (some (.Tuple [.Name x2 p1, .Name x3 p2] kk tpos)) none (b₀ :: suite) pos2]) Q2 E3 s₃) E3 s₂) E3 s') s := by
  generalize henv : envX cn cs L a ccd cl = env at *
  have hf : env.frame = some L := by rw [← henv]
  have hke : env.scope.kind = .function := by rw [← henv]; exact hk
  generalize hBB : hideAll hA (frs (env :: outer)) = B at *
  have K' := pushX K F hf hke
  have hin : ∀ env' ∈ (env :: outer), ∀ b, env'.frame = some b → b ∈ frs (env :: outer) := fun env' he b hb => List.mem_filterMap.mpr ⟨env', he, hb⟩
  have hBA : B.StaysIn hA := by rw [← hBB]; exact hideAll_stays _ _
  have hFB : hA.FunFrames B (env :: outer) := by rw [← hBB]; exact funFrames_hide K'.frames hin
  have hBG : ∀ b o, hA.get? b = some o → b ∉ frs (env :: outer) → B.get? b = some o := fun b o q nm => by rw [← hBB]; exact hideAll_get _ q nm
  have hB1 : B.get? e1 = none := by
    cases q : B.get? e1 with
    | none => rfl
    | some o => have := hBA _ _ q; rw [hx.new] at this; cases this
  obtain ⟨ob1, tp1, he1, hc1, hd1'⟩ := hx.there
  have names : ∀ (A : Around) (E : Value → Shared → Prop) (s : Shared) (Q : Value → Shared → Prop) (x : Str) (np : Pos) (v : Value), B.StaysIn s.heap → hA.UpToSlots s.heap → nsIn KF mainGlobals x = some none → bootBuiltins x = some v → x ≠ "__name__" →
      env.kindOf x = some .globalImplicit → (x == ("__debug__" : Str)) = false → Q v s → wpAny (model prog w) A (eval (.Name x np) env) Q E s := by
    intro A E s Q x np v st up ex hv hn hi hd hq
    obtain ⟨g₅, T₅, F₅, K₅⟩ := groundT K F hf hBG st up
    subst henv
    exact nameX_B F₅ (XB.keeps K₅.stays) (topRead_of (TB.keeps K₅.stays)) ex hv hn hq hk hi hd
  refine note_first hfr (hFB.of_keeps fun b o hb _ => ⟨o, hx.keeps b o hb, rfl⟩) hf he1 (fun b o q => hx.keeps b o (hBA b o q)) hd1' rfl hB1 fun h2 T oT ts st2 fr2 ⟨oe2, q2, qc2, qd2⟩ nT hTe hT hdT h3 up2 => ?_
  have H2 : Hand B (env :: outer) hA e1 h2 := ⟨st2, fr2, (Heap.UpToSlots.of_keeps hx.keeps).trans up2, hB1, ⟨oe2, _, T, oT, ts, q2, qc2.trans hc1, qd2, rfl, rfl, nT, hTe, hT, hdT, (Array.getElem?_eq_some_iff.mp h3).1⟩⟩
  refine Hand.flight (s := { s with heap := h2 }) H2 fun h3 H3 => ?_
  refine wpAny_handleBy_builtin (X := "ValueError") (T := "ValueError") (b := true) PySem.F.excRaise_ValueError.isExc (by rw [isSubtype_type]; kernel_rfl) PySem.F.excCall_ValueError.sub
    (names _ _ _ _ _ _ _ H3.stays H3.up ex1 hv1 hn1 hi1 hd1 ⟨rfl, H3.typeIs, ?_⟩)
  rw [if_pos rfl]
  refine Hand.flight (s := { s with heap := h3 }) H3 fun h4 H4 => ?_
  refine wpAny_passesOwnAt PassesOwnAt.looking (wpAny_execs_cons ?_)
  rw [arm_exec_Raise]
  refine wpAny_bind (wpAny_standAt ?_)
  refine raise_from (e1 := e1) rfl (fun s Q E hq => wpAny_bind (wpAny_Constant_none (wpAny_bind (wpAny_standAt (wpAny_pure hq))))) ?_
  refine wpAny_bind (wpAny_Call_ofName (names _ _ _ _ _ _ _ H4.stays H4.up ex1 hv1 hn1 hi1 hd1 (callWith_excType rfl (evalArgs_plain (spliced_more (wpAny_Constant_str (spliced_none ?_)))))))
  dsimp only
  refine wpAny_call_exc PySem.F.excCall_ValueError (hrest := by size_fits) fun h5 e2 hm => wpAny_bind (wpAny_standAt (wpAny_pure ?_))
  obtain ⟨t2, ht2, _, _⟩ := hm.there
  obtain ⟨oe4, vs4, T4, oT4, ts4, q4, qc4, qd4, q41, q42, _⟩ := H4.there
  have hne : e1 ≠ e2 := fun z => by have := hm.new; rw [← z, q4] at this; cases this
  refine ⟨e2, _, _, rfl, hne, ht2, rfl, rfl, ⟨oe4, vs4, hm.keeps _ _ q4, qd4, q42⟩, fun h6 same ⟨ob6, vs6, q6, qc6, qd6, q61⟩ => ?_⟩
  have keep6 : ∀ b o, h4.get? b = some o → h6.get? b = some o := fun b o q => (same b (fun z => by rw [z, hm.new] at q; cases q)).trans (hm.keeps _ _ q)
  have hB2 : B.get? e2 = none := by
    cases q : B.get? e2 with
    | none => rfl
    | some o => have := H4.stays _ _ q; rw [hm.new] at this; cases this
  refine note_first (s := { s with heap := h6, toks := _ }) hfr (H4.frames.of_keeps fun b o hb _ => ⟨o, keep6 _ _ hb, rfl⟩) hf q6 (fun b o q => keep6 _ _ (H4.stays _ _ q)) qd6 q61 hB2 fun h7 T oT ts st7 fr7 ⟨oe7, q7, qc7, qd7⟩ nT hTe hT hdT h3 up7 => ?_
  have hsz6 : 1 < vs6.size := (Array.getElem?_eq_some_iff.mp q61).1
  have a06 : vs6[0]? = some (vs6[0]'(by omega)) := Array.getElem?_eq_getElem _
  have H7 : Heap.HeldW B (env :: outer) e2 (.type "ValueError") (vs6[0]'(by omega)) L h7 := ⟨st7, hB2, fr7, oe7, _, T, oT, ts, q7, ⟨qc7.trans qc6, by rw [Array.getElem?_setIfInBounds_ne (by decide)]; exact a06⟩, qd7, by simp [hsz6], nT, hTe, hT, hdT, h3⟩
  have up7' : hA.UpToSlots h7 := (H4.up.trans (Heap.UpToSlots.of_keeps keep6)).trans up7
  refine wpAny_landsW (s := { s with heap := h7, toks := _ }) H7 fun h8 H8 up8 => ?_
  refine wpAny_handleBy_tup2 (X := "ValueError") (T1 := "TypeError") (T2 := "AttributeError") (b1 := false) (b2 := false) (by rw [isSubtype_type]; kernel_rfl) (by rw [isSubtype_type]; kernel_rfl) (by rw [isSubtype_type]; kernel_rfl) (by rw [isSubtype_type]; kernel_rfl) (by rw [isSubtype_type]; kernel_rfl) (by rw [isSubtype_type]; kernel_rfl) ?_
  refine Tuple_ (spliced_more (names _ _ _ _ _ _ _ H8.1 (up7'.trans up8) ex2 hv2 hn2 hi2 hd2 (spliced_more (names _ _ _ _ _ _ _ H8.1 (up7'.trans up8) ex3 hv3 hn3 hi3 hd3 (spliced_none ?_)))))
  obtain ⟨ob8, hob8, hoc8⟩ := H8.there
  refine wpAny_newObj_type ⟨_, rfl, IsTup.new _ _, ⟨ob8, Heap.get?_push_of_some _ hob8, hoc8⟩, ?_⟩
  rw [if_neg (by decide)]
  refine wpAny_handleBy_nil (passOn_held hf (flying_push _ H8) fun h9 H9 up9 => hE3 _ _ _ _ H9 ?_)
  exact ((up7'.trans up8).trans (Heap.UpToSlots.of_keeps fun b o q => Heap.get?_push_of_some _ q)).trans up9
end
end Mine
end

section -- X4
open PySem PySem.W PyProof.Rows PySem.Spec PySem.Calls
set_option Elab.async false
set_option maxRecDepth 100000
namespace Mine
section
variable {M : Model} {A A₀ : Around} {E : Value → Shared → Prop} {s : Shared} {base g hA : Heap} {outer : List Env} {L e : Addr} {m : Str → Option Value} {env : Env} {news news' : List (Addr × Obj)} {cls a0 : Value}
theorem leave_held {Q : Unit → Shared → Prop} (hf : env.frame = some L) (hke : env.scope.kind = .function) (K : Below A₀ base outer g) (F : Fr g L hA m) (N : News g L hA news')
    (hsub : ∀ q ∈ news, q ∈ news')
    (hh : Heap.HeldW (hideAll hA (frs (env :: outer))) (env :: outer) e cls a0 L s.heap) (up : hA.UpToSlots s.heap)
    (hQ : ∀ h', RaisedSN base g outer e cls news h' → g.UpToSlots h' → Q () { s with heap := h' }) : wpAny M A (leaving env (.ref e)) Q E s := by
  have K' := pushX K F hf hke
  have st : base.StaysIn (hideAll hA (frs (env :: outer))) := fun b o q => hideAll_get _ (K'.stays b o q) fun hm => by
    rw [(K'.frames.mem hm).1] at q; cases q
  have sg : ∀ b o, g.get? b = some o → b ∉ outer.filterMap (·.frame) → (hideAll hA (frs (env :: outer))).get? b = some o := fun b o q nm => hideAll_get _ (F.keep b o q) fun hm => by
    rcases frs_mem hf hm with z | z
    · rw [z, kts_self F] at q
      cases q
    · exact nm z
  have hl : ∀ q ∈ news, (hideAll hA (frs (env :: outer))).get? q.1 = some q.2 ∧ g.get? q.1 = none ∧ base.get? q.1 = none := fun q hq' => by
    have hq := hsub q hq'
    refine ⟨hideAll_get _ (N q hq).1 fun hm => ?_, (N q hq).2.2, fresh_of_stays K.stays (N q hq).2.2⟩
    rcases frs_mem hf hm with z | z
    · exact (N q hq).2.1 z
    · obtain ⟨o, ho, _⟩ := (K.frames.mem z).2
      rw [(N q hq).2.2] at ho; cases ho
  unfold leaving
  refine wpAny_bind (wpAny_noteFrame_againW hf hh.2.2.2 ?_)
  refine wpAny_landsW hh fun h' hfl up' => ?_
  obtain ⟨k1, k2, ⟨_, _, k3⟩, k4⟩ := hfl
  exact hQ h' ⟨_, a0, st, sg, hl, k1, k2, k3, k4⟩ (((Heap.UpToSlots.of_keeps F.keep).trans up).trans up')
end
section
variable {prog : Program} {w : World} {A A₀ : Around} {E : Value → Shared → Prop} {s' : Shared} {base g G : Heap} {outer : List Env} {L a e : Addr} {m : Str → Option Value} {cn : Str} {cs : Scope} {ccd : Value} {cl : List (Str × Addr)}
  {b₀ : Stmt} {suite : List Stmt} {pos np : Pos} {rest : List ExceptHandler} {Q : Flow → Shared → Prop} {news : List (Addr × Obj)} {KF : Frag}
  {p : Program} {loose : List Str} {mean : ExcName → Option Value} {mg mb : Str → Option Value} {x : Str}
theorem caught_X (hfr : A.frames = some (envX cn cs L a ccd cl :: outer)) (R : RaisedSN base G (envX cn cs L a ccd cl :: outer) e (.type "ValueError") news s'.heap) (F : Fr g L G m) (K : Below A₀ base outer g) (hsm : G.UpToSlots s'.heap) (XB : KF.In base) (TB : Top p loose mean mg mb base)
    (ex : nsIn KF mainGlobals x = some none) (hv : bootBuiltins x = some (.type "ValueError")) (hn' : x ≠ "__name__")
    (k : ∀ h' g', KtsTurn (frs outer) g g' → Fr g' L h' m → News g' L h' news → Below A₀ base outer g' → KF.In g' → Top p loose mean mg mb g' →
      wpAny (model prog w) (A.mark (some (.ref e))) (execs (b₀ :: suite) (envX cn cs L a ccd cl)) Q E { s' with heap := h' })
    (hk : cs.kind = .function := by rfl) (hx : (envX cn cs L a ccd cl).kindOf x = some .globalImplicit := by rfl) (hd : (x == ("__debug__" : Str)) = false := by decide)
    (hE : PassesOwnAt (model prog w) (A.mark (some (.ref e))) A (envX cn cs L a ccd cl) E := by passes_own) :
    wpAny (model prog w) A (noteFrame (.ref e) (envX cn cs L a ccd cl))
      (fun _ s₂ => wpAny (model prog w) A (setFlight (.ref e) none) (fun _ s₃ =>
        wpAny (model prog w) A (handleBy (.ref e) (envX cn cs L a ccd cl) (.ExceptHandler (some (.Name x np)) none (b₀ :: suite) pos :: rest)) Q E s₃) E s₂) E s' := by
  obtain ⟨B, a0, hB, hBG, hl, hfl⟩ := R
  have hL : B.get? L = none := by
    obtain ⟨_, ⟨L', _, hf, hn', _⟩, _⟩ := hfl.2.2.1
    obtain rfl : L = L' := Option.some.inj hf
    exact hn'
  refine wpAny_looks_onW hfr rfl hfl fun h₄ hheld₄ hsm₄ => ?_
  refine wpAny_landsW hheld₄ fun h₅ hheld hsm₅' => ?_
  have hsm₅ := hsm₄.trans hsm₅'
  obtain ⟨g₅, T₅, F₅, K₅⟩ := groundT (env := envX cn cs L a ccd cl) K F rfl hBG hheld.1 (hsm.trans hsm₅)
  have X₅ : KF.In g₅ := XB.keeps K₅.stays
  have P₅ : TopRead p loose mg mb g₅ := topRead_of (TB.keeps K₅.stays)
  obtain ⟨ob, hob, hobc⟩ := hheld.there
  refine wpAny_handleBy_builtin (X := "ValueError") (T := "ValueError") (b := true) PySem.F.excRaise_ValueError.isExc (by rw [isSubtype_type]; kernel_rfl) PySem.F.excCall_ValueError.sub (nameX_B F₅ X₅ P₅ ex hv hn' ⟨rfl, ⟨ob, hob, hobc⟩, ?_⟩ hk hx hd)
  refine lands_againW hheld fun h₆ hfl₆ hsm₆ => ?_
  obtain ⟨g₆, T₆, F₆, K₆⟩ := groundT (env := envX cn cs L a ccd cl) K F rfl hBG hfl₆.1 ((hsm.trans hsm₅).trans hsm₆)
  have Nl : News g₆ L h₆ news := fun q hq => ⟨hfl₆.1 _ _ (hl q hq).1, (fun z => by have := (hl q hq).1; rw [z, hL] at this; cases this), T₆.none_ _ (kts_none F.keep (hl q hq).2.1)⟩
  have X₆ : KF.In g₆ := XB.keeps K₆.stays
  have P₆ : Top p loose mean mg mb g₆ := TB.keeps K₆.stays
  exact wpAny_passesOwnAt hE (k h₆ g₆ T₆ F₆ Nl K₆ X₆ P₆)
end
section
variable {prog : Program} {w : World} {A₀ A : Around} {s : Shared} {base h₀ : Heap} {L : Addr} {m : Str → Option Value} {env : Env} {news : List (Addr × Obj)} {K : Frag} {p : Program} {loose : List Str} {mean : ExcName → Option Value} {mg mb : Str → Option Value}
  {R : Result → Shared → Prop} {name qual : Str} {params : Arguments} {body : List Stmt} {scope : Scope} {dV kV doc pm cdv ct oc : Value} {an od : Option Addr} {osl : Array (Option Value)} {f : Addr} {args : Args} {binds : List (Str × Value)}
theorem code_defCS (B : Below A₀ base [] h₀) (F : Fr h₀ L s.heap m) (X₀ : K.In h₀) (N : News h₀ L s.heap news) (T : Top p loose mean mg mb h₀) (hA : A.frames = some [env]) (hf : env.frame = some L) (hke : env.scope.kind = .function)
    (ho : K.lookup f = some ⟨oc, od, .func (fnOf name qual params body scope dV kV doc pm an cdv ct), osl⟩) (hcd : codeIn K cdv qual = true) (hroom : A.depth < recursionLimit)
    (hbind : BindsTo s (fnOf name qual params body scope dV kV doc pm an cdv ct) args binds) (hkind : (binds.all fun y => scope.names.lookup y.1 == some .local || scope.names.lookup y.1 == some .cell) = true)
    (hnd : ((cellsFrom 0 scope.names []).map (·.1)).Nodup)
    (h : ∀ g L' h₁ tk cells, Fr h₀ L g m → Fr g L' h₁ (bindL (envOfC qual scope L' f cdv).kindOf binds fun _ => none) → News g L' h₁ (cells ++ news) →
      CellsAre (bindC (envOfC qual scope L' f cdv).kindOf binds fun _ => none) (cellsFrom (L' + 1) scope.names []) cells → Below A h₀ [env] g → K.In g → Top p loose mean mg mb g → (∀ p ∈ news, p.1 < L') →
      wpAny (model prog w) (A.deeper (envOfC qual scope L' f cdv)) (execs body (envOfC qual scope L' f cdv))
        (fun fl s' => LeaveS0 (frs [env]) h₀ L m g R (match fl with | .ret v => v | _ => .none) s')
        (fun e s' => wpAny (model prog w) (A.deeper (envOfC qual scope L' f cdv)) (leaving (envOfC qual scope L' f cdv) e) (fun _ s'' => R (.error e) s'') (fun e' s'' => R (.error e') s'') s')
        { s with heap := h₁, toks := tk })
    (hco : scope.isCoroutine = false) (hgen : scope.isGenerator = false) (hk : scope.kind = .function) : codeAny (model prog w) A (.call (.ref f) args) R s := by
  have B' : Below A₀ h₀ [] h₀ := ⟨B.stack, fun _ _ q => q, trivial⟩
  have X := X₀.keeps F.keep
  obtain ⟨FG, BG, st, _⟩ := groundX (R := R) B' F N hA hf hke
  obtain ⟨oL, es, ep, hLg, hLd, hLk, hLf⟩ := FG.ns
  refine codeAny_call_function hroom (X _ _ ho) rfl hco hgen rfl (codeRec_of X hcd) (hbind _ _ _ _ ?_)
  refine wpAny_newFunctionEnv_cells hk (kindsX hkind _) fun env' he s' x => ?_
  subst he
  refine ⟨(T.nolimit.keeps F.keep).keeps x.toInCall.keep, codeAny_func ?_⟩
  obtain ⟨h₁, tk, rfl, _⟩ := x.done
  have hk₁ := x.toInCall.keep
  obtain ⟨cells, NC, Y⟩ := Cl.news (h₀ := s.heap) (Nat.le_refl _) fun n c hm => ⟨x.cell n c (lookup_of_mem_nodup (cellsFrom_names scope.names 0 (s.heap.objs.size + 1) [] [] rfl ▸ hnd) hm), x.above n c hm⟩
  refine wpAny_mono (h _ s.heap.objs.size h₁ tk cells FG ⟨x.toInCall.ns, fun b o e => hk₁ b o (of_hideAll _ e), Nat.le_of_eq (hideAll_size _ _)⟩ (fun p hp => ?_) Y BG (X₀.keeps st) (T.keeps st) (fun p hp => Heap.lt_size (N p hp).1)) (fun fl s' hl => ?_) fun _ _ y => y
  · rcases List.mem_append.mp hp with hp | hp
    · refine ⟨(NC p hp).1, (NC p hp).2.1, ?_⟩
      cases q : (hideAll s.heap (news.map (·.1))).get? p.1 with
      | none => rfl
      | some o => have := of_hideAll _ q; rw [(NC p hp).2.2] at this; cases this
    · exact ⟨hk₁ _ _ (N p hp).1, Nat.ne_of_lt (Heap.lt_size (N p hp).1), hideAll_none _ (List.mem_map_of_mem hp)⟩
  obtain ⟨g', L', m', news', T', F', N', k⟩ := hl
  have nL₀ : h₀.get? L = none := kts_self F
  obtain ⟨sl, hs⟩ := T'.up hLg
  refine k ⟨⟨_, es, ep, F'.keep _ _ hs, hLd, hLk, hLf⟩, fun b o e => F'.keep b o (T'.other b o (st b o e) (fun q => by
    rcases frs_mem hf q with z | z
    · rw [z, nL₀] at e
      cases e
    · simp at z)), F.above⟩ fun p hp => ⟨(N' p hp).1, fun q => ?_, ?_⟩
  · have := (N' p hp).2.2; rw [q, hs] at this; cases this
  · cases q : h₀.get? p.1 with
    | none => rfl
    | some o =>
      obtain ⟨sl', hs'⟩ := T'.up (st _ _ q)
      have := (N' p hp).2.2
      rw [hs'] at this
      cases this
end
/-- a call of the def at f that raises X -/
noncomputable def ConE (w : World) (mean : ExcName → Option Value) (mg mb : Str → Option Value) (D : Nat) (f : Addr) (news : List (Addr × Obj)) (vs : List Value) (X : String) : Prop :=
  ∀ (dp un : Nat) (gd : Option (List Code)) (cn : Str) (cs : Scope) (a : Addr) (ccd : Value) (cl : List (Str × Addr)) (outer : List Env) (A₀ : Around) (base h₀ : Heap) (L : Addr) (m : Str → Option Value) (s : Shared) (Q E : Value → Shared → Prop),
    Below A₀ base outer h₀ → Fr h₀ L s.heap m → Frag.In (hk.heap_1 w.params) h₀ → News h₀ L s.heap news → Top view0 (looseW view0 []) mean mg mb h₀ → cs.kind = .function → dp + D < recursionLimit → un + 8 * D < cLine →
    Frag.In (hk.heap_1 w.params) base → Top view0 (looseW view0 []) mean mg mb base →
    (∀ gc e h' tk', Fr h₀ L gc m → RaisedSN base gc (envX cn cs L a ccd cl :: outer) e (.type X) news h' → gc.UpToSlots h' → E (.ref e) { s with heap := h', toks := tk' }) →
    wpAny (model PySem.Challenge.rw_ik0008_01.row.prog w) (ktrTop dp un gd cn cs L a ccd cl outer) (call (.ref f) vs) Q E s
/-- a call of the def at f from a def's frame that nothing lies behind -/
noncomputable def Con0 (w : World) (mean : ExcName → Option Value) (mg mb : Str → Option Value) (D : Nat) (f : Addr) (news : List (Addr × Obj)) (vs : List Value) (R : Value → List (Addr × Obj) → Prop) : Prop :=
  ∀ (dp un : Nat) (gd : Option (List Code)) (cn : Str) (cs : Scope) (a : Addr) (ccd : Value) (cl : List (Str × Addr)) (A₀ : Around) (base h₀ : Heap) (L : Addr) (m : Str → Option Value) (s : Shared) (Q E : Value → Shared → Prop),
    Below A₀ base [] h₀ → Fr h₀ L s.heap m → Frag.In (hk.heap_1 w.params) h₀ → News h₀ L s.heap news → Top view0 (looseW view0 []) mean mg mb h₀ → cs.kind = .function → dp + D < recursionLimit → un + 8 * D < cLine →
    (∀ r tl h' tk', Fr h₀ L h' m → News h₀ L h' (tl ++ news) → R r tl → Q r { s with heap := h', toks := tk' }) →
    wpAny (model PySem.Challenge.rw_ik0008_01.row.prog w) (ktrTop dp un gd cn cs L a ccd cl []) (call (.ref f) vs) Q E s
end Mine
end

section -- X5
open PySem PySem.W PyProof.Rows PySem.Spec PySem.Calls
set_option Elab.async false
set_option maxRecDepth 100000
namespace Mine
structure ExcRet (base h₀ : Heap) (L : Addr) (m : Str → Option Value) (env : Env) (outer : List Env) (X : String) (news : List (Addr × Obj)) (gn : Array GenState) (dr : Drawn) (os : OsState) (E : Value → Shared → Prop) : Prop where
  ret : ∀ gc e h' tk', Fr h₀ L gc m → RaisedSN base gc (env :: outer) e (.type X) news h' → gc.UpToSlots h' → E (.ref e) ⟨h', gn, dr, tk', os⟩
theorem leave_ret {M : Model} {A A₀ : Around} {E E' : Value → Shared → Prop} {gn : Array GenState} {dr : Drawn} {os : OsState} {base g hA h₀ : Heap} {outer : List Env} {L L₀ e : Addr} {m m₀ : Str → Option Value} {env env₀ : Env} {news news' : List (Addr × Obj)} {a0 : Value} {Q : Unit → Shared → Prop} {h' : Heap} {tk' : Nat}
    (hr : ExcRet base h₀ L₀ m₀ env₀ outer "ValueError" news gn dr os E) (FG : Fr h₀ L₀ g m₀)
    (hf : env.frame = some L) (hke : env.scope.kind = .function) (K : Below A₀ base (env₀ :: outer) g) (F : Fr g L hA m) (N : News g L hA news')
    (hsub : ∀ q ∈ news, q ∈ news')
    (hh : Heap.HeldW (hideAll hA (frs (env :: env₀ :: outer))) (env :: env₀ :: outer) e (.type "ValueError") a0 L h') (up : hA.UpToSlots h')
    (hQ : ∀ h' tk', E (.ref e) ⟨h', gn, dr, tk', os⟩ → Q () ⟨h', gn, dr, tk', os⟩) : wpAny M A (leaving env (.ref e)) Q E' ⟨h', gn, dr, tk', os⟩ :=
  leave_held (s := ⟨h', gn, dr, tk', os⟩) hf hke K F N hsub hh up (fun h7 R7 up7 => hQ h7 tk' (hr.ret _ _ _ _ FG R7 up7))
end Mine
end

section -- M5
open PySem PySem.W PyProof.Rows PySem.Calls PySem.Builtin PySem.SeqAt PySem.MeetsSeq PySem.MeetsSeq2 PySem.MeetsSeq3 PySem.SeqRoads2
open AutoSeq1 (wpAny_loadPart')
set_option Elab.async false
set_option maxRecDepth 100000
set_option maxHeartbeats 0
namespace Mine
/-- lists of texts, item by item -/
noncomputable def ltS (x y : Str) : Bool := decide (x.cps.toList < y.cps.toList)
noncomputable def ltL : List Str → List Str → Bool
  | [], [] => false
  | [], _ :: _ => true
  | _ :: _, [] => false
  | x :: xs, y :: ys => if (x == y) = true then ltL xs ys else ltS x y
noncomputable def gtL : List Str → List Str → Bool
  | [], [] => false
  | [], _ :: _ => false
  | _ :: _, [] => true
  | x :: xs, y :: ys => if (x == y) = true then gtL xs ys else ltS y x
theorem sv_at {ps : List (Str × Tok)} {i : Nat} (h : i < ps.length) : (strValues ps).toArray[((i : Nat) : Int).toNat]? = some (.str ps[i].1 ps[i].2) := by
  simp [strValues, h]
theorem sv_no {ps : List (Str × Tok)} {i : Nat} (h : ps.length ≤ i) : (strValues ps).toArray[((i : Nat) : Int).toNat]? = none := by
  simp [strValues, h]
theorem drop_at {ps : List (Str × Tok)} {i : Nat} (h : i < ps.length) : (ps.map (·.1)).drop i = ps[i].1 :: (ps.map (·.1)).drop (i + 1) := by
  rw [List.drop_eq_getElem_cons (by simpa using h)]; simp
theorem drop_no {ps : List (Str × Tok)} {i : Nat} (h : ps.length ≤ i) : (ps.map (·.1)).drop i = [] := by
  simp [h]
theorem lt_loopAt (l b : Addr) (ps qs : List (Str × Tok)) (n n2 : Nat) (dd dd2 : Option Addr) (sl sl2 : Array (Option Value)) (k : Nat) :
    ∀ i : Nat, ps.length - i = k → i ≤ ps.length → i ≤ qs.length → Meets (Builtin.«list.__eq__.loop» ⟨[.ref l, .ref b, rawInt i, rawInt 0], []⟩)
      (fun A R s => s.heap.get? l = some { cls := .type "list", dict := dd, data := .seq (strValues ps).toArray n, slots := sl } ∧ s.heap.get? b = some { cls := .type "list", dict := dd2, data := .seq (strValues qs).toArray n2, slots := sl2 } ∧
        R (.ok (.ret (.bool (ltL ((ps.map (·.1)).drop i) ((qs.map (·.1)).drop i))))) s) := by
  induction k with
  | zero =>
    intro i hk hi1 hi2 prog w A R s h
    obtain ⟨hp, g, d, tk, os⟩ := s; obtain ⟨hl, hb, h⟩ := h
    have hge : ps.length ≤ i := by omega
    wp_walk using wpAny_loadPart' hl, wpAny_loadPart' hb
    rw [drop_no hge] at h
    rw [sv_no hge]
    wp_walk using wpAny_loadPart' hl, wpAny_loadPart' hb
    show R (.ok (.ret (.bool (decide ((strValues ps).toArray.size < (strValues qs).toArray.size))))) _
    have e : decide ((strValues ps).toArray.size < (strValues qs).toArray.size) = ltL [] ((qs.map (·.1)).drop i) := by
      have e1 : (strValues ps).toArray.size = ps.length := by rw [List.size_toArray, sv_len]
      have e2 : (strValues qs).toArray.size = qs.length := by rw [List.size_toArray, sv_len]
      rw [e1, e2]
      by_cases h2 : i < qs.length
      · rw [drop_at h2]; simp only [ltL, decide_eq_true_eq, decide_eq_false_iff_not]; omega
      · rw [drop_no (by omega)]; simp only [ltL, decide_eq_false_iff_not]; omega
    rw [e]; exact h
  | succ k ih =>
    intro i hk hi1 hi2 prog w A R s h
    obtain ⟨hp, g, d, tk, os⟩ := s; obtain ⟨hl, hb, h⟩ := h
    have hlt : i < ps.length := by omega
    have hc : ((i : Int) + 1) = ((i + 1 : Nat) : Int) := by push_cast; rfl
    wp_walk using wpAny_loadPart' hl, wpAny_loadPart' hb
    rw [drop_at hlt] at h
    rw [sv_at hlt]
    by_cases h2 : i < qs.length
    · rw [drop_at h2] at h
      rw [sv_at h2]
      refine wpAny_bind (EqAt.str_str _ _ _ _ prog w _ _ ?_)
      cases he : (ps[i].1 == qs[i].1) with
      | true =>
        simp only [ltL, he, if_true] at h
        wp_walk
        rw [hc]
        exact ⟨plainId_quiet plain_eq_loop _, codeAny_builtin entry_eq_loop (by
          rw [Around.under_plainId plain_eq_loop _]
          exact ih (i + 1) (by omega) hlt h2 prog w A R _ ⟨hl, hb, h⟩)⟩
      | false =>
        simp only [ltL, he, Bool.false_eq_true, if_false] at h
        wp_walk using wpAny_loadPart' hl, wpAny_loadPart' hb
        rw [sv_at hlt, sv_at h2]
        refine wpAny_bind (show wpAny _ _ (compareOp .Lt (.str _ _) (.str _ _)) _ _ _ from lt_str (wpAny_pure ?_))
        exact h
    · rw [drop_no (ps := qs) (i := i) (by omega)] at h
      rw [sv_no (ps := qs) (i := i) (by omega)]
      wp_walk using wpAny_loadPart' hl, wpAny_loadPart' hb
      show R (.ok (.ret (.bool (decide ((strValues ps).toArray.size < (strValues qs).toArray.size))))) _
      have e : decide ((strValues ps).toArray.size < (strValues qs).toArray.size) = ltL (ps[i].1 :: (ps.map (·.1)).drop (i + 1)) [] := by
        have e1 : (strValues ps).toArray.size = ps.length := by rw [List.size_toArray, sv_len]
        have e2 : (strValues qs).toArray.size = qs.length := by rw [List.size_toArray, sv_len]
        rw [e1, e2]
        simp only [ltL, decide_eq_true_eq, decide_eq_false_iff_not]; omega
      rw [e]; exact h
theorem list_ltAt (l b : Addr) (ps qs : List (Str × Tok)) (n n2 : Nat) (dd dd2 : Option Addr) (sl sl2 : Array (Option Value)) :
    Meets (Builtin.«list.__lt__» ⟨[.ref l, .ref b], []⟩)
      (fun A R s => s.heap.get? l = some { cls := .type "list", dict := dd, data := .seq (strValues ps).toArray n, slots := sl } ∧ s.heap.get? b = some { cls := .type "list", dict := dd2, data := .seq (strValues qs).toArray n2, slots := sl2 } ∧
        R (.ok (.ret (.bool (ltL (ps.map (·.1)) (qs.map (·.1)))))) s) := by
  intro prog w A R s h
  obtain ⟨hp, g, d, tk, os⟩ := s; obtain ⟨hl, hb, h⟩ := h
  have f3 := AutoSeq1.sub_list_list
  wp_walk using wpAny_loadPart' hl, wpAny_loadPart' hb
  exact ⟨plainId_quiet plain_eq_loop _, codeAny_builtin entry_eq_loop (by
    rw [Around.under_plainId plain_eq_loop _]
    exact lt_loopAt l b ps qs n n2 dd dd2 sl sl2 _ 0 rfl (Nat.zero_le _) (Nat.zero_le _) prog w A R _ ⟨hl, hb, h⟩)⟩
theorem rc_lt {prog : Program} {w : World} {A : Around} {E : Value → Shared → Prop} {s : Shared} {l b : Addr} {ps qs : List (Str × Tok)} {Q : Value → Shared → Prop} (hl : s.heap.IsList l (strValues ps).toArray) (hb : s.heap.IsList b (strValues qs).toArray) (hu : A.units < cLine)
    (h : Q (.bool (ltL (ps.map (·.1)) (qs.map (·.1)))) s) : wpAny (model prog w) A (richCompare .Lt (.ref l) (.ref b)) Q E s := by
  obtain ⟨⟨cls, dd, data, sl⟩, ho, hc, n, hd⟩ := id hl
  obtain ⟨⟨cls2, dd2, data2, sl2⟩, ho2, hc2, n2, hd2⟩ := id hb
  simp only at hc hd hc2 hd2
  subst hc hd hc2 hd2
  exact richCompare_meets_room (op := .Lt) ⟨_, ho, rfl⟩ ⟨_, ho2, rfl⟩ PySem.F.slot_list_lt PySem.F.entry_list_lt (PySem.F.args_list_lt_2 _ _) (list_ltAt l b ps qs n n2 dd dd2 sl sl2)
    ⟨ho, ho2, show Value.bool _ ≠ Value.notImplemented ∧ Q (.bool _) s from ⟨(fun x => nomatch x), h⟩⟩ hu
theorem gt_loopAt (l b : Addr) (ps qs : List (Str × Tok)) (n n2 : Nat) (dd dd2 : Option Addr) (sl sl2 : Array (Option Value)) (k : Nat) :
    ∀ i : Nat, ps.length - i = k → i ≤ ps.length → i ≤ qs.length → Meets (Builtin.«list.__eq__.loop» ⟨[.ref l, .ref b, rawInt i, rawInt 4], []⟩)
      (fun A R s => s.heap.get? l = some { cls := .type "list", dict := dd, data := .seq (strValues ps).toArray n, slots := sl } ∧ s.heap.get? b = some { cls := .type "list", dict := dd2, data := .seq (strValues qs).toArray n2, slots := sl2 } ∧
        R (.ok (.ret (.bool (gtL ((ps.map (·.1)).drop i) ((qs.map (·.1)).drop i))))) s) := by
  induction k with
  | zero =>
    intro i hk hi1 hi2 prog w A R s h
    obtain ⟨hp, g, d, tk, os⟩ := s; obtain ⟨hl, hb, h⟩ := h
    have hge : ps.length ≤ i := by omega
    wp_walk using wpAny_loadPart' hl, wpAny_loadPart' hb
    rw [drop_no hge] at h
    rw [sv_no hge]
    wp_walk using wpAny_loadPart' hl, wpAny_loadPart' hb
    show R (.ok (.ret (.bool (decide ((strValues ps).toArray.size > (strValues qs).toArray.size))))) _
    have e : decide ((strValues ps).toArray.size > (strValues qs).toArray.size) = gtL [] ((qs.map (·.1)).drop i) := by
      have e1 : (strValues ps).toArray.size = ps.length := by rw [List.size_toArray, sv_len]
      have e2 : (strValues qs).toArray.size = qs.length := by rw [List.size_toArray, sv_len]
      rw [e1, e2]
      by_cases h2 : i < qs.length
      · rw [drop_at h2]; simp only [gtL, decide_eq_true_eq, decide_eq_false_iff_not]; omega
      · rw [drop_no (by omega)]; simp only [gtL, decide_eq_false_iff_not]; omega
    rw [e]; exact h
  | succ k ih =>
    intro i hk hi1 hi2 prog w A R s h
    obtain ⟨hp, g, d, tk, os⟩ := s; obtain ⟨hl, hb, h⟩ := h
    have hlt : i < ps.length := by omega
    have hc : ((i : Int) + 1) = ((i + 1 : Nat) : Int) := by push_cast; rfl
    wp_walk using wpAny_loadPart' hl, wpAny_loadPart' hb
    rw [drop_at hlt] at h
    rw [sv_at hlt]
    by_cases h2 : i < qs.length
    · rw [drop_at h2] at h
      rw [sv_at h2]
      refine wpAny_bind (EqAt.str_str _ _ _ _ prog w _ _ ?_)
      cases he : (ps[i].1 == qs[i].1) with
      | true =>
        simp only [gtL, he, if_true] at h
        wp_walk
        rw [hc]
        exact ⟨plainId_quiet plain_eq_loop _, codeAny_builtin entry_eq_loop (by
          rw [Around.under_plainId plain_eq_loop _]
          exact ih (i + 1) (by omega) hlt h2 prog w A R _ ⟨hl, hb, h⟩)⟩
      | false =>
        simp only [gtL, he, Bool.false_eq_true, if_false] at h
        wp_walk using wpAny_loadPart' hl, wpAny_loadPart' hb
        rw [sv_at hlt, sv_at h2]
        refine wpAny_bind (show wpAny _ _ (compareOp .Gt (.str _ _) (.str _ _)) _ _ _ from P.gt_str (wpAny_pure ?_))
        exact h
    · rw [drop_no (ps := qs) (i := i) (by omega)] at h
      rw [sv_no (ps := qs) (i := i) (by omega)]
      wp_walk using wpAny_loadPart' hl, wpAny_loadPart' hb
      show R (.ok (.ret (.bool (decide ((strValues ps).toArray.size > (strValues qs).toArray.size))))) _
      have e : decide ((strValues ps).toArray.size > (strValues qs).toArray.size) = gtL (ps[i].1 :: (ps.map (·.1)).drop (i + 1)) [] := by
        have e1 : (strValues ps).toArray.size = ps.length := by rw [List.size_toArray, sv_len]
        have e2 : (strValues qs).toArray.size = qs.length := by rw [List.size_toArray, sv_len]
        rw [e1, e2]
        simp only [gtL, decide_eq_true_eq, decide_eq_false_iff_not]; omega
      rw [e]; exact h
theorem list_gtAt (l b : Addr) (ps qs : List (Str × Tok)) (n n2 : Nat) (dd dd2 : Option Addr) (sl sl2 : Array (Option Value)) :
    Meets (Builtin.«list.__gt__» ⟨[.ref l, .ref b], []⟩)
      (fun A R s => s.heap.get? l = some { cls := .type "list", dict := dd, data := .seq (strValues ps).toArray n, slots := sl } ∧ s.heap.get? b = some { cls := .type "list", dict := dd2, data := .seq (strValues qs).toArray n2, slots := sl2 } ∧
        R (.ok (.ret (.bool (gtL (ps.map (·.1)) (qs.map (·.1)))))) s) := by
  intro prog w A R s h
  obtain ⟨hp, g, d, tk, os⟩ := s; obtain ⟨hl, hb, h⟩ := h
  have f3 := AutoSeq1.sub_list_list
  wp_walk using wpAny_loadPart' hl, wpAny_loadPart' hb
  exact ⟨plainId_quiet plain_eq_loop _, codeAny_builtin entry_eq_loop (by
    rw [Around.under_plainId plain_eq_loop _]
    exact gt_loopAt l b ps qs n n2 dd dd2 sl sl2 _ 0 rfl (Nat.zero_le _) (Nat.zero_le _) prog w A R _ ⟨hl, hb, h⟩)⟩
theorem rc_gt {prog : Program} {w : World} {A : Around} {E : Value → Shared → Prop} {s : Shared} {l b : Addr} {ps qs : List (Str × Tok)} {Q : Value → Shared → Prop} (hl : s.heap.IsList l (strValues ps).toArray) (hb : s.heap.IsList b (strValues qs).toArray) (hu : A.units < cLine)
    (h : Q (.bool (gtL (ps.map (·.1)) (qs.map (·.1)))) s) : wpAny (model prog w) A (richCompare .Gt (.ref l) (.ref b)) Q E s := by
  obtain ⟨⟨cls, dd, data, sl⟩, ho, hc, n, hd⟩ := id hl
  obtain ⟨⟨cls2, dd2, data2, sl2⟩, ho2, hc2, n2, hd2⟩ := id hb
  simp only at hc hd hc2 hd2
  subst hc hd hc2 hd2
  exact richCompare_meets_room (op := .Gt) ⟨_, ho, rfl⟩ ⟨_, ho2, rfl⟩ PySem.F.slot_list_gt PySem.F.entry_list_gt (PySem.F.args_list_gt_2 _ _) (list_gtAt l b ps qs n n2 dd dd2 sl sl2)
    ⟨ho, ho2, show Value.bool _ ≠ Value.notImplemented ∧ Q (.bool _) s from ⟨(fun x => nomatch x), h⟩⟩ hu
end Mine
end

section -- PL1
open PySem PySem.W PyProof.Rows
set_option Elab.async false
namespace Mine
/-! plain lemmas: the least and the greatest of two lists of texts, and what both begin with -/
noncomputable def minL (a b : List Str) : List Str := if ltL b a = true then b else a
noncomputable def maxL (a b : List Str) : List Str := if gtL b a = true then b else a
noncomputable def lcp : List Str → List Str → List Str
  | x :: xs, y :: ys => if (x == y) = true then x :: lcp xs ys else []
  | _, _ => []
theorem list_lt_asymm : ∀ {a b : List Nat}, a < b → ¬ b < a := fun h k => List.lt_irrefl _ (List.lt_trans h k)
theorem list_lt_total : ∀ {a b : List Nat}, ¬ a < b → ¬ b < a → a = b := fun {a b} h k => List.le_antisymm (List.not_lt.mp k) (List.not_lt.mp h)
theorem str_ext {x y : Str} (h : x.cps.toList = y.cps.toList) : x = y := by
  obtain ⟨⟨a⟩⟩ := x; obtain ⟨⟨b⟩⟩ := y
  simp only at h; subst h; rfl
theorem ltS_asymm {x y : Str} (h : ltS x y = true) : ltS y x = false := by
  unfold ltS at *
  exact decide_eq_false (list_lt_asymm (of_decide_eq_true h))
theorem ltS_total {x y : Str} (h : ltS x y = false) (k : ltS y x = false) : x = y := by
  unfold ltS at *
  exact str_ext (list_lt_total (of_decide_eq_false h) (of_decide_eq_false k))
theorem gt_lt : ∀ a b : List Str, gtL a b = ltL b a
  | [], [] => rfl
  | [], _ :: _ => rfl
  | _ :: _, [] => rfl
  | x :: xs, y :: ys => by
    have e : (y == x) = (x == y) := by
      by_cases h : x = y
      · subst h; rfl
      · rw [beq_false_of_ne h, beq_false_of_ne (Ne.symm h)]
    simp only [gtL, ltL, e, gt_lt xs ys]
theorem ltL_asymm : ∀ {a b : List Str}, ltL a b = true → ltL b a = false
  | [], [], _ => rfl
  | [], _ :: _, _ => rfl
  | _ :: _, [], h => by simp [ltL] at h
  | x :: xs, y :: ys, h => by
    by_cases e : x = y
    · subst e
      simp only [ltL, beq_self_eq_true, if_true] at h ⊢
      exact ltL_asymm h
    · simp only [ltL, beq_false_of_ne e, beq_false_of_ne (Ne.symm e), Bool.false_eq_true, if_false] at h ⊢
      exact ltS_asymm h
theorem ltL_total : ∀ {a b : List Str}, ltL a b = false → ltL b a = false → a = b
  | [], [], _, _ => rfl
  | [], _ :: _, h, _ => by simp [ltL] at h
  | _ :: _, [], _, h => by simp [ltL] at h
  | x :: xs, y :: ys, h, k => by
    by_cases e : x = y
    · subst e
      simp only [ltL, beq_self_eq_true, if_true] at h k
      rw [ltL_total h k]
    · simp only [ltL, beq_false_of_ne e, beq_false_of_ne (Ne.symm e), Bool.false_eq_true, if_false] at h k
      exact absurd (ltS_total h k) e
theorem lcp_comm : ∀ a b : List Str, lcp a b = lcp b a
  | [], [] => rfl
  | [], _ :: _ => rfl
  | _ :: _, [] => rfl
  | x :: xs, y :: ys => by
    by_cases e : x = y
    · subst e; simp only [lcp, beq_self_eq_true, if_true, lcp_comm xs ys]
    · simp only [lcp, beq_false_of_ne e, beq_false_of_ne (Ne.symm e), Bool.false_eq_true, if_false]
theorem lcp_self : ∀ a : List Str, lcp a a = a
  | [] => rfl
  | x :: xs => by simp only [lcp, beq_self_eq_true, if_true, lcp_self xs]
/-- the pair that min and max give -/
theorem minmax (a b : List Str) : (minL a b = a ∧ maxL a b = b) ∨ (minL a b = b ∧ maxL a b = a) := by
  unfold minL maxL
  rw [gt_lt]
  cases h : ltL b a with
  | true =>
    have := ltL_asymm h
    right; simp [this]
  | false =>
    cases k : ltL a b with
    | true => left; simp
    | false =>
      have := ltL_total h k
      subst this
      left; simp
theorem minmax_le (a b : List Str) : ltL (maxL a b) (minL a b) = false := by
  unfold minL maxL
  rw [gt_lt]
  cases h : ltL b a with
  | true =>
    have := ltL_asymm h
    simp [this]
  | false =>
    cases k : ltL a b with
    | true => simpa using h
    | false => simpa [ltL_total h k] using h
theorem lcp_minmax (a b : List Str) : lcp (minL a b) (maxL a b) = lcp a b := by
  rcases minmax a b with ⟨h1, h2⟩ | ⟨h1, h2⟩
  · rw [h1, h2]
  · rw [h1, h2, lcp_comm]
theorem lt_prefix : ∀ {i : Nat} {a b : List Str}, a.take i = b.take i → i < a.length → b.length ≤ i → ltL b a = true
  | 0, a, b, _, ha, hb => by
    have : b = [] := List.length_eq_zero_iff.mp (Nat.le_zero.mp hb)
    subst this
    cases a with
    | nil => simp at ha
    | cons x xs => rfl
  | i + 1, a, b, h, ha, hb => by
    cases a with
    | nil => simp at ha
    | cons x xs =>
      cases b with
      | nil => rfl
      | cons y ys =>
        simp only [List.take_succ_cons, List.cons.injEq] at h
        obtain ⟨rfl, h⟩ := h
        simp only [ltL, beq_self_eq_true, if_true]
        exact lt_prefix h (by simpa using ha) (by simpa using hb)
noncomputable def KC (a b : List Str) (i : Nat) : Prop := (minL a b).take i = (maxL a b).take i
theorem KC.zero {a b : List Str} : KC a b 0 := rfl
theorem KC.bound {a b : List Str} {i : Nat} (h : KC a b i) (hi : i < (minL a b).length) : i < (maxL a b).length := by
  rcases Nat.lt_or_ge i (maxL a b).length with k | k
  · exact k
  · have := lt_prefix h hi k
    rw [minmax_le] at this; cases this
theorem KC.succ {a b : List Str} {i : Nat} {c d : Str} (h : KC a b i) (h1 : (minL a b)[i]? = some c) (h2 : (maxL a b)[i]? = some d) (e : (c != d) = false) : KC a b (i + 1) := by
  have : c = d := by simpa using e
  subst this
  unfold KC at *
  rw [List.take_add_one, List.take_add_one, h, h1, h2]
theorem lcp_take : ∀ {i : Nat} {a b : List Str} {c d : Str}, a.take i = b.take i → a[i]? = some c → b[i]? = some d → c ≠ d → lcp a b = a.take i
  | 0, a, b, c, d, _, h1, h2, e => by
    cases a with
    | nil => simp at h1
    | cons x xs =>
      cases b with
      | nil => simp at h2
      | cons y ys =>
        simp only [List.getElem?_cons_zero, Option.some.injEq] at h1 h2
        subst h1 h2
        simp only [lcp, beq_false_of_ne e, Bool.false_eq_true, if_false, List.take_zero]
  | i + 1, a, b, c, d, h, h1, h2, e => by
    cases a with
    | nil => simp at h1
    | cons x xs =>
      cases b with
      | nil => simp at h2
      | cons y ys =>
        simp only [List.take_succ_cons, List.cons.injEq] at h
        obtain ⟨rfl, h⟩ := h
        simp only [List.getElem?_cons_succ] at h1 h2
        simp only [lcp, beq_self_eq_true, if_true, List.take_succ_cons, lcp_take h h1 h2 e]
theorem lcp_whole : ∀ {a b : List Str}, a = b.take a.length → lcp a b = a
  | [], _, _ => rfl
  | x :: xs, [], h => by simp at h
  | x :: xs, y :: ys, h => by
    simp only [List.length_cons, List.take_succ_cons, List.cons.injEq] at h
    obtain ⟨rfl, h⟩ := h
    simp only [lcp, beq_self_eq_true, if_true, lcp_whole h]
theorem KC.stop {a b : List Str} {i : Nat} {c d : Str} (h : KC a b i) (h1 : (minL a b)[i]? = some c) (h2 : (maxL a b)[i]? = some d) (e : (c != d) = true) : (minL a b).take i = lcp a b := by
  have : c ≠ d := by simpa using e
  rw [← lcp_minmax, lcp_take h h1 h2 this]
theorem KC.whole {a b : List Str} (h : KC a b (minL a b).length) : minL a b = lcp a b := by
  have : minL a b = (maxL a b).take (minL a b).length := by
    unfold KC at h
    rw [List.take_length] at h
    exact h
  rw [← lcp_minmax, lcp_whole this]
end Mine
end

section -- M6
open PySem PySem.W PyProof.Rows PySem.Calls PySem.Builtin
set_option Elab.async false
set_option maxRecDepth 100000
set_option maxHeartbeats 0
namespace Mine
section
variable {prog : Program} {w : World} {A : Around} {E : Value → Shared → Prop} {s : Shared} {h₀ : Heap} {L : Addr} {m : Str → Option Value} {news : List (Addr × Obj)}

theorem min_last {I l S a b : Addr} {v : Value} {c : Nat} {R : Result → Shared → Prop} (hh : A.handled = none) (hlI : l ≠ I) (hSI : S ≠ I) (hlS : l ≠ S)
    (hit : s.heap.IsListIter I l 2) (hl : s.heap.IsList l #[.ref a, .ref b]) (hS : s.heap.get? S = some (seqObj "list" #[v, v] c))
    (hR : ∀ h' tk, (∀ b o, b ≠ I → b ≠ S → s.heap.get? b = some o → h'.get? b = some o) → R (.ok (.ret v)) { s with heap := h', toks := tk }) :
    codeAny (model prog w) A (.builtin "min.loop" ⟨[.ref I, .none, .ref S], []⟩) R s := by
  have W := Walks.list (prog := prog) (w := w) (A := A.in1) hh I l hlI #[.ref a, .ref b]
  refine codeAny_builtin PySem.F.entry_min_loop ?_
  rw [Around.under_plainId PySem.F.plain_min_loop _]
  show wpAny _ A.in1 (seqItems? (.ref S) >>= _) _ _ s
  refine wpAny_bind (wpAny_seqItems hS rfl ?_)
  show wpAny _ A.in1 (tryCatch (pyNext (.ref I)) _ >>= _) _ _ s
  refine wpAny_bind (wpAny_tryCatch (W.done s _ _ ⟨hit, hl⟩ fun h' tk hk' => ?_))
  have hS' := hk' S _ (by simpa using hSI) hS
  show wpAny _ A.in1 (updateSeq S (fun _ => #[]) >>= _) _ _ _
  refine wpAny_bind ?_
  refine wpAny_updateSeq hS' rfl (wpAny_bind (wpAny_letGo (wpAny_pure ?_)))
  exact hR _ tk fun b o hbI hbS e => (Heap.get?_update_other _ _ (Ne.symm hbS)).trans (hk' b o (by simpa using hbI) e)

theorem call_min2 {l a b : Addr} {ps qs : List (Str × Tok)} {Q : Value → Shared → Prop} (hh : A.handled = none) (hl : s.heap.IsList l #[.ref a, .ref b]) (ha : s.heap.IsList a (strValues ps).toArray) (hb : s.heap.IsList b (strValues qs).toArray) (hu : A.units + 4 < cLine)
    (hQ : ∀ h' tk, (∀ c o, s.heap.get? c = some o → h'.get? c = some o) → Q (.ref (if ltL (qs.map (·.1)) (ps.map (·.1)) = true then b else a)) { s with heap := h', toks := tk }) :
    wpAny (model prog w) A (call (.builtin "min") [.ref l]) Q E s := by
  have hname : (toString "min" ++ toString ".loop" : String) = "min.loop" := by decide
  obtain ⟨ol, hol, _⟩ := id hl
  obtain ⟨oa, hoa, _⟩ := id ha
  obtain ⟨ob, hob, _⟩ := id hb
  have hll : l < s.heap.objs.size := Heap.lt_size hol
  have hla : a < s.heap.objs.size := Heap.lt_size hoa
  have hlb : b < s.heap.objs.size := Heap.lt_size hob
  refine call_function_tree PySem.F.kind_min PySem.F.plain_min PySem.F.entry_min (PySem.F.args_min1 _) ?_
  show wpAny _ A.in1 (Builtin.Builtins.bindParams "min" ["key", "default"] 0 ⟨[], []⟩ >>= _) _ _ s
  refine wpAny_bind (wpAny_of_eq (show Builtin.Builtins.bindParams "min" ["key", "default"] 0 ⟨[], []⟩ = pure [none, none] from rfl) ?_)
  refine wpAny_bind (wpAny_pure ?_)
  refine wpAny_bind (wpAny_pyIter_list hl ?_)
  refine wpAny_bind (wpAny_newObj_type ?_)
  rw [hname]
  generalize hI : s.heap.objs.size = I at *
  generalize hH1 : s.heap.push { cls := .type "list_iterator", data := .fields #[.ref l, .int 0 0] } = H1
  have hz1 : H1.objs.size = I + 1 := by rw [← hH1, Heap.size_push, hI]
  generalize hSe : H1.objs.size = S at *
  generalize hH2 : H1.push { cls := .type "list", data := .seq (([] : List Value).toArray) } = H2
  have up : ∀ c o, s.heap.get? c = some o → H2.get? c = some o := fun c o e => by rw [← hH2, ← hH1]; exact Heap.get?_push_of_some _ (Heap.get?_push_of_some _ e)
  have gI : H2.get? I = some { cls := .type "list_iterator", data := .fields #[.ref l, .int 0 0] } := by
    rw [← hH2, ← hH1, ← hI]; exact Heap.get?_push_of_some _ (Heap.get?_push_size _ rfl)
  have gS : H2.get? S = some (seqObj "list" #[] 0) := by rw [← hH2, ← hSe]; exact Heap.get?_push_size _ rfl
  have hlI : l ≠ I := Nat.ne_of_lt hll
  have hSI : S ≠ I := by rw [hz1]; exact Nat.ne_of_gt (Nat.lt_succ_self _)
  have hlS : l ≠ S := by rw [hz1]; exact Nat.ne_of_lt (Nat.lt_succ_of_lt hll)
  have old : ∀ c, c < I → c ≠ I ∧ c ≠ S := fun c hc => ⟨Nat.ne_of_lt hc, by rw [hz1]; exact Nat.ne_of_lt (Nat.lt_succ_of_lt hc)⟩
  have lst_up : ∀ {h h' : Heap} {c : Addr} {its : Array Value}, c < I → (∀ b o, b ≠ I → b ≠ S → h.get? b = some o → h'.get? b = some o) → h.IsList c its → h'.IsList c its := fun hc k x => let ⟨o, ho, r⟩ := x; ⟨o, k _ _ (old _ hc).1 (old _ hc).2 ho, r⟩
  have W := Walks.list (prog := prog) (w := w) (A := A.in1) hh I l hlI #[.ref a, .ref b]
  refine wpAny_pure ⟨plainId_quiet PySem.F.plain_min_loop _, ?_⟩
  have hl2 : H2.IsList l #[.ref a, .ref b] := let ⟨o, ho, r⟩ := hl; ⟨o, up _ _ ho, r⟩
  have ha2 : H2.IsList a (strValues ps).toArray := let ⟨o, ho, r⟩ := ha; ⟨o, up _ _ ho, r⟩
  have hb2 : H2.IsList b (strValues qs).toArray := let ⟨o, ho, r⟩ := hb; ⟨o, up _ _ ho, r⟩
  refine codeAny_builtin PySem.F.entry_min_loop ?_
  rw [Around.under_plainId PySem.F.plain_min_loop _]
  show wpAny _ A.in1 (seqItems? (.ref S) >>= _) _ _ _
  refine wpAny_bind (wpAny_seqItems gS rfl ?_)
  show wpAny _ A.in1 (tryCatch (pyNext (.ref I)) _ >>= _) _ _ _
  refine wpAny_bind (wpAny_tryCatch (W.item 0 _ _ _ (by simp) ⟨⟨_, gI, rfl, rfl⟩, hl2⟩ fun v h' tk hP hst' hk' => ?_))
  have hv : v = .ref a := by simpa using hP.symm
  subst hv
  have k1 : ∀ b o, b ≠ I → b ≠ S → H2.get? b = some o → h'.get? b = some o := fun b o h1 _ e => hk' b o (by simpa using h1) e
  have hS' := hk' S _ (by simpa using hSI) gS
  show wpAny _ A.in1 (updateSeq S (fun _ => #[.ref a, .ref a]) >>= _) _ _ _
  refine wpAny_bind ?_
  refine wpAny_updateSeq hS' rfl ?_
  rw [hname]
  have s2 := Heap.SameBut.update h' S (Obj.mapSeq fun _ => #[.ref a, .ref a])
  obtain ⟨c2, gS2⟩ : ∃ c2, (h'.update S (Obj.mapSeq fun _ => #[.ref a, .ref a])).get? S = some (seqObj "list" #[.ref a, .ref a] c2) := ⟨_, get?_update_seq hS' fun _ => #[.ref a, .ref a]⟩
  generalize h'.update S (Obj.mapSeq fun _ => #[.ref a, .ref a]) = H3 at s2 gS2 ⊢
  have k2 : ∀ b o, b ≠ I → b ≠ S → H2.get? b = some o → H3.get? b = some o := fun b o h1 h2 e => (s2.2 b h2).trans (k1 b o h1 h2 e)
  have hit3 : H3.IsListIter I l 1 := let ⟨o, ho, r⟩ := hst'.1; ⟨o, (s2.2 I hSI.symm).trans ho, r⟩
  refine wpAny_pure ⟨plainId_quiet PySem.F.plain_min_loop _, ?_⟩
  refine codeAny_builtin PySem.F.entry_min_loop ?_
  rw [Around.under_plainId PySem.F.plain_min_loop _]
  show wpAny _ A.in1 (seqItems? (.ref S) >>= _) _ _ _
  refine wpAny_bind (wpAny_seqItems gS2 rfl ?_)
  show wpAny _ A.in1 (tryCatch (pyNext (.ref I)) _ >>= _) _ _ _
  refine wpAny_bind (wpAny_tryCatch (W.item 1 _ _ _ (by simp) ⟨hit3, lst_up hll k2 hl2⟩ fun v h4 tk4 hP4 hst4 hk4 => ?_))
  have hv : v = .ref b := by simpa using hP4.symm
  subst hv
  have k4 : ∀ b o, b ≠ I → b ≠ S → H2.get? b = some o → h4.get? b = some o := fun b o h1 h2 e => hk4 b o (by simpa using h1) (k2 b o h1 h2 e)
  have hS4 := hk4 S _ (by simpa using hSI) gS2
  show wpAny _ A.in1 (tryCatch (holding [.ref b, .ref b] (richCompare .Lt (.ref b) (.ref a) >>= _)) _ >>= _) _ _ _
  refine wpAny_bind (wpAny_tryCatch (wpAny_holding (wpAny_bind (rc_lt (lst_up hlb k4 hb2) (lst_up hla k4 ha2) (by show A.units + 1 < cLine; omega) ?_))))
  refine wpAny_bind (wpAny_holding (wpAny_truthy_bool ?_))
  refine wpAny_bind (wpAny_letGo (wpAny_pure ?_))
  cases hbt : ltL (qs.map (·.1)) (ps.map (·.1)) with
  | true =>
    simp only [if_true]
    refine wpAny_bind ?_
    refine wpAny_updateSeq hS4 rfl (wpAny_bind (wpAny_letGo ?_))
    rw [hname]
    have s5 := Heap.SameBut.update h4 S (Obj.mapSeq fun _ => #[.ref b, .ref b])
    obtain ⟨c5, gS5⟩ : ∃ c5, (h4.update S (Obj.mapSeq fun _ => #[.ref b, .ref b])).get? S = some (seqObj "list" #[.ref b, .ref b] c5) := ⟨_, get?_update_seq hS4 fun _ => #[.ref b, .ref b]⟩
    have k5 : ∀ c o, c ≠ I → c ≠ S → H2.get? c = some o → (h4.update S (Obj.mapSeq fun _ => #[.ref b, .ref b])).get? c = some o := fun c o h1 h2 e => (s5.2 c h2).trans (k4 c o h1 h2 e)
    refine wpAny_pure ⟨plainId_quiet PySem.F.plain_min_loop _, min_last (s := { s with heap := h4.update S (Obj.mapSeq fun _ => #[.ref b, .ref b]), toks := tk4 }) hh hlI hSI hlS (let ⟨o, ho, r⟩ := hst4.1; ⟨o, (s5.2 I hSI.symm).trans ho, r⟩) (lst_up hll k5 hl2) gS5 fun h6 tk6 hk6 => ?_⟩
    have := hQ h6 tk6 fun c o e => hk6 c o (old c (hI ▸ Heap.lt_size e)).1 (old c (hI ▸ Heap.lt_size e)).2 (k5 c o (old c (hI ▸ Heap.lt_size e)).1 (old c (hI ▸ Heap.lt_size e)).2 (up c o e))
    rw [hbt, if_pos rfl] at this
    exact this
  | false =>
    simp only [Bool.false_eq_true, if_false]
    refine wpAny_bind (wpAny_letGo ?_)
    rw [hname]
    refine wpAny_pure ⟨plainId_quiet PySem.F.plain_min_loop _, min_last (s := { s with heap := h4, toks := tk4 }) hh hlI hSI hlS hst4.1 (lst_up hll k4 hl2) hS4 fun h6 tk6 hk6 => ?_⟩
    have := hQ h6 tk6 fun c o e => hk6 c o (old c (hI ▸ Heap.lt_size e)).1 (old c (hI ▸ Heap.lt_size e)).2 (k4 c o (old c (hI ▸ Heap.lt_size e)).1 (old c (hI ▸ Heap.lt_size e)).2 (up c o e))
    rw [hbt, if_neg (by decide)] at this
    exact this
/-- at a ledger -/
theorem min_led {l a b : Addr} {ps qs : List (Str × Tok)} {n k j : Nat} {Q : Value → Shared → Prop} (hh : A.handled = none) (F : Fr h₀ L s.heap m) (N : News h₀ L s.heap news) (hl : (l, listOf #[.ref a, .ref b] n) ∈ news) (ha : (a, listOf (strValues ps).toArray k) ∈ news) (hb : (b, listOf (strValues qs).toArray j) ∈ news) (hu : A.units + 4 < cLine)
    (hQ : ∀ h' tk, Fr h₀ L h' m → News h₀ L h' news → Q (.ref (if ltL (qs.map (·.1)) (ps.map (·.1)) = true then b else a)) { s with heap := h', toks := tk }) :
    wpAny (model prog w) A (call (.builtin "min") [.ref l]) Q E s :=
  call_min2 hh (News.isList N hl) (News.isList N ha) (News.isList N hb) hu fun h' tk k => hQ h' tk (F.keeps k) (N.grown k)

theorem max_last {I l S a b : Addr} {v : Value} {c : Nat} {R : Result → Shared → Prop} (hh : A.handled = none) (hlI : l ≠ I) (hSI : S ≠ I) (hlS : l ≠ S)
    (hit : s.heap.IsListIter I l 2) (hl : s.heap.IsList l #[.ref a, .ref b]) (hS : s.heap.get? S = some (seqObj "list" #[v, v] c))
    (hR : ∀ h' tk, (∀ b o, b ≠ I → b ≠ S → s.heap.get? b = some o → h'.get? b = some o) → R (.ok (.ret v)) { s with heap := h', toks := tk }) :
    codeAny (model prog w) A (.builtin "max.loop" ⟨[.ref I, .none, .ref S], []⟩) R s := by
  have W := Walks.list (prog := prog) (w := w) (A := A.in1) hh I l hlI #[.ref a, .ref b]
  refine codeAny_builtin PySem.F.entry_max_loop ?_
  rw [Around.under_plainId PySem.F.plain_max_loop _]
  show wpAny _ A.in1 (seqItems? (.ref S) >>= _) _ _ s
  refine wpAny_bind (wpAny_seqItems hS rfl ?_)
  show wpAny _ A.in1 (tryCatch (pyNext (.ref I)) _ >>= _) _ _ s
  refine wpAny_bind (wpAny_tryCatch (W.done s _ _ ⟨hit, hl⟩ fun h' tk hk' => ?_))
  have hS' := hk' S _ (by simpa using hSI) hS
  show wpAny _ A.in1 (updateSeq S (fun _ => #[]) >>= _) _ _ _
  refine wpAny_bind ?_
  refine wpAny_updateSeq hS' rfl (wpAny_bind (wpAny_letGo (wpAny_pure ?_)))
  exact hR _ tk fun b o hbI hbS e => (Heap.get?_update_other _ _ (Ne.symm hbS)).trans (hk' b o (by simpa using hbI) e)

theorem call_max2 {l a b : Addr} {ps qs : List (Str × Tok)} {Q : Value → Shared → Prop} (hh : A.handled = none) (hl : s.heap.IsList l #[.ref a, .ref b]) (ha : s.heap.IsList a (strValues ps).toArray) (hb : s.heap.IsList b (strValues qs).toArray) (hu : A.units + 4 < cLine)
    (hQ : ∀ h' tk, (∀ c o, s.heap.get? c = some o → h'.get? c = some o) → Q (.ref (if gtL (qs.map (·.1)) (ps.map (·.1)) = true then b else a)) { s with heap := h', toks := tk }) :
    wpAny (model prog w) A (call (.builtin "max") [.ref l]) Q E s := by
  have hname : (toString "max" ++ toString ".loop" : String) = "max.loop" := by decide
  obtain ⟨ol, hol, _⟩ := id hl
  obtain ⟨oa, hoa, _⟩ := id ha
  obtain ⟨ob, hob, _⟩ := id hb
  have hll : l < s.heap.objs.size := Heap.lt_size hol
  have hla : a < s.heap.objs.size := Heap.lt_size hoa
  have hlb : b < s.heap.objs.size := Heap.lt_size hob
  refine call_function_tree PySem.F.kind_max PySem.F.plain_max PySem.F.entry_max (PySem.F.args_max1 _) ?_
  show wpAny _ A.in1 (Builtin.Builtins.bindParams "max" ["key", "default"] 0 ⟨[], []⟩ >>= _) _ _ s
  refine wpAny_bind (wpAny_of_eq (show Builtin.Builtins.bindParams "max" ["key", "default"] 0 ⟨[], []⟩ = pure [none, none] from rfl) ?_)
  refine wpAny_bind (wpAny_pure ?_)
  refine wpAny_bind (wpAny_pyIter_list hl ?_)
  refine wpAny_bind (wpAny_newObj_type ?_)
  rw [hname]
  generalize hI : s.heap.objs.size = I at *
  generalize hH1 : s.heap.push { cls := .type "list_iterator", data := .fields #[.ref l, .int 0 0] } = H1
  have hz1 : H1.objs.size = I + 1 := by rw [← hH1, Heap.size_push, hI]
  generalize hSe : H1.objs.size = S at *
  generalize hH2 : H1.push { cls := .type "list", data := .seq (([] : List Value).toArray) } = H2
  have up : ∀ c o, s.heap.get? c = some o → H2.get? c = some o := fun c o e => by rw [← hH2, ← hH1]; exact Heap.get?_push_of_some _ (Heap.get?_push_of_some _ e)
  have gI : H2.get? I = some { cls := .type "list_iterator", data := .fields #[.ref l, .int 0 0] } := by
    rw [← hH2, ← hH1, ← hI]; exact Heap.get?_push_of_some _ (Heap.get?_push_size _ rfl)
  have gS : H2.get? S = some (seqObj "list" #[] 0) := by rw [← hH2, ← hSe]; exact Heap.get?_push_size _ rfl
  have hlI : l ≠ I := Nat.ne_of_lt hll
  have hSI : S ≠ I := by rw [hz1]; exact Nat.ne_of_gt (Nat.lt_succ_self _)
  have hlS : l ≠ S := by rw [hz1]; exact Nat.ne_of_lt (Nat.lt_succ_of_lt hll)
  have old : ∀ c, c < I → c ≠ I ∧ c ≠ S := fun c hc => ⟨Nat.ne_of_lt hc, by rw [hz1]; exact Nat.ne_of_lt (Nat.lt_succ_of_lt hc)⟩
  have lst_up : ∀ {h h' : Heap} {c : Addr} {its : Array Value}, c < I → (∀ b o, b ≠ I → b ≠ S → h.get? b = some o → h'.get? b = some o) → h.IsList c its → h'.IsList c its := fun hc k x => let ⟨o, ho, r⟩ := x; ⟨o, k _ _ (old _ hc).1 (old _ hc).2 ho, r⟩
  have W := Walks.list (prog := prog) (w := w) (A := A.in1) hh I l hlI #[.ref a, .ref b]
  refine wpAny_pure ⟨plainId_quiet PySem.F.plain_max_loop _, ?_⟩
  have hl2 : H2.IsList l #[.ref a, .ref b] := let ⟨o, ho, r⟩ := hl; ⟨o, up _ _ ho, r⟩
  have ha2 : H2.IsList a (strValues ps).toArray := let ⟨o, ho, r⟩ := ha; ⟨o, up _ _ ho, r⟩
  have hb2 : H2.IsList b (strValues qs).toArray := let ⟨o, ho, r⟩ := hb; ⟨o, up _ _ ho, r⟩
  refine codeAny_builtin PySem.F.entry_max_loop ?_
  rw [Around.under_plainId PySem.F.plain_max_loop _]
  show wpAny _ A.in1 (seqItems? (.ref S) >>= _) _ _ _
  refine wpAny_bind (wpAny_seqItems gS rfl ?_)
  show wpAny _ A.in1 (tryCatch (pyNext (.ref I)) _ >>= _) _ _ _
  refine wpAny_bind (wpAny_tryCatch (W.item 0 _ _ _ (by simp) ⟨⟨_, gI, rfl, rfl⟩, hl2⟩ fun v h' tk hP hst' hk' => ?_))
  have hv : v = .ref a := by simpa using hP.symm
  subst hv
  have k1 : ∀ b o, b ≠ I → b ≠ S → H2.get? b = some o → h'.get? b = some o := fun b o h1 _ e => hk' b o (by simpa using h1) e
  have hS' := hk' S _ (by simpa using hSI) gS
  show wpAny _ A.in1 (updateSeq S (fun _ => #[.ref a, .ref a]) >>= _) _ _ _
  refine wpAny_bind ?_
  refine wpAny_updateSeq hS' rfl ?_
  rw [hname]
  have s2 := Heap.SameBut.update h' S (Obj.mapSeq fun _ => #[.ref a, .ref a])
  obtain ⟨c2, gS2⟩ : ∃ c2, (h'.update S (Obj.mapSeq fun _ => #[.ref a, .ref a])).get? S = some (seqObj "list" #[.ref a, .ref a] c2) := ⟨_, get?_update_seq hS' fun _ => #[.ref a, .ref a]⟩
  generalize h'.update S (Obj.mapSeq fun _ => #[.ref a, .ref a]) = H3 at s2 gS2 ⊢
  have k2 : ∀ b o, b ≠ I → b ≠ S → H2.get? b = some o → H3.get? b = some o := fun b o h1 h2 e => (s2.2 b h2).trans (k1 b o h1 h2 e)
  have hit3 : H3.IsListIter I l 1 := let ⟨o, ho, r⟩ := hst'.1; ⟨o, (s2.2 I hSI.symm).trans ho, r⟩
  refine wpAny_pure ⟨plainId_quiet PySem.F.plain_max_loop _, ?_⟩
  refine codeAny_builtin PySem.F.entry_max_loop ?_
  rw [Around.under_plainId PySem.F.plain_max_loop _]
  show wpAny _ A.in1 (seqItems? (.ref S) >>= _) _ _ _
  refine wpAny_bind (wpAny_seqItems gS2 rfl ?_)
  show wpAny _ A.in1 (tryCatch (pyNext (.ref I)) _ >>= _) _ _ _
  refine wpAny_bind (wpAny_tryCatch (W.item 1 _ _ _ (by simp) ⟨hit3, lst_up hll k2 hl2⟩ fun v h4 tk4 hP4 hst4 hk4 => ?_))
  have hv : v = .ref b := by simpa using hP4.symm
  subst hv
  have k4 : ∀ b o, b ≠ I → b ≠ S → H2.get? b = some o → h4.get? b = some o := fun b o h1 h2 e => hk4 b o (by simpa using h1) (k2 b o h1 h2 e)
  have hS4 := hk4 S _ (by simpa using hSI) gS2
  show wpAny _ A.in1 (tryCatch (holding [.ref b, .ref b] (richCompare .Gt (.ref b) (.ref a) >>= _)) _ >>= _) _ _ _
  refine wpAny_bind (wpAny_tryCatch (wpAny_holding (wpAny_bind (rc_gt (lst_up hlb k4 hb2) (lst_up hla k4 ha2) (by show A.units + 1 < cLine; omega) ?_))))
  refine wpAny_bind (wpAny_holding (wpAny_truthy_bool ?_))
  refine wpAny_bind (wpAny_letGo (wpAny_pure ?_))
  cases hbt : gtL (qs.map (·.1)) (ps.map (·.1)) with
  | true =>
    simp only [if_true]
    refine wpAny_bind ?_
    refine wpAny_updateSeq hS4 rfl (wpAny_bind (wpAny_letGo ?_))
    rw [hname]
    have s5 := Heap.SameBut.update h4 S (Obj.mapSeq fun _ => #[.ref b, .ref b])
    obtain ⟨c5, gS5⟩ : ∃ c5, (h4.update S (Obj.mapSeq fun _ => #[.ref b, .ref b])).get? S = some (seqObj "list" #[.ref b, .ref b] c5) := ⟨_, get?_update_seq hS4 fun _ => #[.ref b, .ref b]⟩
    have k5 : ∀ c o, c ≠ I → c ≠ S → H2.get? c = some o → (h4.update S (Obj.mapSeq fun _ => #[.ref b, .ref b])).get? c = some o := fun c o h1 h2 e => (s5.2 c h2).trans (k4 c o h1 h2 e)
    refine wpAny_pure ⟨plainId_quiet PySem.F.plain_max_loop _, max_last (s := { s with heap := h4.update S (Obj.mapSeq fun _ => #[.ref b, .ref b]), toks := tk4 }) hh hlI hSI hlS (let ⟨o, ho, r⟩ := hst4.1; ⟨o, (s5.2 I hSI.symm).trans ho, r⟩) (lst_up hll k5 hl2) gS5 fun h6 tk6 hk6 => ?_⟩
    have := hQ h6 tk6 fun c o e => hk6 c o (old c (hI ▸ Heap.lt_size e)).1 (old c (hI ▸ Heap.lt_size e)).2 (k5 c o (old c (hI ▸ Heap.lt_size e)).1 (old c (hI ▸ Heap.lt_size e)).2 (up c o e))
    rw [hbt, if_pos rfl] at this
    exact this
  | false =>
    simp only [Bool.false_eq_true, if_false]
    refine wpAny_bind (wpAny_letGo ?_)
    rw [hname]
    refine wpAny_pure ⟨plainId_quiet PySem.F.plain_max_loop _, max_last (s := { s with heap := h4, toks := tk4 }) hh hlI hSI hlS hst4.1 (lst_up hll k4 hl2) hS4 fun h6 tk6 hk6 => ?_⟩
    have := hQ h6 tk6 fun c o e => hk6 c o (old c (hI ▸ Heap.lt_size e)).1 (old c (hI ▸ Heap.lt_size e)).2 (k4 c o (old c (hI ▸ Heap.lt_size e)).1 (old c (hI ▸ Heap.lt_size e)).2 (up c o e))
    rw [hbt, if_neg (by decide)] at this
    exact this
/-- at a ledger -/
theorem max_led {l a b : Addr} {ps qs : List (Str × Tok)} {n k j : Nat} {Q : Value → Shared → Prop} (hh : A.handled = none) (F : Fr h₀ L s.heap m) (N : News h₀ L s.heap news) (hl : (l, listOf #[.ref a, .ref b] n) ∈ news) (ha : (a, listOf (strValues ps).toArray k) ∈ news) (hb : (b, listOf (strValues qs).toArray j) ∈ news) (hu : A.units + 4 < cLine)
    (hQ : ∀ h' tk, Fr h₀ L h' m → News h₀ L h' news → Q (.ref (if gtL (qs.map (·.1)) (ps.map (·.1)) = true then b else a)) { s with heap := h', toks := tk }) :
    wpAny (model prog w) A (call (.builtin "max") [.ref l]) Q E s :=
  call_max2 hh (News.isList N hl) (News.isList N ha) (News.isList N hb) hu fun h' tk k => hQ h' tk (F.keeps k) (N.grown k)
end
end Mine
end

section -- M1
open PySem PySem.W PyProof.Rows PySem.Calls PySem.Builtin
open AutoSeq1 (wpAny_loadPart')
set_option Elab.async false
set_option maxRecDepth 100000
set_option maxHeartbeats 0
namespace Mine
theorem owner_map : Manifest.owners.lookup (String.ofList ['p', 'a', 'm'].reverse) = some Manifest.sig_map := by kernel_rfl
theorem slot_map_init : Slot "map" "__init__" "object.__init__" :=
  .of (owner := "object") (n := "__init__") (by rw [typeLookup_type, builtinLookup_eq_fast]; kernel_rfl) (by decide +kernel) (by decide +kernel) (by decide +kernel)
    (by first | exact .inl (by decide +kernel) | exact .inr (by decide +kernel)) (by rw [isSubtype_type]; kernel_rfl)
theorem slot_map_iter : Slot "map" "__iter__" "map.__iter__" :=
  .of (owner := "map") (n := "__iter__") (by rw [typeLookup_type, builtinLookup_eq_fast]; kernel_rfl) (by decide +kernel) (by decide +kernel) (by decide +kernel)
    (by first | exact .inl (by decide +kernel) | exact .inr (by decide +kernel)) (by rw [isSubtype_type]; kernel_rfl)
theorem slot_map_next : Slot "map" "__next__" "map.__next__" :=
  .of (owner := "map") (n := "__next__") (by rw [typeLookup_type, builtinLookup_eq_fast]; kernel_rfl) (by decide +kernel) (by decide +kernel) (by decide +kernel)
    (by first | exact .inl (by decide +kernel) | exact .inr (by decide +kernel)) (by rw [isSubtype_type]; kernel_rfl)
theorem entry_map_next : entryFor table "map.__next__" = some Builtin.«map.__next__» := entryFor_of_tree (by kernel_rfl)
theorem args_map_next (a : Value) : argsOk "map.__next__" ⟨[a], []⟩ := by
  unfold argsOk; rw [signature?_of (id := "map.__next__") (n := ['_', '_', 't', 'x', 'e', 'n', '_', '_']) (o := ['p', 'a', 'm']) (by kernel_rfl) owner_map]; kernel_rfl
theorem args_map_iter (a : Value) : argsOk "map.__iter__" ⟨[a], []⟩ := by
  unfold argsOk; rw [signature?_of (id := "map.__iter__") (n := ['_', '_', 'r', 'e', 't', 'i', '_', '_']) (o := ['p', 'a', 'm']) (by kernel_rfl) owner_map]; kernel_rfl
theorem entry_map_iter : entryFor table "map.__iter__" = some Builtin.«dict_keyiterator.__iter__» :=
  entryFor_alias (id' := "dict_keyiterator.__iter__") (by rw [fastTable_eq_tree]; kernel_rfl) (by decide +kernel) (by decide +kernel) (by rw [fastTable_eq_tree]; kernel_rfl)
theorem mro_map : mroOf (.type "map") = pure [.type "map", .type "object"] := by rw [mroOf_type]; kernel_rfl
theorem lookup_map_new : typeLookup (.type "map") "__new__" = pure (some (.builtin "map.__new__")) := by rw [typeLookup_type, builtinLookup_eq_fast]; kernel_rfl
theorem called_map : TypeCalled "map" "map.__new__" "object.__init__" :=
  ⟨by decide +kernel, by decide +kernel, ⟨_, _, mro_map⟩, madeBy_type mro_map lookup_map_new (by decide +kernel), by decide +kernel, by rw [isSubtype_type]; kernel_rfl, slot_map_init⟩
theorem typeCall_map (a b : Value) : checkTypeCall "map" ⟨[a, b], []⟩ = pure () := by kernel_rfl
theorem newCall_map (a b : Value) : checkBuiltinCall "map.__new__" ⟨[.type "map", a, b], []⟩ = pure () := by kernel_rfl
theorem entry_map_new : entryFor table "map.__new__" = some Builtin.«map.__new__» := entryFor_of_tree (by kernel_rfl)
theorem map_no_len : typeLookup (.type "map") "__len__" = pure none := by rw [typeLookup_type, builtinLookup_eq_fast]; kernel_rfl
theorem map_no_hint : typeLookup (.type "map") "__length_hint__" = pure none := by rw [typeLookup_type, builtinLookup_eq_fast]; kernel_rfl
theorem sub_map : isSubtype (.type "map") (.type "map") = pure true := by rw [isSubtype_type]; kernel_rfl

noncomputable abbrev mapO (T : Addr) (f : Value) : Obj := { cls := .type "map", data := .fields #[.ref T, f] }
noncomputable abbrev litO (l : Addr) (i : Nat) : Obj := { cls := .type "list_iterator", data := .fields #[.ref l, .int i 0] }

theorem meets_map_new (f : Value) (l : Addr) (items : Array Value) (n : Nat) :
    Meets (Builtin.«map.__new__» ⟨[.type "map", f, .ref l], []⟩) (fun _ R s => s.heap.get? l = some { cls := .type "list", data := .seq items n } ∧
      R (.ok (.ret (.ref ((s.heap.push (litO l 0)).push (tupO [.ref s.heap.objs.size])).objs.size)))
        { s with heap := ((s.heap.push (litO l 0)).push (tupO [.ref s.heap.objs.size])).push (mapO (s.heap.push (litO l 0)).objs.size f) }) :=
  .of_wp fun prog w A R s h => by
    obtain ⟨hp, g, d, tk, os⟩ := s; obtain ⟨hl, h⟩ := h
    have hsub := sub_map
    have hL : Heap.IsList (Shared.heap ⟨hp, g, d, tk, os⟩) l items := ⟨_, hl, rfl, n, rfl⟩
    wp_walk using wpAny_loadPart' hl, wpAny_pyIter_list hL
    exact ⟨_, rfl, h⟩
end Mine
end

section -- M2
open PySem PySem.W PyProof.Rows PySem.Calls PySem.Builtin
open AutoSeq1 (wpAny_loadPart')
set_option Elab.async false
set_option maxRecDepth 100000
set_option maxHeartbeats 0
namespace Mine
section
variable {prog : Program} {w : World} {A : Around} {E : Value → Shared → Prop} {s : Shared} {h₀ : Heap} {L : Addr} {m : Str → Option Value} {news : List (Addr × Obj)}

theorem call_map {l : Addr} {items : Array Value} {n : Nat} {f : Value} {Q : Value → Shared → Prop} (F : Fr h₀ L s.heap m) (N : News h₀ L s.heap news) (hl : (l, listOf items n) ∈ news)
    (h : ∀ I T it h', Fr h₀ L h' m → News h₀ L h' ((I, mapO T f) :: (T, tupO [.ref it]) :: (it, litO l 0) :: news) → (I ≠ it ∧ T ≠ it ∧ I ≠ T ∧ ∀ p ∈ news, p.1 < it) → Q (.ref I) { s with heap := h' }) :
    wpAny (model prog w) A (call (.type "map") [f, .ref l]) Q E s := by
  refine callType_new called_map (by decide) (typeCall_map _ _) (newCall_map _ _) (fun obj => PySem.F.args_object_init_3 obj _ _) entry_map_new
    (meets_map_new f l items n) ⟨(N _ hl).1, ⟨⟨_, Heap.get?_push_size _ rfl, rfl⟩, ?_⟩⟩
  have F1 := F.push (litO l 0)
  have N1 := News.push F N (litO l 0)
  have F2 := F1.push (tupO [.ref s.heap.objs.size])
  have N2 := News.push F1 N1 (tupO [.ref s.heap.objs.size])
  have F3 := F2.push (mapO (s.heap.push (litO l 0)).objs.size f)
  have N3 := News.push F2 N2 (mapO (s.heap.push (litO l 0)).objs.size f)
  have z1 : (s.heap.push (litO l 0)).objs.size = s.heap.objs.size + 1 := Heap.size_push ..
  have z2 : ((s.heap.push (litO l 0)).push (tupO [.ref s.heap.objs.size])).objs.size = s.heap.objs.size + 1 + 1 := by rw [Heap.size_push, z1]
  refine h _ _ _ _ F3 N3 ⟨?_, ?_, ?_, fun p hp => Heap.lt_size (N p hp).1⟩
  · rw [z2]; exact Nat.ne_of_gt (Nat.lt_succ_of_lt (Nat.lt_succ_self _))
  · rw [z1]; exact Nat.ne_of_gt (Nat.lt_succ_self _)
  · rw [z1, z2]; exact Nat.ne_of_gt (Nat.lt_succ_self _)

/-- what a call of the mapped def leaves -/
noncomputable def MapCall (prog : Program) (w : World) (A : Around) (h₀ : Heap) (L : Addr) (m : Str → Option Value) (f v : Value) (s : Shared) : Prop :=
  ∀ h tk led, Fr h₀ L h m → News h₀ L h led → wpAny (model prog w) A (call f [v]) (fun r s' => r = v ∧ ∃ h' tk', s' = { s with heap := h', toks := tk' } ∧ Fr h₀ L h' m ∧ News h₀ L h' led) (fun _ _ => False) { s with heap := h, toks := tk }

theorem map_next_item {I T it l : Addr} {oI : Obj} {i n : Nat} {items : Array Value} {f v : Value} {Q : Option Value → Shared → Prop} {led : List (Addr × Obj)}
    (F : Fr h₀ L s.heap m) (N : News h₀ L s.heap led) (hI : (I, mapO T f) ∈ led) (hT : (T, tupO [.ref it]) ∈ led) (hit : s.heap.get? it = some oI) (hL : it ≠ L) (h0 : h₀.get? it = none) (hn : ∀ p ∈ led, p.1 ≠ it)
    (hc : oI.cls = .type "list_iterator") (hd : oI.data = .fields #[.ref l, .int i 0]) (hl : (l, listOf items n) ∈ led) (hx : items[i]? = some v)
    (turn : MapCall prog w A.in1 h₀ L m f v s)
    (hQ : ∀ h' tk' oI', Fr h₀ L h' m → News h₀ L h' led → h'.get? it = some oI' → oI'.cls = .type "list_iterator" → oI'.data = .fields #[.ref l, .int (i + 1 : Nat) 0] → Q (some v) { s with heap := h', toks := tk' }) :
    wpAny (model prog w) A (pyNext (.ref I)) Q E s := by
  have hTy : s.TypeIs (.ref I) "map" := ⟨_, (N _ hI).1, rfl⟩
  unfold pyNext
  refine wpAny_bind (wpAny_attempt (wpAny_callSpecial?_slot (name := Str.ofString "__next__") hTy slot_map_next
    (wpAny_call_entry slot_map_next hTy entry_map_next ?_ (args_map_next _))))
  show wpAny _ _ (field (.ref I) 0 >>= _) _ _ s
  refine wpAny_bind (wpAny_field (N _ hI).1 rfl (x := .ref T) rfl ?_)
  refine wpAny_bind (wpAny_seqItems (N _ hT).1 rfl ?_)
  simp only
  rw [← Array.forIn_toList]
  show wpAny _ _ ((forIn [Value.ref it] _ _) >>= _) _ _ s
  rw [List.forIn_cons]
  refine wpAny_bind (wpAny_bind (wpAny_bind (wpAny_holding (wpAny_nextOf_list_item ⟨oI, hit, hc, hd⟩ (News.isList N hl) hx fun h' hi' hs' => ?_))))
  have F1 : Fr h₀ L h' m := ksk_fr F hs' hL h0
  have N1 : News h₀ L h' led := ksk_news N hs' hn
  obtain ⟨oI', hit', hc', hd'⟩ := hi'
  refine wpAny_pure (wpAny_pure ?_)
  show wpAny _ _ (field (.ref I) 1 >>= _) _ _ _
  refine wpAny_bind (wpAny_field (N1 _ hI).1 rfl (x := f) rfl ?_)
  have N2 : News h₀ L h' ((it, oI') :: led) := fun p hp => by
    rcases List.mem_cons.mp hp with rfl | hp
    · exact ⟨hit', hL, h0⟩
    · exact N1 p hp
  refine wpAny_bind (wpAny_holding (wpAny_mono (turn h' s.toks _ F1 N2) (fun r s'' he => ?_) fun _ _ hF => hF.elim))
  obtain ⟨rfl, h2, tk2, rfl, F2, N3⟩ := he
  refine wpAny_bind (wpAny_letGo (wpAny_pure ⟨_, rfl, wpAny_pure ?_⟩))
  exact hQ h2 tk2 oI' F2 (fun p hp => N3 p (.tail _ hp)) (N3 _ (.head _)).1 hc' hd'
end
end Mine
end

section -- M3
open PySem PySem.W PyProof.Rows PySem.Calls PySem.Builtin
open AutoSeq1 (wpAny_loadPart')
set_option Elab.async false
set_option maxRecDepth 100000
set_option maxHeartbeats 0
namespace Mine
section
variable {prog : Program} {w : World} {A : Around} {E : Value → Shared → Prop} {s : Shared} {h₀ : Heap} {L : Addr} {m : Str → Option Value} {news : List (Addr × Obj)}
theorem map_next_end {I T it l : Addr} {oI : Obj} {i n : Nat} {items : Array Value} {f : Value} {Q : Option Value → Shared → Prop} {led : List (Addr × Obj)} (hh : A.handled = none)
    (F : Fr h₀ L s.heap m) (N : News h₀ L s.heap led) (hI : (I, mapO T f) ∈ led) (hT : (T, tupO [.ref it]) ∈ led) (hit : s.heap.get? it = some oI) (hL : it ≠ L) (h0 : h₀.get? it = none) (hn : ∀ p ∈ led, p.1 ≠ it)
    (hc : oI.cls = .type "list_iterator") (hd : oI.data = .fields #[.ref l, .int i 0]) (hl : (l, listOf items n) ∈ led) (hx : items[i]? = none)
    (hQ : ∀ h', Fr h₀ L h' m → News h₀ L h' led → Q none { s with heap := h' }) :
    wpAny (model prog w) A (pyNext (.ref I)) Q E s := by
  have hTy : s.TypeIs (.ref I) "map" := ⟨_, (N _ hI).1, rfl⟩
  unfold pyNext
  refine wpAny_bind (wpAny_attempt (wpAny_callSpecial?_slot (name := Str.ofString "__next__") hTy slot_map_next
    (wpAny_call_entry slot_map_next hTy entry_map_next ?_ (args_map_next _))))
  show wpAny _ _ (field (.ref I) 0 >>= _) _ _ s
  refine wpAny_bind (wpAny_field (N _ hI).1 rfl (x := .ref T) rfl ?_)
  refine wpAny_bind (wpAny_seqItems (N _ hT).1 rfl ?_)
  simp only
  rw [← Array.forIn_toList]
  show wpAny _ _ ((forIn [Value.ref it] _ _) >>= _) _ _ s
  rw [List.forIn_cons]
  refine wpAny_bind (wpAny_bind (wpAny_bind (wpAny_holding (wpAny_nextOf_list_end hh ⟨oI, hit, hc, hd⟩ (News.isList N hl) hx fun h' x he' hx' => ?_))))
  obtain ⟨o, ho, hco⟩ := hx'
  refine wpAny_bind (wpAny_isInstance (T := "StopIteration") (b := true) ⟨o, ho, hco⟩ isSubtype_stop ?_)
  refine wpAny_pure (hQ _ ?_ ?_)
  · obtain ⟨oL, a1, a2, hoL, a3⟩ := F.ns
    refine ⟨⟨oL, a1, a2, he' _ _ hL.symm hoL, a3⟩, fun b x e => he' b x (fun q => ?_) (F.keep b x e), F.above⟩
    rw [q, h0] at e
    cases e
  · exact fun p hp => ⟨he' _ _ (hn p hp) (N p hp).1, (N p hp).2⟩

theorem ext_step {S I T it l : Addr} {oI : Obj} {i n c : Nat} {items acc : Array Value} {f v res : Value} {R : Result → Shared → Prop} {led : List (Addr × Obj)}
    (F : Fr h₀ L s.heap m) (N : News h₀ L s.heap led) (hI : (I, mapO T f) ∈ led) (hT : (T, tupO [.ref it]) ∈ led) (hit : s.heap.get? it = some oI) (hL : it ≠ L) (h0 : h₀.get? it = none) (hn : ∀ p ∈ led, p.1 ≠ it)
    (hc : oI.cls = .type "list_iterator") (hd : oI.data = .fields #[.ref l, .int i 0]) (hl : (l, listOf items n) ∈ led) (hx : items[i]? = some v)
    (hS : s.heap.get? S = some (seqObj "list" acc c)) (hSL : S ≠ L) (hS0 : h₀.get? S = none) (hSn : ∀ p ∈ led, p.1 ≠ S) (hSi : S ≠ it) (hz : acc.size ≤ 1000)
    (turn : MapCall prog w A.in1.in1 h₀ L m f v s)
    (next : ∀ h' tk' oI' c', Fr h₀ L h' m → News h₀ L h' led → h'.get? it = some oI' → oI'.cls = .type "list_iterator" → oI'.data = .fields #[.ref l, .int (i + 1 : Nat) 0] → h'.get? S = some (seqObj "list" (acc.push v) c') →
      codeAny (model prog w) A (.builtin "list.extend.loop" ⟨[.ref S, .ref I, res], []⟩) R { s with heap := h', toks := tk' }) :
    codeAny (model prog w) A (.builtin "list.extend.loop" ⟨[.ref S, .ref I, res], []⟩) R s := by
  refine codeAny_builtin PySem.F.entry_extend_loop ?_
  rw [Around.under_plainId PySem.F.plain_extend_loop _]
  show wpAny _ A.in1 (pyNext (.ref I) >>= _) _ _ s
  have N0 : News h₀ L s.heap ((S, seqObj "list" acc c) :: led) := fun p hp => by
    rcases List.mem_cons.mp hp with rfl | hp
    · exact ⟨hS, hSL, hS0⟩
    · exact N p hp
  refine wpAny_bind (map_next_item (led := (S, seqObj "list" acc c) :: led) F N0 (.tail _ hI) (.tail _ hT) hit hL h0 (fun p hp => ?_) hc hd (.tail _ hl) hx turn fun h' tk' oI' F1 N1 hit1 hc1 hd1 => ?_)
  · rcases List.mem_cons.mp hp with rfl | hp
    · exact hSi
    · exact hn p hp
  have hS1 := (N1 _ (.head _)).1
  show wpAny _ A.in1 (updateSeq S (·.push v) >>= _) _ _ _
  refine wpAny_bind ?_
  have s1 := Heap.SameBut.update h' S (Obj.mapSeq (·.push v))
  refine wpAny_updateSeq hS1 rfl (wpAny_pure ⟨plainId_quiet PySem.F.plain_extend_loop _, next _ _ oI' _ (ksk_fr F1 s1 hSL hS0) (ksk_news (fun p hp => N1 p (.tail _ hp)) s1 hSn) ((s1.2 it hSi.symm).trans hit1) hc1 hd1 (get?_update_seq hS1 (·.push v))⟩)
    (by rw [sizeLine_eq]; omega) (by rw [Array.size_push, sizeLine_eq]; omega)

theorem ext_end {S I T it l : Addr} {oI : Obj} {i n : Nat} {items acc : Array Value} {c : Nat} {f res : Value} {R : Result → Shared → Prop} {led : List (Addr × Obj)} (hh : A.handled = none)
    (F : Fr h₀ L s.heap m) (N : News h₀ L s.heap led) (hI : (I, mapO T f) ∈ led) (hT : (T, tupO [.ref it]) ∈ led) (hit : s.heap.get? it = some oI) (hL : it ≠ L) (h0 : h₀.get? it = none) (hn : ∀ p ∈ led, p.1 ≠ it)
    (hc : oI.cls = .type "list_iterator") (hd : oI.data = .fields #[.ref l, .int i 0]) (hl : (l, listOf items n) ∈ led) (hx : items[i]? = none)
    (hS : s.heap.get? S = some (seqObj "list" acc c)) (hSL : S ≠ L) (hS0 : h₀.get? S = none) (hSi : S ≠ it)
    (next : ∀ h', Fr h₀ L h' m → News h₀ L h' led → h'.get? S = some (seqObj "list" acc c) → R (.ok (.ret res)) { s with heap := h' }) :
    codeAny (model prog w) A (.builtin "list.extend.loop" ⟨[.ref S, .ref I, res], []⟩) R s := by
  refine codeAny_builtin PySem.F.entry_extend_loop ?_
  rw [Around.under_plainId PySem.F.plain_extend_loop _]
  show wpAny _ A.in1 (pyNext (.ref I) >>= _) _ _ s
  have N0 : News h₀ L s.heap ((S, seqObj "list" acc c) :: led) := fun p hp => by
    rcases List.mem_cons.mp hp with rfl | hp
    · exact ⟨hS, hSL, hS0⟩
    · exact N p hp
  refine wpAny_bind (map_next_end (led := (S, seqObj "list" acc c) :: led) hh F N0 (.tail _ hI) (.tail _ hT) hit hL h0 (fun p hp => ?_) hc hd (.tail _ hl) hx fun h' F1 N1 => ?_)
  · rcases List.mem_cons.mp hp with rfl | hp
    · exact hSi
    · exact hn p hp
  exact wpAny_pure (next h' F1 (fun p hp => N1 p (.tail _ hp)) (N1 _ (.head _)).1)

theorem pyIter_map {I T : Addr} {f : Value} {Q : Value → Shared → Prop} (hI : s.heap.get? I = some (mapO T f)) (h : Q (.ref I) s) : wpAny (model prog w) A (pyIter (.ref I)) Q E s := by
  have hTy : s.TypeIs (.ref I) "map" := ⟨_, hI, rfl⟩
  refine wpAny_pyIter_slot hTy slot_map_iter (wpAny_call_entry slot_map_iter hTy entry_map_iter ?_ (args_map_iter _))
  show wpAny _ _ (ret (.ref I)) _ _ s
  exact wpAny_pure ⟨_, rfl, "map", _, hTy, slot_map_next.lookup, h⟩

theorem collect_map2 {I T it l : Addr} {oI : Obj} {n : Nat} {x y f : Value} {Q : List Value → Shared → Prop} {led : List (Addr × Obj)} (hh : A.handled = none)
    (F : Fr h₀ L s.heap m) (N : News h₀ L s.heap led) (hI : (I, mapO T f) ∈ led) (hT : (T, tupO [.ref it]) ∈ led) (hit : s.heap.get? it = some oI) (hL : it ≠ L) (h0 : h₀.get? it = none) (hn : ∀ p ∈ led, p.1 ≠ it)
    (hc : oI.cls = .type "list_iterator") (hd : oI.data = .fields #[.ref l, .int (0 : Nat) 0]) (hl : (l, listOf #[x, y] n) ∈ led)
    (turn : ∀ v, v = x ∨ v = y → ∀ s, MapCall prog w A.in1.in1 h₀ L m f v s)
    (hQ : ∀ h' tk', Fr h₀ L h' m → News h₀ L h' led → Q [x, y] { s with heap := h', toks := tk' }) : wpAny (model prog w) A (collect (.ref I)) Q E s := by
  unfold collect
  refine wpAny_bind (wpAny_runValue (codeAny_builtin PySem.F.entry_proto_collect ?_))
  rw [Around.under_plainId PySem.F.plain_proto_collect _]
  show wpAny _ A.in1 (newList [] >>= fun l => again (.builtin "list.__iadd__" ⟨[l, .ref I], []⟩)) _ _ s
  refine wpAny_bind (wpAny_newObj_type ?_)
  refine wpAny_pure ⟨plainId_quiet PySem.F.plain_list_iadd _, codeAny_builtin PySem.F.entry_list_iadd ?_⟩
  rw [Around.under_plainId PySem.F.plain_list_iadd _]
  have hIlt : I < s.heap.objs.size := Heap.lt_size (N _ hI).1
  have hSI : s.heap.objs.size ≠ I := Nat.ne_of_gt hIlt
  have F1 := F.push (seqObj "list" #[] 0)
  have N1 := News.push F N (seqObj "list" #[] 0)
  have hTy : Shared.TypeIs { s with heap := s.heap.push (seqObj "list" #[] 0) } (.ref I) "map" := ⟨_, (N1 _ (.tail _ hI)).1, rfl⟩
  have hSL := (N1 _ (.head _)).2.1
  have hS0 := (N1 _ (.head _)).2.2
  have hSi : s.heap.objs.size ≠ it := Nat.ne_of_gt (Heap.lt_size hit)
  have hSn : ∀ p ∈ led, p.1 ≠ s.heap.objs.size := fun p hp => Nat.ne_of_lt (Heap.lt_size (N p hp).1)
  show wpAny _ A.in1 (Builtin.List.listExtendWith (.ref s.heap.objs.size) (.ref I) (.ref s.heap.objs.size)) _ _ _
  unfold Builtin.List.listExtendWith
  refine wpAny_bind (wpAny_typeOf hTy ?_)
  have h1 : Builtin.List.listSameRef (.ref s.heap.objs.size) (.ref I) = false := by simp [Builtin.List.listSameRef, hSI]
  have h2 : (Value.type "map" == Value.type "list") = false := by decide
  have h3 : (Value.type "map" == Value.type "tuple") = false := by decide
  simp only [h1, h2, h3, Bool.or_false, Bool.false_eq_true, if_false]
  refine wpAny_bind (pyIter_map (N1 _ (.tail _ hI)).1 ?_)
  refine wpAny_bind (wpAny_holding ?_)
  unfold Builtin.List.listLengthHint
  refine wpAny_bind (wpAny_specialOf hTy map_no_len ?_)
  show wpAny _ A.in1 (specialOf (Value.ref I) (Str.ofString "__length_hint__") >>= _) _ _ _
  refine wpAny_bind (wpAny_specialOf hTy map_no_hint ?_)
  refine wpAny_pure ?_
  show wpAny _ A.in1 (rule "list.extend.makes-room" >>= fun _ => Builtin.List.listTouch (.ref s.heap.objs.size) >>= fun _ =>
    again (.builtin "list.extend.loop" ⟨[.ref s.heap.objs.size, .ref I, .ref s.heap.objs.size], []⟩)) _ _ _
  refine wpAny_bind (wpAny_rule ?_)
  have hS₁ : (s.heap.push (seqObj "list" #[] 0)).get? s.heap.objs.size = some (seqObj "list" #[] 0) := Heap.get?_push_size _ rfl
  refine wpAny_bind ?_
  show wpAny _ A.in1 (updateSeq s.heap.objs.size (·.push .none) >>= fun _ => updateSeq s.heap.objs.size (·.pop)) _ _ _
  refine wpAny_bind (wpAny_updateSeq hS₁ rfl ?_)
  have hS₂ := get?_update_seq hS₁ (·.push Value.none)
  refine wpAny_updateSeq hS₂ rfl ?_
  have hS₃ := get?_update_seq hS₂ (·.pop)
  have s1 := Heap.SameBut.update (s.heap.push (seqObj "list" #[] 0)) s.heap.objs.size (Obj.mapSeq (·.push Value.none))
  have s2 := Heap.SameBut.update ((s.heap.push (seqObj "list" #[] 0)).update s.heap.objs.size (Obj.mapSeq (·.push Value.none))) s.heap.objs.size (Obj.mapSeq (·.pop))
  have F2 := ksk_fr (ksk_fr F1 s1 hSL hS0) s2 hSL hS0
  have N2 : News h₀ L _ led := ksk_news (ksk_news (fun p hp => N1 p (.tail _ hp)) s1 hSn) s2 hSn
  have hit2 := (s2.2 it hSi.symm).trans ((s1.2 it hSi.symm).trans (Heap.get?_push_of_some (seqObj "list" #[] 0) hit))
  refine wpAny_pure ⟨plainId_quiet PySem.F.plain_extend_loop _, ?_⟩
  refine ext_step (v := x) F2 N2 hI hT hit2 hL h0 hn hc hd hl rfl hS₃ hSL hS0 hSn hSi (by simp) (turn x (.inl rfl) _) fun h3 tk3 oI3 c3 F3 N3 hit3 hc3 hd3 hS3 => ?_
  refine ext_step (v := y) F3 N3 hI hT hit3 hL h0 hn hc3 hd3 hl rfl hS3 hSL hS0 hSn hSi (by simp) (turn y (.inr rfl) _) fun h4 tk4 oI4 c4 F4 N4 hit4 hc4 hd4 hS4 => ?_
  refine ext_end hh F4 N4 hI hT hit4 hL h0 hn hc4 hd4 hl rfl hS4 hSL hS0 hSi fun h5 F5 N5 hS5 => ?_
  show wpAny _ A (load s.heap.objs.size >>= _) _ _ _
  refine wpAny_bind (wpAny_load hS5 ?_)
  exact wpAny_pure (hQ h5 tk4 F5 N5)
end
end Mine
end

section -- M4
open PySem PySem.W PyProof.Rows PySem.Calls PySem.Builtin
open AutoSeq1 (wpAny_loadPart')
set_option Elab.async false
set_option maxRecDepth 100000
set_option maxHeartbeats 0
namespace Mine
section
variable {prog : Program} {w : World} {A : Around} {E : Value → Shared → Prop} {s : Shared} {h₀ : Heap} {L : Addr} {m : Str → Option Value} {news : List (Addr × Obj)}
theorem call_tuple_map {I T it l : Addr} {n : Nat} {x y f : Value} {Q : Value → Shared → Prop} (hh : A.handled = none)
    (F : Fr h₀ L s.heap m) (N : News h₀ L s.heap ((I, mapO T f) :: (T, tupO [.ref it]) :: (it, litO l 0) :: news)) (hne : I ≠ it ∧ T ≠ it ∧ I ≠ T ∧ ∀ p ∈ news, p.1 < it) (hl : (l, listOf #[x, y] n) ∈ news)
    (turn : ∀ v, v = x ∨ v = y → ∀ s, MapCall prog w A.in1.in1.in1.in1 h₀ L m f v s)
    (hQ : ∀ D h' tk', Fr h₀ L h' m → News h₀ L h' ((D, tupO [x, y]) :: news) → (∀ p ∈ news, p.1 < D) → Q (.ref D) { s with heap := h', toks := tk' }) :
    wpAny (model prog w) A (call (.type "tuple") [.ref I]) Q E s := by
  obtain ⟨n1, n2, n3, n4⟩ := hne
  have hit := (N (it, litO l 0) (.tail _ (.tail _ (.head _))))
  have Nl : News h₀ L s.heap ((I, mapO T f) :: (T, tupO [.ref it]) :: news) := fun p hp => by
    rcases List.mem_cons.mp hp with rfl | hp
    · exact N _ (.head _)
    · rcases List.mem_cons.mp hp with rfl | hp
      · exact N _ (.tail _ (.head _))
      · exact N _ (.tail _ (.tail _ (.tail _ hp)))
  have hTI : s.TypeIs (.ref I) "map" := ⟨_, (N _ (.head _)).1, rfl⟩
  refine callType_codes (Q₁ := fun obj s₁ => s₁.TypeIs obj "tuple" ∧ Q obj s₁) PySem.F.called_tuple (PySem.F.typeCall_tuple_1 _) PySem.F.entry_object_init
    ?_ fun obj s₁ h₁ => ⟨h₁.1, PySem.F.args_object_init_2 obj _, object_init_meets PySem.F.called_tuple.init.lookup PySem.F.called_tuple.made (by decide) prog w A.in1 _ s₁ ⟨h₁.1, rfl, h₁.2⟩⟩
  refine codeAny_of_tree ?_
  show wpAny _ A.in1.in1 (do checkBuiltinCall "tuple.__new__" ⟨[.type "tuple", .ref I], []⟩; again (.builtin "tuple.__new__" ⟨[.type "tuple", .ref I], []⟩)) _ _ s
  refine wpAny_bind (wpAny_of_eq (PySem.F.newCall_tuple_1 _) (wpAny_pure ⟨plainId_quiet PySem.F.plain_tuple_new _, codeAny_builtin PySem.F.entry_tuple_new ?_⟩))
  rw [Around.under_plainId PySem.F.plain_tuple_new _]
  have hsub := sub_tuple_self
  have hinit := init_tuple_lookup
  have hmh := madeHere_tuple
  have col : ∀ (Q' : List Value → Shared → Prop) (E' : Value → Shared → Prop), (∀ h' tk', Fr h₀ L h' m → News h₀ L h' ((I, mapO T f) :: (T, tupO [.ref it]) :: news) → Q' [x, y] { s with heap := h', toks := tk' }) →
      wpAny (model prog w) A.in1.in1 (collect (.ref I)) Q' E' s := fun Q' E' hq =>
    collect_map2 (n := n) hh F Nl (.head _) (.tail _ (.head _)) hit.1 hit.2.1 hit.2.2 (fun p hp => by
      rcases List.mem_cons.mp hp with rfl | hp
      · exact n1
      · rcases List.mem_cons.mp hp with rfl | hp
        · exact n2
        · exact Nat.ne_of_lt (n4 p hp)) rfl rfl (.tail _ (.tail _ hl)) turn hq
  wp_walk using wpAny_typeOf hTI, col
  intro h' tk' F' N'
  show wpAny _ _ (Builtin.Tuple.tupleExact #[x, y] >>= fun v => ret v) _ _ _
  unfold Builtin.Tuple.tupleExact
  refine wpAny_bind (wpAny_newObj_type ?_ (by show (2 : Nat) ≤ sizeLine; decide))
  refine wpAny_pure ⟨⟨_, Heap.get?_push_size _ rfl, rfl⟩, ?_⟩
  have Nn : News h₀ L h' news := fun p hp => N' p (.tail _ (.tail _ hp))
  exact hQ _ _ _ (F'.push _) (News.push F' Nn _) (fun p hp => Heap.lt_size (Nn p hp).1)
end
end Mine
end

section -- N1
open PySem PySem.W PyProof.Rows PySem.Calls PySem.Builtin
set_option Elab.async false
set_option maxRecDepth 100000
set_option maxHeartbeats 0
namespace Mine
/-! sets of one or two bools -/
noncomputable def hb (b : Bool) : Int := if b then 1 else 0
noncomputable abbrev setTab (led : Bool) (place : Array Nat) : SetTable := { mask := 7, place := place, dummies := #[], finger := 0, led := led, moves := 0, plain := true }
noncomputable abbrev setO (led : Bool) (es : Array (Int × Value)) (ep : Nat) (place : Array Nat) : Obj := { cls := .type "set", data := .set es ep (setTab led place) }
noncomputable def bp (b : Bool) : Nat := if b then 1 else 0
section
variable {prog : Program} {w : World} {A : Around} {E : Value → Shared → Prop} {s : Shared}
theorem pyHash_bool {b : Bool} {Q : Int → Shared → Prop} (h : Q (hb b) { s with toks := s.toks + 1 }) : wpAny (model prog w) A (pyHash (.bool b)) Q E s := by
  have hT : s.TypeIs (.bool b) "bool" := PySem.typeIs_bool s b
  unfold pyHash
  have hv : [Value.bool b].any Value.onHeap = false := rfl
  refine wpAny_bind ?_
  rw [cRoomFor, if_neg (by rw [hv]; exact Bool.false_ne_true)]; refine wpAny_pure ?_
  refine wpAny_bind (wpAny_specialOf hT PySem.F.slot_bool_hash.lookup ?_)
  show wpAny _ _ (if (some (Value.builtin "int.__hash__") == some Value.none) = true then _ else _) Q E s
  rw [if_neg (by rw [beq_builtin_none]; exact Bool.false_ne_true)]
  refine wpAny_bind (wpAny_specialOf hT PySem.F.slot_bool_hash.lookup ?_)
  show wpAny _ _ (callSpecialIfBoundUnlessNone? (.bool b) "__hash__" _ >>= _) Q E s
  refine wpAny_bind (wpAny_callSpecialIfBoundUnlessNone?_slot hT PySem.F.slot_bool_hash
    (wpAny_call_entry PySem.F.slot_bool_hash hT entry_int_hash
      (show wpAny _ _ (do ret (← mkInt (rawHash (hb b)))) _ _ s from ?_) (args_int_hash _)))
  · refine wpAny_ret_mkInt ?_
    cases b <;> exact wpAny_pure h
theorem same_upd {a : Addr} {h : Heap} {o o' : Obj} (f : Obj → Obj) (ho : h.get? a = some o) (hf : f o = o') (hn : o'.isFreed = false) : Heap.SameBut a h (h.update a f) ∧ (h.update a f).get? a = some o' :=
  ⟨Heap.SameBut.update .., (Heap.get?_update_self f ho (hf.symm ▸ hn)).trans (congrArg some hf)⟩
theorem set_add_new {a : Addr} {led b : Bool} {es es' : Array (Int × Value)} {ep : Nat} {place place' : Array Nat} {Q : Value → Shared → Prop} (ho : s.heap.get? a = some (setO led es ep place)) (hfit : (setTab led place).fits es.size = true)
    (hby : byScan (.bool b) es = true) (hscan : ∀ (Q' : ScanMet → Shared → Prop) (s' : Shared), s'.heap = s.heap → Q' .absent s' → wpAny (model prog w) A.in1 (setScan a (.bool b) (hb b) true es) Q' E s')
    (eL : layNew (setTab led place) es (hb b) (.bool b) = (es', setTab led place', false, false)) (hfull : (setTab led place').tooFull = false) (hz : es'.size ≤ 1000)
    (h : ∀ h', Heap.SameBut a s.heap h' → h'.get? a = some (setO led es' (ep + 1) place') → Q .none { s with heap := h', toks := s.toks + 1 }) :
    wpAny (model prog w) A (call (.builtin "set.add") [.ref a, .bool b]) Q E s := by
  have hT : s.TypeIs (.ref a) "set" := ⟨_, ho, rfl⟩
  refine wpAny_call_entry PySem.F.slot_set_add hT PySem.F.entry_set_add ?_ (PySem.F.args_set_add_2 _ _)
  unfold Builtin.«set.add» Builtin.Frozenset.oneOther
  simp only [List.isEmpty_nil, bind_assoc]
  unfold Builtin.Frozenset.addrOf setAdd
  refine wpAny_bind (wpAny_pure ?_)
  try dsimp only
  refine wpAny_bind (wpAny_pure ?_)
  try dsimp only
  refine wpAny_bind ?_
  refine wpAny_holding ?_
  refine wpAny_bind (pyHash_bool ?_)
  unfold setAddHashed setAddHashedIn
  refine wpAny_holding (wpAny_bind (wpAny_setState_of (s := { s with toks := s.toks + 1 }) ho rfl hfit ?_))
  dsimp only
  rw [hby]
  simp only [if_true]
  unfold setAddByScan
  refine wpAny_bind ?_
  refine wpAny_bind (wpAny_rule ?_)
  refine wpAny_bind (hscan _ _ rfl ?_)
  dsimp only
  rw [eL]
  dsimp only
  refine wpAny_bind (wpAny_pure ?_)
  simp only [if_true]
  rw [hashByValue_scannable 8 (x := .bool b) rfl]
  refine wpAny_bind (wpAny_pure ?_)
  simp only [plainKind, if_true]
  refine wpAny_bind (wpAny_storeSet_of ho rfl ?_ (by rw [sizeLine_eq]; omega))
  rw [hfull]
  simp only [Bool.not_false, Bool.and_false, Bool.false_eq_true, if_false]
  refine wpAny_pure (wpAny_pure ?_)
  have z := same_upd (Obj.putSet es' (setTab led place')) ho (putSet_of es' _ rfl) rfl
  show wpAny _ _ (ret Value.none) _ _ _
  exact wpAny_pure ⟨_, rfl, h _ z.1 z.2⟩
theorem set_add0 {a : Addr} {led b : Bool} {Q : Value → Shared → Prop} (ho : s.heap.get? a = some (setO led #[] 0 #[]))
    (h : ∀ h', Heap.SameBut a s.heap h' → h'.get? a = some (setO led #[(hb b, .bool b)] 1 #[bp b]) → Q .none { s with heap := h', toks := s.toks + 1 }) :
    wpAny (model prog w) A (call (.builtin "set.add") [.ref a, .bool b]) Q E s :=
  set_add_new ho rfl (by simp [byScan, Value.scannable, scanBound]) (fun Q' s' _ hq => wpAny_pure hq) (by cases b <;> cases led <;> rfl) (by cases b <;> rfl) (by simp) h
theorem set_add2 {a : Addr} {led b : Bool} {Q : Value → Shared → Prop} (ho : s.heap.get? a = some (setO led #[(hb (!b), .bool (!b))] 1 #[bp (!b)]))
    (h : ∀ h', Heap.SameBut a s.heap h' → h'.get? a = some (setO led #[(0, .bool false), (1, .bool true)] 2 #[0, 1]) → Q .none { s with heap := h', toks := s.toks + 1 }) :
    wpAny (model prog w) A (call (.builtin "set.add") [.ref a, .bool b]) Q E s := by
  refine set_add_new (b := b) ho rfl (by simp [byScan, Value.scannable, scanBound]) (fun Q' s' _ hq => ?_) (by cases b <;> cases led <;> rfl) rfl (by simp) h
  cases b <;> exact wpAny_pure hq
theorem set_add_same {a : Addr} {led b : Bool} {Q : Value → Shared → Prop} (ho : s.heap.get? a = some (setO led #[(hb b, .bool b)] 1 #[bp b]))
    (h : Q .none { s with toks := s.toks + 1 }) : wpAny (model prog w) A (call (.builtin "set.add") [.ref a, .bool b]) Q E s := by
  have hT : s.TypeIs (.ref a) "set" := ⟨_, ho, rfl⟩
  refine wpAny_call_entry PySem.F.slot_set_add hT PySem.F.entry_set_add ?_ (PySem.F.args_set_add_2 _ _)
  unfold Builtin.«set.add» Builtin.Frozenset.oneOther
  simp only [List.isEmpty_nil, bind_assoc]
  unfold Builtin.Frozenset.addrOf setAdd
  refine wpAny_bind (wpAny_pure ?_)
  try dsimp only
  refine wpAny_bind (wpAny_pure ?_)
  try dsimp only
  refine wpAny_bind ?_
  refine wpAny_holding ?_
  refine wpAny_bind (pyHash_bool ?_)
  unfold setAddHashed setAddHashedIn
  refine wpAny_holding (wpAny_bind (wpAny_setState_of (s := { s with toks := s.toks + 1 }) ho rfl rfl ?_))
  dsimp only
  rw [show byScan (.bool b) #[(hb b, .bool b)] = true by simp [byScan, Value.scannable, scanBound]]
  simp only [if_true]
  unfold setAddByScan
  refine wpAny_bind ?_
  refine wpAny_bind (wpAny_rule ?_)
  refine wpAny_bind ?_
  show wpAny _ _ (setScanFrom a (.bool b) (hb b) true [(hb b, .bool b)] 0) _ _ _
  unfold setScanFrom
  rw [if_pos (by simp)]
  refine wpAny_bind (wpAny_setEpoch_of (s := { s with toks := s.toks + 1 }) ho rfl rfl ?_)
  refine wpAny_bind (SeqAt.EqAt.same (.bool b) prog w _ _ ?_)
  simp only [Bool.and_self, if_true]
  refine wpAny_pure ?_
  refine wpAny_pure (wpAny_pure ?_)
  show wpAny _ _ (ret Value.none) _ _ _
  exact wpAny_pure ⟨_, rfl, h⟩
end
end Mine
end

section -- N2
open PySem PySem.W PyProof.Rows PySem.Calls PySem.Builtin
set_option Elab.async false
set_option maxRecDepth 100000
set_option maxHeartbeats 0
namespace Mine
theorem owner_set_iterator : Manifest.owners.lookup (String.ofList ['r', 'o', 't', 'a', 'r', 'e', 't', 'i', '_', 't', 'e', 's'].reverse) = some Manifest.sig_set_iterator := by kernel_rfl
theorem slot_set_iterator_next : Slot "set_iterator" "__next__" "set_iterator.__next__" :=
  .of (owner := "set_iterator") (n := "__next__") (by rw [typeLookup_type, builtinLookup_eq_fast]; kernel_rfl) (by decide +kernel) (by decide +kernel) (by decide +kernel)
    (by first | exact .inl (by decide +kernel) | exact .inr (by decide +kernel)) (by rw [isSubtype_type]; kernel_rfl)
theorem entry_set_iterator_next : entryFor table "set_iterator.__next__" = some Builtin.«set_iterator.__next__» := entryFor_of_tree (by kernel_rfl)
theorem args_set_iterator_next (a : Value) : argsOk "set_iterator.__next__" ⟨[a], []⟩ := by
  unfold argsOk; rw [signature?_of (id := "set_iterator.__next__") (n := ['_', '_', 't', 'x', 'e', 'n', '_', '_']) (o := ['r', 'o', 't', 'a', 'r', 'e', 't', 'i', '_', 't', 'e', 's']) (by kernel_rfl) owner_set_iterator]; kernel_rfl
theorem entry_set_iter : entryFor table "set.__iter__" = some Builtin.«frozenset.__iter__» :=
  entryFor_alias (id' := "frozenset.__iter__") (by kernel_rfl) rfl (by decide +kernel) (by kernel_rfl)
section
variable {prog : Program} {w : World} {A : Around} {E : Value → Shared → Prop} {s : Shared}
noncomputable abbrev setIterO (slot i : Nat) (v : Value) (n ep : Nat) : Obj := { cls := .type "set_iterator", data := .fields #[.int slot 0, .int i 0, v, .int n 0, .int ep 0] }
noncomputable def byTx (w : World) : Bool := w.params.followText "set-order"
theorem setsByText_is {Q : Bool → Shared → Prop} (h : Q (byTx w) s) : wpAny (model prog w) A setsByText Q E s := by
  unfold setsByText
  exact wpAny_bind (wpAny_askSetting (wpAny_pure h))
theorem pyIter_set {a : Addr} {led : Bool} {es : Array (Int × Value)} {ep : Nat} {place : Array Nat} {Q : Value → Shared → Prop} (ho : s.heap.get? a = some (setO led es ep place)) (hf : (setTab led place).fits es.size = true)
    (h : Q (.ref s.heap.objs.size) { s with heap := s.heap.push (setIterO 0 0 (.ref a) es.size ep) }) : wpAny (model prog w) A (pyIter (.ref a)) Q E s := by
  have hT : s.TypeIs (.ref a) "set" := ⟨_, ho, rfl⟩
  refine wpAny_pyIter_slot hT PySem.F.slot_set_iter (wpAny_call_entry PySem.F.slot_set_iter hT entry_set_iter ?_ (PySem.F.args_set_iter_1 _))
  show wpAny _ _ (Builtin.Frozenset.sizeOf a >>= _) _ _ s
  unfold Builtin.Frozenset.sizeOf
  refine wpAny_bind (wpAny_bind (wpAny_setEntries_of ho rfl hf (wpAny_pure ?_)))
  refine wpAny_bind ?_
  unfold setDrawn
  refine wpAny_bind (wpAny_setState_of ho rfl hf ?_)
  refine wpAny_bind (setsByText_is ?_)
  refine wpAny_pure ?_
  dsimp only
  split
  · rename_i hd
    have hd' : (!byTx w && (!true && decide (es.size > 1))) = true := hd
    simp at hd'
  refine wpAny_bind (wpAny_pure ?_)
  refine wpAny_bind (wpAny_setEpoch_of ho rfl hf ?_)
  refine wpAny_bind (wpAny_newObj_type (wpAny_pure ⟨_, rfl, "set_iterator", _, ⟨_, Heap.get?_push_size _ rfl, rfl⟩, slot_set_iterator_next.lookup, h⟩))
noncomputable def setNextF (w : World) (a : Addr) (slot i : Nat) (es : Array (Int × Value)) (ep : Nat) (place : Array Nat) : Option (Value × Nat) :=
  if byTx w = true then ((pickOrder (w.params.setOrder a ep) es)[i]?).map fun e => (e.2, slot)
  else match es[SetTable.below place slot]?, place[SetTable.below place slot]? with
    | some (_, x), some j => some (x, j + 1)
    | _, _ => none
theorem setNext_is {a : Addr} {es : Array (Int × Value)} {ep slot i : Nat} {place : Array Nat} {Q : Option (Value × Nat) → Shared → Prop} (ho : s.heap.get? a = some (setO (!byTx w) es ep place)) (hf : (setTab (!byTx w) place).fits es.size = true)
    (h : Q (setNextF w a slot i es ep place) s) : wpAny (model prog w) A (setNext a slot i ep) Q E s := by
  unfold setNext
  refine wpAny_bind (wpAny_setState_of ho rfl hf ?_)
  refine wpAny_bind (setsByText_is ?_)
  unfold setNextF at h
  cases hb : byTx w with
  | true =>
    rw [hb] at h
    simp only [if_true] at h ⊢
    rw [show (ep != ep) = false by simp]
    simp only [Bool.false_eq_true, if_false]
    unfold setWalk
    refine wpAny_bind (wpAny_bind (wpAny_setState_of ho rfl hf ?_))
    refine wpAny_bind (setsByText_is ?_)
    rw [hb]
    simp only [if_true]
    refine wpAny_bind (wpAny_askSetting (wpAny_pure ?_))
    exact wpAny_pure h
  | false =>
    rw [hb] at h
    simp only [Bool.false_eq_true, if_false] at h ⊢
    split
    · rename_i hd
      have hd' : (!true && decide (es.size > 1)) = true := hd
      simp at hd'
    · refine wpAny_bind ?_
      show wpAny _ _ (if (!(!false) && !es.isEmpty) = true then _ else _) _ _ _
      rw [if_neg (by simp)]
      exact wpAny_pure (wpAny_pure h)
end
end Mine
end

section -- N3
open PySem PySem.W PyProof.Rows PySem.Calls PySem.Builtin
set_option Elab.async false
set_option maxRecDepth 100000
set_option maxHeartbeats 0
namespace Mine
section
variable {prog : Program} {w : World} {A : Around} {E : Value → Shared → Prop} {s : Shared}
theorem set_next_item {it a : Addr} {es : Array (Int × Value)} {ep slot i nx : Nat} {place : Array Nat} {x : Value} {Q : Option Value → Shared → Prop} (hit : s.heap.get? it = some (setIterO slot i (.ref a) es.size ep)) (ho : s.heap.get? a = some (setO (!byTx w) es ep place)) (hne : a ≠ it)
    (hf : (setTab (!byTx w) place).fits es.size = true) (hx : setNextF w a slot i es ep place = some (x, nx))
    (h : ∀ h', Heap.SameBut it s.heap h' → h'.get? it = some (setIterO nx (i + 1) (.ref a) es.size ep) → Q (some x) { s with heap := h' }) : wpAny (model prog w) A (pyNext (.ref it)) Q E s := by
  have hT : s.TypeIs (.ref it) "set_iterator" := ⟨_, hit, rfl⟩
  unfold pyNext
  refine wpAny_bind (wpAny_attempt (wpAny_callSpecial?_slot (name := Str.ofString "__next__") hT slot_set_iterator_next
    (wpAny_call_entry slot_set_iterator_next hT entry_set_iterator_next ?_ (args_set_iterator_next _))))
  show wpAny _ _ (fieldsOf (.ref it) >>= _) _ _ s
  refine wpAny_bind (wpAny_fieldsOf hit rfl ?_)
  simp only
  refine wpAny_bind (wpAny_setEntries_of ho rfl hf ?_)
  rw [show (((es.size : Nat) : Int) != ((es.size : Nat) : Int)) = false by simp]
  simp only [Bool.false_eq_true, if_false]
  simp only [Int.toNat_natCast]
  refine wpAny_bind (setNext_is ho hf ?_)
  rw [hx]
  simp only
  refine wpAny_bind (wpAny_setField_rec hit (by simp) fun h₂ he₂ hs₂ => ?_)
  refine wpAny_bind (wpAny_setField_rec he₂ (by simp) fun h₃ he₃ hs₃ => ?_)
  refine wpAny_pure ⟨_, rfl, ?_⟩
  refine wpAny_pure (h h₃ ?_ ?_)
  · exact ⟨hs₃.1.trans hs₂.1, fun b hb => (hs₃.2 b hb).trans (hs₂.2 b hb)⟩
  · rw [he₃]; simp [rawInt]
theorem set_next_end {it a : Addr} {es : Array (Int × Value)} {ep slot i : Nat} {place : Array Nat} {Q : Option Value → Shared → Prop} (hh : A.handled = none) (hit : s.heap.get? it = some (setIterO slot i (.ref a) es.size ep)) (ho : s.heap.get? a = some (setO (!byTx w) es ep place)) (hne : a ≠ it)
    (hf : (setTab (!byTx w) place).fits es.size = true) (hx : setNextF w a slot i es ep place = none)
    (h : ∀ h', Heap.ExtBut it s.heap h' → Q none { s with heap := h' }) : wpAny (model prog w) A (pyNext (.ref it)) Q E s := by
  have hT : s.TypeIs (.ref it) "set_iterator" := ⟨_, hit, rfl⟩
  unfold pyNext
  refine wpAny_bind (wpAny_attempt (wpAny_callSpecial?_slot (name := Str.ofString "__next__") hT slot_set_iterator_next
    (wpAny_call_entry slot_set_iterator_next hT entry_set_iterator_next ?_ (args_set_iterator_next _))))
  show wpAny _ _ (fieldsOf (.ref it) >>= _) _ _ s
  refine wpAny_bind (wpAny_fieldsOf hit rfl ?_)
  simp only
  refine wpAny_bind (wpAny_setEntries_of ho rfl hf ?_)
  rw [show (((es.size : Nat) : Int) != ((es.size : Nat) : Int)) = false by simp]
  simp only [Bool.false_eq_true, if_false]
  simp only [Int.toNat_natCast]
  refine wpAny_bind (setNext_is ho hf ?_)
  rw [hx]
  simp only
  refine wpAny_bind (wpAny_setField hit rfl (by simp) ?_)
  show wpAny _ _ (newExc (.type "StopIteration") [] >>= _) _ _ _
  refine wpAny_bind ?_
  simp only [newExc, newTuple]
  refine wpAny_bind (wpAny_newObj_type ?_ (by size_fits))
  refine wpAny_bind (m := firstArgMember _ _) (wpAny_of_eq (a := Value.none) (by first | rfl | (simp only [firstArgMember]; rfl)) ?_)
  refine wpAny_newObj_type ?_ (by size_fits)
  simp only [raiseNew]
  refine wpAny_bind (wpAny_handled ?_)
  first | rw [show A.in1.handled = none from hh] | rw [hh]
  refine wpAny_bind (wpAny_pure (wpAny_throw ?_))
  refine wpAny_bind (wpAny_isInstance (T := "StopIteration") (b := true) ⟨_, Heap.get?_push_size _ rfl, rfl⟩ isSubtype_stop ?_)
  exact wpAny_pure (h _ (((Heap.SameBut.update ..).extBut.push _).push _))
theorem setNextF_one {a : Addr} {b : Bool} : setNextF w a 0 0 #[(hb b, .bool b)] 1 #[bp b] = some (.bool b, if byTx w = true then 0 else bp b + 1) ∧ setNextF w a (if byTx w = true then 0 else bp b + 1) 1 #[(hb b, .bool b)] 1 #[bp b] = none := by
  have e1 : ∀ f, pickOrder f #[(hb b, Value.bool b)] = #[(hb b, .bool b)] := fun f => by
    unfold pickOrder
    simp [pickOrder.go, Nat.mod_one]
  unfold setNextF
  cases byTx w with
  | true => simp [e1]
  | false => cases b <;> exact ⟨rfl, rfl⟩
theorem setNextF_two {a : Addr} : ∃ x nx y ny, setNextF w a 0 0 #[(0, .bool false), (1, .bool true)] 2 #[0, 1] = some (x, nx) ∧ setNextF w a nx 1 #[(0, .bool false), (1, .bool true)] 2 #[0, 1] = some (y, ny) := by
  have e1 : ∀ f, (pickOrder f #[((0 : Int), Value.bool false), (1, .bool true)]).size = 2 := fun f => by
    unfold pickOrder
    have h2 : f 0 % 2 = 0 ∨ f 0 % 2 = 1 := by omega
    rcases h2 with h2 | h2 <;> simp [pickOrder.go, Nat.mod_one, h2]
  unfold setNextF
  cases byTx w with
  | true =>
    have e := e1 (w.params.setOrder a 2)
    generalize pickOrder (w.params.setOrder a 2) #[((0 : Int), Value.bool false), (1, .bool true)] = arr at e
    refine ⟨arr[0].2, 0, arr[1].2, 0, ?_, ?_⟩ <;> simp [e]
  | false => exact ⟨.bool false, 1, .bool true, 2, rfl, rfl⟩
theorem notIter_set {a : Addr} {o : Obj} {Q : Bool → Shared → Prop} (ho : s.heap.get? a = some o) (hc : o.cls = .type "set") (h : Q false s) : wpAny (model prog w) A (notIterableAtAll (.ref a)) Q E s := by
  have hT : s.TypeIs (.ref a) "set" := ⟨_, ho, hc⟩
  unfold notIterableAtAll
  refine wpAny_bind (wpAny_specialOf hT PySem.F.slot_set_iter.lookup ?_)
  exact wpAny_pure h
theorem unpack_one {a : Addr} {b : Bool} {Q : List Value → Shared → Prop} (hh : A.handled = none) (ho : s.heap.get? a = some (setO (!byTx w) #[(hb b, .bool b)] 1 #[bp b]))
    (h : ∀ h', (∀ c o, s.heap.get? c = some o → h'.get? c = some o) → Q [.bool b] { s with heap := h' }) : wpAny (model prog w) A (unpackItems (.ref a) 1 none) Q E s := by
  have hlt := Heap.lt_size ho
  obtain ⟨n1, n2⟩ := setNextF_one (w := w) (a := a) (b := b)
  unfold unpackItems
  refine wpAny_bind (notIter_set ho rfl ?_)
  simp only [Bool.false_eq_true, if_false]
  refine wpAny_bind (wpAny_holding (pyIter_set ho rfl ?_))
  refine wpAny_bind (wpAny_holding ?_)
  unfold draw
  have up : ∀ c o, s.heap.get? c = some o → (s.heap.push (setIterO 0 0 (.ref a) 1 1)).get? c = some o := fun c o e => Heap.get?_push_of_some _ e
  refine wpAny_bind (set_next_item (s := { s with heap := s.heap.push (setIterO 0 0 (.ref a) 1 1) }) (es := #[(hb b, .bool b)]) (Heap.get?_push_size _ rfl) (up _ _ ho) (Nat.ne_of_lt hlt) rfl n1 fun h1 hs1 hit1 => ?_)
  refine wpAny_bind (wpAny_holding ?_)
  unfold draw
  refine wpAny_pure (wpAny_pure ?_)
  simp only [List.length_cons, List.length_nil]
  rw [if_neg (by omega)]
  have k1 : ∀ c o, s.heap.get? c = some o → h1.get? c = some o := fun c o e => (hs1.2 c (Nat.ne_of_lt (Heap.lt_size e))).trans (up c o e)
  refine wpAny_bind (wpAny_holding (set_next_end (s := { s with heap := h1 }) (es := #[(hb b, .bool b)]) hh hit1 (k1 _ _ ho) (Nat.ne_of_lt hlt) rfl n2 fun h2 hs2 => ?_))
  simp only [Option.isSome_none, Bool.false_eq_true, if_false]
  exact wpAny_pure (h h2 fun c o e => hs2 c o (Nat.ne_of_lt (Heap.lt_size e)) (k1 c o e))
theorem unpack_two {a : Addr} {Q : List Value → Shared → Prop} (hh : A.handled = none) (ho : s.heap.get? a = some (setO (!byTx w) #[(0, .bool false), (1, .bool true)] 2 #[0, 1]))
    (h : ∀ h' tk e, Heap.NewExc s.heap h' e "ValueError" → E (.ref e) { s with heap := h', toks := tk }) : wpAny (model prog w) A (unpackItems (.ref a) 1 none) Q E s := by
  have hlt := Heap.lt_size ho
  obtain ⟨x, nx, y, ny, n1, n2⟩ := setNextF_two (w := w) (a := a)
  unfold unpackItems
  refine wpAny_bind (notIter_set ho rfl ?_)
  simp only [Bool.false_eq_true, if_false]
  refine wpAny_bind (wpAny_holding (pyIter_set ho rfl ?_))
  refine wpAny_bind (wpAny_holding ?_)
  unfold draw
  have up : ∀ c o, s.heap.get? c = some o → (s.heap.push (setIterO 0 0 (.ref a) 2 2)).get? c = some o := fun c o e => Heap.get?_push_of_some _ e
  refine wpAny_bind (set_next_item (s := { s with heap := s.heap.push (setIterO 0 0 (.ref a) 2 2) }) (es := #[(0, .bool false), (1, .bool true)]) (Heap.get?_push_size _ rfl) (up _ _ ho) (Nat.ne_of_lt hlt) rfl n1 fun h1 hs1 hit1 => ?_)
  refine wpAny_bind (wpAny_holding ?_)
  unfold draw
  refine wpAny_pure (wpAny_pure ?_)
  simp only [List.length_cons, List.length_nil]
  rw [if_neg (by omega)]
  have k1 : ∀ c o, s.heap.get? c = some o → h1.get? c = some o := fun c o e => (hs1.2 c (Nat.ne_of_lt (Heap.lt_size e))).trans (up c o e)
  refine wpAny_bind (wpAny_holding (set_next_item (s := { s with heap := h1 }) (es := #[(0, .bool false), (1, .bool true)]) hit1 (k1 _ _ ho) (Nat.ne_of_lt hlt) rfl n2 fun h2 hs2 _ => ?_))
  simp only [Option.isSome_some, if_true]
  have k2 : ∀ c o, s.heap.get? c = some o → h2.get? c = some o := fun c o e => (hs2.2 c (Nat.ne_of_lt (Heap.lt_size e))).trans (k1 c o e)
  refine wpAny_bind (wpAny_rule ?_)
  refine wpAny_bind (raiseError_exc excClass_ValueError hh fun h3 tk e hx => ?_)
  refine h h3 tk e ⟨fun c o q => hx.keeps c o (k2 c o q), ?_, hx.there⟩
  cases q : s.heap.get? e with
  | none => rfl
  | some o => have := k2 _ _ q; rw [hx.new] at this; cases this
end
end Mine
end

section -- M7
open PySem PySem.W PyProof.Rows PySem.Calls PySem.Builtin
set_option Elab.async false
set_option maxRecDepth 100000
set_option maxHeartbeats 0
namespace Mine
section
variable {prog : Program} {w : World} {A : Around} {E : Value → Shared → Prop} {s : Shared} {h₀ : Heap} {L : Addr} {m : Str → Option Value} {env : Env}
/-- a comprehension over a tuple that the ledger holds -/
noncomputable def SrcT (prog : Program) (w : World) (A : Around) (h₀ : Heap) (L : Addr) (m : Str → Option Value) (env : Env) (elt : Expr) (x : Str) (scope : Scope) (cl : List (Str × Addr)) (Fin : Shared → List Value → List (Addr × Obj) → Prop) (xv : Value) (s₁ : Shared) : Prop :=
  ∃ ax its news, xv = .ref ax ∧ A.handled = none ∧ Fr h₀ L s₁.heap m ∧ News h₀ L s₁.heap news ∧ (ax, tupO its) ∈ news ∧ its.length ≤ sizeLine ∧
    ∀ s₂ : Shared, (∃ h, s₂ = { s₁ with heap := h }) → LCg.CompRest prog w A h₀ L m env elt x scope cl s₂ (fun nw => (ax, tupO its) ∈ nw) (fun i v => its.toArray[i]? = some v) (Fin s₂) its.length 0 [] news
theorem SrcT.mk {elt : Expr} {x : Str} {scope : Scope} {cl : List (Str × Addr)} {Fin : Shared → List Value → List (Addr × Obj) → Prop} {ax : Addr} {its : List Value} {news : List (Addr × Obj)} {s₁ : Shared}
    (hh : A.handled = none) (F : Fr h₀ L s₁.heap m) (N : News h₀ L s₁.heap news) (hm : (ax, tupO its) ∈ news) (hsz : its.length ≤ sizeLine)
    (h : ∀ g, LCg.CompRest prog w A h₀ L m env elt x scope cl { s₁ with heap := g } (fun nw => (ax, tupO its) ∈ nw) (fun i v => its.toArray[i]? = some v) (Fin { s₁ with heap := g }) its.length 0 [] news) :
    SrcT prog w A h₀ L m env elt x scope cl Fin (.ref ax) s₁ := ⟨ax, its, news, rfl, hh, F, N, hm, hsz, fun _ ⟨g, e⟩ => e ▸ h g⟩
theorem tup_st {ax I : Addr} {its : List Value} : ∀ i (h h' : Heap) (o : Obj) (nw : List (Addr × Obj)), (h.IsTupleIter I ax i ∧ h.IsTuple ax its.toArray) → h.get? I = some o → h'.get? I = some o → (∀ b o, h₀.get? b = some o → h'.get? b = some o) → News h₀ L h' nw → (ax, tupO its) ∈ nw → (h'.IsTupleIter I ax i ∧ h'.IsTuple ax its.toArray) :=
  fun i h h' o nw st e e' k N S => ⟨by obtain ⟨o', q, r⟩ := st.1; rw [e] at q; cases q; exact ⟨o, e', r⟩, ⟨_, (N _ S).1, rfl, 0, rfl⟩⟩
theorem Assign_ListComp_tup {elt iter : Expr} {x y : Str} {px py : Pos} {scope : Scope} {cl : List (Str × Addr)} {pos spos : Pos} {Q : Flow → Shared → Prop} (F₀ : Fr h₀ L s.heap m) (hLe : env.locals = L)
    (hsw : swapsWith (.ListComp elt [⟨.Name x px, iter, [], 0⟩] scope pos) (some (.Name y py)) spos.line env = pure true)
    (hclos : closureFor scope env = pure cl) (hcell : ∀ z ∈ scope.names, z.2 ≠ .cell) (hkind : scope.kind = .function)
    (hnames : ∀ z ∈ scope.names, z.2 = .local → scope.names.lookup z.1 = some .local) (hx : scope.names.lookup x = some .local)
    (hy : env.kindOf y = some .local) (hp : (env.scope.kind == .class || (env.scope.kind == .module && env.locals != env.globals)) = false)
    (h : wpAny (model prog w) A (eval iter env) (SrcT prog w A h₀ L m env elt x scope cl (fun s₂ => LCg.FinA h₀ L m s₂ y Q)) E s)
    (hs : ∀ x, foldedSetIterable iter env x = pure x := by intro _; rfl) :
    wpAny (model prog w) A (exec (.Assign [.Name y py] (.ListComp elt [⟨.Name x px, iter, [], 0⟩] scope pos) spos) env) Q E s := by
  subst hLe
  rw [exec_Assign_Name_used _ _ _ _ hsw]
  refine wpAny_bind (wpAny_standAt (wpAny_bind ?_))
  show wpAny _ A (do let _ ← comprehension (.ListComp elt [⟨.Name x px, iter, [], 0⟩] scope pos) scope env _ (newList []) false (eval iter env) (some (assign (.Name y py) env))) _ _ s
  refine wpAny_bind (wpAny_mono (wpAny_comprehension_free (use := some (assign (.Name y py) env)) (Q := fun _ s' => Q .next s') rfl hs hclos hkind hnames
    (wpAny_mono h (fun xv s₁ h₁ => ?_) fun _ _ e => e)) (fun _ s' hq => wpAny_pure (wpAny_pure hq)) fun _ _ e => e)
  obtain ⟨ax, its, news, rfl, hh, F, N, S, hsz, R⟩ := h₁
  have hl : s₁.heap.IsTuple ax its.toArray := ⟨_, (N _ S).1, rfl, 0, rfl⟩
  have hlt : ax < s₁.heap.objs.size := Heap.lt_size (N _ S).1
  refine wpAny_pyIter_tuple hl ?_
  have up : ∀ b o, s₁.heap.get? b = some o → (s₁.heap.push { cls := .type "tuple_iterator", data := .fields #[.ref ax, .int 0 0] }).get? b = some o := fun b o e => Heap.get?_push_of_some _ e
  have hn : its.toArray.size = its.length := List.size_toArray ..
  refine LCg.block_U (n := its.length) (hn ▸ Walks.tuple hh s₁.heap.objs.size ax (Nat.ne_of_lt hlt) its.toArray) hsz (fun i h st => by obtain ⟨o, e, _⟩ := st.1; exact ⟨o, e⟩) tup_st hcell hkind hx ⟨⟨_, Heap.get?_push_size _ rfl, rfl, rfl⟩, ⟨_, up _ _ (N _ S).1, rfl, 0, rfl⟩⟩ (fun b hb => ?_)
    (F.keeps up) (N.grown up) (Nat.ne_of_lt F.ns.lt) (next_is_new F) (fun p hp => Nat.ne_of_lt (Heap.lt_size (N p hp).1)) S (R _ ⟨_, rfl⟩) ?_
  · show b < (s₁.heap.push _).objs.size
    rw [Heap.size_push]
    rcases List.mem_cons.mp hb with rfl | hb
    · exact Nat.lt_succ_self _
    · rw [List.mem_singleton.mp hb]; exact Nat.lt_succ_of_lt hlt
  · intro D C h' tk m' ys news' F' N' o1 hn hC₀ hD₀ hCL hDL hCD offC fin
    show wpAny _ A (assign (.Name y py) env (.ref D)) _ _ _
    refine wpAny_assign_Name (wpAny_storeName_local hy F'.ns (fun h₂ hn₂ hs₂ => ?_) hp)
    have hL₀ : h₀.get? env.locals = none := Heap.get?_none_of_le F'.above
    have F₂ : Fr h₀ env.locals h₂ (fun z => if z = y then some (.ref D) else m z) := ⟨hn₂, fun b o e => hs₂.extBut b o (fun q => by rw [q, hL₀] at e; cases e) (F'.keep b o e), F'.above⟩
    refine ⟨m', hn.sameBut hs₂ hCL, fun h'' hs'' => fin D h'' _ (F₂.change hs'' hCL hC₀) (fun p hp => ?_) o1⟩
    have z : h₂.get? p.1 = some p.2 := hs₂.extBut _ _ (N' p hp).2.1 (N' p hp).1
    refine ⟨hs''.extBut _ _ ?_ z, (N' p hp).2⟩
    rcases List.mem_cons.mp hp with rfl | hp
    · exact Ne.symm hCD
    · exact offC p hp
/-- where an element of a comprehension has made a list of texts -/
noncomputable def ListEnd (h₀ : Heap) (L : Addr) (m : Str → Option Value) (s₁ : Shared) (base : List (Addr × Obj)) (g : List Str) (y : Value) (s₂ : Shared) : Prop :=
  ∃ h' tk l ps k all, s₂ = { s₁ with heap := h', toks := tk } ∧ y = .ref l ∧ Fr h₀ L h' m ∧ News h₀ L h' ((l, listOf (strValues ps).toArray k) :: all) ∧ ps.map (·.1) = g ∧ (∀ p ∈ base, p ∈ all) ∧ ∀ p ∈ base, @Ne Nat p.1 l
theorem ListEnd.mk {s₁ : Shared} {base all : List (Addr × Obj)} {g : List Str} {h' : Heap} {tk : Nat} {l : Addr} {ps : List (Str × Tok)} {k : Nat} (F : Fr h₀ L h' m) (N : News h₀ L h' all) (hm : (l, listOf (strValues ps).toArray k) ∈ all) (e : ps.map (·.1) = g) (hs : ∀ p ∈ base, p ∈ all) (hl : ∀ p ∈ base, p.1 ≠ l) :
    ListEnd h₀ L m s₁ base g (.ref l) { s₁ with heap := h', toks := tk } := ⟨h', tk, l, ps, k, all, rfl, rfl, F, fun p hp => by
      rcases List.mem_cons.mp hp with rfl | hp
      · exact N _ hm
      · exact N p hp, e, hs, hl⟩
theorem off3_add {I C D l : Addr} {o : Obj} {news : List (Addr × Obj)} (h : LCg.Off3 I C D news) (hl : ∀ p ∈ (I, oI) :: (C, oC) :: (D, oD) :: news, @Ne Nat p.1 l) : LCg.Off3 I C D ((l, o) :: news) :=
  ⟨⟨(hl _ (.head _)).symm, (hl _ (.tail _ (.head _))).symm, (hl _ (.tail _ (.tail _ (.head _)))).symm⟩, h⟩
/-- two elements, each a new list of texts -/
theorem comp_pair {elt : Expr} {x : Str} {scope : Scope} {cl : List (Str × Addr)} {S : List (Addr × Obj) → Prop} {P : Nat → Value → Prop} {Fin : List Value → List (Addr × Obj) → Prop} {news : List (Addr × Obj)} (v1 v2 : Value) (g1 g2 : List Str)
    (hS : ∀ add, S (add ++ news)) (hP1 : ∀ v, P 0 v → v = v1) (hP2 : ∀ v, P 1 v → v = v2)
    (t1 : ∀ I oI C oC D m₂ h tk (E' : Value → Shared → Prop), LCg.NsObj oC m₂ → m₂ x = some v1 → Fr h₀ L h m → News h₀ L h ((I, oI) :: (C, oC) :: (D, LCg.lst []) :: news) → LCg.Off3 I C D news → ((@Ne Nat I C) ∧ (@Ne Nat I D) ∧ (@Ne Nat C D)) →
      wpAny (model prog w) A (eval elt (compEnvC scope cl C env)) (ListEnd h₀ L m { s with heap := h, toks := tk } ((I, oI) :: (C, oC) :: (D, LCg.lst []) :: news) g1) E' { s with heap := h, toks := tk })
    (t2 : ∀ l1 ps1 k1 I oI C oC D m₂ h tk (E' : Value → Shared → Prop), ps1.map (·.1) = g1 → (∀ p ∈ news, p.1 ≠ l1) → LCg.NsObj oC m₂ → m₂ x = some v2 → Fr h₀ L h m → News h₀ L h ((I, oI) :: (C, oC) :: (D, LCg.lst [.ref l1]) :: (l1, listOf (strValues ps1).toArray k1) :: news) → LCg.Off3 I C D ((l1, listOf (strValues ps1).toArray k1) :: news) → ((@Ne Nat I C) ∧ (@Ne Nat I D) ∧ (@Ne Nat C D)) →
      wpAny (model prog w) A (eval elt (compEnvC scope cl C env)) (ListEnd h₀ L m { s with heap := h, toks := tk } ((I, oI) :: (C, oC) :: (D, LCg.lst [.ref l1]) :: (l1, listOf (strValues ps1).toArray k1) :: news) g2) E' { s with heap := h, toks := tk })
    (fin : ∀ l1 ps1 k1 l2 ps2 k2, ps1.map (·.1) = g1 → ps2.map (·.1) = g2 → (∀ p ∈ news, @Ne Nat p.1 l1) → (∀ p ∈ (l1, listOf (strValues ps1).toArray k1) :: news, @Ne Nat p.1 l2) → Fin [.ref l1, .ref l2] ((l2, listOf (strValues ps2).toArray k2) :: (l1, listOf (strValues ps1).toArray k1) :: news)) :
    LCg.CompRest prog w A h₀ L m env elt x scope cl s S P Fin 2 0 [] news := by
  refine LCg.CompRest.succ ?_
  intro v I oI C oC D m₂ h tk E' hv hC hx F N off ne
  have := hP1 v hv
  subst this
  refine wpAny_mono (t1 I oI C oC D m₂ h tk E' hC hx F N off ne) (fun y s₂ hq => ?_) fun _ _ e => e
  obtain ⟨h', tk', l1, ps1, k1, all, rfl, rfl, F', N', e1, hs, hl⟩ := hq
  have hl1 : ∀ p ∈ news, @Ne Nat p.1 l1 := fun p hp => hl p (.tail _ (.tail _ (.tail _ hp)))
  refine LCg.CompEnd.intro F' N' ((l1, listOf (strValues ps1).toArray k1) :: news) (fun p hp => ?_) (off3_add off hl) (hS [_]) ?_
  · rcases List.mem_cons.mp hp with rfl | hp
    · exact .tail _ (hs _ (.head _))
    · rcases List.mem_cons.mp hp with rfl | hp
      · exact .tail _ (hs _ (.tail _ (.head _)))
      · rcases List.mem_cons.mp hp with rfl | hp
        · exact .tail _ (hs _ (.tail _ (.tail _ (.head _))))
        · rcases List.mem_cons.mp hp with rfl | hp
          · exact .head _
          · exact .tail _ (hs _ (.tail _ (.tail _ (.tail _ hp))))
  refine LCg.CompRest.succ ?_
  intro v I oI C oC D m₂ h tk E' hv hC hx F N off ne
  have := hP2 v hv
  subst this
  refine wpAny_mono (t2 l1 ps1 k1 I oI C oC D m₂ h tk E' e1 hl1 hC hx F N off ne) (fun y s₂ hq => ?_) fun _ _ e => e
  obtain ⟨h', tk', l2, ps2, k2, all, rfl, rfl, F', N', e2, hs, hl⟩ := hq
  refine LCg.CompEnd.intro F' N' ((l2, listOf (strValues ps2).toArray k2) :: (l1, listOf (strValues ps1).toArray k1) :: news) (fun p hp => ?_) (off3_add off hl) (hS [_, _]) ?_
  · rcases List.mem_cons.mp hp with rfl | hp
    · exact .tail _ (hs _ (.head _))
    · rcases List.mem_cons.mp hp with rfl | hp
      · exact .tail _ (hs _ (.tail _ (.head _)))
      · rcases List.mem_cons.mp hp with rfl | hp
        · exact .tail _ (hs _ (.tail _ (.tail _ (.head _))))
        · rcases List.mem_cons.mp hp with rfl | hp
          · exact .head _
          · exact .tail _ (hs _ (.tail _ (.tail _ (.tail _ hp))))
  exact LCg.CompRest.zero (fin l1 ps1 k1 l2 ps2 k2 e1 e2 hl1 fun p hp => hl p (.tail _ (.tail _ (.tail _ hp))))
end
end Mine
end

section -- N4
open PySem PySem.W PyProof.Rows PySem.Calls PySem.Builtin
set_option Elab.async false
set_option maxRecDepth 100000
set_option maxHeartbeats 0
namespace Mine
section
variable {prog : Program} {w : World} {A : Around} {E : Value → Shared → Prop} {s : Shared} {h₀ : Heap} {L : Addr} {m : Str → Option Value} {env : Env} {news : List (Addr × Obj)}
theorem compTurn_set (elt target iter : Expr) (scope : Scope) (pos : Pos) (it acc : Value) (env : Env) :
    compTurn (.SetComp elt [⟨target, iter, [], 0⟩] scope pos) 0 it acc env = (standAt iter.pos >>= fun _ => pyNext it >>= fun r => match r with
      | none => pure (.done .next)
      | some v => letOwnedTupleGo target it v >>= fun _ => assign target env v >>= fun _ =>
        (eval elt env >>= fun x => standAt elt.pos >>= fun _ => call (.builtin "set.add") [acc, x] >>= fun _ => pure ()) >>= fun _ =>
          again (.compLoop (.SetComp elt [⟨target, iter, [], 0⟩] scope pos) 0 it acc env)) := by rfl
theorem setLoop {elt target iter : Expr} {scope : Scope} {pos : Pos} {it acc : Value} {R : Result → Shared → Prop} (ht : ∀ v, letOwnedTupleGo target it v = pure ())
    (h : wpAny (model prog w) A (pyNext it) (fun r s₁ => match r with
      | none => R (.ok .next) s₁
      | some v => wpAny (model prog w) A (assign target env v) (fun _ s₂ => wpAny (model prog w) A (eval elt env) (fun x s₃ => wpAny (model prog w) A (call (.builtin "set.add") [acc, x])
          (fun _ s₄ => codeAny (model prog w) A (.compLoop (.SetComp elt [⟨target, iter, [], 0⟩] scope pos) 0 it acc env) R s₄) (notedBy (model prog w) A env fun e s' => R (.error e) s') s₃)
            (notedBy (model prog w) A env fun e s' => R (.error e) s') s₂) (notedBy (model prog w) A env fun e s' => R (.error e) s') s₁) (notedBy (model prog w) A env fun e s' => R (.error e) s') s) :
    codeAny (model prog w) A (.compLoop (.SetComp elt [⟨target, iter, [], 0⟩] scope pos) 0 it acc env) R s := by
  refine codeAny_of_tree ?_
  show wpAny _ A ((compTurn (.SetComp elt [⟨target, iter, [], 0⟩] scope pos) 0 it acc env).onRaise (fun x => do noteFrame x env; theTreesLotGoes x)) _ _ s
  refine wpAny_noted ?_
  rw [compTurn_set]
  refine wpAny_bind (wpAny_standAt (wpAny_bind (wpAny_mono h (fun r s₁ h₁ => ?_) fun _ _ h' => h')))
  cases r with
  | none => exact wpAny_pure h₁
  | some v =>
    refine wpAny_bind (wpAny_of_eq (ht v) ?_)
    refine wpAny_bind (wpAny_mono h₁ (fun _ s₂ h₂ => ?_) fun _ _ h' => h')
    refine wpAny_bind (wpAny_bind (wpAny_mono h₂ (fun x s₃ h₃ => wpAny_bind (wpAny_standAt (wpAny_bind (wpAny_mono h₃ (fun _ s₄ h₄ => wpAny_pure (wpAny_pure ⟨rfl, h₄⟩)) fun _ _ h' => h')))) fun _ _ h' => h'))
theorem compStart_set {elt target iter : Expr} {scope : Scope} {pos : Pos} {it acc : Value} {R : Result → Shared → Prop}
    (h0 : codeAny (model prog w) A (.compLoop (.SetComp elt [⟨target, iter, [], 0⟩] scope pos) 0 it acc env) R s)
    (h : wpAny (model prog w) A (pyIter it) (fun it' s' => codeAny (model prog w) A (.compLoop (.SetComp elt [⟨target, iter, [], 0⟩] scope pos) 0 it' acc env) R s') (notedBy (model prog w) A env fun x s' => R (.error x) s') s) :
    codeAny (model prog w) A (.compStart (.SetComp elt [⟨target, iter, [], 0⟩] scope pos) 0 it acc env) R s := by
  refine codeAny_of_tree ?_
  show wpAny _ _ ((compStart (.SetComp elt [⟨target, iter, [], 0⟩] scope pos) 0 it acc env).onRaise (fun x => do noteFrame x env; standAt theWindowsPlace)) _ _ s
  refine wpAny_notedAt ?_
  unfold compStart
  show wpAny _ _ (ask >>= _) _ _ s
  refine wpAny_bind (wpAny_askSetting (wpAny_ite ?_))
  split
  · first
      | exact wpAny_bind (wpAny_pure (wpAny_pure (And.intro rfl h0)))
      | exact wpAny_pure (And.intro rfl h0)
  · first
      | exact wpAny_bind (wpAny_rule (wpAny_bind (wpAny_standAt (wpAny_bind (wpAny_mono h (fun it' s' h' => wpAny_pure (And.intro rfl h')) fun _ _ x => x)))))
      | (refine wpAny_bind (wpAny_rule ?_); show wpAny _ _ (standAt iter.pos >>= _) _ _ s; exact wpAny_bind (wpAny_standAt (wpAny_bind (wpAny_mono h (fun it' s' h' => wpAny_pure (And.intro rfl h')) fun _ _ x => x))))
/-- where an element of a comprehension is a bool -/
noncomputable def BoolEnd (h₀ : Heap) (L : Addr) (m : Str → Option Value) (s₁ : Shared) (base : List (Addr × Obj)) (b : Bool) (y : Value) (s₂ : Shared) : Prop :=
  ∃ h' tk all, s₂ = { s₁ with heap := h', toks := tk } ∧ y = .bool b ∧ Fr h₀ L h' m ∧ News h₀ L h' all ∧ ∀ p ∈ base, p ∈ all
theorem BoolEnd.mk {s₁ : Shared} {base all : List (Addr × Obj)} {b : Bool} {h' : Heap} {tk : Nat} (F : Fr h₀ L h' m) (N : News h₀ L h' all) (hs : ∀ p ∈ base, p ∈ all) : BoolEnd h₀ L m s₁ base b (.bool b) { s₁ with heap := h', toks := tk } := ⟨h', tk, all, rfl, rfl, F, N, hs⟩
noncomputable def SetTurn (prog : Program) (w : World) (A : Around) (h₀ : Heap) (L : Addr) (m : Str → Option Value) (env : Env) (elt : Expr) (x : Str) (scope : Scope) (cl : List (Str × Addr)) (s₁ : Shared) (news : List (Addr × Obj)) (v : Value) (b : Bool) : Prop :=
  ∀ I oI C oC D oD m₂ h tk (E' : Value → Shared → Prop), LCg.NsObj oC m₂ → m₂ x = some v → Fr h₀ L h m → News h₀ L h ((I, oI) :: (C, oC) :: (D, oD) :: news) →
    wpAny (model prog w) A (eval elt (compEnvC scope cl C env)) (BoolEnd h₀ L m { s₁ with heap := h, toks := tk } ((I, oI) :: (C, oC) :: (D, oD) :: news) b) E' { s₁ with heap := h, toks := tk }
theorem set_turn {elt iter : Expr} {x : Str} {px : Pos} {scope : Scope} {cl : List (Str × Addr)} {pos : Pos} {I C D ax : Addr} {its : List Value} {i : Nat} {v : Value} {b : Bool} {cur cur' : Obj} {m' : Str → Option Value} {R : Result → Shared → Prop} {h : Heap} {tk : Nat}
    (hh : A.handled = none) (hx : scope.names.lookup x = some .local) (hkind : scope.kind = .function) (hv : its.toArray[i]? = some v)
    (hit : h.IsTupleIter I ax i) (F : Fr h₀ L h m) (N : News h₀ L h ((D, cur) :: news)) (hC : h.Ns C m') (hm : (ax, tupO its) ∈ news)
    (hCL : C ≠ L) (hC0 : h₀.get? C = none) (hI0 : h₀.get? I = none) (hIL : I ≠ L) (hIC : I ≠ C) (hID : I ≠ D) (hCD : C ≠ D) (offI : ∀ p ∈ news, p.1 ≠ I) (offC : ∀ p ∈ news, p.1 ≠ C) (offD : ∀ p ∈ news, p.1 ≠ D)
    (t : SetTurn prog w A h₀ L m env elt x scope cl s news v b)
    (add : ∀ (s' : Shared) (Q' : Value → Shared → Prop) (E' : Value → Shared → Prop), s'.heap.get? D = some cur → (∀ h' tk, Heap.SameBut D s'.heap h' → h'.get? D = some cur' → Q' .none { s' with heap := h', toks := tk }) → wpAny (model prog w) A (call (.builtin "set.add") [.ref D, .bool b]) Q' E' s')
    (next : ∀ h' tk' m'', h'.IsTupleIter I ax (i + 1) → Fr h₀ L h' m → News h₀ L h' ((D, cur') :: news) → h'.Ns C m'' →
      codeAny (model prog w) A (.compLoop (.SetComp elt [⟨.Name x px, iter, [], 0⟩] scope pos) 0 (.ref I) (.ref D) (compEnvC scope cl C env)) R { s with heap := h', toks := tk' }) :
    codeAny (model prog w) A (.compLoop (.SetComp elt [⟨.Name x px, iter, [], 0⟩] scope pos) 0 (.ref I) (.ref D) (compEnvC scope cl C env)) R { s with heap := h, toks := tk } := by
  have ND := N _ (.head _)
  have Nn : News h₀ L h news := fun p hp => N p (.tail _ hp)
  have htup : h.IsTuple ax its.toArray := ⟨_, (Nn _ hm).1, rfl, 0, rfl⟩
  have hlt : i < its.toArray.size := by
    rcases Nat.lt_or_ge i its.toArray.size with h | h
    · exact h
    · rw [Array.getElem?_eq_none h] at hv; cases hv
  have W := Walks.tuple (prog := prog) (w := w) (A := A) hh I ax (offI _ hm) its.toArray
  refine setLoop (fun _ => rfl) ?_
  refine W.item i { s with heap := h, toks := tk } _ _ hlt ⟨hit, htup⟩ fun v' h₂ tk₂ hPv hst₂ hk₂ => ?_
  have ev : v' = v := Option.some.inj (hPv.symm.trans hv)
  subst ev
  dsimp only
  refine wpAny_assign_Name (wpAny_storeName_local (lookup_relabel_local hx) (hC.at' fun o e => hk₂ _ o (by simpa using hIC.symm) e) (fun h₃ hn₃ hs₃ => ?_) (by simp [compEnvC, relabel, hkind]))
  obtain ⟨oI, hoI, hcI, hdI⟩ := hst₂.1
  have hoI3 : h₃.get? I = some oI := (hs₃.2 I hIC).trans hoI
  obtain ⟨oC, heC, hoC⟩ := LCg.ns_obj hn₃
  have F₂ : Fr h₀ L h₂ m := LCg.fr_but F hk₂ hIL.symm hI0
  have F₃ : Fr h₀ L h₃ m := F₂.change hs₃ hCL hC0
  have N₂ : News h₀ L h₂ ((D, cur) :: news) := LCg.news_but N hk₂ fun p hp => by
    rcases List.mem_cons.mp hp with rfl | hp
    · exact hID.symm
    · exact offI p hp
  have N₃ : News h₀ L h₃ ((I, oI) :: (C, oC) :: (D, cur) :: news) := fun p hp => by
    rcases List.mem_cons.mp hp with rfl | hp
    · exact ⟨hoI3, hIL, hI0⟩
    · rcases List.mem_cons.mp hp with rfl | hp
      · exact ⟨heC, hCL, hC0⟩
      · refine ⟨(hs₃.2 _ ?_).trans (N₂ p hp).1, (N₂ p hp).2⟩
        rcases List.mem_cons.mp hp with rfl | hp
        · exact hCD.symm
        · exact offC p hp
  refine wpAny_mono (t I oI C oC D cur _ h₃ _ _ hoC (by simp) F₃ N₃) (fun y s₄ h₄ => ?_) fun _ _ e => e
  obtain ⟨h₄, tk₄, all, rfl, rfl, F₄, N₄, hsub⟩ := h₄
  have zI := (N₄ (I, oI) (hsub _ (.head _))).1
  have zC := (N₄ (C, oC) (hsub _ (.tail _ (.head _)))).1
  have zD := N₄ (D, cur) (hsub _ (.tail _ (.tail _ (.head _))))
  refine add _ _ _ zD.1 fun h₅ tk₅ hs₅ hD₅ => ?_
  refine next h₅ tk₅ _ ⟨oI, (hs₅.2 I hID).trans zI, hcI, hdI⟩ (F₄.change hs₅ zD.2.1 zD.2.2) (fun p hp => ?_) ((hoC.ns zC).sameBut hs₅ hCD)
  rcases List.mem_cons.mp hp with rfl | hp
  · exact ⟨hD₅, zD.2⟩
  · exact ⟨(hs₅.2 _ (offD p hp)).trans (N₄ p (hsub _ (.tail _ (.tail _ (.tail _ hp))))).1, (N₄ p (hsub _ (.tail _ (.tail _ (.tail _ hp))))).2⟩
/-- the set of two bools -/
noncomputable def setOf2 (w : World) (b1 b2 : Bool) : Obj := if b1 = b2 then setO (!byTx w) #[(hb b1, .bool b1)] 1 #[bp b1] else setO (!byTx w) #[(0, .bool false), (1, .bool true)] 2 #[0, 1]
end
end Mine
end

section -- N5
open PySem PySem.W PyProof.Rows PySem.Calls PySem.Builtin
set_option Elab.async false
set_option maxRecDepth 100000
set_option maxHeartbeats 0
namespace Mine
section
variable {prog : Program} {w : World} {A : Around} {E : Value → Shared → Prop} {s : Shared} {h₀ : Heap} {L : Addr} {m : Str → Option Value} {env : Env}
noncomputable def SrcS (prog : Program) (w : World) (A : Around) (h₀ : Heap) (L : Addr) (m : Str → Option Value) (env : Env) (elt : Expr) (x : Str) (scope : Scope) (cl : List (Str × Addr)) (Q : Value → Shared → Prop) (xv : Value) (s₁ : Shared) : Prop :=
  ∃ ax v1 v2 b1 b2 news, xv = .ref ax ∧ A.handled = none ∧ Fr h₀ L s₁.heap m ∧ News h₀ L s₁.heap news ∧ (ax, tupO [v1, v2]) ∈ news ∧
    SetTurn prog w A h₀ L m env elt x scope cl s₁ news v1 b1 ∧ SetTurn prog w A h₀ L m env elt x scope cl s₁ news v2 b2 ∧
    ∀ D h tk, Fr h₀ L h m → News h₀ L h ((D, setOf2 w b1 b2) :: news) → Q (.ref D) { s₁ with heap := h, toks := tk }
theorem SrcS.mk {elt : Expr} {x : Str} {scope : Scope} {cl : List (Str × Addr)} {Q : Value → Shared → Prop} {ax : Addr} {v1 v2 : Value} {b1 b2 : Bool} {news : List (Addr × Obj)} {s₁ : Shared}
    (hh : A.handled = none) (F : Fr h₀ L s₁.heap m) (N : News h₀ L s₁.heap news) (hm : (ax, tupO [v1, v2]) ∈ news)
    (t1 : SetTurn prog w A h₀ L m env elt x scope cl s₁ news v1 b1) (t2 : SetTurn prog w A h₀ L m env elt x scope cl s₁ news v2 b2)
    (h : ∀ D h tk, Fr h₀ L h m → News h₀ L h ((D, setOf2 w b1 b2) :: news) → Q (.ref D) { s₁ with heap := h, toks := tk }) :
    SrcS prog w A h₀ L m env elt x scope cl Q (.ref ax) s₁ := ⟨ax, v1, v2, b1, b2, news, rfl, hh, F, N, hm, t1, t2, h⟩
theorem SetComp_two {elt iter : Expr} {x : Str} {px : Pos} {scope : Scope} {cl : List (Str × Addr)} {pos : Pos} {Q : Value → Shared → Prop} (F₀ : Fr h₀ L s.heap m)
    (hclos : closureFor scope env = pure cl) (hcell : ∀ y ∈ scope.names, y.2 ≠ .cell) (hkind : scope.kind = .function)
    (hnames : ∀ y ∈ scope.names, y.2 = .local → scope.names.lookup y.1 = some .local) (hx : scope.names.lookup x = some .local)
    (h : wpAny (model prog w) A (eval iter env) (SrcS prog w A h₀ L m env elt x scope cl Q) E s)
    (hs : ∀ x, foldedSetIterable iter env x = pure x := by intro _; rfl) :
    wpAny (model prog w) A (eval (.SetComp elt [⟨.Name x px, iter, [], 0⟩] scope pos) env) Q E s := by
  rw [arm_eval_SetComp]
  refine wpAny_comprehension_free (use := none) rfl hs hclos hkind hnames (wpAny_mono h (fun xv s₁ h₁ => ?_) fun _ _ e => e)
  obtain ⟨ax, v1, v2, b1, b2, news, rfl, hh, F, N, hm, t1, t2, hQ⟩ := h₁
  have htup : s₁.heap.IsTuple ax #[v1, v2] := ⟨_, (N _ hm).1, rfl, 0, rfl⟩
  have hlt : ax < s₁.heap.objs.size := Heap.lt_size (N _ hm).1
  refine wpAny_pyIter_tuple htup ?_
  unfold newSet
  refine wpAny_bind (setsByText_is ?_)
  simp only [newObj]
  refine wpAny_bind (wpAny_alloc (wpAny_pure ?_))
  refine wpAny_newFunctionEnv hcell (by intro y hy; simp at hy) (fun h₁ hns₁ hsb₁ => ?_) hkind
  dsimp only at hns₁ hsb₁ ⊢
  have F2 := F.push { cls := .type "tuple_iterator", data := .fields #[.ref ax, .int 0 0] }
  have N2 := News.push F N { cls := .type "tuple_iterator", data := .fields #[.ref ax, .int 0 0] }
  have F3 := F2.push { cls := .type "set", data := .set #[] 0 (SetTable.fresh 0 0 (!byTx w)) }
  have N3 := News.push F2 N2 { cls := .type "set", data := .set #[] 0 (SetTable.fresh 0 0 (!byTx w)) }
  generalize hI : s₁.heap.objs.size = I at *
  generalize hH1 : s₁.heap.push { cls := .type "tuple_iterator", data := .fields #[.ref ax, .int 0 0] } = H1 at *
  have hz1 : H1.objs.size = I + 1 := by rw [← hH1, Heap.size_push, hI]
  generalize hD : H1.objs.size = D at *
  have hsb₁' : Heap.SameBut (H1.push { cls := .type "set", data := .set #[] 0 (SetTable.fresh 0 0 (!byTx w)) }).objs.size ((H1.push { cls := .type "set", data := .set #[] 0 (SetTable.fresh 0 0 (!byTx w)) }).push { cls := .type "dict", data := .dict #[] }) h₁ := hsb₁
  have hns₁' : h₁.Ns (H1.push { cls := .type "set", data := .set #[] 0 (SetTable.fresh 0 0 (!byTx w)) }).objs.size (fun x => ([] : List (Str × Value)).reverse.lookup x) := hns₁
  have hz2 : (H1.push { cls := .type "set", data := .set #[] 0 (SetTable.fresh 0 0 (!byTx w)) }).objs.size = I + 1 + 1 := by rw [Heap.size_push, hD, hz1]
  have F4 := F3.push { cls := .type "dict", data := .dict #[] }
  have N4 := News.push F3 N3 { cls := .type "dict", data := .dict #[] }
  generalize hH2 : H1.push { cls := .type "set", data := .set #[] 0 (SetTable.fresh 0 0 (!byTx w)) } = H2 at *
  generalize hC : H2.objs.size = C at *
  have hCL : C ≠ L := (N4 _ (.head _)).2.1
  have hC0 : h₀.get? C = none := (N4 _ (.head _)).2.2
  have hID : I ≠ D := by rw [hz1]; exact Nat.ne_of_lt (Nat.lt_succ_self _)
  have hIC : I ≠ C := by rw [hz2]; exact Nat.ne_of_lt (Nat.lt_succ_of_lt (Nat.lt_succ_self _))
  have hCD : C ≠ D := by rw [hz2, hz1]; exact Nat.ne_of_gt (Nat.lt_succ_self _)
  have nlt : ∀ p ∈ news, p.1 < I := fun p hp => hI ▸ Heap.lt_size (N p hp).1
  have offI : ∀ p ∈ news, p.1 ≠ I := fun p hp => Nat.ne_of_lt (nlt p hp)
  have offD : ∀ p ∈ news, p.1 ≠ D := fun p hp => by rw [hz1]; exact Nat.ne_of_lt (Nat.lt_succ_of_lt (nlt p hp))
  have offC : ∀ p ∈ news, p.1 ≠ C := fun p hp => by rw [hz2]; exact Nat.ne_of_lt (Nat.lt_succ_of_lt (Nat.lt_succ_of_lt (nlt p hp)))
  have FF : Fr h₀ L h₁ m := F4.change hsb₁' hCL hC0
  have NN : News h₀ L h₁ ((D, setO (!byTx w) #[] 0 #[]) :: news) := fun p hp => by
    rcases List.mem_cons.mp hp with rfl | hp
    · have := N4 _ (.tail _ (.head _)); exact ⟨(hsb₁'.2 _ hCD.symm).trans this.1, this.2⟩
    · have := N4 _ (.tail _ (.tail _ (.tail _ hp))); exact ⟨(hsb₁'.2 _ (offC p hp)).trans this.1, this.2⟩
  have NI := N4 _ (.tail _ (.tail _ (.head _)))
  have hit : h₁.IsTupleIter I ax 0 := ⟨_, (hsb₁'.2 _ hIC).trans NI.1, rfl, rfl⟩
  have hIL : I ≠ L := NI.2.1
  have hI0 : h₀.get? I = none := NI.2.2
  have loop : ∀ tk, codeAny (model prog w) A (.compLoop (.SetComp elt [⟨.Name x px, iter, [], 0⟩] scope pos) 0 (.ref I) (.ref D) (compEnvC scope cl C env))
      (compPost (model prog w) A E none Q (.ref D) C) { s₁ with heap := h₁, toks := tk } := fun tk => by
    refine set_turn (s := s₁) (its := [v1, v2]) (i := 0) (v := v1) (b := b1) (cur' := setO (!byTx w) #[(hb b1, .bool b1)] 1 #[bp b1]) hh hx hkind rfl hit FF NN hns₁' hm hCL hC0 hI0 hIL hIC hID hCD offI offC offD t1 ?_ ?_
    · intro s' Q' E' ho hq
      exact set_add0 ho fun h' hs' ho' => hq h' _ hs' ho'
    · intro h5 tk5 m5 hit5 F5 N5 hC5
      refine set_turn (s := s₁) (its := [v1, v2]) (i := 1) (v := v2) (b := b2) (cur' := setOf2 w b1 b2) hh hx hkind rfl hit5 F5 N5 hC5 hm hCL hC0 hI0 hIL hIC hID hCD offI offC offD t2 ?_ ?_
      · intro s' Q' E' ho hq
        unfold setOf2 at hq
        by_cases e : b1 = b2
        · subst e
          rw [if_pos rfl] at hq
          exact set_add_same ho (hq s'.heap _ (Heap.SameBut.refl _ _) ho)
        · rw [if_neg e] at hq
          have e' : b1 = !b2 := by cases b1 <;> cases b2 <;> simp_all
          subst e'
          exact set_add2 ho fun h' hs' ho' => hq h' _ hs' ho'
      · intro h6 tk6 m6 hit6 F6 N6 hC6
        refine setLoop (fun _ => rfl) ?_
        have W := Walks.tuple (prog := prog) (w := w) (A := A) hh I ax (offI _ hm) #[v1, v2]
        refine W.done { s₁ with heap := h6, toks := tk6 } _ _ ⟨hit6, ⟨_, (N6 _ (.tail _ hm)).1, rfl, 0, rfl⟩⟩ fun h7 tk7 hk7 => ?_
        refine ⟨m6, hC6.at' fun o e => hk7 _ o (by simpa using hIC.symm) e, fun h8 hs8 => ?_⟩
        refine hQ D h8 tk7 ((LCg.fr_but F6 hk7 hIL.symm hI0).change hs8 hCL hC0) fun p hp => ?_
        have q := LCg.news_but N6 hk7 (fun p hp => by
          rcases List.mem_cons.mp hp with rfl | hp
          · exact hID.symm
          · exact offI p hp) p hp
        refine ⟨(hs8.2 _ ?_).trans q.1, q.2⟩
        rcases List.mem_cons.mp hp with rfl | hp
        · exact hCD.symm
        · exact offC p hp
  have W := Walks.tuple (prog := prog) (w := w) (A := A) hh I ax (offI _ hm) #[v1, v2]
  exact compStart_set (loop _) (W.self 0 _ _ _ ⟨hit, ⟨_, (NN _ (.tail _ hm)).1, rfl, 0, rfl⟩⟩ (loop _))
end
end Mine
end

section -- N6
open PySem PySem.W PyProof.Rows PySem.Calls PySem.Builtin
set_option Elab.async false
set_option maxRecDepth 100000
set_option maxHeartbeats 0
namespace Mine
section
variable {prog : Program} {w : World} {A : Around} {E : Value → Shared → Prop} {s : Shared} {h₀ : Heap} {L : Addr} {m : Str → Option Value} {env : Env} {news : List (Addr × Obj)}
theorem SrcS.mk2 {elt : Expr} {x : Str} {scope : Scope} {cl : List (Str × Addr)} {Q : Value → Shared → Prop} {ax : Addr} {x1 x2 sl : Str} {t u : Tok} {s₁ : Shared}
    (hh : A.handled = none) (F : Fr h₀ L s₁.heap m) (N : News h₀ L s₁.heap news) (hm : (ax, tupO [.str x1 t, .str x2 u]) ∈ news)
    (t1 : SetTurn prog w A h₀ L m env elt x scope cl s₁ news (.str x1 t) (Txt.startswith x1 (Str.ofString "/"))) (t2 : SetTurn prog w A h₀ L m env elt x scope cl s₁ news (.str x2 u) (Txt.startswith x2 (Str.ofString "/")))
    (h : ∀ D h tk, Fr h₀ L h m → News h₀ L h ((D, setOf2 w (Txt.startswith x1 (Str.ofString "/")) (Txt.startswith x2 (Str.ofString "/"))) :: news) → Q (.ref D) { s₁ with heap := h, toks := tk }) :
    SrcS prog w A h₀ L m env elt x scope cl Q (.ref ax) s₁ := SrcS.mk hh F N hm t1 t2 h
theorem assign_set_eq {y : Str} {py tp : Pos} {k} {D : Addr} {b1 b2 : Bool} {Q : Unit → Shared → Prop} (hLe : env.locals = L) (hy : env.kindOf y = some .local) (hp : (env.scope.kind == .class || (env.scope.kind == .module && env.locals != env.globals)) = false)
    (hh : A.handled = none) (F : Fr h₀ L s.heap m) (N : News h₀ L s.heap news) (hm : (D, setOf2 w b1 b2) ∈ news) (hab : b1 = b2)
    (h : ∀ h' tk', Fr h₀ L h' (fun z => if z = y then some (.bool b1) else m z) → News h₀ L h' news → Q () { s with heap := h', toks := tk' }) :
    wpAny (model prog w) A (assign (.Tuple [.Name y py] k tp) env (.ref D)) Q E s := by
  subst hLe hab
  unfold setOf2 at hm
  rw [if_pos rfl] at hm
  rw [assign_Tuple]
  refine wpAny_bind (wpAny_standAt ?_)
  show wpAny _ _ (unpack (.ref D) [(false, assign (.Name y py) env)]) _ _ _
  unfold unpack
  refine wpAny_bind (wpAny_holding ?_)
  show wpAny _ _ (unpackItems (.ref D) 1 none) _ _ _
  refine unpack_one hh (N _ hm).1 fun h1 k1 => ?_
  show wpAny _ _ (assignInOrder [assign (.Name y py) env] [.bool b1]) _ _ _
  unfold assignInOrder
  have F1 := F.keeps k1
  have N1 := N.grown k1
  refine wpAny_bind (wpAny_holding (wpAny_assign_Name (wpAny_storeName_local hy F1.ns (fun h₂ hn₂ hs₂ => ?_) hp)))
  unfold assignInOrder
  have hL₀ : h₀.get? env.locals = none := Heap.get?_none_of_le F1.above
  exact wpAny_pure (h h₂ _ ⟨hn₂, fun b o e => hs₂.extBut b o (fun q => by rw [q, hL₀] at e; cases e) (F1.keep b o e), F1.above⟩ fun p hp => ⟨hs₂.extBut _ _ (N1 p hp).2.1 (N1 p hp).1, (N1 p hp).2⟩)
theorem assign_set_ne {y : Str} {py tp : Pos} {k} {D : Addr} {b1 b2 : Bool} {Q : Unit → Shared → Prop}
    (hh : A.handled = none) (N : News h₀ L s.heap news) (hm : (D, setOf2 w b1 b2) ∈ news) (hab : b1 ≠ b2)
    (h : ∀ h' tk' e, Heap.NewExc s.heap h' e "ValueError" → E (.ref e) { s with heap := h', toks := tk' }) :
    wpAny (model prog w) A (assign (.Tuple [.Name y py] k tp) env (.ref D)) Q E s := by
  unfold setOf2 at hm
  rw [if_neg hab] at hm
  rw [assign_Tuple]
  refine wpAny_bind (wpAny_standAt ?_)
  show wpAny _ _ (unpack (.ref D) [(false, assign (.Name y py) env)]) _ _ _
  unfold unpack
  refine wpAny_bind (wpAny_holding ?_)
  show wpAny _ _ (unpackItems (.ref D) 1 none) _ _ _
  exact unpack_two hh (N _ hm).1 h
/-- two splits -/
theorem comp_split2 {elt : Expr} {x : Str} {scope : Scope} {cl : List (Str × Addr)} {ax : Addr} {Fin : List Value → List (Addr × Obj) → Prop} {x1 x2 : Str} {t u : Tok} (hm : (ax, tupO [.str x1 t, .str x2 u]) ∈ news)
    (t1 : ∀ I oI C oC D m₂ h tk (E' : Value → Shared → Prop), LCg.NsObj oC m₂ → m₂ x = some (.str x1 t) → Fr h₀ L h m → News h₀ L h ((I, oI) :: (C, oC) :: (D, LCg.lst []) :: news) → 
      wpAny (model prog w) A (eval elt (compEnvC scope cl C env)) (ListEnd h₀ L m { s with heap := h, toks := tk } ((I, oI) :: (C, oC) :: (D, LCg.lst []) :: news) (Txt.split x1 (Str.ofString "/"))) E' { s with heap := h, toks := tk })
    (t2 : ∀ l1 ps1 k1 I oI C oC D m₂ h tk (E' : Value → Shared → Prop), LCg.NsObj oC m₂ → m₂ x = some (.str x2 u) → Fr h₀ L h m → News h₀ L h ((I, oI) :: (C, oC) :: (D, LCg.lst [.ref l1]) :: (l1, listOf (strValues ps1).toArray k1) :: news) →
      wpAny (model prog w) A (eval elt (compEnvC scope cl C env)) (ListEnd h₀ L m { s with heap := h, toks := tk } ((I, oI) :: (C, oC) :: (D, LCg.lst [.ref l1]) :: (l1, listOf (strValues ps1).toArray k1) :: news) (Txt.split x2 (Str.ofString "/"))) E' { s with heap := h, toks := tk })
    (fin : ∀ l1 ps1 k1 l2 ps2 k2, ps1.map (·.1) = Txt.split x1 (Str.ofString "/") → ps2.map (·.1) = Txt.split x2 (Str.ofString "/") → (∀ p ∈ news, @Ne Nat p.1 l1) → (∀ p ∈ (l1, listOf (strValues ps1).toArray k1) :: news, @Ne Nat p.1 l2) → Fin [.ref l1, .ref l2] ((l2, listOf (strValues ps2).toArray k2) :: (l1, listOf (strValues ps1).toArray k1) :: news)) :
    LCg.CompRest prog w A h₀ L m env elt x scope cl s (fun nw => (ax, tupO [.str x1 t, .str x2 u]) ∈ nw) (fun i v => ([.str x1 t, .str x2 u] : List Value).toArray[i]? = some v) Fin 2 0 [] news :=
  comp_pair (.str x1 t) (.str x2 u) _ _ (fun add => List.mem_append_right _ hm) (fun v hv => (Option.some.inj hv).symm) (fun v hv => (Option.some.inj hv).symm)
    (fun I oI C oC D m₂ h tk E' hC hx F N _ _ => t1 I oI C oC D m₂ h tk E' hC hx F N) (fun l1 ps1 k1 I oI C oC D m₂ h tk E' _ _ hC hx F N _ _ => t2 l1 ps1 k1 I oI C oC D m₂ h tk E' hC hx F N) fin
noncomputable def keepC (c : Str) : Bool := decide ((c.length : Int) ≠ 0) && (c != Str.ofString ".")
/-- two filters -/
theorem comp_filter2 {elt : Expr} {x : Str} {scope : Scope} {cl : List (Str × Addr)} {ax l1 l2 : Addr} {n k1 k2 : Nat} {ps1 ps2 : List (Str × Tok)} {Fin : List Value → List (Addr × Obj) → Prop} (hm : (ax, listOf #[.ref l1, .ref l2] n) ∈ news) (hm1 : (l1, listOf (strValues ps1).toArray k1) ∈ news) (hm2 : (l2, listOf (strValues ps2).toArray k2) ∈ news)
    (t1 : ∀ I oI C oC D m₂ h tk (E' : Value → Shared → Prop), LCg.NsObj oC m₂ → m₂ x = some (.ref l1) → Fr h₀ L h m → News h₀ L h ((I, oI) :: (C, oC) :: (D, LCg.lst []) :: news) → 
      wpAny (model prog w) A (eval elt (compEnvC scope cl C env)) (ListEnd h₀ L m { s with heap := h, toks := tk } ((I, oI) :: (C, oC) :: (D, LCg.lst []) :: news) ((ps1.map (·.1)).filter keepC)) E' { s with heap := h, toks := tk })
    (t2 : ∀ q1 qs1 j1 I oI C oC D m₂ h tk (E' : Value → Shared → Prop), LCg.NsObj oC m₂ → m₂ x = some (.ref l2) → Fr h₀ L h m → News h₀ L h ((I, oI) :: (C, oC) :: (D, LCg.lst [.ref q1]) :: (q1, listOf (strValues qs1).toArray j1) :: news) →
      wpAny (model prog w) A (eval elt (compEnvC scope cl C env)) (ListEnd h₀ L m { s with heap := h, toks := tk } ((I, oI) :: (C, oC) :: (D, LCg.lst [.ref q1]) :: (q1, listOf (strValues qs1).toArray j1) :: news) ((ps2.map (·.1)).filter keepC)) E' { s with heap := h, toks := tk })
    (fin : ∀ q1 qs1 j1 q2 qs2 j2, qs1.map (·.1) = (ps1.map (·.1)).filter keepC → qs2.map (·.1) = (ps2.map (·.1)).filter keepC → (∀ p ∈ news, @Ne Nat p.1 q1) → (∀ p ∈ (q1, listOf (strValues qs1).toArray j1) :: news, @Ne Nat p.1 q2) → Fin [.ref q1, .ref q2] ((q2, listOf (strValues qs2).toArray j2) :: (q1, listOf (strValues qs1).toArray j1) :: news)) :
    LCg.CompRest prog w A h₀ L m env elt x scope cl s (LCg.SrcAt h₀ ax #[.ref l1, .ref l2]) (fun i v => (#[.ref l1, .ref l2] : Array Value)[i]? = some v) Fin 2 0 [] news :=
  comp_pair (.ref l1) (.ref l2) _ _ (fun add => .inr ⟨_, List.mem_append_right _ hm, rfl, _, rfl⟩) (fun v hv => (Option.some.inj hv).symm) (fun v hv => (Option.some.inj hv).symm)
    (fun I oI C oC D m₂ h tk E' hC hx F N _ _ => t1 I oI C oC D m₂ h tk E' hC hx F N) (fun l1 ps1 k1 I oI C oC D m₂ h tk E' _ _ hC hx F N _ _ => t2 l1 ps1 k1 I oI C oC D m₂ h tk E' hC hx F N) fin
theorem off1_ne {D : Addr} : ∀ {l : List (Addr × Obj)}, LCg.Off1 D l → ∀ p ∈ l, p.1 ≠ D
  | [], _, _, h => nomatch h
  | _ :: _, x, p, h => by
    rcases List.mem_cons.mp h with rfl | h
    · exact x.1
    · exact off1_ne x.2 p h
end
end Mine
end

section -- P2
open PySem PySem.W PyProof.Rows PySem.Calls PySem.Builtin
set_option Elab.async false
set_option maxRecDepth 100000
set_option maxHeartbeats 0
namespace Mine
section
variable {prog : Program} {w : World} {A : Around} {E : Value → Shared → Prop} {s : Shared} {h₀ : Heap} {L : Addr} {m : Str → Option Value} {env : Env} {news : List (Addr × Obj)}
theorem min_led9 {l a b : Addr} {ps qs : List (Str × Tok)} {n k j : Nat} {Q : Value → Shared → Prop} (hh : A.handled = none) (F : Fr h₀ L s.heap m) (N : News h₀ L s.heap news) (hl : (l, listOf #[.ref a, .ref b] n) ∈ news) (ha : (a, listOf (strValues ps).toArray k) ∈ news) (hb : (b, listOf (strValues qs).toArray j) ∈ news) (hu : A.units + 4 < cLine)
    (hQ : ∀ r ts i h' tk, ts.map (·.1) = minL (ps.map (·.1)) (qs.map (·.1)) → Fr h₀ L h' m → News h₀ L h' ((r, listOf (strValues ts).toArray i) :: news) → Q (.ref r) { s with heap := h', toks := tk }) :
    wpAny (model prog w) A (call (.builtin "min") [.ref l]) Q E s := by
  refine min_led hh F N hl ha hb hu fun h' tk F' N' => ?_
  cases hc : ltL (qs.map (·.1)) (ps.map (·.1)) with
  | true => simp only [if_true]; exact hQ b qs j h' tk (by unfold minL; rw [hc, if_pos rfl]) F' (fun p hp => by
      rcases List.mem_cons.mp hp with rfl | hp
      · exact N' _ hb
      · exact N' _ hp)
  | false => simp only [Bool.false_eq_true, if_false]; exact hQ a ps k h' tk (by unfold minL; rw [hc, if_neg (by decide)]) F' (fun p hp => by
      rcases List.mem_cons.mp hp with rfl | hp
      · exact N' _ ha
      · exact N' _ hp)
theorem max_led9 {l a b : Addr} {ps qs : List (Str × Tok)} {n k j : Nat} {Q : Value → Shared → Prop} (hh : A.handled = none) (F : Fr h₀ L s.heap m) (N : News h₀ L s.heap news) (hl : (l, listOf #[.ref a, .ref b] n) ∈ news) (ha : (a, listOf (strValues ps).toArray k) ∈ news) (hb : (b, listOf (strValues qs).toArray j) ∈ news) (hu : A.units + 4 < cLine)
    (hQ : ∀ r ts i h' tk, ts.map (·.1) = maxL (ps.map (·.1)) (qs.map (·.1)) → Fr h₀ L h' m → News h₀ L h' ((r, listOf (strValues ts).toArray i) :: news) → Q (.ref r) { s with heap := h', toks := tk }) :
    wpAny (model prog w) A (call (.builtin "max") [.ref l]) Q E s := by
  refine max_led hh F N hl ha hb hu fun h' tk F' N' => ?_
  cases hc : gtL (qs.map (·.1)) (ps.map (·.1)) with
  | true => simp only [if_true]; exact hQ b qs j h' tk (by unfold maxL; rw [hc, if_pos rfl]) F' (fun p hp => by
      rcases List.mem_cons.mp hp with rfl | hp
      · exact N' _ hb
      · exact N' _ hp)
  | false => simp only [Bool.false_eq_true, if_false]; exact hQ a ps k h' tk (by unfold maxL; rw [hc, if_neg (by decide)]) F' (fun p hp => by
      rcases List.mem_cons.mp hp with rfl | hp
      · exact N' _ ha
      · exact N' _ hp)
/-- a statement that leaves its list of texts under a name -/
noncomputable def NamePost (h₀ : Heap) (L : Addr) (m : Str → Option Value) (s₁ : Shared) (news : List (Addr × Obj)) (y xi xv : Str) (g : List Str) (f : Flow) (s₂ : Shared) : Prop :=
  f = .next ∧ ∃ h' tk m₂ D cs k all, s₂ = { s₁ with heap := h', toks := tk } ∧ Fr h₀ L h' m₂ ∧ m₂ y = some (.ref D) ∧ (∀ z, z ≠ y → z ≠ xi → z ≠ xv → m₂ z = m z) ∧ cs.map (·.1) = g ∧ News h₀ L h' all ∧ (D, listOf (strValues cs).toArray k) ∈ all ∧ ∀ p ∈ news, p ∈ all
theorem NamePost.mk {s₁ : Shared} {y xi xv : Str} {g : List Str} {h' : Heap} {tk : Nat} {m₂ : Str → Option Value} {D : Addr} {cs : List (Str × Tok)} {k : Nat} {all : List (Addr × Obj)} (F : Fr h₀ L h' m₂) (N : News h₀ L h' all) (hm : (D, listOf (strValues cs).toArray k) ∈ all) (h1 : m₂ y = some (.ref D)) (h2 : ∀ z, z ≠ y → z ≠ xi → z ≠ xv → m₂ z = m z) (e : cs.map (·.1) = g) (hs : ∀ p ∈ news, p ∈ all) :
    NamePost h₀ L m s₁ news y xi xv g .next { s₁ with heap := h', toks := tk } := ⟨rfl, h', tk, m₂, D, cs, k, all, rfl, F, h1, h2, e, N, hm, hs⟩
theorem cut_name {st : Stmt} (y xi xv : Str) {g : List Str} {Q : Flow → Shared → Prop} (_F : Fr h₀ L s.heap m) (_N : News h₀ L s.heap news)
    (h : wpAny (model prog w) A (exec st env) (NamePost h₀ L m s news y xi xv g) E s)
    (k : ∀ h' tk D cs k u1 u2, cs.map (·.1) = g → Fr h₀ L h' (fun z => if z = y then some (.ref D) else if z = xi then u1 else if z = xv then u2 else m z) → News h₀ L h' ((D, listOf (strValues cs).toArray k) :: news) → Q .next { s with heap := h', toks := tk }) :
    wpAny (model prog w) A (exec st env) Q E s := by
  refine wpAny_mono h (fun f s₂ hq => ?_) fun _ _ e => e
  obtain ⟨rfl, h', tk, m₂, D, cs, j, all, rfl, F', h1, h2, e, N', hm, hs⟩ := hq
  refine k h' tk D cs j (m₂ xi) (m₂ xv) e ?_ fun p hp => ?_
  · have em : m₂ = fun z => if z = y then some (.ref D) else if z = xi then m₂ xi else if z = xv then m₂ xv else m z := by
      funext z
      by_cases z1 : z = y
      · rw [if_pos z1, z1, h1]
      · rw [if_neg z1]
        by_cases z2 : z = xi
        · rw [if_pos z2, z2]
        · rw [if_neg z2]
          by_cases z3 : z = xv
          · rw [if_pos z3, z3]
          · rw [if_neg z3, h2 z z1 z2 z3]
    rw [← em]; exact F'
  · rcases List.mem_cons.mp hp with rfl | hp
    · exact N' _ hm
    · exact N' _ (hs _ hp)
theorem ListEnd.mk_new {s₁ : Shared} {base all : List (Addr × Obj)} {g : List Str} {h' : Heap} {tk : Nat} {l : Addr} {ps : List (Str × Tok)} {k : Nat} (F : Fr h₀ L h' m) (N : News h₀ L h' ((l, listOf (strValues ps).toArray k) :: all)) (e : ps.map (·.1) = g) (hlt : ∀ p ∈ all, p.1 < l) (hs : ∀ p ∈ base, p ∈ all) :
    ListEnd h₀ L m s₁ base g (.ref l) { s₁ with heap := h', toks := tk } := ListEnd.mk F N (.head _) e (fun p hp => .tail _ (hs p hp)) (fun p hp => Nat.ne_of_lt (hlt p (hs p hp)))
theorem ListEnd.mk_off {s₁ : Shared} {base all : List (Addr × Obj)} {g : List Str} {h' : Heap} {tk : Nat} {l : Addr} {ps : List (Str × Tok)} {k : Nat} (F : Fr h₀ L h' m) (N : News h₀ L h' ((l, listOf (strValues ps).toArray k) :: all)) (e : ps.map (·.1) = g) (ho : LCg.Off1 l all) (hs : ∀ p ∈ base, p ∈ all) :
    ListEnd h₀ L m s₁ base g (.ref l) { s₁ with heap := h', toks := tk } := ListEnd.mk F N (.head _) e (fun p hp => .tail _ (hs p hp)) (fun p hp => off1_ne ho p (hs p hp))
theorem filter_fst (keep : Str → Bool) (ps : List (Str × Tok)) : (ps.filter (fun p => keep p.1)).map (·.1) = (ps.map (·.1)).filter keep := by
  rw [List.filter_map]; rfl
theorem mem_len {ps : List (Str × Tok)} {x y c : Str} {t : Tok} (e : ps.map (·.1) = Txt.split x y) (h : (c, t) ∈ ps) : c.length ≤ x.length :=
  part_short (y := y) (e ▸ List.mem_map_of_mem h)
theorem keepC_t {c : Str} (h1 : (c.length : Int) ≠ 0) (h2 : (c != Str.ofString ".") = true) : keepC c = true := by unfold keepC; rw [decide_eq_true h1, h2]; rfl
theorem keepC_f1 {c : Str} (h1 : (c.length : Int) = 0) : keepC c = false := by unfold keepC; rw [decide_eq_false (fun h => h h1)]; rfl
theorem keepC_f2 {c : Str} (h2 : (c != Str.ofString ".") = false) : keepC c = false := by unfold keepC; rw [h2, Bool.and_false]
theorem comp_filterB {ct elt : Expr} {x : Str} {scope : Scope} {cl : List (Str × Addr)} {S : List (Addr × Obj) → Prop} {P : Nat → Value → Prop} {Q : Value → Shared → Prop} {s₁ : Shared} {ps : List (Str × Tok)} {n : Nat} {y z : Str} (keep : Str → Bool) (hps : ps.map (·.1) = Txt.split y z) (hn : n = ps.length) (hS : S news) (hP : ∀ i v, P i v → (strValues ps)[i]? = some v)
    (turn : ∀ c t I oI C oC D m₂ ys h tk (E' : Value → Shared → Prop), c.length ≤ y.length → LCg.NsObj oC m₂ → m₂ x = some (.str c t) → Fr h₀ L h m → News h₀ L h ((I, oI) :: (C, oC) :: (D, LCg.lst (strValues ys)) :: news) →
      wpAny (model prog w) A (isTrue ct (compEnvC scope cl C env) (eval ct (compEnvC scope cl C env))) (fun b s' => if b = true then keep c = true ∧ wpAny (model prog w) A (eval elt (compEnvC scope cl C env)) (fun y s'' => y = .str c t ∧ CompFin h₀ L m s I oI C oC D (LCg.lst (strValues ys)) news s'') E' s'
        else keep c = false ∧ CompFin h₀ L m s I oI C oC D (LCg.lst (strValues ys)) news s') E' { s with heap := h, toks := tk })
    (fin : ∀ D h tk, Fr h₀ L h m → News h₀ L h ((D, LCg.lst (strValues (ps.filter fun p => keep p.1))) :: news) → LCg.Off1 D news → Q (.ref D) { s₁ with heap := h, toks := tk }) : LCt.CompRestT prog w A h₀ L m env ct elt x scope cl s S P (LCg.FinE h₀ L m s₁ Q) n 0 [] news :=
  comp_filter keep hn hS hP (fun c t I oI C oC D m₂ ys h tk E' hc hC hx F N => turn c t I oI C oC D m₂ ys h tk E' (mem_len hps hc) hC hx F N) fin
/-- the parts of a path that commonpath looks at -/
noncomputable def compsF (x : Str) : List Str := (Txt.split x (Str.ofString "/")).filter keepC
noncomputable def commonF (x y : Str) : Str := (if Txt.startswith x (Str.ofString "/") = true then Str.ofString "/" else Str.ofString "") ++ Txt.join (Str.ofString "/") (lcp (compsF x) (compsF y))
end
end Mine
end

section -- P3
open PySem PySem.W PyProof.Rows PySem.Calls PySem.Builtin
set_option Elab.async false
set_option maxRecDepth 100000
set_option maxHeartbeats 0
namespace Mine
theorem filt_le {keep : Str → Bool} {ps qs : List (Str × Tok)} {n : Nat} (e : qs.map (·.1) = (ps.map (·.1)).filter keep) (h : ps.length ≤ n) : (qs.map (·.1)).length ≤ n := by
  rw [e]
  exact Nat.le_trans (List.length_filter_le _ _) (by rw [List.length_map]; exact h)
theorem minL_len {a b : List Str} {n k : Nat} (ha : a.length ≤ n) (hb : b.length ≤ k) (h1 : n ≤ 1000) (h2 : k ≤ 1000) : (minL a b).length ≤ 1000 ∧ (maxL a b).length ≤ 1000 := by
  rcases minmax a b with ⟨e1, e2⟩ | ⟨e1, e2⟩ <;> rw [e1, e2] <;> constructor <;> omega
noncomputable abbrev nCm : Str := Str.ofString "common"
noncomputable abbrev nI : Str := Str.ofString "i"
noncomputable abbrev nCc : Str := Str.ofString "c"
section
variable {prog : Program} {w : World} {A : Around} {E : Value → Shared → Prop} {s : Shared} {h₀ : Heap} {L : Addr} {m : Str → Option Value} {env : Env} {news : List (Addr × Obj)}
theorem cut_common {target iter : Expr} {body : List Stmt} {pos : Pos} {Q : Flow → Shared → Prop} {ts : List (Str × Tok)} {a b : List Str} (_hmin : ts.map (·.1) = minL a b) (_F : Fr h₀ L s.heap m) (_N : News h₀ L s.heap news)
    (h : wpAny (model prog w) A (eval iter env) (ForSrc9 prog w A env target body (NamePost h₀ L m s news nCm nI nCc (lcp a b))) (fun _ _ => False) s)
    (k : ∀ h' tk D cs k u1 u2, cs.map (·.1) = lcp a b → Fr h₀ L h' (fun z => if z = nCm then some (.ref D) else if z = nI then u1 else if z = nCc then u2 else m z) → News h₀ L h' ((D, listOf (strValues cs).toArray k) :: news) → Q .next { s with heap := h', toks := tk })
    (hs : ∀ x, foldedSetIterable iter env x = pure x := by intro _; rfl) :
    wpAny (model prog w) A (exec (.For target iter body [] pos) env) Q E s :=
  cut_name nCm nI nCc _F _N (For_enum9 h hs) k
theorem call_enumC {l : Addr} {ts : List (Str × Tok)} {k na nb : Nat} {a b : List Str} {pi pv pt : Pos} {x1} {body : List Stmt} {s₁ : Shared} (hmin : ts.map (·.1) = minL a b) (ha : a.length ≤ na) (hb : b.length ≤ nb) (h1 : na ≤ 1000) (h2 : nb ≤ 1000) (hh : A.handled = none)
    (hxi : env.kindOf nI = some .local) (hxv : env.kindOf nCc = some .local) (hp : (env.scope.kind == .class || (env.scope.kind == .module && env.locals != env.globals)) = false)
    (F : Fr h₀ env.locals s.heap m) (N : News h₀ env.locals s.heap news) (hl : (l, listOf (strValues ts).toArray k) ∈ news) (hcm : m nCm = some (.ref l)) (hs₁ : ∃ h tk, s = { s₁ with heap := h, toks := tk })
    (turn : ∀ i c t ti h tk e oe it oi, i < ts.length → ts.length ≤ 1000 → (minL a b)[i]? = some c → i < (maxL a b).length → (maxL a b).length ≤ 1000 → KC a b i → Fr h₀ env.locals h (fun y => if y = nCc then some (.str c t) else if y = nI then some (.int i ti) else m y) → News h₀ env.locals h ((e, oe) :: (it, oi) :: news) →
      wpAny (model prog w) A (execs body env) (EnumPost h₀ env.locals m nI nCc ((e, oe) :: (it, oi) :: news) (KC a b (i + 1)) { s with heap := h, toks := tk } (NamePost h₀ env.locals m s₁ news nCm nI nCc (lcp a b))) (fun _ _ => False) { s with heap := h, toks := tk }) :
    wpAny (model prog w) A (call (.type "enumerate") [.ref l]) (ForSrc9 prog w A env (.Tuple [.Name nI pi, .Name nCc pv] x1 pt) body (NamePost h₀ env.locals m s₁ news nCm nI nCc (lcp a b))) E s := by
  obtain ⟨hL1, hL2⟩ := minL_len ha hb h1 h2
  have hlen : ts.length = (minL a b).length := by rw [← hmin, List.length_map]
  obtain ⟨h₁, tk₁, rfl⟩ := hs₁
  refine call_enum9 (KC a b) hh hxi hxv hp F N hl KC.zero (fun i c t ti h tk e oe it oi hi hK F' N' => ?_) (fun hK h tk m₁ hm F' N' => ?_)
  · have hi' : i < ts.length := (List.getElem?_eq_some_iff.mp hi).1
    refine turn i c t ti h tk e oe it oi hi' (by omega) ?_ (hK.bound (hlen ▸ hi')) hL2 hK F' N'
    rw [← hmin, List.getElem?_map, hi]; rfl
  · exact NamePost.mk F' N' hl ((hm _ (by decide) (by decide)).trans hcm) (fun z _ z2 z3 => hm z z2 z3) (hmin.trans (KC.whole (hlen ▸ hK))) (fun p hp => hp)
theorem item_natC {value slice : Expr} {a : Addr} {ps : List (Str × Tok)} {g : List Str} {i : Nat} {u : Tok} {Q : Value → Shared → Prop} (hl : s.heap.IsList a (strValues ps).toArray)
    (hg : ps.map (·.1) = g) (h1 : i < g.length) (hb : g.length ≤ 1000) (h : ∀ y t', g[i]? = some y → Q (.str y t') s)
    (hs : subscripted slice false (.ref a) (.int (i : Int) u) = operate [.ref a, .int (i : Int) u] (getItem (.ref a) (.int (i : Int) u))) :
    wpAny (model prog w) A (subscriptTail value slice (.ref a) (.int (i : Int) u)) Q E s := by
  subst hg
  rw [List.length_map] at h1 hb
  exact item_nat hl (by omega) h1 h hs
theorem stop_eq {ts : List (Str × Tok)} {a b : List Str} {i : Nat} {c d : Str} (hmin : ts.map (·.1) = minL a b) (hK : KC a b i) (h1 : (minL a b)[i]? = some c) (h2 : (maxL a b)[i]? = some d) (e : (c != d) = true) : (ts.take i).map (·.1) = lcp a b := by
  rw [List.map_take, hmin]; exact hK.stop h1 h2 e
theorem commonF_eq {x y : Str} {qs1 ps1 qs2 ps2 cs : List (Str × Tok)}
    (h : cs.map (·.1) = lcp (qs1.map (fun x => x.1)) (qs2.map (fun x => x.1))) (f1 : qs1.map (fun x => x.1) = (ps1.map (fun x => x.1)).filter keepC) (f2 : qs2.map (fun x => x.1) = (ps2.map (fun x => x.1)).filter keepC) (e1 : ps1.map (fun x => x.1) = Txt.split x (Str.ofString "/")) (e2 : ps2.map (fun x => x.1) = Txt.split y (Str.ofString "/")) : cs.map (·.1) = lcp (compsF x) (compsF y) := by
  rw [h, f1, f2, e1, e2]; rfl
theorem lcp_le : ∀ a b : List Str, (lcp a b).length ≤ a.length
  | [], _ => Nat.le_refl _
  | _ :: _, [] => Nat.zero_le _
  | x :: xs, y :: ys => by
    simp only [lcp]
    split
    · simp only [List.length_cons]; exact Nat.succ_le_succ (lcp_le xs ys)
    · exact Nat.zero_le _
theorem lcp_mem : ∀ {a b : List Str} {c : Str}, c ∈ lcp a b → c ∈ a
  | [], _, _, h => by simp [lcp] at h
  | _ :: _, [], _, h => by simp [lcp] at h
  | x :: xs, y :: ys, c, h => by
    simp only [lcp] at h
    split at h
    · rcases List.mem_cons.mp h with rfl | h
      · exact .head _
      · exact .tail _ (lcp_mem h)
    · simp at h
theorem common_facts {x : Str} {g : List Str} {cs : List (Str × Tok)} (hx : x.length ≤ 300) (h : cs.map (·.1) = lcp (compsF x) g) : cs.length ≤ 400 ∧ ∀ d ∈ cs.map (·.1), d.length ≤ 1000 := by
  refine ⟨?_, fun d hd => ?_⟩
  · have h1 := lcp_le (compsF x) g
    rw [← h, List.length_map] at h1
    have h2 : (compsF x).length ≤ (Txt.split x (Str.ofString "/")).length := List.length_filter_le _ _
    have h3 := split_len x (Str.ofString "/")
    omega
  · rw [h] at hd
    have := part_short ((List.mem_filter.mp (lcp_mem hd)).1)
    omega
theorem commonF_1 {x y : Str} {cs : List Str} (h : Txt.startswith x (Str.ofString "/") = true) (e : cs = lcp (compsF x) (compsF y)) : Str.ofString "/" ++ Txt.join (Str.ofString "/") cs = commonF x y := by
  unfold commonF; rw [if_pos h, e]
theorem commonF_2 {x y : Str} {cs : List Str} (h : Txt.startswith x (Str.ofString "/") = false) (e : cs = lcp (compsF x) (compsF y)) : Str.ofString "" ++ Txt.join (Str.ofString "/") cs = commonF x y := by
  unfold commonF; rw [if_neg (ne_true_of_eq_false h), e]
end
end Mine
end

section -- X6
open PySem PySem.W PyProof.Rows PySem.Spec PySem.Calls PySem.SeqAt
set_option Elab.async false
set_option maxRecDepth 100000
namespace Mine
theorem ne_list_cell {h₀ h : Heap} {L a b : Addr} {news : List (Addr × Obj)} {vs : Array Value} {k : Nat} {o : Obj} {v : Option Value} (N : News h₀ L h news) (h1 : (a, listOf vs k) ∈ news) (h2 : (b, o) ∈ news) (hd : o.data = .cell v) : a ≠ b := fun q => by
  have e1 := (N _ h1).1
  have e2 := (N _ h2).1
  dsimp only at e1 e2
  rw [q, e2] at e1
  injection e1 with e1
  rw [e1] at hd
  cases hd
section
variable {prog : Program} {w : World} {A : Around} {E : Value → Shared → Prop} {s : Shared} {h₀ : Heap} {L : Addr} {m : Str → Option Value} {news : List (Addr × Obj)}
theorem rng_all : ∀ (ps qs : List (Str × Tok)), ps.length = qs.length → (List.range (strValues ps).toArray.size).all (fun j => valEq ((strValues ps).getD j .none) ((strValues qs).getD j .none)) = (ps.map (·.1) == qs.map (·.1))
  | [], [], _ => rfl
  | p :: ps, q :: qs, h => by
    have ih := rng_all ps qs (by simpa using h)
    rw [List.size_toArray] at ih ⊢
    unfold strValues at ih ⊢
    rw [List.map_cons, List.map_cons, List.length_cons, List.range_succ_eq_map, List.all_cons, List.all_map]
    show (_ && (List.range (ps.map fun p => Value.str p.1 p.2).length).all (fun j => valEq ((ps.map fun p => Value.str p.1 p.2).getD j .none) ((qs.map fun p => Value.str p.1 p.2).getD j .none))) = _
    rw [ih]; rfl
/-- equality of two lists of texts -/
theorem eq_strLists {a b : Addr} {ps qs : List (Str × Tok)} {k k2 : Nat} {Q : Value → Shared → Prop} (N : News h₀ L s.heap news) (ha : (a, listOf (strValues ps).toArray k) ∈ news) (hb : (b, listOf (strValues qs).toArray k2) ∈ news) (hu : A.units < cLine)
    (h : Q (.bool (ps.map (·.1) == qs.map (·.1))) s) : wpAny (model prog w) A (compareOp .Eq (.ref a) (.ref b)) Q E s := by
  by_cases e : ps.length = qs.length
  · refine cmp_ofEq (RcAt.lists (e := fun j => valEq ((strValues ps).getD j .none) ((strValues qs).getD j .none)) (News.isList N ha) (News.isList N hb) (by simp [sv_len, e]) hu (fun j h1 h2 => ?_) prog w E Q ?_)
    · have h1' : j < ps.length := by simpa [sv_len] using h1
      have h2' : j < qs.length := by simpa [sv_len] using h2
      have g1 : (strValues ps).toArray[j] = .str ps[j].1 ps[j].2 := by simp [strValues]
      have g2 : (strValues qs).toArray[j] = .str qs[j].1 qs[j].2 := by simp [strValues]
      have g3 : (strValues ps).getD j .none = .str ps[j].1 ps[j].2 := by simp [strValues, h1']
      have g4 : (strValues qs).getD j .none = .str qs[j].1 qs[j].2 := by simp [strValues, h2']
      rw [g1, g2, g3, g4]
      exact EqAt.str_str _ _ _ _
    · rw [rng_all ps qs e]; exact h
  · refine cmp_ofEq (RcAt.lists_lengths (News.isList N ha) (News.isList N hb) (by simp [sv_len, e]) hu prog w E Q ?_)
    have : (ps.map (·.1) == qs.map (·.1)) = false := by
      rw [beq_eq_false_iff_ne]
      intro q
      exact e (by simpa using congrArg List.length q)
    rw [this] at h
    exact h
theorem sl_uptoG {L : Addr} {value slice : PySem.Expr} {l : Addr} {ps : List (Str × Tok)} {n i : Nat} {u : Tok} {Q : Value → Shared → Prop} (F : Fr h₀ L s.heap m) (N : News h₀ L s.heap news) (hl : (l, listOf (strValues ps).toArray n) ∈ news) (hz : ps.length ≤ 100000)
    (h : ∀ D h', Fr h₀ L h' m → News h₀ L h' ((D, listOf (strValues (ps.take i)).toArray 0) :: news) → (∀ p ∈ news, p.1 < D) → Q (.ref D) { s with heap := h' })
    (hs : subscripted slice false (.ref l) (.ref s.heap.objs.size) = operate [.ref s.heap.objs.size, .ref l] (getItem (.ref l) (.ref s.heap.objs.size))) (ht : ∀ r, letTemporaryGo value (.ref l) r = pure ()) :
    wpAny (model prog w) A (subscriptTail value slice (.ref l) (.ref s.heap.objs.size)) Q E { s with heap := s.heap.push { cls := .type "slice", data := .fields #[.none, .int (i : Int) u, .none] } } := by
  refine kms_slice_lit (zs := strValues (ps.take i)) F N (News.isList N hl) .none (.int _ _) ?_ h hs ht (by rw [List.size_toArray, sv_len, sizeLine_eq]; omega)
  show ((strValues ps).drop 0).take (kms_hi (some (i : Int)) (strValues ps).length - 0) = _
  have e : kms_hi (some (i : Int)) (strValues ps).length = min i ps.length := by
    show (if (i : Int) < 0 then (strValues ps).length - (-(i : Int)).toNat else min (i : Int).toNat (strValues ps).length) = _
    rw [if_neg (by omega), sv_len]
    simp
  rw [List.drop_zero, Nat.sub_zero, e]
  unfold strValues
  rw [List.map_take]
  by_cases hi : i ≤ ps.length
  · rw [Nat.min_eq_left hi]
  · rw [Nat.min_eq_right (by omega), List.take_of_length_le (by simp), List.take_of_length_le (by simp; omega)]
end
section
variable {prog : Program} {w : World} {A : Around} {E : Value → Shared → Prop} {s : Shared} {h₀ : Heap} {L : Addr} {m : Str → Option Value} {news : List (Addr × Obj)}
theorem len_strs {l : Addr} {ps : List (Str × Tok)} {n : Nat} {Q : Value → Shared → Prop} (N : News h₀ L s.heap news) (hl : (l, listOf (strValues ps).toArray n) ∈ news) (hz : ps.length ≤ 100000)
    (h : ∀ t k, Q (.int (ps.length : Int) t) { s with toks := k }) : wpAny (model prog w) A (call (.builtin "len") [.ref l]) Q E s := by
  refine len_list (News.isList N hl) (by rw [List.size_toArray, sv_len]; omega) ?_
  rw [List.size_toArray, sv_len]
  exact h _ _
theorem len_any {l : Addr} {vs : List Value} {Q : Value → Shared → Prop} (N : News h₀ L s.heap news) (hl : (l, LCg.lst vs) ∈ news) (hz : vs.length ≤ 100000)
    (h : ∀ t k, Q (.int (vs.length : Int) t) { s with toks := k }) : wpAny (model prog w) A (call (.builtin "len") [.ref l]) Q E s := by
  refine len_list (News.isList N hl) (by rw [List.size_toArray]; omega) ?_
  rw [List.size_toArray]
  exact h _ _
theorem pieces_len {x y : Str} {qs : List (Str × Tok)} (h : qs.map (·.1) = piecesF x y) : qs.length ≤ x.length + 3 := by
  have e := congrArg List.length h
  rw [List.length_map] at e
  have h1 : (piecesF x y).length ≤ (Txt.split x (Str.ofString "/")).length + 1 := by
    unfold piecesF
    rw [List.length_append]
    refine Nat.add_le_add (Nat.le_trans (List.length_filter_le _ _) ?_) (by simp)
    rw [List.length_dropLast]; omega
  have := split_len x (Str.ofString "/")
  omega
end
section
variable {prog : Program} {w : World} {A : Around} {h₀ : Heap} {L : Addr} {m : Str → Option Value} {env : Env} {ct elt : Expr} {x : Str} {scope : Scope} {cl : List (Str × Addr)} {s : Shared} {Fin : List Value → List (Addr × Obj) → Prop} {news : List (Addr × Obj)}
/-- `[k for k in range(1, ..) if ..]` -/
theorem comp_range {n : Nat} (keep : Nat → Bool)
    (turn : ∀ i t I oI C oC D m₂ ys h tk (E' : Value → Shared → Prop), i < n → LCg.NsObj oC m₂ → m₂ x = some (.int ((i + 1 : Nat) : Int) t) → Fr h₀ L h m → News h₀ L h ((I, oI) :: (C, oC) :: (D, LCg.lst ys) :: news) →
      wpAny (model prog w) A (isTrue ct (compEnvC scope cl C env) (eval ct (compEnvC scope cl C env))) (fun b s' => if b = true then keep i = true ∧ wpAny (model prog w) A (eval elt (compEnvC scope cl C env)) (fun y s'' => y = .int ((i + 1 : Nat) : Int) t ∧ CompFin h₀ L m { s with heap := h, toks := tk } I oI C oC D (LCg.lst ys) news s'') E' s'
        else keep i = false ∧ CompFin h₀ L m { s with heap := h, toks := tk } I oI C oC D (LCg.lst ys) news s') E' { s with heap := h, toks := tk })
    (fin : ∀ ys : List Value, ys.length = ((List.range n).filter keep).length → Fin ys news) : LCt.CompRestT prog w A h₀ L m env ct elt x scope cl s (fun _ => True) (fun i v => ∃ t, v = .int (1 + (i : Int)) t) Fin n 0 [] news := by
  have key : ∀ (j i : Nat) (ys : List Value), i + j = n → ys.length = ((List.range i).filter keep).length → LCt.CompRestT prog w A h₀ L m env ct elt x scope cl s (fun _ => True) (fun i v => ∃ t, v = .int (1 + (i : Int)) t) Fin j i ys news := by
    intro j
    induction j with
    | zero =>
      intro i ys hi hy
      have e : i = n := by omega
      subst e
      exact LCt.CompRestT.zero (fin ys hy)
    | succ j ih =>
      intro i ys hi hy
      refine LCt.CompRestT.succ ?_
      intro v I oI C oC D m₂ h tk E' hv hC hx F N off ne
      obtain ⟨t, rfl⟩ := hv
      have e1 : (1 + (i : Int)) = ((i + 1 : Nat) : Int) := by push_cast; omega
      rw [e1] at hx
      have hs : (List.range (i + 1)).filter keep = (List.range i).filter keep ++ [i].filter keep := by rw [List.range_succ, List.filter_append]
      refine wpAny_mono (turn i t I oI C oC D m₂ ys h tk E' (by omega) hC hx F N) (fun b s₂ hq => ?_) fun _ _ e => e
      cases b with
      | true =>
        simp only [_root_.if_true] at hq ⊢
        refine wpAny_mono hq.2 (fun y s₃ hr => ?_) fun _ _ e => e
        obtain ⟨rfl, h', tk', all, rfl, F', N', hsub⟩ := hr
        refine LCg.CompEnd.intro (S := fun _ => True) F' N' news hsub off True.intro ?_
        refine ih (i + 1) _ (by omega) ?_
        rw [hs]
        simp [hq.1, hy]
      | false =>
        simp only [Bool.false_eq_true, _root_.if_false] at hq ⊢
        obtain ⟨h', tk', all, rfl, F', N', hsub⟩ := hq.2
        refine LCg.CompEnd.intro (S := fun _ => True) F' N' news hsub off True.intro ?_
        refine ih (i + 1) _ (by omega) ?_
        rw [hs]
        simp [hq.1, hy]
  exact key n 0 [] (by omega) (by simp)
end
/-- how many beginnings of two lists are alike -/
noncomputable def cntF (p q : List Str) : Nat := ((List.range p.length).filter fun i => p.take (i + 1) == q.take (i + 1)).length
section
variable {prog : Program} {w : World} {A : Around} {h₀ : Heap} {L : Addr} {m : Str → Option Value} {env : Env} {ct elt : Expr} {x : Str} {scope : Scope} {cl : List (Str × Addr)} {s : Shared} {Fin : List Value → List (Addr × Obj) → Prop} {news : List (Addr × Obj)}
theorem comp_range2 {n : Nat} {qs1 qs2 : List (Str × Tok)} {p1 p2 : List Str} (h1 : qs1.map (·.1) = p1) (h2 : qs2.map (·.1) = p2) (hn : n = qs1.length)
    (turn : ∀ i t I oI C oC D m₂ ys h tk (E' : Value → Shared → Prop), LCg.NsObj oC m₂ → m₂ x = some (.int ((i + 1 : Nat) : Int) t) → Fr h₀ L h m → News h₀ L h ((I, oI) :: (C, oC) :: (D, LCg.lst ys) :: news) →
      wpAny (model prog w) A (isTrue ct (compEnvC scope cl C env) (eval ct (compEnvC scope cl C env))) (fun b s' => if b = true then ((qs1.take (i + 1)).map (·.1) == (qs2.take (i + 1)).map (·.1)) = true ∧ wpAny (model prog w) A (eval elt (compEnvC scope cl C env)) (fun y s'' => y = .int ((i + 1 : Nat) : Int) t ∧ CompFin h₀ L m { s with heap := h, toks := tk } I oI C oC D (LCg.lst ys) news s'') E' s'
        else ((qs1.take (i + 1)).map (·.1) == (qs2.take (i + 1)).map (·.1)) = false ∧ CompFin h₀ L m { s with heap := h, toks := tk } I oI C oC D (LCg.lst ys) news s') E' { s with heap := h, toks := tk })
    (fin : ∀ ys : List Value, ys.length = cntF p1 p2 → ys.length ≤ qs1.length → Fin ys news) : LCt.CompRestT prog w A h₀ L m env ct elt x scope cl s (fun _ => True) (fun i v => ∃ t, v = .int (1 + (i : Int)) t) Fin n 0 [] news := by
  subst hn
  have e : ∀ i, ((qs1.take (i + 1)).map (·.1) == (qs2.take (i + 1)).map (·.1)) = (p1.take (i + 1) == p2.take (i + 1)) := fun i => by rw [← h1, ← h2, List.map_take, List.map_take]
  refine comp_range (fun i => (qs1.take (i + 1)).map (·.1) == (qs2.take (i + 1)).map (·.1)) (fun i t I oI C oC D m₂ ys h tk E' hi => turn i t I oI C oC D m₂ ys h tk E') (fun ys hy => fin ys ?_ ?_)
  · rw [hy]
    unfold cntF
    rw [← h1, List.length_map, h1]
    congr 1
    exact List.filter_congr fun i _ => e i
  · rw [hy]
    exact Nat.le_trans (List.length_filter_le _ _) (by rw [List.length_range]; exact Nat.le_refl _)
end
theorem pieces_mem {x y : Str} {qs : List (Str × Tok)} {n : Nat} (h : qs.map (·.1) = piecesF x y) (hx : x.length ≤ 100) (hy : y.length ≤ 300) : ∀ d ∈ (qs.take n).map (·.1), d.length ≤ 1000 := fun d hd => by
  have hd' : d ∈ piecesF x y := by
    rw [← h]
    rw [List.map_take] at hd
    exact List.mem_of_mem_take hd
  unfold piecesF at hd'
  rcases List.mem_append.mp hd' with z | z
  · have := part_short (List.dropLast_subset _ (List.mem_filter.mp z).1)
    omega
  · rw [List.mem_singleton.mp z]
    exact Nat.le_trans (lastOf_len hy) (by decide)
noncomputable def dueF (x fx y fy : Str) : Str := (if (Txt.slice x none (some 1) == Str.ofString "/") = true then Str.ofString "/" else Str.ofString "") ++ Txt.join (Str.ofString "/") ((piecesF x fx).take (cntF (piecesF x fx) (piecesF y fy)))
theorem dueF_1 {x fx y fy : Str} {qs : List (Str × Tok)} {n : Nat} (h1 : (Txt.slice x none (some 1) == Str.ofString "/") = true) (hn : n = cntF (piecesF x fx) (piecesF y fy)) (h : qs.map (·.1) = piecesF x fx) :
    Str.ofString "/" ++ Txt.join (Str.ofString "/") ((qs.take n).map (·.1)) = dueF x fx y fy := by unfold dueF; rw [if_pos h1, ← hn, ← h, List.map_take]
theorem dueF_2 {x fx y fy : Str} {qs : List (Str × Tok)} {n : Nat} (h1 : (Txt.slice x none (some 1) == Str.ofString "/") = false) (hn : n = cntF (piecesF x fx) (piecesF y fy)) (h : qs.map (·.1) = piecesF x fx) :
    Str.ofString "" ++ Txt.join (Str.ofString "/") ((qs.take n).map (·.1)) = dueF x fx y fy := by unfold dueF; rw [if_neg (by rw [h1]; decide), ← hn, ← h, List.map_take]
theorem dueE_1 {c x fx y fy : Str} {qs : List (Str × Tok)} {n : Nat} (hd : c = dueF x fx y fy) (h1 : (Txt.slice x none (some 1) == Str.ofString "/") = true) (hn : n = cntF (piecesF x fx) (piecesF y fy)) (h : qs.map (·.1) = piecesF x fx) :
    (c == Str.ofString "/" ++ Txt.join (Str.ofString "/") ((qs.take n).map (·.1))) = true := by rw [dueF_1 h1 hn h, hd]; exact beq_self_eq_true _
theorem dueE_2 {c x fx y fy : Str} {qs : List (Str × Tok)} {n : Nat} (hd : c = dueF x fx y fy) (h1 : (Txt.slice x none (some 1) == Str.ofString "/") = false) (hn : n = cntF (piecesF x fx) (piecesF y fy)) (h : qs.map (·.1) = piecesF x fx) :
    (c == Str.ofString "" ++ Txt.join (Str.ofString "/") ((qs.take n).map (·.1))) = true := by rw [dueF_2 h1 hn h, hd]; exact beq_self_eq_true _
end Mine
end

section -- U_lpieces
set_option compiler.extract_closed false
open PySem PySem.W PyProof.Rows PySem.Calls
local macro_rules | `(tactic| walk_at "mine pad 8") => `(tactic| fail)
open PySem PySem.W PyProof.Rows PySem.Calls
set_option Elab.async false
set_option maxRecDepth 100000
set_option maxHeartbeats 0
namespace Mine
local macro_rules | `(tactic| walk_at $s:str) => `(tactic| k_extra $s)

local macro_rules | `(tactic| walk_at "CompSrcT") => `(tactic| (k_here; k_dflt (refine LCt.CompSrcT.ledger (by rfl) (by k_asm) (by k_asm) (by k_mem) (by (rw [List.size_toArray, sv_len, sizeLine_eq]; (try simp only [List.length_dropLast]); omega)) ?_); intro g'; k_dflt (refine' comp_filter (fun c => !([Str.ofString "", Str.ofString "."].any fun x => x == c)) (by rw [List.size_toArray, sv_len]) (.inr ⟨_, by k_mem, rfl, _, rfl⟩) (fun i v hv => by simpa using hv) ?kt ?kf; (case' kt => intro c' t' I' oI' C' oC' D' m' ys' h' tk' E' hc' hC' hx' F' N'); (case' kf => (unfold LCg.FinE; intro D' h' tk' F' N' o1')))))
theorem con_law_pieces (w : World) (mean : ExcName → Option Value) (mg mb : Str → Option Value) (news : List (Addr × Obj)) (x y : Str) (t u : Tok) (hx : x.length ≤ 1000) (hy : y.length ≤ 1000) :
    Con w mean mg mb 10 240 news [.str x t, .str y u] (RList (piecesF x y)) := by
  k_with_none
  k_with "mine sz" => (first | assumption | omega | ((simp only [Str.length_append] at *); omega))
  k_with "newList" => ((k_here; k_dflt (refine' newList_K (hsz := Nat.le_of_ble_eq_true rfl) (by k_asm) (by k_asm) ?_; k_whole); intro l' h' F' N' l1))
  k_with "exec For Name Name cons nil" => ((k_here; (rename Fr _ _ _ _ => lF'); (with_unfolding_all refine' For_invVF lF' (by exact rfl) (by exact rfl) ?_; k_whole)))
  k_with "compareOp NotEq ref ref" => ((k_here; (with_reducible show wpAny _ _ (compareOp CmpOp.NotEq (Value.ref _) (Value.ref _)) _ _ _); k_dflt (refine' ne_nil (by k_asm) (by k_mem) (by k_mem) (by ktr_units) ?_)))
  k_with "subscriptTail Name Slice ref ref" => ((k_here; k_dflt (refine' sl_init (by k_asm) (by k_asm) (by k_mem) (by (rw [sizeLine_eq]; omega)) ?_ (by with_unfolding_all rfl) (by (intro _; with_unfolding_all rfl))); intro D' h' F' N' l1))
  k_with "mine szl" => (first | (rw [sizeLine_eq]; (try simp only [List.length_cons, List.length_nil, List.length_replicate, List.length_append]); omega) | (refine Nat.le_trans (Nat.add_le_add_right (List.length_filter_le _ _) _) ?_; rw [sizeLine_eq]; (try simp only [List.length_cons, List.length_nil, List.length_dropLast]); omega))
  k_with "binaryOp Add ref ref" => ((k_here; k_dflt (first
    | (refine' add_strs (by k_asm) (by k_asm) (by k_mem) (by k_mem) (by walk_at "mine szl") ?_)
    | (refine' add_strs (qs := [(_, _)]) (by k_asm) (by k_asm) (by k_mem) (by k_mem) (by walk_at "mine szl") ?_)); intro D' h' F' N' l1))
  k_with "binaryOp Mult ref int" => ((k_here; k_dflt (refine' mul_strs (c := Str.ofString "..") (by k_asm) (by k_asm) (by k_mem) (by omega) (by omega) ?_); intro D' h' F' N' l1))
  k_with "call builtin:str.join" => ((k_here; k_dflt (refine' join_strs (by k_asm) (by k_mem) (by first | assumption | exact dd_mem (by assumption)) (by ((try simp only [List.length_append, List.length_replicate]); omega)) (by decide) ?_); intro t' k' hj'))
  k_with "mine ne" => ((intro e9; subst e9; first | (exact absurd (show List.isEmpty ([] : List (Str × Tok)) = false by with_reducible assumption) (by decide)) | simp_all))
  k_with "subscriptTail Name UnaryOp ref int" => ((k_here; k_dflt (refine' item_lastT (by exact News.isList (by k_asm) (by k_mem)) (by walk_at "mine ne") ?_ (by with_unfolding_all rfl)); intro y' t' hl'))
  k_with "truthy str" => ((k_here; k_dflt (refine' SBL.truthy (by (first | omega | ((try simp only [Str.length_append]); omega))) ?_)))
  k_with "truthy ref" => ((k_here; k_dflt (refine' truthy_strs (by k_asm) (by k_mem) (by omega) ?_); intro k'))
  k_with "call builtin:str.split" => ((k_here; (with_reducible rename Fr _ _ _ _ => F'); (with_reducible rename News _ _ _ _ => N'); (refine splitN1 F' N' (by decide) ?_ (by rw [sizeLine_eq]; omega)); intro l' h' k' hsp' F' N'))
  k_with "call builtin:str.join" => ((k_here; k_dflt (refine' join_strs (by k_asm) (by k_mem) (by assumption) (by omega) (by decide) ?_); intro t' k' hj'))
  k_with "call builtin:str.split" => ((k_here; (with_reducible rename Fr _ _ _ _ => F'); (with_reducible rename News _ _ _ _ => N'); (refine splitN1 F' N' (by decide) ?_ (by rw [sizeLine_eq]; omega)); intro l' h' k' hsp' F' N'; (have hsl' := split_len9 hsp'); (try dsimp only)))
  k_with "eval ListComp" => ((k_here; k_dflt (refine LCt.ListComp_T (F₀ := by k_asm) (by with_unfolding_all rfl) (by decide) (by rfl) (by decide) (by rfl) ?_)))
  k_with "And" => ((k_here; first
    | exact ⟨rfl, CompFin.mk (by k_asm) (by k_asm) (by intro p hp; repeat' (first | exact hp | refine List.Mem.tail _ ?_))⟩
    | (refine ⟨by first | assumption | exact keep_t (by assumption) | exact keep_f (by assumption), ?_⟩)))
  k_with "CompFin" => ((k_here; exact CompFin.mk (by k_asm) (by k_asm) (by intro p hp; repeat' (first | exact hp | refine List.Mem.tail _ ?_))))
  unfold Con
  k_fill
  w_top off
  intro dp un gd cn cs a ccd cl outer A₀ base h₀ L m s Q E B F X N T hk hdp hu hret
  refine wpAny_call ?_
  k_dflt ktr_enter
  k_steps
  all_goals (refine' hret _ [_] _ _ ?eF ?eN ⟨_, _, _, rfl, rfl, ?e⟩; (case eF => k_asm); (case eN => exact news_end1 (by k_asm) (by intro p hp; repeat' (first | exact hp | refine List.Mem.tail _ ?_))); (case e => exact pieces_1 (by assumption) (by assumption) (by assumption)))

end Mine
end

section -- U_common
set_option compiler.extract_closed false
open PySem PySem.W PyProof.Rows PySem.Calls
set_option Elab.async false
set_option maxRecDepth 100000
set_option maxHeartbeats 0
namespace Mine
local macro_rules | `(tactic| walk_at $s:str) => `(tactic| k_extra $s)

theorem map_fsp {w : World} {mean : ExcName → Option Value} {mg mb : Str → Option Value} {x : Str} {t : Tok} {dp un : Nat} {gd : Option (List Code)} {cn : Str} {cs : Scope} {a : Addr} {ccd : Value} {cl : List (Str × Addr)} {outer : List Env} {A A₀ : Around} {base h₀ : Heap} {L : Addr} {m : Str → Option Value} {s : Shared}
    (hA : A = ktrTop dp un gd cn cs L a ccd cl outer) (B : Below A₀ base outer h₀) (X : Frag.In (hk.heap_1 w.params) h₀) (T : Top view0 (looseW view0 []) mean mg mb h₀) (hk : cs.kind = .function) (hdp : dp + 3 < recursionLimit) (hu : un + 100 < cLine) :
    MapCall PySem.Challenge.rw_ik0008_01.row.prog w A.in1.in1.in1.in1 h₀ L m (.ref 108) (.str x t) s := fun h tk led F N => hA ▸
  con_useV (s := { s with heap := h, toks := tk }) (un := un + 4) (con_fspath w mean mg mb led x t) B F X N T hk hdp (by omega) (fun h' tk' F' N' => ⟨rfl, h', tk', rfl, F', N'⟩)
theorem allLt_ne {d e : Addr} : ∀ {l : List (Addr × Obj)}, AllLt d l → d ≤ e → ∀ p ∈ l, p.1 ≠ e := fun h hde p hp => Nat.ne_of_lt (Nat.lt_of_lt_of_le (ktn_ltOf h p hp) hde)
structure NewsBelow (d : Addr) (l : List (Addr × Obj)) : Prop where
  lt : AllLt d l
theorem below_ne {d e : Addr} {l : List (Addr × Obj)} (h : NewsBelow d l) (hde : @LE.le Nat _ d e) : ∀ p ∈ l, p.1 ≠ e := allLt_ne h.lt hde
local macro_rules | `(tactic| k_all) => `(tactic| exact below_ne (by assumption) (by omega))
local macro_rules | `(tactic| walk_at "call type:tuple") => `(tactic| (k_here; (rename (_ ≠ _ ∧ _ ≠ _ ∧ _) => hm'); k_dflt (refine' call_tuple_map rfl ?k1 ?k2 hm' ?k3 ?kt ?_; (case k1 => k_asm); (case k2 => k_asm); (case k3 => k_mem); (case kt => (rintro v9 (hv9 | hv9) s9 <;> ((dsimp only at hv9); (rw [hv9]); refine' map_fsp ?a ?b ?x ?t ?k ?d ?u; (case a => exact rfl); (case b => k_asm); (case x => k_asm); (case t => k_asm); (case k => first | exact rfl | assumption); (case d => ktr_room); (case u => ktr_units))))); clear hm'; intro D' h' tk' F' N' l1; (try k_lt l1); (try dsimp only)))

local macro_rules | `(tactic| walk_at "SrcT") => `(tactic| (k_here; k_dflt (refine SrcT.mk (by rfl) (by k_asm) (by k_asm) (by k_mem) (by rw [sizeLine_eq]; exact Nat.le_of_ble_eq_true rfl) ?_); intro g'; k_dflt (refine' comp_split2 ?hm ?t1 ?t2 ?fin; (case hm => k_mem); (case' t1 => intro I' oI' C' oC' D' m' h' tk' E' hC' hx' F' N'); (case' t2 => intro l1' ps1' k1' I' oI' C' oC' D' m' h' tk' E' hC' hx' F' N'); (case' fin => (intro l1' ps1' k1' l2' ps2' k2' e1' e2' o1' o2'; (have hsl1' := split_len9 e1'); (have hsl2' := split_len9 e2'))))))
local macro_rules | `(tactic| walk_at "SrcS") => `(tactic| (k_here; k_dflt (refine' SrcS.mk2 (sl := Str.ofString "/") ?hh ?k1 ?k2 ?hm ?t1 ?t2 ?fin; (case hh => exact rfl); (case k1 => k_asm); (case k2 => k_asm); (case hm => k_mem); (case' t1 => (unfold SetTurn; intro I' oI' C' oC' D' oD' m' h' tk' E' hC' hx' F' N')); (case' t2 => (unfold SetTurn; intro I' oI' C' oC' D' oD' m' h' tk' E' hC' hx' F' N')); (case' fin => intro D' h' tk' F' N'))))
local macro_rules | `(tactic| walk_at "CompSrcT") => `(tactic| (k_here; k_dflt (refine LCt.CompSrcT.ledger (by rfl) (by k_asm) (by k_asm) (by k_mem) (by (rw [List.size_toArray, sv_len, sizeLine_eq]; omega)) ?_); intro g'; k_dflt (refine' comp_filterB keepC ?hp ?hn ?hS ?hP (fun c' t' I' oI' C' oC' D' m' ys' h' tk' E' hcl' hC' hx' F' N' => ?_) (fun D' h' tk' F' N' o1' => ?_); (case hS => exact .inr ⟨_, by k_mem, rfl, _, rfl⟩); (case hn => (rw [List.size_toArray, sv_len])); (case hP => exact (fun i v hv => by simpa using hv)); (case hp => assumption))))
local macro_rules | `(tactic| walk_at "CompSrc") => `(tactic| (k_here; k_dflt (refine LCg.CompSrc.ledger (by rfl) (by k_asm) (by k_asm) (by k_mem) (by rw [sizeLine_eq]; exact Nat.le_of_ble_eq_true rfl) ?_); intro g'; k_dflt (refine' comp_filter2 ?hm ?hm1 ?hm2 ?t1 ?t2 ?fin; (case hm => k_mem); (case hm1 => k_mem); (case hm2 => k_mem); (case' t1 => intro I' oI' C' oC' D' m' h' tk' E' hC' hx' F' N'); (case' t2 => intro l1' ps1' k1' I' oI' C' oC' D' m' h' tk' E' hC' hx' F' N'); (case' fin => (intro l1' ps1' k1' l2' ps2' k2' e1' e2' o1' o2'; (have hla' := filt_le e1' (by assumption)); (have hlb' := filt_le e2' (by assumption)))))))
theorem con_commonpath (w : World) (mean : ExcName → Option Value) (mg mb : Str → Option Value) (news : List (Addr × Obj)) (x y : Str) (t u : Tok) (a₀ : Addr) (hx : x.length ≤ 300) (hy : y.length ≤ 300) (hab : Txt.startswith x (Str.ofString "/") = Txt.startswith y (Str.ofString "/")) :
    Con w mean mg mb 30 193 ((a₀, listOf (strValues [(x, t), (y, u)]).toArray 0) :: news) [.ref a₀] (RStr (commonF x y)) := by
  k_with_none
  k_with "mine sz" => (first | assumption | omega | ((simp only [Str.length_append] at *); omega))
  k_with "call ref" => ((k_here; (with_reducible show wpAny _ _ (PySem.call (Value.ref 108) _) _ _ _); k_dflt (refine' con_useV (con_fspath _ _ _ _ _ _ _) (by k_asm) (by k_asm) (by k_asm) (by k_asm) (by k_asm) (by first | exact rfl | assumption) (by ktr_room) (by ktr_units) ?_; k_whole; intro h9 tk9 F9 N9; (try dsimp only); (try k_fold))))
  k_with "call type:map" => ((k_here; k_dflt (refine' call_map (by k_asm) (by k_asm) (by k_mem) ?_); intro I' T' it' h' F' N' hm'))
  k_with "exec Try" => ((k_here; refine wpAny_Try_except ?_))
  k_with "newList" => ((k_here; k_dflt (refine' newList_K (hsz := Nat.le_of_ble_eq_true rfl) (by k_asm) (by k_asm) ?_; k_whole); intro l' h' F' N' l1))
  k_with "exec For Name Name cons nil" => ((k_here; (rename Fr _ _ _ _ => lF'); (with_unfolding_all refine' For_invVF lF' (by exact rfl) (by exact rfl) ?_; k_whole)))
  k_with "compareOp NotEq ref ref" => ((k_here; (with_reducible show wpAny _ _ (compareOp CmpOp.NotEq (Value.ref _) (Value.ref _)) _ _ _); k_dflt (refine' ne_nil (by k_asm) (by k_mem) (by k_mem) (by ktr_units) ?_)))
  k_with "subscriptTail Name Slice ref ref" => ((k_here; k_dflt (refine' sl_init (by k_asm) (by k_asm) (by k_mem) (by (rw [sizeLine_eq]; omega)) ?_ (by with_unfolding_all rfl) (by (intro _; with_unfolding_all rfl))); intro D' h' F' N' l1))
  k_with "mine szl" => (first | (rw [sizeLine_eq]; (try simp only [List.length_cons, List.length_nil, List.length_replicate, List.length_append]); omega) | (refine Nat.le_trans (Nat.add_le_add_right (List.length_filter_le _ _) _) ?_; rw [sizeLine_eq]; (try simp only [List.length_cons, List.length_nil, List.length_dropLast]); omega))
  k_with "binaryOp Add ref ref" => ((k_here; k_dflt (first
    | (refine' add_strs (by k_asm) (by k_asm) (by k_mem) (by k_mem) (by walk_at "mine szl") ?_)
    | (refine' add_strs (qs := [(_, _)]) (by k_asm) (by k_asm) (by k_mem) (by k_mem) (by walk_at "mine szl") ?_)); intro D' h' F' N' l1))
  k_with "binaryOp Mult ref int" => ((k_here; k_dflt (refine' mul_strs (c := Str.ofString "..") (by k_asm) (by k_asm) (by k_mem) (by omega) (by omega) ?_); intro D' h' F' N' l1))
  k_with "call builtin:str.join" => ((k_here; k_dflt (refine' join_strs (by k_asm) (by k_mem) (by first | assumption | exact dd_mem (by assumption)) (by ((try simp only [List.length_append, List.length_replicate]); omega)) (by decide) ?_); intro t' k' hj'))
  k_with "mine ne" => ((intro e9; subst e9; first | (exact absurd (show List.isEmpty ([] : List (Str × Tok)) = false by with_reducible assumption) (by decide)) | simp_all))
  k_with "subscriptTail Name UnaryOp ref int" => ((k_here; k_dflt (refine' item_lastT (by exact News.isList (by k_asm) (by k_mem)) (by walk_at "mine ne") ?_ (by with_unfolding_all rfl)); intro y' t' hl'))
  k_with "truthy str" => ((k_here; k_dflt (refine' SBL.truthy (by (first | omega | ((try simp only [Str.length_append]); omega))) ?_)))
  k_with "truthy ref" => ((k_here; k_dflt (refine' truthy_strs (by k_asm) (by k_mem) (by omega) ?_); intro k'))
  k_with "call builtin:str.split" => ((k_here; (with_reducible rename Fr _ _ _ _ => F'); (with_reducible rename News _ _ _ _ => N'); (refine splitN1 F' N' (by decide) ?_ (by rw [sizeLine_eq]; omega)); intro l' h' k' hsp' F' N'))
  k_with "call builtin:str.join" => ((k_here; k_dflt (refine' join_strs (by k_asm) (by k_mem) (by assumption) (by omega) (by decide) ?_); intro t' k' hj'))
  k_with "exec Assign cons ListComp" => ((k_here; (with_reducible show wpAny _ _ (exec (Stmt.Assign _ (Expr.ListComp (Expr.Call _ _ _ _) _ _ _) _) _) _ _ _); k_dflt (refine Assign_ListComp_tup (F₀ := by k_asm) (by rfl) (by with_unfolding_all rfl) (by with_unfolding_all rfl) (by decide) (by rfl) (by decide) (by rfl) (by rfl) (by rfl) ?_)))
  k_with "call builtin:str.split" => ((k_here; (with_reducible rename Fr _ _ _ _ => F'); (with_reducible rename News _ _ _ _ => N'); (refine KSpl.split1 F' N' (by decide) ?_ (by rw [sizeLine_eq]; omega)); intro l' r' h' k' hsp' _ F' N' lt'; (try dsimp only)))
  k_with "ListEnd" => ((k_here; first
    | exact ListEnd.mk_new (by k_asm) (by k_asm) (by assumption) (by assumption) (by intro p hp; repeat' (first | exact hp | refine List.Mem.tail _ ?_))
    | exact ListEnd.mk_off (by k_asm) (by k_asm) (filter_fst _ _) (by assumption) (by intro p hp; repeat' (first | exact hp | refine List.Mem.tail _ ?_))))
  k_with "exec Assign cons SetComp" => ((k_here; k_dflt (refine Assign_Tuple ?_ (by with_unfolding_all rfl) (by with_unfolding_all rfl)); k_dflt (refine SetComp_two (F₀ := by k_asm) (by with_unfolding_all rfl) (by decide) (by rfl) (by decide) (by rfl) ?_)))
  k_with "BoolEnd" => ((k_here; exact BoolEnd.mk (by k_asm) (by k_asm) (by intro p hp; repeat' (first | exact hp | refine List.Mem.tail _ ?_))))
  k_with "exec Assign cons ListComp" => ((k_here; (with_reducible show wpAny _ _ (exec (Stmt.Assign _ (Expr.ListComp (Expr.ListComp _ _ _ _) _ _ _) _) _) _ _ _); k_dflt (refine LCg.Assign_ListComp_U (F₀ := by k_asm) (by rfl) (by with_unfolding_all rfl) (by with_unfolding_all rfl) (by decide) (by rfl) (by decide) (by rfl) (by rfl) (by rfl) ?_)))
  k_with "eval ListComp" => ((k_here; k_dflt (refine LCt.ListComp_T (F₀ := by k_asm) (by with_unfolding_all rfl) (by decide) (by rfl) (by decide) (by rfl) ?_)))
  k_with "And" => ((k_here; first
    | exact ⟨rfl, CompFin.mk (by k_asm) (by k_asm) (by intro p hp; repeat' (first | exact hp | refine List.Mem.tail _ ?_))⟩
    | (refine ⟨by first | exact keepC_t (by assumption) (by assumption) | exact keepC_f1 (by assumption) | exact keepC_f2 (by assumption), ?_⟩)))
  k_with "CompFin" => ((k_here; exact CompFin.mk (by k_asm) (by k_asm) (by intro p hp; repeat' (first | exact hp | refine List.Mem.tail _ ?_))))
  k_with "call builtin:min" => ((k_here; k_dflt (refine' min_led9 rfl (by k_asm) (by k_asm) (by k_mem) (by k_mem) (by k_mem) (by ktr_units) ?_); intro r' ts' i' h' tk' hmin' F' N'))
  k_with "call builtin:max" => ((k_here; k_dflt (refine' max_led9 rfl (by k_asm) (by k_asm) (by k_mem) (by k_mem) (by k_mem) (by ktr_units) ?_); intro r' ts' i' h' tk' hmax' F' N'))
  k_with "exec For Tuple Call cons nil" => ((k_here; (with_reducible rename Fr _ _ _ _ => F'); (with_reducible rename News _ _ _ _ => N'); (rename List.map _ _ = minL _ _ => hm9); (refine cut_common hm9 F' N' ?_ (fun h' tk' D' cs' k' u1' u2' hcs' F' N' => ?_)) <;> (try (rename List.map _ _ = lcp _ _ => hcs9; replace hcs9 := commonF_eq hcs9 (by assumption) (by assumption) (by assumption) (by assumption); obtain ⟨hcf1, hcf2⟩ := common_facts (by assumption) hcs9)) <;> (try dsimp only)))
  k_with "call type:enumerate" => ((k_here; k_dflt (refine' call_enumC (by assumption) (by assumption) (by assumption) (by omega) (by omega) (by exact rfl) (by exact rfl) (by exact rfl) (by exact rfl) (by k_asm) (by k_asm) (by k_mem) (by exact rfl) (by exact ⟨_, _, rfl⟩) (fun i' c' t' ti' h' tk' e' oe' it' oi' hi' hl1' hc' hb' hl2' hK' F' N' => ?_))))
  k_with "subscriptTail Name Name ref int" => ((k_here; k_dflt (refine' item_natC (by exact News.isList (by k_asm) (by k_mem)) (by assumption) (by assumption) (by assumption) (fun y' t' hy' => ?_) (by with_unfolding_all rfl))))
  k_with "subscriptTail Name Slice ref ref" => ((k_here; k_dflt (refine' sl_upto (by k_asm) (by k_asm) (by k_mem) (by omega) (by omega) ?_ (by with_unfolding_all rfl) (by (intro _; with_unfolding_all rfl))); intro D' h' F' N' l1))
  k_with "EnumPost" => ((k_here; first
    | (refine EnumPost.next (KC.succ (by assumption) (by assumption) (by assumption) (by assumption)) (by k_asm) (by k_asm) ?_ (by intro p hp; repeat' (first | exact hp | refine List.Mem.tail _ ?_)); (intro z z1 z2; (try simp only [if_neg z1, if_neg z2])); done)
    | (refine EnumPost.brk (NamePost.mk (by k_asm) (by k_asm) (by k_mem) rfl ?_ (stop_eq (by assumption) (by assumption) (by assumption) (by assumption) (by assumption)) (by intro p hp; repeat' (first | exact hp | refine List.Mem.tail _ ?_))); (intro z z1 z2 z3; (try simp only [if_neg z1, if_neg z2, if_neg z3])); done)))
  k_with "assign Tuple" => ((k_here; k_dflt (refine' assign_set_eq (by exact rfl) (by exact rfl) (by exact rfl) (by exact rfl) (by k_asm) (by k_asm) (by k_mem) (by assumption) ?_); intro h' tk' F' N'))
  unfold Con
  k_fill
  w_top off
  intro dp un gd cn cs a ccd cl outer A₀ base h₀ L m s Q E B F X N T hk hdp hu hret
  refine wpAny_call ?_
  k_dflt (refine' code_defC ?k1 ?k2 ?k3 ?k4 ?k5 ?kA ?kF ?kK ?k6 ?k7 ?k8 ?k9 ?kB ?kD ?_ ?c2 ?c3 ?c4; (case kA => exact rfl); (case kF => exact rfl); (case kK => assumption); (case k1 => k_asm); (case k2 => k_asm); (case k3 => k_asm); (case k4 => k_asm); (case k5 => k_asm); (case k6 => k_is); (case k7 => k_is); (case k8 => ktr_room); (case k9 => exact BindsTo.of_eq rfl); (case kB => exact rfl); (case kD => decide +kernel); (case c2 => exact rfl); (case c3 => exact rfl); (case c4 => exact rfl); k_whole; intro g' L' h' tk' cells' FG' F' N' Y' B' X' T' l1; (try k_lt l1); k_cells Y'; (try simp only [List.cons_append, List.nil_append] at N'); (try dsimp only); (try k_fold))
  have hB9 : NewsBelow L' news := ⟨l1.2⟩
  k_steps
  all_goals (refine' hret _ [] _ _ ?eF ?eN ⟨rfl, _, _, rfl, ?e⟩; (case eF => k_asm); (case eN => exact news_end0 (by k_asm) (by intro p hp; repeat' (first | exact hp | refine List.Mem.tail _ ?_))); (case e => with_reducible first | exact commonF_1 (by assumption) (by assumption) | exact commonF_2 (by assumption) (by assumption)))

theorem con_useCP {w : World} {mean : ExcName → Option Value} {mg mb : Str → Option Value} {news : List (Addr × Obj)}
    {dp un : Nat} {gd : Option (List Code)} {cn : Str} {cs : Scope} {a : Addr} {ccd : Value} {cl : List (Str × Addr)} {outer : List Env} {A₀ : Around} {base h₀ : Heap} {L : Addr} {m : Str → Option Value} {s : Shared} {Q E : Value → Shared → Prop} {x y : Str} {t₁ u₁ : Tok} {a₀ : Addr}
    (B : Below A₀ base outer h₀) (F : Fr h₀ L s.heap m) (X : Frag.In (hk.heap_1 w.params) h₀) (N : News h₀ L s.heap ((a₀, listOf #[Value.str x t₁, Value.str y u₁] 0) :: news)) (T : Top view0 (looseW view0 []) mean mg mb h₀) (hk : cs.kind = .function) (hdp : dp + 30 < recursionLimit) (hu : un + 8 * 30 < cLine)
    (hx : x.length ≤ 300) (hy : y.length ≤ 300) (hab : Txt.startswith x (Str.ofString "/") = Txt.startswith y (Str.ofString "/"))
    (ret : ∀ t h' tk', Fr h₀ L h' m → News h₀ L h' ((a₀, listOf #[Value.str x t₁, Value.str y u₁] 0) :: news) → Q (.str (commonF x y) t) { s with heap := h', toks := tk' }) :
    wpAny (model PySem.Challenge.rw_ik0008_01.row.prog w) (ktrTop dp un gd cn cs L a ccd cl outer) (call (.ref 193) [.ref a₀]) Q E s :=
  con_useS (con_commonpath w mean mg mb news x y t₁ u₁ a₀ hx hy hab) B F X N T hk hdp hu ret

end Mine
end

section -- U_ltwo
set_option compiler.extract_closed false
open PySem PySem.W PyProof.Rows PySem.Calls
set_option Elab.async false
set_option maxRecDepth 100000
set_option maxHeartbeats 0
namespace Mine
local macro_rules | `(tactic| walk_at $s:str) => `(tactic| k_extra $s)

local macro_rules | `(tactic| walk_at "call ref") => `(tactic| (k_here; (with_reducible show wpAny _ _ (PySem.call (Value.ref 35) _) _ _ _); k_dflt (refine' con_useFss ?km ?kx ?ky ?ki ?k1 ?k2 ?k3 ?k4 ?k5 ?kK ?kd ?ku ?_; (case k1 => k_asm); (case k2 => k_asm); (case k3 => k_asm); (case k4 => k_asm); (case k5 => k_asm); (case km => k_mem); (case kx => (walk_at "mine sz")); (case ky => (walk_at "mine sz")); (case ki => assumption); (case kK => first | exact rfl | assumption); (case kd => ktr_room); (case ku => ktr_units); k_whole; intro t9 h9 tk9 F9 N9; (try dsimp only); (try k_fold))))

local macro_rules | `(tactic| k_ne) => `(tactic| first | (refine neN ?_; (try dsimp only); omega) | ((try dsimp only); (with_reducible rename News _ _ _ _ => N9); refine' ne_list_cell N9 ?m1 ?m2 ?m3; (case m1 => k_mem); (case m2 => k_mem); (case m3 => assumption)))
local macro_rules | `(tactic| k_all) => `(tactic| exact below_ne (by assumption) (by omega))

local macro_rules | `(tactic| walk_at "call ref") => `(tactic| (k_here; (with_reducible show wpAny _ _ (PySem.call (Value.ref 193) _) _ _ _); k_dflt (refine' con_useCP ?k1 ?k2 ?k3 ?k4 ?k5 ?kK ?kd ?ku ?hx ?hy ?hab ?_; (case k1 => k_asm); (case k2 => k_asm); (case k3 => k_asm); (case k4 => k_asm); (case k5 => k_asm); (case hx => (walk_at "mine sz")); (case hy => (walk_at "mine sz")); (case hab => assumption); (case kK => first | exact rfl | assumption); (case kd => ktr_room); (case ku => ktr_units); k_whole; intro t9 h9 tk9 F9 N9; (try dsimp only); (try k_fold))))
theorem con_law_two (w : World) (mean : ExcName → Option Value) (mg mb : Str → Option Value) (news : List (Addr × Obj)) (x y x₂ y₂ : Str) (i i₂ : Int) (t u v t₂ u₂ v₂ : Tok) (a₀ b₀ : Addr) (hx : x.length ≤ 100) (hy : y.length ≤ 100) (hi : i = 0 ∨ i = 7 ∨ i = 12 ∨ i = -3) (hx₂ : x₂.length ≤ 100) (hy₂ : y₂.length ≤ 100) (hi₂ : i₂ = 0 ∨ i₂ = 7 ∨ i₂ = 12 ∨ i₂ = -3) (hab : Txt.startswith (fssF x i y) (Str.ofString "/") = Txt.startswith (fssF x₂ i₂ y₂) (Str.ofString "/")) (heq : ((Txt.slice x none (some 1) == Str.ofString "/") == (Txt.slice x₂ none (some 1) == Str.ofString "/")) = true) (hdue : commonF (fssF x i y) (fssF x₂ i₂ y₂) = dueF x (fssF x i y) x₂ (fssF x₂ i₂ y₂)) :
    Con w mean mg mb 40 245 ((a₀, tupO [.str x t, .int i v, .str y u]) :: (b₀, tupO [.str x₂ t₂, .int i₂ v₂, .str y₂ u₂]) :: news) [.ref a₀, .ref b₀] (RBool true) := by
  k_with_none
  k_with "mine sz" => (first | (with_reducible assumption) | (with_reducible exact le_c (k := 100) (by with_reducible assumption) (by decide)) | (with_reducible exact le_c (k := 300) (by with_reducible assumption) (by decide)) | (with_reducible refine slice_len ?_; walk_at "mine sz") | (with_reducible refine lastOf_len ?_; walk_at "mine sz") | (with_reducible refine rstrip_len ?_; walk_at "mine sz") | (with_reducible exact app_len (a := 100) (b := 300) (by walk_at "mine sz") (by walk_at "mine sz") (by omega)) | (with_reducible exact plainF_len' (by walk_at "mine sz") (by decide)) | (with_reducible exact normF_len' (by walk_at "mine sz") (by decide)) | omega)
  k_with "call ref" => ((k_here; (with_reducible show wpAny _ _ (PySem.call (Value.ref 240) _) _ _ _); k_dflt (refine' con_useL (con_law_pieces _ _ _ _ _ _ _ _ _ ?_ ?_) (by k_asm) (by k_asm) (by k_asm) (by k_asm) (by k_asm) (by first | exact rfl | assumption) (by ktr_room) (by ktr_units) ?_; ((walk_at "mine sz")); ((walk_at "mine sz")); k_whole; intro b9 qs9 k9 h9 tk9 hq9 F9 N9; (have hl9 := pieces_len hq9); (try dsimp only); (try k_fold))))
  k_with "call ref" => ((k_here; (with_reducible show wpAny _ _ (PySem.call (Value.ref 108) _) _ _ _); k_dflt (refine' con_useV (con_fspath _ _ _ _ _ _ _) (by k_asm) (by k_asm) (by k_asm) (by k_asm) (by k_asm) (by first | exact rfl | assumption) (by ktr_room) (by ktr_units) ?_; k_whole; intro h9 tk9 F9 N9; (try dsimp only); (try k_fold))))
  k_with "mine ne" => ((intro e9; subst e9; first | (exact absurd (show List.isEmpty ([] : List (Str × Tok)) = false by with_reducible assumption) (by decide)) | simp_all))
  k_with "subscriptTail Name UnaryOp ref int" => ((k_here; k_dflt (refine' item_lastT (by exact News.isList (by k_asm) (by k_mem)) (by walk_at "mine ne") ?_ (by with_unfolding_all rfl)); intro y' t' hl'))
  k_with "truthy str" => ((k_here; k_dflt (refine' SBL.truthy (by (first | omega | ((try simp only [Str.length_append]); omega))) ?_)))
  k_with "truthy ref" => ((k_here; k_dflt (refine' truthy_strs (by k_asm) (by k_mem) (by omega) ?_); intro k'))
  k_with "call builtin:str.split" => ((k_here; (with_reducible rename Fr _ _ _ _ => F'); (with_reducible rename News _ _ _ _ => N'); (refine splitN1 F' N' (by decide) ?_ (by rw [sizeLine_eq]; omega)); intro l' h' k' hsp' F' N'))
  k_with "call builtin:str.join" => ((k_here; k_dflt (refine' join_strs (by k_asm) (by k_mem) (by assumption) (by omega) (by decide) ?_); intro t' k' hj'))
  k_with "call builtin:str.split" => ((k_here; (with_reducible rename Fr _ _ _ _ => F'); (with_reducible rename News _ _ _ _ => N'); (refine splitN1 F' N' (by decide) ?_ (by rw [sizeLine_eq]; omega)); intro l' h' k' hsp' F' N'; (have hsl' := split_len9 hsp'); (try dsimp only)))
  k_with "mine alike" => (repeat (first | exact Alike.nil | refine Alike.str ?_ | refine Alike.int ?_))
  k_with "compareOp Eq ref ref" => ((k_here; (with_reducible show wpAny _ _ (compareOp CmpOp.Eq (Value.ref _) (Value.ref _)) _ _ _); k_dflt (refine eq_tups (by k_asm) (by k_mem) (by k_mem) (by walk_at "mine alike") (by ktr_units) ?_); (try simp only [allEq, valEq, Bool.and_true])))
  k_with "compareOp NotEq ref ref" => ((k_here; (with_reducible show wpAny _ _ (compareOp CmpOp.NotEq (Value.ref _) (Value.ref _)) _ _ _); k_dflt (refine ne_tups (by k_asm) (by k_mem) (by k_mem) (by walk_at "mine alike") (by ktr_units) ?_); (try simp only [allEq, valEq, Bool.and_true])))
  k_with "exec Try" => ((k_here; refine wpAny_Try_except ?_))
  k_with "eval ListComp" => ((k_here; k_dflt (refine LCt.ListComp_T (F₀ := by k_asm) (by with_unfolding_all rfl) (by decide) (by rfl) (by decide) (by rfl) ?_)))
  k_with "CompSrcT" => ((k_here; k_dflt (refine LCt.CompSrcT.range (by rfl) (by k_asm) (by k_asm) (by assumption) (small_one (by omega) (by omega) (by omega) (by omega)) (rangeSize_nat _ _) (by rw [sizeLine_eq]; omega) ?_); intro g'; (rename List.map _ _ = piecesF _ _ => hb9; revert hb9; rename List.map _ _ = piecesF _ _ => ha9; intro hb9); k_dflt (refine' comp_range2 ha9 hb9 (by omega) (fun i' t' I' oI' C' oC' D' m' ys' h' tk' E' hC' hx' F' N' => ?_) (fun ys' hy1' hy2' => ?_))))
  k_with "And" => ((k_here; first
    | exact ⟨rfl, CompFin.mk (by k_asm) (by k_asm) (by intro p hp; repeat' (first | exact hp | refine List.Mem.tail _ ?_))⟩
    | (refine ⟨by first | assumption | exact Bool.eq_false_iff.mpr (by assumption), ?_⟩)))
  k_with "CompFin" => ((k_here; exact CompFin.mk (by k_asm) (by k_asm) (by intro p hp; repeat' (first | exact hp | refine List.Mem.tail _ ?_))))
  k_with "subscriptTail Name Slice ref ref" => ((k_here; k_dflt (refine' sl_uptoG (by k_asm) (by k_asm) (by k_mem) (by omega) ?_ (by with_unfolding_all rfl) (by (intro _; with_unfolding_all rfl))); intro D' h' F' N' l1))
  k_with "compareOp Eq ref ref" => ((k_here; k_dflt (refine eq_strLists (by k_asm) (by k_mem) (by k_mem) (by ktr_units) ?_)))
  k_with "call builtin:str.join" => ((k_here; k_dflt (refine' join_strs (by k_asm) (by k_mem) (by exact pieces_mem (by assumption) (by assumption) (by assumption)) (by ((try simp only [List.length_take]); omega)) (by decide) ?_); intro t' k' hj'))
  k_with "call builtin:len" => ((k_here; k_dflt (first
    | (refine len_strs (by k_asm) (by k_mem) (by omega) ?_; intro t' k')
    | (refine len_any (by k_asm) (by k_mem) (by omega) ?_; intro t' k'))))
  unfold Con
  k_fill
  w_top off
  intro dp un gd cn cs a ccd cl outer A₀ base h₀ L m s Q E B F X N T hk hdp hu hret
  have hz := fssF_len hx hy hi
  have hz2 := fssF_len hx₂ hy₂ hi₂
  refine wpAny_call ?_
  k_dflt (refine' code_defC ?k1 ?k2 ?k3 ?k4 ?k5 ?kA ?kF ?kK ?k6 ?k7 ?k8 ?k9 ?kB ?kD ?_ ?c2 ?c3 ?c4; (case kA => exact rfl); (case kF => exact rfl); (case kK => assumption); (case k1 => k_asm); (case k2 => k_asm); (case k3 => k_asm); (case k4 => k_asm); (case k5 => k_asm); (case k6 => k_is); (case k7 => k_is); (case k8 => ktr_room); (case k9 => exact BindsTo.of_eq rfl); (case kB => exact rfl); (case kD => decide +kernel); (case c2 => exact rfl); (case c3 => exact rfl); (case c4 => exact rfl); k_whole; intro g' L' h' tk' cells' FG' F' N' Y' B' X' T' l1; (try k_lt l1); k_cells Y'; (try simp only [List.cons_append, List.nil_append] at N'); (try dsimp only); (try k_fold))
  have hB9 : NewsBelow L' news := ⟨l1.2.2⟩
  k_steps
  all_goals (refine' hret _ [] _ _ ?eF ?eN ⟨rfl, _, rfl, ?e⟩; (case eF => k_asm); (case eN => exact news_end0 (by k_asm) (by intro p hp; repeat' (first | exact hp | refine List.Mem.tail _ ?_))); (case e => with_reducible first | assumption | exact dueE_1 (by assumption) (by assumption) (by assumption) (by assumption) | exact dueE_2 (by assumption) (by assumption) (by assumption) (by assumption)))

end Mine
end

section -- U_commone
set_option compiler.extract_closed false
open PySem PySem.W PyProof.Rows PySem.Calls
set_option Elab.async false
set_option maxRecDepth 100000
set_option maxHeartbeats 0
namespace Mine
local macro_rules | `(tactic| walk_at $s:str) => `(tactic| k_extra $s)

local macro_rules | `(tactic| k_all) => `(tactic| exact below_ne (by assumption) (by omega))
local macro_rules | `(tactic| walk_at "call type:tuple") => `(tactic| (k_here; (rename (_ ≠ _ ∧ _ ≠ _ ∧ _) => hm'); k_dflt (refine' call_tuple_map rfl ?k1 ?k2 hm' ?k3 ?kt ?_; (case k1 => k_asm); (case k2 => k_asm); (case k3 => k_mem); (case kt => (rintro v9 (hv9 | hv9) s9 <;> ((dsimp only at hv9); (rw [hv9]); refine' map_fsp ?a ?b ?x ?t ?k ?d ?u; (case a => exact rfl); (case b => k_asm); (case x => k_asm); (case t => k_asm); (case k => first | exact rfl | assumption); (case d => ktr_room); (case u => ktr_units))))); clear hm'; intro D' h' tk' F' N' l1; (try k_lt l1); (try dsimp only)))

local macro_rules | `(tactic| walk_at "SrcT") => `(tactic| (k_here; k_dflt (refine SrcT.mk (by rfl) (by k_asm) (by k_asm) (by k_mem) (by rw [sizeLine_eq]; exact Nat.le_of_ble_eq_true rfl) ?_); intro g'; k_dflt (refine' comp_split2 ?hm ?t1 ?t2 ?fin; (case hm => k_mem); (case' t1 => intro I' oI' C' oC' D' m' h' tk' E' hC' hx' F' N'); (case' t2 => intro l1' ps1' k1' I' oI' C' oC' D' m' h' tk' E' hC' hx' F' N'); (case' fin => (intro l1' ps1' k1' l2' ps2' k2' e1' e2' o1' o2'; (have hsl1' := split_len9 e1'); (have hsl2' := split_len9 e2'))))))
local macro_rules | `(tactic| walk_at "SrcS") => `(tactic| (k_here; k_dflt (refine' SrcS.mk2 (sl := Str.ofString "/") ?hh ?k1 ?k2 ?hm ?t1 ?t2 ?fin; (case hh => exact rfl); (case k1 => k_asm); (case k2 => k_asm); (case hm => k_mem); (case' t1 => (unfold SetTurn; intro I' oI' C' oC' D' oD' m' h' tk' E' hC' hx' F' N')); (case' t2 => (unfold SetTurn; intro I' oI' C' oC' D' oD' m' h' tk' E' hC' hx' F' N')); (case' fin => intro D' h' tk' F' N'))))
theorem con_commonpathE (w : World) (mean : ExcName → Option Value) (mg mb : Str → Option Value) (news : List (Addr × Obj)) (x y : Str) (t u : Tok) (a₀ : Addr) (hx : x.length ≤ 300) (hy : y.length ≤ 300) (hab : Txt.startswith x (Str.ofString "/") ≠ Txt.startswith y (Str.ofString "/")) :
    ConE w mean mg mb 30 193 ((a₀, listOf (strValues [(x, t), (y, u)]).toArray 0) :: news) [.ref a₀] "ValueError" := by
  k_with_none
  k_with "mine sz" => (first | assumption | omega | ((simp only [Str.length_append] at *); omega))
  k_with "call ref" => ((k_here; (with_reducible show wpAny _ _ (PySem.call (Value.ref 108) _) _ _ _); k_dflt (refine' con_useV (con_fspath _ _ _ _ _ _ _) (by k_asm) (by k_asm) (by k_asm) (by k_asm) (by k_asm) (by first | exact rfl | assumption) (by ktr_room) (by ktr_units) ?_; k_whole; intro h9 tk9 F9 N9; (try dsimp only); (try k_fold))))
  k_with "call type:map" => ((k_here; k_dflt (refine' call_map (by k_asm) (by k_asm) (by k_mem) ?_); intro I' T' it' h' F' N' hm'))
  k_with "exec Try" => ((k_here; refine wpAny_Try_except ?_))
  k_with "newList" => ((k_here; k_dflt (refine' newList_K (hsz := Nat.le_of_ble_eq_true rfl) (by k_asm) (by k_asm) ?_; k_whole); intro l' h' F' N' l1))
  k_with "exec For Name Name cons nil" => ((k_here; (rename Fr _ _ _ _ => lF'); (with_unfolding_all refine' For_invVF lF' (by exact rfl) (by exact rfl) ?_; k_whole)))
  k_with "compareOp NotEq ref ref" => ((k_here; (with_reducible show wpAny _ _ (compareOp CmpOp.NotEq (Value.ref _) (Value.ref _)) _ _ _); k_dflt (refine' ne_nil (by k_asm) (by k_mem) (by k_mem) (by ktr_units) ?_)))
  k_with "subscriptTail Name Slice ref ref" => ((k_here; k_dflt (refine' sl_init (by k_asm) (by k_asm) (by k_mem) (by (rw [sizeLine_eq]; omega)) ?_ (by with_unfolding_all rfl) (by (intro _; with_unfolding_all rfl))); intro D' h' F' N' l1))
  k_with "mine szl" => (first | (rw [sizeLine_eq]; (try simp only [List.length_cons, List.length_nil, List.length_replicate, List.length_append]); omega) | (refine Nat.le_trans (Nat.add_le_add_right (List.length_filter_le _ _) _) ?_; rw [sizeLine_eq]; (try simp only [List.length_cons, List.length_nil, List.length_dropLast]); omega))
  k_with "binaryOp Add ref ref" => ((k_here; k_dflt (first
    | (refine' add_strs (by k_asm) (by k_asm) (by k_mem) (by k_mem) (by walk_at "mine szl") ?_)
    | (refine' add_strs (qs := [(_, _)]) (by k_asm) (by k_asm) (by k_mem) (by k_mem) (by walk_at "mine szl") ?_)); intro D' h' F' N' l1))
  k_with "binaryOp Mult ref int" => ((k_here; k_dflt (refine' mul_strs (c := Str.ofString "..") (by k_asm) (by k_asm) (by k_mem) (by omega) (by omega) ?_); intro D' h' F' N' l1))
  k_with "call builtin:str.join" => ((k_here; k_dflt (refine' join_strs (by k_asm) (by k_mem) (by first | assumption | exact dd_mem (by assumption)) (by ((try simp only [List.length_append, List.length_replicate]); omega)) (by decide) ?_); intro t' k' hj'))
  k_with "mine ne" => ((intro e9; subst e9; first | (exact absurd (show List.isEmpty ([] : List (Str × Tok)) = false by with_reducible assumption) (by decide)) | simp_all))
  k_with "subscriptTail Name UnaryOp ref int" => ((k_here; k_dflt (refine' item_lastT (by exact News.isList (by k_asm) (by k_mem)) (by walk_at "mine ne") ?_ (by with_unfolding_all rfl)); intro y' t' hl'))
  k_with "truthy str" => ((k_here; k_dflt (refine' SBL.truthy (by (first | omega | ((try simp only [Str.length_append]); omega))) ?_)))
  k_with "truthy ref" => ((k_here; k_dflt (refine' truthy_strs (by k_asm) (by k_mem) (by omega) ?_); intro k'))
  k_with "call builtin:str.split" => ((k_here; (with_reducible rename Fr _ _ _ _ => F'); (with_reducible rename News _ _ _ _ => N'); (refine splitN1 F' N' (by decide) ?_ (by rw [sizeLine_eq]; omega)); intro l' h' k' hsp' F' N'))
  k_with "call builtin:str.join" => ((k_here; k_dflt (refine' join_strs (by k_asm) (by k_mem) (by assumption) (by omega) (by decide) ?_); intro t' k' hj'))
  k_with "exec Assign cons ListComp" => ((k_here; (with_reducible show wpAny _ _ (exec (Stmt.Assign _ (Expr.ListComp (Expr.Call _ _ _ _) _ _ _) _) _) _ _ _); k_dflt (refine Assign_ListComp_tup (F₀ := by k_asm) (by rfl) (by with_unfolding_all rfl) (by with_unfolding_all rfl) (by decide) (by rfl) (by decide) (by rfl) (by rfl) (by rfl) ?_)))
  k_with "call builtin:str.split" => ((k_here; (with_reducible rename Fr _ _ _ _ => F'); (with_reducible rename News _ _ _ _ => N'); (refine KSpl.split1 F' N' (by decide) ?_ (by rw [sizeLine_eq]; omega)); intro l' r' h' k' hsp' _ F' N' lt'; (try dsimp only)))
  k_with "ListEnd" => ((k_here; first
    | exact ListEnd.mk_new (by k_asm) (by k_asm) (by assumption) (by assumption) (by intro p hp; repeat' (first | exact hp | refine List.Mem.tail _ ?_))
    | exact ListEnd.mk_off (by k_asm) (by k_asm) (filter_fst _ _) (by assumption) (by intro p hp; repeat' (first | exact hp | refine List.Mem.tail _ ?_))))
  k_with "exec Assign cons SetComp" => ((k_here; k_dflt (refine Assign_Tuple ?_ (by with_unfolding_all rfl) (by with_unfolding_all rfl)); k_dflt (refine SetComp_two (F₀ := by k_asm) (by with_unfolding_all rfl) (by decide) (by rfl) (by decide) (by rfl) ?_)))
  k_with "BoolEnd" => ((k_here; exact BoolEnd.mk (by k_asm) (by k_asm) (by intro p hp; repeat' (first | exact hp | refine List.Mem.tail _ ?_))))
  k_with "exec Assign cons ListComp" => ((k_here; (with_reducible show wpAny _ _ (exec (Stmt.Assign _ (Expr.ListComp (Expr.ListComp _ _ _ _) _ _ _) _) _) _ _ _); k_dflt (refine LCg.Assign_ListComp_U (F₀ := by k_asm) (by rfl) (by with_unfolding_all rfl) (by with_unfolding_all rfl) (by decide) (by rfl) (by decide) (by rfl) (by rfl) (by rfl) ?_)))
  k_with "eval ListComp" => ((k_here; k_dflt (refine LCt.ListComp_T (F₀ := by k_asm) (by with_unfolding_all rfl) (by decide) (by rfl) (by decide) (by rfl) ?_)))
  k_with "And" => ((k_here; first
    | exact ⟨rfl, CompFin.mk (by k_asm) (by k_asm) (by intro p hp; repeat' (first | exact hp | refine List.Mem.tail _ ?_))⟩
    | (refine ⟨by first | exact keepC_t (by assumption) (by assumption) | exact keepC_f1 (by assumption) | exact keepC_f2 (by assumption), ?_⟩)))
  k_with "CompFin" => ((k_here; exact CompFin.mk (by k_asm) (by k_asm) (by intro p hp; repeat' (first | exact hp | refine List.Mem.tail _ ?_))))
  k_with "call builtin:min" => ((k_here; k_dflt (refine' min_led9 rfl (by k_asm) (by k_asm) (by k_mem) (by k_mem) (by k_mem) (by ktr_units) ?_); intro r' ts' i' h' tk' hmin' F' N'))
  k_with "call builtin:max" => ((k_here; k_dflt (refine' max_led9 rfl (by k_asm) (by k_asm) (by k_mem) (by k_mem) (by k_mem) (by ktr_units) ?_); intro r' ts' i' h' tk' hmax' F' N'))
  k_with "exec For Tuple Call cons nil" => ((k_here; (with_reducible rename Fr _ _ _ _ => F'); (with_reducible rename News _ _ _ _ => N'); (rename List.map _ _ = minL _ _ => hm9); (refine cut_common hm9 F' N' ?_ (fun h' tk' D' cs' k' u1' u2' hcs' F' N' => ?_)) <;> (try (rename List.map _ _ = lcp _ _ => hcs9; replace hcs9 := commonF_eq hcs9 (by assumption) (by assumption) (by assumption) (by assumption); obtain ⟨hcf1, hcf2⟩ := common_facts (by assumption) hcs9)) <;> (try dsimp only)))
  k_with "call type:enumerate" => ((k_here; k_dflt (refine' call_enumC (by assumption) (by assumption) (by assumption) (by omega) (by omega) (by exact rfl) (by exact rfl) (by exact rfl) (by exact rfl) (by k_asm) (by k_asm) (by k_mem) (by exact rfl) (by exact ⟨_, _, rfl⟩) (fun i' c' t' ti' h' tk' e' oe' it' oi' hi' hl1' hc' hb' hl2' hK' F' N' => ?_))))
  k_with "subscriptTail Name Name ref int" => ((k_here; k_dflt (refine' item_natC (by exact News.isList (by k_asm) (by k_mem)) (by assumption) (by assumption) (by assumption) (fun y' t' hy' => ?_) (by with_unfolding_all rfl))))
  k_with "subscriptTail Name Slice ref ref" => ((k_here; k_dflt (refine' sl_upto (by k_asm) (by k_asm) (by k_mem) (by omega) (by omega) ?_ (by with_unfolding_all rfl) (by (intro _; with_unfolding_all rfl))); intro D' h' F' N' l1))
  k_with "EnumPost" => ((k_here; first
    | (refine EnumPost.next (KC.succ (by assumption) (by assumption) (by assumption) (by assumption)) (by k_asm) (by k_asm) ?_ (by intro p hp; repeat' (first | exact hp | refine List.Mem.tail _ ?_)); (intro z z1 z2; (try simp only [if_neg z1, if_neg z2])); done)
    | (refine EnumPost.brk (NamePost.mk (by k_asm) (by k_asm) (by k_mem) rfl ?_ (stop_eq (by assumption) (by assumption) (by assumption) (by assumption) (by assumption)) (by intro p hp; repeat' (first | exact hp | refine List.Mem.tail _ ?_))); (intro z z1 z2 z3; (try simp only [if_neg z1, if_neg z2, if_neg z3])); done)))
  k_with "assign Tuple" => ((k_here; k_dflt (refine' assign_set_ne (by exact rfl) (by k_asm) (by k_mem) (by assumption) ?_); (intro h' tk' e9 hx9); (try dsimp only); k_dflt (refine' unlike_chain rfl (by k_asm) (by k_asm) (by exact rfl) (by assumption) (by assumption) hx9 (by k_is) (by boot_by_name) (by decide) (by rfl) (by decide) (by k_is) (by boot_by_name) (by decide) (by rfl) (by decide) (by k_is) (by boot_by_name) (by decide) (by rfl) (by decide) (fun h8 tk8 e8 a8 H8 up8 => leave_ret (by assumption) (by k_asm) rfl (by exact rfl) (by k_asm) (by k_asm) (by k_asm) (by (intro p hp; repeat' (first | exact hp | refine List.Mem.tail _ ?_))) H8 up8 (fun _ _ hq => hq)))))
  unfold ConE
  k_fill
  w_top off
  intro dp un gd cn cs a ccd cl outer A₀ base h₀ L m s Q E B F X N T hk hdp hu XB9 TB9 hret9
  replace hret9 := ExcRet.mk (gn := s.gens) (dr := s.drawn) (os := s.os) hret9
  refine wpAny_call ?_
  k_dflt (refine' code_defC ?k1 ?k2 ?k3 ?k4 ?k5 ?kA ?kF ?kK ?k6 ?k7 ?k8 ?k9 ?kB ?kD ?_ ?c2 ?c3 ?c4; (case kA => exact rfl); (case kF => exact rfl); (case kK => assumption); (case k1 => k_asm); (case k2 => k_asm); (case k3 => k_asm); (case k4 => k_asm); (case k5 => k_asm); (case k6 => k_is); (case k7 => k_is); (case k8 => ktr_room); (case k9 => exact BindsTo.of_eq rfl); (case kB => exact rfl); (case kD => decide +kernel); (case c2 => exact rfl); (case c3 => exact rfl); (case c4 => exact rfl); k_whole; intro g' L' h' tk' cells' FG' F' N' Y' B' X' T' l1; (try k_lt l1); k_cells Y'; (try simp only [List.cons_append, List.nil_append] at N'); (try dsimp only); (try k_fold))
  have hB9 : NewsBelow L' news := ⟨l1.2⟩
  k_steps
  done

theorem con_useCPE {w : World} {mean : ExcName → Option Value} {mg mb : Str → Option Value} {news : List (Addr × Obj)}
    {dp un : Nat} {gd : Option (List Code)} {cn : Str} {cs : Scope} {a : Addr} {ccd : Value} {cl : List (Str × Addr)} {outer : List Env} {A₀ : Around} {base h₀ : Heap} {L : Addr} {m : Str → Option Value} {s : Shared} {Q E : Value → Shared → Prop} {x y : Str} {t u : Tok} {a₀ : Addr}
    (B : Below A₀ base outer h₀) (F : Fr h₀ L s.heap m) (X : Frag.In (Mine.hk.heap_1 w.params) h₀) (N : News h₀ L s.heap ((a₀, listOf #[Value.str x t, Value.str y u] 0) :: news)) (T : Top view0 (looseW view0 []) mean mg mb h₀) (hk : cs.kind = .function) (hdp : dp + 30 < recursionLimit) (hu : un + 8 * 30 < cLine)
    (XB : Frag.In (Mine.hk.heap_1 w.params) base) (TB : Top view0 (looseW view0 []) mean mg mb base)
    (hx : x.length ≤ 300) (hy : y.length ≤ 300) (hab : Txt.startswith x (Str.ofString "/") ≠ Txt.startswith y (Str.ofString "/"))
    (ret : ∀ gc e h' tk', Fr h₀ L gc m → RaisedSN base gc (envX cn cs L a ccd cl :: outer) e (.type "ValueError") ((a₀, listOf #[Value.str x t, Value.str y u] 0) :: news) h' → gc.UpToSlots h' → E (.ref e) { s with heap := h', toks := tk' }) :
    wpAny (model PySem.Challenge.rw_ik0008_01.row.prog w) (ktrTop dp un gd cn cs L a ccd cl outer) (call (.ref 193) [.ref a₀]) Q E s :=
  con_commonpathE w mean mg mb news x y t u a₀ hx hy hab _ _ _ _ _ _ _ _ _ _ _ _ _ _ _ _ _ B F X N T hk hdp hu XB TB ret

end Mine
end

section -- U_ltwoe
set_option compiler.extract_closed false
open PySem PySem.W PyProof.Rows PySem.Calls
set_option Elab.async false
set_option maxRecDepth 100000
set_option maxHeartbeats 0
namespace Mine
local macro_rules | `(tactic| walk_at $s:str) => `(tactic| k_extra $s)

local macro_rules | `(tactic| walk_at "call ref") => `(tactic| (k_here; (with_reducible show wpAny _ _ (PySem.call (Value.ref 35) _) _ _ _); k_dflt (refine' con_useFss ?km ?kx ?ky ?ki ?k1 ?k2 ?k3 ?k4 ?k5 ?kK ?kd ?ku ?_; (case k1 => k_asm); (case k2 => k_asm); (case k3 => k_asm); (case k4 => k_asm); (case k5 => k_asm); (case km => k_mem); (case kx => (walk_at "mine sz")); (case ky => (walk_at "mine sz")); (case ki => assumption); (case kK => first | exact rfl | assumption); (case kd => ktr_room); (case ku => ktr_units); k_whole; intro t9 h9 tk9 F9 N9; (try dsimp only); (try k_fold))))

local macro_rules | `(tactic| walk_at "call ref") => `(tactic| (k_here; (with_reducible show wpAny _ _ (PySem.call (Value.ref 193) _) _ _ _); k_dflt (refine' con_useCPE ?k1 ?k2 ?k3 ?k4 ?k5 ?kK ?kd ?ku ?k6 ?k7 ?hx ?hy ?hab (fun gc9 e9 h9 tk9 FG9 R9 up9 => ?_); (case k1 => k_asm); (case k2 => k_asm); (case k3 => k_asm); (case k4 => k_asm); (case k5 => k_asm); (case k6 => assumption); (case k7 => assumption); (case hx => (walk_at "mine sz")); (case hy => (walk_at "mine sz")); (case hab => assumption); (case kK => first | exact rfl | assumption); (case kd => ktr_room); (case ku => ktr_units)); (try dsimp only); k_dflt (refine' caught_X rfl R9 FG9 ?c1 up9 ?c2 ?c3 ?c4 ?c5 ?c6 (fun h8 g8 T8 F8 N8 B8 X8 P8 => ?_) ?c7 ?c8 ?c9; (case c1 => k_asm); (case c2 => assumption); (case c3 => assumption); (case c4 => k_is); (case c5 => boot_by_name); (case c6 => decide); (case c7 => exact rfl); (case c8 => rfl); (case c9 => decide)); (try dsimp only)))

theorem con_law_twoE (w : World) (mean : ExcName → Option Value) (mg mb : Str → Option Value) (news : List (Addr × Obj)) (x y x₂ y₂ : Str) (i i₂ : Int) (t u v t₂ u₂ v₂ : Tok) (a₀ b₀ : Addr) (hx : x.length ≤ 100) (hy : y.length ≤ 100) (hi : i = 0 ∨ i = 7 ∨ i = 12 ∨ i = -3) (hx₂ : x₂.length ≤ 100) (hy₂ : y₂.length ≤ 100) (hi₂ : i₂ = 0 ∨ i₂ = 7 ∨ i₂ = 12 ∨ i₂ = -3) (hab : Txt.startswith (fssF x i y) (Str.ofString "/") ≠ Txt.startswith (fssF x₂ i₂ y₂) (Str.ofString "/")) (hne : ((Txt.slice x none (some 1) == Str.ofString "/") != (Txt.slice x₂ none (some 1) == Str.ofString "/")) = true) :
    Con0 w mean mg mb 40 245 ((a₀, tupO [.str x t, .int i v, .str y u]) :: (b₀, tupO [.str x₂ t₂, .int i₂ v₂, .str y₂ u₂]) :: news) [.ref a₀, .ref b₀] (RBool true) := by
  k_with_none
  k_with "mine sz" => (first | (with_reducible assumption) | (with_reducible exact le_c (k := 100) (by with_reducible assumption) (by decide)) | (with_reducible exact le_c (k := 300) (by with_reducible assumption) (by decide)) | (with_reducible refine slice_len ?_; walk_at "mine sz") | (with_reducible refine lastOf_len ?_; walk_at "mine sz") | (with_reducible refine rstrip_len ?_; walk_at "mine sz") | (with_reducible exact app_len (a := 100) (b := 300) (by walk_at "mine sz") (by walk_at "mine sz") (by omega)) | (with_reducible exact plainF_len' (by walk_at "mine sz") (by decide)) | (with_reducible exact normF_len' (by walk_at "mine sz") (by decide)) | omega)
  k_with "call ref" => ((k_here; (with_reducible show wpAny _ _ (PySem.call (Value.ref 240) _) _ _ _); k_dflt (refine' con_useL (con_law_pieces _ _ _ _ _ _ _ _ _ ?_ ?_) (by k_asm) (by k_asm) (by k_asm) (by k_asm) (by k_asm) (by first | exact rfl | assumption) (by ktr_room) (by ktr_units) ?_; ((walk_at "mine sz")); ((walk_at "mine sz")); k_whole; intro b9 qs9 k9 h9 tk9 hq9 F9 N9; (have hl9 := pieces_len hq9); (try dsimp only); (try k_fold))))
  k_with "call ref" => ((k_here; (with_reducible show wpAny _ _ (PySem.call (Value.ref 108) _) _ _ _); k_dflt (refine' con_useV (con_fspath _ _ _ _ _ _ _) (by k_asm) (by k_asm) (by k_asm) (by k_asm) (by k_asm) (by first | exact rfl | assumption) (by ktr_room) (by ktr_units) ?_; k_whole; intro h9 tk9 F9 N9; (try dsimp only); (try k_fold))))
  k_with "mine ne" => ((intro e9; subst e9; first | (exact absurd (show List.isEmpty ([] : List (Str × Tok)) = false by with_reducible assumption) (by decide)) | simp_all))
  k_with "subscriptTail Name UnaryOp ref int" => ((k_here; k_dflt (refine' item_lastT (by exact News.isList (by k_asm) (by k_mem)) (by walk_at "mine ne") ?_ (by with_unfolding_all rfl)); intro y' t' hl'))
  k_with "truthy str" => ((k_here; k_dflt (refine' SBL.truthy (by (first | omega | ((try simp only [Str.length_append]); omega))) ?_)))
  k_with "truthy ref" => ((k_here; k_dflt (refine' truthy_strs (by k_asm) (by k_mem) (by omega) ?_); intro k'))
  k_with "call builtin:str.split" => ((k_here; (with_reducible rename Fr _ _ _ _ => F'); (with_reducible rename News _ _ _ _ => N'); (refine splitN1 F' N' (by decide) ?_ (by rw [sizeLine_eq]; omega)); intro l' h' k' hsp' F' N'))
  k_with "call builtin:str.join" => ((k_here; k_dflt (refine' join_strs (by k_asm) (by k_mem) (by assumption) (by omega) (by decide) ?_); intro t' k' hj'))
  k_with "call builtin:str.split" => ((k_here; (with_reducible rename Fr _ _ _ _ => F'); (with_reducible rename News _ _ _ _ => N'); (refine splitN1 F' N' (by decide) ?_ (by rw [sizeLine_eq]; omega)); intro l' h' k' hsp' F' N'; (have hsl' := split_len9 hsp'); (try dsimp only)))
  k_with "mine alike" => (repeat (first | exact Alike.nil | refine Alike.str ?_ | refine Alike.int ?_))
  k_with "compareOp Eq ref ref" => ((k_here; (with_reducible show wpAny _ _ (compareOp CmpOp.Eq (Value.ref _) (Value.ref _)) _ _ _); k_dflt (refine eq_tups (by k_asm) (by k_mem) (by k_mem) (by walk_at "mine alike") (by ktr_units) ?_); (try simp only [allEq, valEq, Bool.and_true])))
  k_with "compareOp NotEq ref ref" => ((k_here; (with_reducible show wpAny _ _ (compareOp CmpOp.NotEq (Value.ref _) (Value.ref _)) _ _ _); k_dflt (refine ne_tups (by k_asm) (by k_mem) (by k_mem) (by walk_at "mine alike") (by ktr_units) ?_); (try simp only [allEq, valEq, Bool.and_true])))
  k_with "exec Try" => ((k_here; refine wpAny_Try_except ?_))
  k_with "LeaveS0" => ((k_here; k_dflt (refine' leaveS0_ (by k_asm) (by k_asm) (by first | assumption | exact KtsTurn.refl) ?_); intro kF kN))
  unfold Con0
  k_fill
  w_top off
  intro dp un gd cn cs a ccd cl A₀ base h₀ L m s Q E B F X N T hk hdp hu hret
  have hz := fssF_len hx hy hi
  have hz2 := fssF_len hx₂ hy₂ hi₂
  refine wpAny_call ?_
  k_dflt (refine' code_defCS ?k1 ?k2 ?k3 ?k4 ?k5 ?kA ?kF ?kK ?k6 ?k7 ?k8 ?k9 ?kB ?kD ?_ ?c2 ?c3 ?c4; (case kA => exact rfl); (case kF => exact rfl); (case kK => assumption); (case k1 => k_asm); (case k2 => k_asm); (case k3 => k_asm); (case k4 => k_asm); (case k5 => k_asm); (case k6 => k_is); (case k7 => k_is); (case k8 => ktr_room); (case k9 => exact BindsTo.of_eq rfl); (case kB => exact rfl); (case kD => decide +kernel); (case c2 => exact rfl); (case c3 => exact rfl); (case c4 => exact rfl); k_whole; intro g' L' h' tk' cells' FG' F' N' Y' B' X' T' l1; (try k_lt l1); k_cells Y'; (try simp only [List.cons_append, List.nil_append] at N'); (try dsimp only); (try k_fold))
  k_steps
  all_goals (refine' hret _ [] _ _ ?eF ?eN ⟨rfl, _, rfl, ?e⟩; (case eF => k_asm); (case eN => exact news_end0 (by k_asm) (by intro p hp; repeat' (first | exact hp | refine List.Mem.tail _ ?_))); (case e => with_reducible assumption))

end Mine
end

section -- U_two
open PySem PySem.W PyProof.Rows PySem.Calls
set_option Elab.async false
set_option maxRecDepth 100000
set_option maxHeartbeats 0
namespace Mine

noncomputable def TwoHyp (x y : Str) (i : Int) (x₂ y₂ : Str) (i₂ : Int) : Prop :=
  (Txt.startswith (fssF x i y) (Str.ofString "/") ≠ Txt.startswith (fssF x₂ i₂ y₂) (Str.ofString "/") → ((Txt.slice x none (some 1) == Str.ofString "/") != (Txt.slice x₂ none (some 1) == Str.ofString "/")) = true) ∧
  (Txt.startswith (fssF x i y) (Str.ofString "/") = Txt.startswith (fssF x₂ i₂ y₂) (Str.ofString "/") → ((Txt.slice x none (some 1) == Str.ofString "/") == (Txt.slice x₂ none (some 1) == Str.ofString "/")) = true ∧ commonF (fssF x i y) (fssF x₂ i₂ y₂) = dueF x (fssF x i y) x₂ (fssF x₂ i₂ y₂))
theorem con_useTwo {w : World} {mean : ExcName → Option Value} {mg mb : Str → Option Value} {news : List (Addr × Obj)}
    {dp un : Nat} {gd : Option (List Code)} {cn : Str} {cs : Scope} {a : Addr} {ccd : Value} {cl : List (Str × Addr)} {A₀ : Around} {base h₀ : Heap} {L : Addr} {m : Str → Option Value} {s : Shared} {Q E : Value → Shared → Prop} {x y x₂ y₂ : Str} {i i₂ : Int} {t u v t₂ u₂ v₂ : Tok} {a₀ b₀ : Addr}
    (ha : (a₀, tupO [.str x t, .int i v, .str y u]) ∈ news) (hb : (b₀, tupO [.str x₂ t₂, .int i₂ v₂, .str y₂ u₂]) ∈ news)
    (hx : x.length ≤ 100) (hy : y.length ≤ 100) (hi : i = 0 ∨ i = 7 ∨ i = 12 ∨ i = -3) (hx₂ : x₂.length ≤ 100) (hy₂ : y₂.length ≤ 100) (hi₂ : i₂ = 0 ∨ i₂ = 7 ∨ i₂ = 12 ∨ i₂ = -3) (h2 : TwoHyp x y i x₂ y₂ i₂)
    (B : Below A₀ base [] h₀) (F : Fr h₀ L s.heap m) (X : Frag.In (Mine.hk.heap_1 w.params) h₀) (N : News h₀ L s.heap news) (T : Top view0 (looseW view0 []) mean mg mb h₀) (hk : cs.kind = .function) (hdp : dp + 40 < recursionLimit) (hu : un + 8 * 40 < cLine)
    (ret : ∀ h' tk', Fr h₀ L h' m → News h₀ L h' news → Q (.bool true) { s with heap := h', toks := tk' }) :
    wpAny (model PySem.Challenge.rw_ik0008_01.row.prog w) (ktrTop dp un gd cn cs L a ccd cl []) (call (.ref 245) [.ref a₀, .ref b₀]) Q E s := by
  have N2 : News h₀ L s.heap ((a₀, tupO [.str x t, .int i v, .str y u]) :: (b₀, tupO [.str x₂ t₂, .int i₂ v₂, .str y₂ u₂]) :: news) := fun p hp => by
    cases hp with
    | head => exact N _ ha
    | tail _ hp =>
      cases hp with
      | head => exact N _ hb
      | tail _ hp => exact N _ hp
  have fin : ∀ r tl h' tk', Fr h₀ L h' m → News h₀ L h' (tl ++ ((a₀, tupO [.str x t, .int i v, .str y u]) :: (b₀, tupO [.str x₂ t₂, .int i₂ v₂, .str y₂ u₂]) :: news)) → RBool true r tl → Q r { s with heap := h', toks := tk' } := fun r tl h' tk' F' N' hR => by
    obtain ⟨rfl, b', rfl, rfl⟩ := hR
    exact ret h' tk' F' fun p hp => N' p (.tail _ (.tail _ hp))
  by_cases c : Txt.startswith (fssF x i y) (Str.ofString "/") = Txt.startswith (fssF x₂ i₂ y₂) (Str.ofString "/")
  · exact con_use (con_law_two w mean mg mb news x y x₂ y₂ i i₂ t u v t₂ u₂ v₂ a₀ b₀ hx hy hi hx₂ hy₂ hi₂ c (h2.2 c).1 (h2.2 c).2) B F X N2 T hk hdp hu fin
  · exact con_law_twoE w mean mg mb news x y x₂ y₂ i i₂ t u v t₂ u₂ v₂ a₀ b₀ hx hy hi hx₂ hy₂ hi₂ c (h2.1 c) _ _ _ _ _ _ _ _ _ _ _ _ _ _ _ _ B F X N2 T hk hdp hu fin

end Mine
end

section -- W1
set_option compiler.extract_closed false
open PySem PySem.W PyProof.Rows PySem.Calls
set_option Elab.async false
set_option maxRecDepth 100000
set_option maxHeartbeats 900000
namespace Mine
local macro_rules | `(tactic| walk_at $s:str) => `(tactic| k_extra $s)
local macro_rules | `(tactic| k_qdec) => `(tactic| decide +kernel)
noncomputable def PlainOne : Prop := ∀ p y i, p.length ≤ 12 → (i = 0 ∨ i = 7 ∨ i = 12 ∨ i = -3) → y ∈ names8 → OneHyp p y i
noncomputable def PlainTwo : Prop := ∀ p y i p₂ y₂ i₂, p.length ≤ 12 → (i = 0 ∨ i = 7 ∨ i = 12 ∨ i = -3) → y ∈ names8 → p₂.length ≤ 12 → (i₂ = 0 ∨ i₂ = 7 ∨ i₂ = 12 ∨ i₂ = -3) → y₂ ∈ names8 → TwoHyp p y i p₂ y₂ i₂
theorem one_of {x : Tup} (P : PlainOne) (h : TupOk x) : OneHyp x.p x.y x.i := P _ _ _ h.short h.line h.name
theorem two_of {x z : Tup} (P : PlainTwo) (h : TupOk x) (h' : TupOk z) : TwoHyp x.p x.y x.i z.p z.y z.i := P _ _ _ _ _ _ h.short h.line h.name h'.short h'.line h'.name
local macro_rules | `(tactic| walk_at "call ref") => `(tactic| (k_here; (with_reducible show wpAny _ _ (PySem.call (Value.ref 245) _) _ _ _); k_dflt (refine' con_useTwo ?ha ?hb ?hx ?hy ?hi ?hx2 ?hy2 ?hi2 ?h2 ?k1 ?k2 ?k3 ?k4 ?k5 ?kK ?kd ?ku (fun h8 tk8 F8 N8 => ?_); (case k1 => k_asm); (case k2 => k_asm); (case k3 => k_asm); (case k4 => k_asm); (case k5 => k_asm); (case ha => k_mem); (case hb => k_mem); (case hx => exact TupOk.x100 (by assumption)); (case hy => exact TupOk.y100 (by assumption)); (case hi => exact TupOk.line (by assumption)); (case hx2 => exact TupOk.x100 (by assumption)); (case hy2 => exact TupOk.y100 (by assumption)); (case hi2 => exact TupOk.line (by assumption)); (case h2 => exact two_of (by assumption) (by assumption) (by assumption)); (case kK => first | exact rfl | assumption); (case kd => ktr_room); (case ku => ktr_units)); (try dsimp only)))
theorem law_holds (P1 : PlainOne) (P2 : PlainTwo) : PySem.Challenge.rw_ik0008_01.Holds := hd (by
  k_with_none
  k_with "exec Assign cons ListComp" => ((k_here; k_dflt (refine LCg.Assign_ListComp_U (F₀ := by k_asm) (by rfl) (by with_unfolding_all rfl) (by with_unfolding_all rfl) (by decide) (by rfl) (by decide) (by rfl) (by rfl) (by rfl) ?_)))
  k_with "CompSrc" => ((k_here; k_dflt (refine LCg.CompSrc.ledger (by rfl) (by k_asm) (by k_asm) (by k_mem) (four_line (by first | exact four_ints (by assumption) | exact four_lit)) ?_); intro g'; k_dflt (refine' comp_func (by first | assumption | exact ints_lit) (by first | exact four_ints (by assumption) | exact four_lit) List.size_toArray (fun i v hv => by simpa using hv) (fun ex => .inr ⟨_, List.mem_append_left _ (by k_mem), rfl, _, rfl⟩) (fun k' t' I' oI' C' oC' D' m' ys' ex' h' tk' E' hC' hx' F' N' => ?_) (fun g' ys' ex' hy4' hg' => ?_)); (try simp only [List.cons_append, List.nil_append] at N')))
  k_with "call ref" => ((k_here; (with_reducible show wpAny _ _ (PySem.call (Value.ref 200) _) _ _ _); (try subst qk); (try subst ek); k_dflt (refine' con_use (con_law_func _ _ _ _ _ _ _ _ _) (by k_asm) (by k_asm) (by k_asm) (by k_asm) (by k_asm) (by first | exact rfl | assumption) (by ktr_room) (by ktr_units) (fun r9 tl9 h9 tk9 F9 N9 R9 => ?_)); k_dflt (exact ⟨tl9, h9, tk9, rfl, R9, F9, N9⟩)))
  k_with "FinA" => ((k_here; (unfold LCg.FinA); intro D' h' tk' F' N' o1'; (try simp only [List.nil_append, List.cons_append] at N'); (try dsimp only)))
  k_with "exec For Name Call cons nil" => ((k_here; k_dflt (refine For_enum9 ?_)))
  k_with "exec For" => ((k_here; k_dflt (refine For_enum9 ?_)))
  k_with "call builtin:len" => ((k_here; k_dflt (refine len_any (by k_asm) (by k_mem) (Nat.le_trans (by assumption) (by decide)) ?_); intro t' k'; (try dsimp only)))
  k_with "ForSrc9" => ((k_here; (with_reducible show ForSrc9 _ _ _ _ (Expr.Name (Str.ofString "j") _) _ _ _ _); k_dflt (refine' rng_for2 (Str.ofString "i") (by exact rfl) (by exact rfl) (by exact rfl) (by assumption) (by exact small_one (by omega) (by omega) (by omega) (by omega)) (rangeSize_nat _ _) (by k_asm) (by k_asm) ⟨_, List.Mem.head _⟩ (fun j' tj' aj' h' gn' dr' tk' os' it' oi' hj' F' N' => ?_) (fun h' tk' a1' a2' F' N' => ?_)); (try dsimp only)))
  k_with "ForSrc9" => ((k_here; (with_reducible show ForSrc9 _ _ _ _ (Expr.Name (Str.ofString "i") _) _ _ _ _); k_dflt (refine' rng_for1 (by exact rfl) (by exact rfl) (by exact rfl) (by assumption) (by exact small_one (by omega) (by omega) (by omega) (by omega)) (rangeSize_nat _ _) (by k_asm) (by k_asm) ⟨_, List.Mem.head _⟩ (fun j' tj' h' gn' dr' tk' os' it' oi' hj' F' N' => ?_) (fun h' tk' a1' F' N' => ?_)); (try dsimp only)))
  k_with "subscriptTail Name Name ref int" => ((k_here; (rename FoundOk _ _ _ => hg9); k_dflt (refine' item_found (by k_asm) (by k_mem) hg9 (by (intro p hp; repeat' (first | exact hp | refine List.Mem.tail _ ?_))) (by omega) (by exact Nat.le_trans (by assumption) (by decide)) (fun N9 h9 => ?_) (by with_unfolding_all rfl))))
  k_with "call ref" => ((k_here; (with_reducible show wpAny _ _ (PySem.call (Value.ref 235) _) _ _ _); (rename TupOk _ => h9); k_dflt (refine' con_useB (con_law_one _ _ _ _ _ _ _ _ _ _ _ (TupOk.x100 h9) (TupOk.y100 h9) (TupOk.line h9) (one_of (by assumption) h9)) (by k_asm) (by k_asm) (by k_asm) (by k_asm) (by k_asm) (by first | exact rfl | assumption) (by ktr_room) (by ktr_units) (fun h8 tk8 F8 N8 => ?_)); (try dsimp only)))
  k_with "TurnEnd" => ((k_here; k_dflt (refine' TurnEnd.mk (by k_asm) (by k_asm) (by first | exact end_i | exact end_ji) (by (intro p hp; repeat' (first | exact hp | refine List.Mem.tail _ ?_))))))
  delta kH
  w_strict (k_go0; (all_goals try k_fold); k_steps)
  done)
end Mine
end

section -- Z13
open PySem PySem.W PyProof.Rows PySem.Calls PySem.Builtin PySem.Builtin.Str PySem.StrLaws
set_option Elab.async false
namespace Mine
theorem own_ok {z y : List Nat} {i : Int} (hz : 47 ∉ z) (hi : LineOk i) (hy : NameOk y) : OwnOk (z ++ sfx i y) := by
  have h58 : 58 ∈ z ++ sfx i y := List.mem_append_right _ (.head _)
  refine ⟨fun q => (List.mem_append.mp q).elim hz (sfx_free hi hy), fun q => ?_, fun q => ?_, fun q => ?_⟩
  · rw [q] at h58; exact absurd h58 (by decide)
  · rw [q] at h58; exact absurd h58 (by decide)
  · rw [q] at h58; exact absurd h58 (by decide)
theorem plain_one : PlainOne := by
  intro x y i hx hi hy
  have hL := line_ok hi
  have hN := name_ok hy
  refine ⟨fun h => ?_, fun h => ?_⟩
  · have e1 : x = Str.ofString "~" := eq_of_beq h.1
    rw [e1, h.2]
    exact tilde_built hy
  have hyS := st_of y
  obtain ⟨I, z, hs, hp, H⟩ := path_split x.cps.toList
  have hxS : x = St (preL I ++ z) := by rw [← hp]
  have hs' : spL 47 (preL I ++ z) = I ++ [z] := by rw [← hp]; exact hs
  have et : fssF x i y = St ((preL I ++ z) ++ sfx i y.cps.toList) := by
    rw [fss_text h]
    conv => lhs; rw [hxS, hyS]
    exact text_st _ _ _
  have e1 : lastP x = St z := by rw [hxS]; exact last_st hs'
  have e2 : ownP x (fssF x i y) = St (z ++ sfx i y.cps.toList) := by rw [et, hxS]; exact own_st hs' _
  have e3 : headP x = St (preL I) := by rw [hxS]; exact headP_st hs' rfl
  have e4 : foldP x = St (foldL (preL I)) := by
    show orS (Txt.rstripChars (headP x) (Str.ofString "/")) (headP x) = _
    rw [e3]; exact fold_st _
  have hw := own_ok (i := i) (y := y.cps.toList) H.free hL hN
  have et' : fssF x i y = St (preL I ++ (z ++ sfx i y.cps.toList)) := by rw [et, List.append_assoc]
  have H2 : HZ (preL I) (z ++ sfx i y.cps.toList) := hz_app H (sfx_free hL hN)
  obtain ⟨n1, n2, n3⟩ := norm_own (w := z ++ sfx i y.cps.toList) H.head hw
  have c1 : cutF x (lastP x) = St ((preL I ++ z).take ((preL I ++ z).length - (endL z).length)) := by
    rw [e1, hxS]
    exact cutF_st _ _ (Nat.le_trans (endL_le z) (by simp))
  have x1 := ext_st H
  have x2 := ext_st H2
  refine ⟨h, ?_, ?_, ?_, ?_, norm_plain x, norm_plain _, ?_, ?_, ?_, ?_, ?_, ?_, ?_, ?_, ?_, ?_⟩
  · rw [et]
    have := f1_st (p := preL I ++ z) hL hN
    conv => lhs; rw [hxS]
    conv => lhs; rw [hyS]
    simpa using this
  · rw [et, starts_text (p := preL I ++ z) (s := sfx i y.cps.toList) rfl, ← hxS]
  · rintro ⟨q1, q2⟩
    have : tailF x = Str.ofString "~" := by
      have t1 : tailF x = St z := by rw [hxS]; exact hz_tail H
      rw [t1, ← e1]
      exact eq_of_beq q1
    rw [this, q2]
    exact tilde_built hy
  · intro q
    have t1 : tailF x = St z := by rw [hxS]; exact hz_tail H
    rw [t1, e2, fss_text (by rw [← e1]; exact q)]
    conv => lhs; rw [hyS]
    exact text_st _ _ _
  · rw [e4, hxS]; exact head_st H
  · rw [e4, et']; exact head_st H2
  · rw [e2, et']; exact hz_tail H2
  · rw [c1, hxS]; exact congrArg Prod.fst x1
  · rw [e1, cutEnd_st, hxS]; exact congrArg Prod.snd x1
  · rw [e2, et', x2, cutF_st _ _ (Nat.le_trans (endL_le _) (by simp))]
  · rw [e2, cutEnd_st, et', x2]
  · rw [e2, e3, et']; exact n1
  · rw [e3, et']; exact n2
  · rw [e2, et']; exact n3
end Mine
end

section -- Z14
open PySem PySem.W PyProof.Rows PySem.Calls PySem.Builtin PySem.Builtin.Str PySem.StrLaws
set_option Elab.async false
namespace Mine
theorem cnt_nil (q : List Str) : cntF [] q = 0 := rfl
theorem cnt_no (a : Str) (p : List Str) : cntF (a :: p) [] = 0 := by
  unfold cntF
  rw [List.length_eq_zero_iff, List.filter_eq_nil_iff]
  intro i _
  simp
theorem cnt_cons (a b : Str) (p q : List Str) : cntF (a :: p) (b :: q) = if a = b then cntF p q + 1 else 0 := by
  unfold cntF
  by_cases h : a = b
  · subst h
    rw [if_pos rfl, List.length_cons, List.range_succ_eq_map, List.filter_cons]
    have e : ((a :: p).take (0 + 1) == (a :: q).take (0 + 1)) = true := by simp
    rw [if_pos e, List.length_cons, List.filter_map, List.length_map]
    congr 2
    refine List.filter_congr fun i _ => ?_
    simp
  · rw [if_neg h, List.length_eq_zero_iff, List.filter_eq_nil_iff]
    intro i _ hq
    have hq' := eq_of_beq hq
    simp at hq'
    exact h hq'.1
theorem take_cnt : ∀ p q : List Str, p.take (cntF p q) = lcp p q
  | [], q => by simp [lcp]
  | a :: p, [] => by rw [cnt_no]; simp [lcp]
  | a :: p, b :: q => by
    rw [cnt_cons]
    by_cases h : a = b
    · rw [if_pos h, List.take_succ_cons, take_cnt p q]
      simp [lcp, h]
    · rw [if_neg h]
      simp [lcp, h]
theorem keep_plain (c : Str) : plainPiece c = keepC c := by
  unfold keepC
  show (!([Str.ofString "", Str.ofString "."].any fun x => x == c)) = _
  by_cases h0 : c = Str.ofString ""
  · subst h0; rfl
  · have e1 : (Str.ofString "" == c) = false := beq_eq_false_iff_ne.mpr fun q => h0 q.symm
    have e2 : decide ((c.length : Int) ≠ 0) = true := decide_eq_true fun q => h0 ((len0 c).mp q)
    rw [e2, Bool.true_and]
    simp only [List.any_cons, List.any_nil, Bool.or_false]
    rw [e1, Bool.false_or, BEq.comm (a := Str.ofString ".")]
    rfl
end Mine
end

section -- Z15
open PySem PySem.W PyProof.Rows PySem.Calls PySem.Builtin PySem.Builtin.Str PySem.StrLaws
set_option Elab.async false
namespace Mine
noncomputable def PC (x T : Str) : Prop := (compsF T = piecesF x T ∧ ∀ c, (piecesF x T).head? = some c → c ≠ Str.ofString "") ∨ (compsF T = [] ∧ piecesF x T = [Str.ofString ""])
theorem pc_tilde {y : Str} (h : y ∈ names8) : PC (Str.ofString "~") (fssF (Str.ofString "~") 0 y) := by
  unfold names8 at h
  simp only [List.mem_cons, List.not_mem_nil, or_false] at h
  rcases h with rfl | rfl | rfl | rfl | rfl | rfl | rfl | rfl
  · exact .inl ⟨by decide +kernel, by decide +kernel⟩
  · exact .inl ⟨by decide +kernel, by decide +kernel⟩
  · exact .inl ⟨by decide +kernel, by decide +kernel⟩
  · exact .inr ⟨by decide +kernel, by decide +kernel⟩
  · exact .inl ⟨by decide +kernel, by decide +kernel⟩
  · exact .inl ⟨by decide +kernel, by decide +kernel⟩
  · exact .inl ⟨by decide +kernel, by decide +kernel⟩
  · exact .inl ⟨by decide +kernel, by decide +kernel⟩
theorem keepC_ne {c : Str} (h : keepC c = true) : c ≠ Str.ofString "" := fun q => by subst q; exact absurd h (by decide)
theorem pc_text {I : List (List Nat)} {z s : List Nat} (hs : spL 47 (preL I ++ z) = I ++ [z]) (hs2 : spL 47 (preL I ++ (z ++ s)) = I ++ [z ++ s]) (hw : OwnOk (z ++ s)) : PC (St (preL I ++ z)) (St (preL I ++ (z ++ s))) := by
  have k1 : keepC (St (z ++ s)) = true := by
    rw [← keep_plain]
    show (!([Str.ofString "", Str.ofString "."].any fun x => x == St (z ++ s))) = true
    have e1 : (Str.ofString "" == St (z ++ s)) = false := beq_eq_false_iff_ne.mpr fun q => hw.ne (st_inj (show St (z ++ s) = St [] from q.symm))
    have e2 : (Str.ofString "." == St (z ++ s)) = false := beq_eq_false_iff_ne.mpr fun q => hw.dot (st_inj (show St (z ++ s) = St [46] from q.symm))
    simp only [List.any_cons, List.any_nil, e1, e2]
    rfl
  have a1 : compsF (St (preL I ++ (z ++ s))) = (I.map St).filter keepC ++ [St (z ++ s)] := by
    show (Txt.split _ (St [47])).filter keepC = _
    rw [split_st, hs2, List.map_append, List.filter_append]
    congr 1
    show List.filter keepC [St (z ++ s)] = _
    simp [List.filter_cons, k1]
  have a2 : piecesF (St (preL I ++ z)) (St (preL I ++ (z ++ s))) = (I.map St).filter keepC ++ [St (z ++ s)] := by
    show (Txt.split _ (St [47])).dropLast.filter plainPiece ++ [lastOf (Txt.split _ (St [47]))] = _
    rw [split_st, split_st, hs, hs2, lastOf_st]
    congr 1
    have : ((I ++ [z]).map St).dropLast = I.map St := by simp
    rw [this]
    exact List.filter_congr fun c _ => keep_plain c
  left
  refine ⟨a1.trans a2.symm, fun c hc => ?_⟩
  rw [a2] at hc
  have hm := List.mem_of_mem_head? hc
  rcases List.mem_append.mp hm with q | q
  · exact keepC_ne (List.mem_filter.mp q).2
  · rw [List.mem_singleton.mp q]; exact keepC_ne k1
theorem pc_fss {x y : Str} {i : Int} (hi : i = 0 ∨ i = 7 ∨ i = 12 ∨ i = -3) (hy : y ∈ names8) : PC x (fssF x i y) ∧ Txt.startswith (fssF x i y) (Str.ofString "/") = (Txt.slice x none (some 1) == Str.ofString "/") := by
  have hL := line_ok hi
  have hN := name_ok hy
  by_cases h : (x == Str.ofString "~") = true ∧ i = 0
  · have e1 : x = Str.ofString "~" := eq_of_beq h.1
    rw [e1, h.2]
    refine ⟨pc_tilde hy, ?_⟩
    unfold names8 at hy
    simp only [List.mem_cons, List.not_mem_nil, or_false] at hy
    rcases hy with rfl | rfl | rfl | rfl | rfl | rfl | rfl | rfl <;> decide +kernel
  · have hyS := st_of y
    obtain ⟨I, z, hs, hp, H⟩ := path_split x.cps.toList
    have hxS : x = St (preL I ++ z) := by rw [← hp]
    have hs' : spL 47 (preL I ++ z) = I ++ [z] := by rw [← hp]; exact hs
    have et : fssF x i y = St (preL I ++ (z ++ sfx i y.cps.toList)) := by
      rw [fss_text h]
      conv => lhs; rw [hxS, hyS]
      rw [text_st, List.append_assoc]
    have hI : ∀ p ∈ I, 47 ∉ p := fun p hp' => spL_free 47 x.cps.toList p (by rw [hs]; exact List.mem_append_left _ hp')
    refine ⟨?_, ?_⟩
    · rw [et]
      conv => arg 1; rw [hxS]
      exact pc_text hs' (split_pre hI (hz_app H (sfx_free hL hN)).free) (own_ok H.free hL hN)
    · rw [et, ← List.append_assoc, starts_text (p := preL I ++ z) (s := sfx i y.cps.toList) rfl, ← hxS]
theorem lcp_nil (p : List Str) : lcp p [] = [] := by cases p <;> rfl
theorem lcp_ne {p : List Str} (h : ∀ c, p.head? = some c → c ≠ Str.ofString "") : lcp [Str.ofString ""] p = [] ∧ lcp p [Str.ofString ""] = [] := by
  cases p with
  | nil => exact ⟨rfl, rfl⟩
  | cons a r =>
    have ha := h a rfl
    constructor
    · show (if (Str.ofString "" == a) = true then _ else []) = []
      rw [if_neg (fun q => ha (eq_of_beq q).symm)]
    · show (if (a == Str.ofString "") = true then _ else []) = []
      rw [if_neg (fun q => ha (eq_of_beq q))]
theorem join_lcp {x T x₂ T₂ : Str} (h1 : PC x T) (h2 : PC x₂ T₂) : Txt.join (Str.ofString "/") (lcp (compsF T) (compsF T₂)) = Txt.join (Str.ofString "/") (lcp (piecesF x T) (piecesF x₂ T₂)) := by
  rcases h1 with ⟨e1, n1⟩ | ⟨e1, p1⟩ <;> rcases h2 with ⟨e2, n2⟩ | ⟨e2, p2⟩
  · rw [e1, e2]
  · rw [e2, p2, lcp_nil, (lcp_ne n1).2]
  · rw [e1, p1, (lcp_ne n2).1]
    rfl
  · rw [e1, e2, p1, p2]
    decide +kernel
theorem plain_two : PlainTwo := by
  intro x y i x₂ y₂ i₂ _ hi hy _ hi₂ hy₂
  obtain ⟨c1, s1⟩ := pc_fss (x := x) hi hy
  obtain ⟨c2, s2⟩ := pc_fss (x := x₂) hi₂ hy₂
  refine ⟨fun h => ?_, fun h => ?_⟩
  · rw [s1, s2] at h
    exact bne_iff_ne.mpr h
  · have h' := h
    rw [s1, s2] at h'
    refine ⟨beq_iff_eq.mpr h', ?_⟩
    unfold commonF dueF
    rw [s1, take_cnt, join_lcp c1 c2]
theorem holds_all : PySem.Challenge.rw_ik0008_01.Holds := law_holds plain_one plain_two
end Mine
end

theorem PySem.Challenge.cw_ik0008_01_holds : PySem.Challenge.rw_ik0008_01.Holds := by
  exact Mine.holds_all
