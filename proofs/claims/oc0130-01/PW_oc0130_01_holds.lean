import PyProof.Rows.All
import Wide.All
import OpenK.AllK
import Wide.FinOn
import PySem.Challenge.RW_oc0130_01
set_option Elab.async false
set_option linter.unusedVariables false
set_option linter.unusedSimpArgs false
section
open PySem PySem.W PyProof.Rows
namespace Mine
theorem room0 {a n L : Nat} (h : a + n < L) : a < L := Nat.lt_of_le_of_lt (Nat.le_add_right a n) h
theorem room1 {a n k L : Nat} (h : a + n < L) (e : Nat.ble k n = true) : a + k < L := Nat.lt_of_le_of_lt (Nat.add_le_add_left (Nat.le_of_ble_eq_true e) a) h
theorem room2 {a n b k L : Nat} (h : a + n < L) (e : Nat.ble (b + k) n = true) : a + b + k < L := by rw [Nat.add_assoc]; exact room1 h e
theorem room3 {a n b c k L : Nat} (h : a + n < L) (e : Nat.ble (b + c + k) n = true) : a + b + c + k < L := by rw [Nat.add_assoc a, Nat.add_assoc a]; exact room1 h e
theorem le_up {x a b : Nat} (h : x ≤ a) (e : Nat.ble a b = true) : x ≤ b := Nat.le_trans h (Nat.le_of_ble_eq_true e)
def viewQ : Program := view PySem.Challenge.rw_oc0130_01.prog [0, 2, 3, 4, 5, 6, 7, 8, 10, 11, 13, 14, 15, 16, 17, 18, 19, 20, 21, 22, 23, 24, 25, 26, 27, 28, 29, 30, 31, 32, 33, 34, 36, 37, 38, 39, 40, 41, 42, 43, 44]
theorem head_open : ∀ w : World, (fencedOpening treeTable PySem.Challenge.rw_oc0130_01.prog w 3062).map (fun s => (s.heap, s.gens, s.drawn, s.toks)) = some (boot_heap w.params, Array.mk [], boot_drawn, boot_toks) := boot_open (by rfl) (by decide) (fun s => by rfl)
theorem left_boot {p q : Program} {loose : List Str} {Xt : Shared → Bool} {α : Type} {Yf : Shared → α} {Ya : World → α} {N : Nat}
    (a : ∀ w : World, (fencedOpening treeTable p w N).map (fun s => (s.heap, s.gens, s.drawn, s.toks)) = some (boot_heap w.params, Array.mk [], boot_drawn, boot_toks))
    (b : ∀ (w : World) (os : OsState), (topFrom treeTable p w N ⟨boot_heap w.params, Array.mk [], boot_drawn, boot_toks, os⟩).map (fun s => (openSeen q loose (importedModules p.main.body) Xt true s, Yf s)) = some (openGood q loose, Ya w)) : LeftO p q loose Xt Yf Ya N := fun w => by
  obtain ⟨⟨h, gs, d, k, os⟩, e, e'⟩ := Option.map_eq_some_iff.mp (a w)
  obtain ⟨rfl, rfl, rfl, rfl⟩ : h = boot_heap w.params ∧ gs = Array.mk [] ∧ d = boot_drawn ∧ k = boot_toks := by simpa using e'
  unfold openEnds
  rw [e]
  exact b w os
/-- the top's run, the heap as a tree, by the library's quick twins of its words -/
noncomputable def topRunT (tb : String → Option Builtin) (p : Program) (w : World) (n₀ : Nat) (ann : Option Value) : Nat → SharedT → Thread → Option SharedT
  | 0, _, _ => none
  | n + 1, s, t => match through t with
    | true => some s
    | false => match PySem.W.Fast.tw6613529449190102663 n₀ ann t with
      | false => none
      | true => match PySem.W.Fast.tw10156331382660048174 (PySem.W.Fast.tw11892475500146522536 tb) p w s t with
        | some (s', t') => topRunT tb p w n₀ ann n s' t'
        | none => none
theorem topRun_of {tb : String → Option Builtin} {p : Program} {w : World} {n₀ : Nat} {ann : Option Value} : ∀ {n : Nat} {s s' : SharedT} {t : Thread}, topRunT tb p w n₀ ann n s t = some s' → topRun tb p w n₀ ann n s.abs t = some s'.abs
  | 0, _, _, _, h => by cases h
  | n + 1, s, s', t, h => by
    unfold topRunT at h
    rw [← PySem.W.Fast.te6613529449190102663, ← PySem.W.Fast.te10156331382660048174, ← PySem.W.Fast.te11892475500146522536] at h
    unfold topRun
    cases he : through t with
    | true => rw [he] at h; cases h; rfl
    | false =>
      rw [he] at h
      cases hk : stepOk n₀ ann t with
      | false => rw [hk] at h; cases h
      | true =>
        rw [hk] at h
        cases hs : stepT (denote tb) p w s t with
        | none => rw [hs] at h; cases h
        | some r => obtain ⟨s₂, t₂⟩ := r; rw [hs] at h; rw [stepT_spec hs]; exact topRun_of h
noncomputable def bootT (P : Params) : BT := (boot_heap P).objs.toList.zipIdx.foldl (fun t x => t.ins x.2 x.1) .nil
noncomputable def bootS (w : World) (os : OsState) : SharedT := ⟨bootT w.params, (boot_heap w.params).objs.size, (boot_heap w.params).life, Array.mk [], boot_drawn, boot_toks, os⟩
theorem boot_abs (w : World) (os : OsState) : (bootS w os).abs = ⟨boot_heap w.params, Array.mk [], boot_drawn, boot_toks, os⟩ := by kernel_rfl
theorem boot_ns (w : World) : ((boot_heap w.params).isNs mainGlobals && (Array.mk ([] : List GenState)).size == 0) = true := by kernel_rfl
theorem from_tree {p : Program} {w : World} {os : OsState} {N : Nat} {α β : Type} {f : Shared → α} {g : Shared → β} {a : α} {b : β}
    (h : (topRunT PySem.W.Fast.tw14364793385576792824 p w (boot_heap w.params).objs.size ((boot_heap w.params).nsMap mainGlobals "__annotations__") N (bootS w os) (topStub p)).map (fun S => (staticsOk (importedModules p.main.body) (boot_heap w.params) S.abs.heap && namesBound p S.abs.heap && gensDone S.abs && laidKept (boot_heap w.params) S.abs.heap, f S.abs, g S.abs)) = some (true, a, b)) :
    (topFrom treeTable p w N ⟨boot_heap w.params, Array.mk [], boot_drawn, boot_toks, os⟩).map (fun s => (f s, g s)) = some (a, b) := by
  rw [← PySem.W.Fast.te14364793385576792824] at h
  obtain ⟨S, e, e'⟩ := Option.map_eq_some_iff.mp h
  have r := topRun_of e
  rw [boot_abs] at r
  obtain ⟨c1, c2⟩ := Prod.mk.inj e'
  unfold topFrom
  dsimp only
  rw [boot_ns]
  show ((topRun treeTable p w _ _ N _ _).bind _).map _ = _
  rw [r]
  show (match staticsOk (importedModules p.main.body) (boot_heap w.params) S.abs.heap && namesBound p S.abs.heap && gensDone S.abs && laidKept (boot_heap w.params) S.abs.heap with | true => some S.abs | false => none).map _ = _
  rw [c1]
  exact congrArg some c2
abbrev row0 : OpenRow := OpenLaw.row PySem.Challenge.rw_oc0130_01
abbrev loose0 : List Str := [Str.ofString "_Accumulator", Str.ofString "_filemode_table"]
abbrev seen0 (s : Shared) : Bool := xlAt viewQ [] s && recOk (RowW.records (OpenRow.toRowW row0)) s
theorem own_said : PySem.Challenge.rw_oc0130_01.wellSaid = true := by
  rw [PySem.W.Fast.te9446332074065402090]
  decide +kernel
theorem own_law (h : row0.Holds) : PySem.Challenge.rw_oc0130_01.Holds := holds_law own_said fun _ => h
/-- the head, but for the top's own run, the witness and the walk -/
theorem own_head (H : Hook) {d : DefRec} {kwd : List (Str × PySem.Expr)} (hl : ∀ (w : World) (os : OsState), (topRunT PySem.W.Fast.tw14364793385576792824 row0.prog w (boot_heap w.params).objs.size ((boot_heap w.params).nsMap mainGlobals "__annotations__") 3062 (bootS w os) (topStub row0.prog)).map (fun S => (staticsOk (importedModules row0.prog.main.body) (boot_heap w.params) S.abs.heap && namesBound row0.prog S.abs.heap && gensDone S.abs && laidKept (boot_heap w.params) S.abs.heap, PySem.W.Fast.tw4187177175401517315 viewQ loose0 (importedModules row0.prog.main.body) seen0 true S.abs, Hook.obs H S.abs)) = some (true, openGood viewQ loose0, Hook.val H w))
    (hdef : defOf viewQ row0.name = some (d, kwd)) (hp : row0.prog.theDef row0.name = some (d.params, d.body, d.scope)) (hk : kwWritten? d.params.kwonlyargs d.params.kw_defaults = some kwd)
    (hw : row0.toRowW.promised) (hc : WalkO viewQ loose0 (XL viewQ []) (Hook.says H) row0.toRowW d kwd fun f vs => PySem.call f vs) : row0.Holds :=
  holds_open (Yf := Hook.obs H) (Ya := Hook.val H) (YP := Hook.says H) (N := 3062) (Xt := seen0) (XP := XL viewQ []) (left_boot head_open fun w os => from_tree (by have := hl w os; rw [← PySem.W.Fast.te4187177175401517315] at this; exact this)) (Hook.of H) (Hook.keeps H) (fun s e => xl_of s (Bool.and_eq_true_iff.mp e).1) XL.keeps hdef hp hk (fun s e => recFacts_of (Bool.and_eq_true_iff.mp e).2) (by rfl) (row_said own_said) (by decide +kernel) ⟨rfl, rfl, rfl, rfl, rfl, by decide +kernel⟩ hw hc
local macro_rules | `(tactic| k_head) => `(tactic| x_head)
local macro_rules | `(tactic| o_law) => `(tactic| apply own_law)
set_option hygiene false in
local macro_rules | `(tactic| o_head $H) => `(tactic| (refine own_head $H (fun w os => by kernel_rfl) (by rfl) (by rfl) (by rfl) ?hw ?hc))
set_option maxRecDepth 100000 in
set_option maxHeartbeats 8000000 in
open_top hdx for PySem.Challenge.rw_oc0130_01
end Mine
end
local macro_rules | `(tactic| walk_at $s:str) => `(tactic| k_extra $s)
local macro_rules | `(tactic| omega) => `(tactic| k_extra "own:omega")
local macro_rules | `(tactic| x_close) => `(tactic| k_extra "own:x_close")
local macro_rules | `(tactic| k_inst) => `(tactic| k_extra "own:k_inst")
local macro_rules | `(tactic| k_mem) => `(tactic| k_extra "own:k_mem")
section
open PySem PySem.W PyProof.Rows PySem.Spec PySem.Calls
set_option maxRecDepth 100000
namespace Mine
theorem start_Bs : True := by
  w_top off
  k_with_none
  (k_with "own:omega" => (first | with_reducible assumption | (refine' Mine.room2 ?h ?e; (case h => with_reducible assumption); (case e => decide)) | (refine' Mine.room1 ?h ?e; (case h => with_reducible assumption); (case e => decide)) | (refine' Mine.le_up ?h ?e; (case h => with_reducible assumption); (case e => decide)) | (refine' Mine.room0 ?h; (case h => with_reducible assumption)) | ((fail_if_success (fail_if_success omega (config := {}))); lia)))
  trivial
/-- the object that the head writes out at an address -/
noncomputable def kAt (a : Nat) (P : Params) : Obj := ((hdx.heap_1 P).lookup a).getD default
/-- the part of the head's heap that nothing in the law's call ever turns (all but the two code tables that the generator expressions grow) -/
noncomputable def KW (P : Params) : Frag :=
  (nat_lit 0, kAt 0 P) :: (nat_lit 1, kAt 1 P) :: (nat_lit 2, kAt 2 P) :: (nat_lit 3, kAt 3 P) :: (nat_lit 4, kAt 4 P) :: (nat_lit 5, kAt 5 P) :: (nat_lit 6, kAt 6 P) :: (nat_lit 7, kAt 7 P) :: (nat_lit 8, kAt 8 P) :: (nat_lit 9, kAt 9 P) :: (nat_lit 10, kAt 10 P) :: (nat_lit 11, kAt 11 P) :: (nat_lit 12, kAt 12 P) :: (nat_lit 13, kAt 13 P) :: (nat_lit 14, kAt 14 P) :: (nat_lit 15, kAt 15 P) :: (nat_lit 16, kAt 16 P) :: (nat_lit 17, kAt 17 P) :: (nat_lit 18, kAt 18 P) :: (nat_lit 19, kAt 19 P) :: (nat_lit 20, kAt 20 P) :: (nat_lit 21, kAt 21 P) :: (nat_lit 22, kAt 22 P) :: (nat_lit 23, kAt 23 P) :: (nat_lit 24, kAt 24 P) :: (nat_lit 25, kAt 25 P) :: (nat_lit 26, kAt 26 P) :: (nat_lit 27, kAt 27 P) :: (nat_lit 28, kAt 28 P) :: (nat_lit 29, kAt 29 P) :: (nat_lit 30, kAt 30 P) :: (nat_lit 31, kAt 31 P) :: (nat_lit 32, kAt 32 P) :: (nat_lit 33, kAt 33 P) :: (nat_lit 34, kAt 34 P) :: (nat_lit 35, kAt 35 P) :: (nat_lit 36, kAt 36 P) :: (nat_lit 37, kAt 37 P) :: (nat_lit 38, kAt 38 P) :: (nat_lit 39, kAt 39 P) :: (nat_lit 40, kAt 40 P) :: (nat_lit 41, kAt 41 P) :: (nat_lit 42, kAt 42 P) :: (nat_lit 43, kAt 43 P) :: (nat_lit 44, kAt 44 P) :: (nat_lit 45, kAt 45 P) :: (nat_lit 46, kAt 46 P) :: (nat_lit 47, kAt 47 P) :: (nat_lit 48, kAt 48 P) :: (nat_lit 49, kAt 49 P) :: (nat_lit 50, kAt 50 P) :: (nat_lit 51, kAt 51 P) :: (nat_lit 52, kAt 52 P) :: (nat_lit 53, kAt 53 P) :: (nat_lit 54, kAt 54 P) :: (nat_lit 55, kAt 55 P) :: (nat_lit 56, kAt 56 P) :: (nat_lit 57, kAt 57 P) :: (nat_lit 58, kAt 58 P) :: (nat_lit 59, kAt 59 P) :: (nat_lit 60, kAt 60 P) :: (nat_lit 61, kAt 61 P) :: (nat_lit 62, kAt 62 P) :: (nat_lit 63, kAt 63 P) :: (nat_lit 64, kAt 64 P) :: (nat_lit 65, kAt 65 P) :: (nat_lit 66, kAt 66 P) :: (nat_lit 67, kAt 67 P) :: (nat_lit 68, kAt 68 P) :: (nat_lit 69, kAt 69 P) :: (nat_lit 70, kAt 70 P) :: (nat_lit 71, kAt 71 P) :: (nat_lit 74, kAt 74 P) :: (nat_lit 79, kAt 79 P) :: (nat_lit 80, kAt 80 P) :: (nat_lit 81, kAt 81 P) :: (nat_lit 82, kAt 82 P) :: (nat_lit 83, kAt 83 P) :: (nat_lit 84, kAt 84 P) :: (nat_lit 85, kAt 85 P) :: (nat_lit 86, kAt 86 P) :: (nat_lit 87, kAt 87 P) :: (nat_lit 88, kAt 88 P) :: (nat_lit 89, kAt 89 P) :: (nat_lit 90, kAt 90 P) :: (nat_lit 91, kAt 91 P) :: (nat_lit 92, kAt 92 P) :: (nat_lit 93, kAt 93 P) :: (nat_lit 94, kAt 94 P) :: (nat_lit 95, kAt 95 P) :: (nat_lit 96, kAt 96 P) :: (nat_lit 97, kAt 97 P) :: (nat_lit 98, kAt 98 P) :: (nat_lit 99, kAt 99 P) :: (nat_lit 100, kAt 100 P) :: (nat_lit 101, kAt 101 P) :: (nat_lit 102, kAt 102 P) :: (nat_lit 103, kAt 103 P) :: (nat_lit 104, kAt 104 P) :: (nat_lit 105, kAt 105 P) :: (nat_lit 106, kAt 106 P) :: (nat_lit 107, kAt 107 P) :: (nat_lit 108, kAt 108 P) :: (nat_lit 109, kAt 109 P) :: (nat_lit 110, kAt 110 P) :: (nat_lit 111, kAt 111 P) :: (nat_lit 113, kAt 113 P) :: (nat_lit 114, kAt 114 P) :: (nat_lit 115, kAt 115 P) :: (nat_lit 116, kAt 116 P) :: (nat_lit 117, kAt 117 P) :: (nat_lit 118, kAt 118 P) :: (nat_lit 120, kAt 120 P) :: (nat_lit 121, kAt 121 P) :: (nat_lit 122, kAt 122 P) :: (nat_lit 123, kAt 123 P) :: (nat_lit 124, kAt 124 P) :: (nat_lit 125, kAt 125 P) :: (nat_lit 126, kAt 126 P) :: (nat_lit 127, kAt 127 P) :: (nat_lit 128, kAt 128 P) :: (nat_lit 129, kAt 129 P) :: (nat_lit 130, kAt 130 P) :: (nat_lit 131, kAt 131 P) :: (nat_lit 132, kAt 132 P) :: (nat_lit 133, kAt 133 P) :: (nat_lit 134, kAt 134 P) :: (nat_lit 135, kAt 135 P) :: (nat_lit 136, kAt 136 P) :: (nat_lit 137, kAt 137 P) :: (nat_lit 138, kAt 138 P) :: (nat_lit 139, kAt 139 P) :: (nat_lit 140, kAt 140 P) :: (nat_lit 141, kAt 141 P) :: (nat_lit 142, kAt 142 P) :: (nat_lit 143, kAt 143 P) :: (nat_lit 144, kAt 144 P) :: (nat_lit 145, kAt 145 P) :: (nat_lit 146, kAt 146 P) :: (nat_lit 147, kAt 147 P) :: (nat_lit 148, kAt 148 P) :: (nat_lit 149, kAt 149 P) :: (nat_lit 150, kAt 150 P) :: (nat_lit 151, kAt 151 P) :: (nat_lit 152, kAt 152 P) :: (nat_lit 155, kAt 155 P) :: (nat_lit 156, kAt 156 P) :: (nat_lit 157, kAt 157 P) :: (nat_lit 158, kAt 158 P) :: (nat_lit 159, kAt 159 P) :: (nat_lit 160, kAt 160 P) :: (nat_lit 161, kAt 161 P) :: (nat_lit 162, kAt 162 P) :: (nat_lit 163, kAt 163 P) :: (nat_lit 164, kAt 164 P) :: (nat_lit 165, kAt 165 P) :: (nat_lit 166, kAt 166 P) :: (nat_lit 167, kAt 167 P) :: (nat_lit 168, kAt 168 P) :: (nat_lit 169, kAt 169 P) :: (nat_lit 170, kAt 170 P) :: (nat_lit 171, kAt 171 P) :: (nat_lit 172, kAt 172 P) :: (nat_lit 173, kAt 173 P) :: (nat_lit 174, kAt 174 P) :: (nat_lit 175, kAt 175 P) :: (nat_lit 176, kAt 176 P) :: (nat_lit 177, kAt 177 P) :: (nat_lit 178, kAt 178 P) :: (nat_lit 179, kAt 179 P) :: (nat_lit 180, kAt 180 P) :: (nat_lit 181, kAt 181 P) :: (nat_lit 182, kAt 182 P) :: (nat_lit 183, kAt 183 P) :: (nat_lit 184, kAt 184 P) :: (nat_lit 185, kAt 185 P) :: (nat_lit 186, kAt 186 P) :: (nat_lit 187, kAt 187 P) :: (nat_lit 188, kAt 188 P) :: (nat_lit 189, kAt 189 P) :: (nat_lit 190, kAt 190 P) :: (nat_lit 191, kAt 191 P) :: (nat_lit 192, kAt 192 P) :: (nat_lit 193, kAt 193 P) :: (nat_lit 194, kAt 194 P) :: (nat_lit 195, kAt 195 P) :: (nat_lit 196, kAt 196 P) :: (nat_lit 197, kAt 197 P) :: (nat_lit 198, kAt 198 P) :: (nat_lit 199, kAt 199 P) :: (nat_lit 200, kAt 200 P) :: (nat_lit 201, kAt 201 P) :: (nat_lit 202, kAt 202 P) :: (nat_lit 203, kAt 203 P) :: (nat_lit 204, kAt 204 P) :: (nat_lit 205, kAt 205 P) :: (nat_lit 206, kAt 206 P) :: (nat_lit 207, kAt 207 P) :: (nat_lit 208, kAt 208 P) :: (nat_lit 209, kAt 209 P) :: (nat_lit 210, kAt 210 P) :: (nat_lit 211, kAt 211 P) :: (nat_lit 212, kAt 212 P) :: (nat_lit 213, kAt 213 P) :: (nat_lit 214, kAt 214 P) :: (nat_lit 215, kAt 215 P) :: (nat_lit 216, kAt 216 P) :: (nat_lit 217, kAt 217 P) :: (nat_lit 218, kAt 218 P) :: (nat_lit 219, kAt 219 P) :: (nat_lit 220, kAt 220 P) :: (nat_lit 221, kAt 221 P) :: (nat_lit 222, kAt 222 P) :: (nat_lit 223, kAt 223 P) :: (nat_lit 224, kAt 224 P) :: (nat_lit 225, kAt 225 P) :: (nat_lit 226, kAt 226 P) :: (nat_lit 227, kAt 227 P) :: (nat_lit 228, kAt 228 P) :: (nat_lit 229, kAt 229 P) :: (nat_lit 230, kAt 230 P) :: (nat_lit 231, kAt 231 P) :: (nat_lit 232, kAt 232 P) :: (nat_lit 233, kAt 233 P) :: (nat_lit 234, kAt 234 P) :: (nat_lit 235, kAt 235 P) :: (nat_lit 236, kAt 236 P) :: (nat_lit 237, kAt 237 P) :: (nat_lit 238, kAt 238 P) :: (nat_lit 239, kAt 239 P) :: (nat_lit 240, kAt 240 P) :: (nat_lit 241, kAt 241 P) :: (nat_lit 242, kAt 242 P) :: (nat_lit 243, kAt 243 P) :: (nat_lit 244, kAt 244 P) :: (nat_lit 245, kAt 245 P) :: (nat_lit 246, kAt 246 P) :: (nat_lit 247, kAt 247 P) :: (nat_lit 248, kAt 248 P) :: (nat_lit 249, kAt 249 P) :: (nat_lit 250, kAt 250 P) :: (nat_lit 251, kAt 251 P) :: (nat_lit 252, kAt 252 P) :: (nat_lit 253, kAt 253 P) :: (nat_lit 254, kAt 254 P) :: (nat_lit 255, kAt 255 P) :: (nat_lit 256, kAt 256 P) :: (nat_lit 257, kAt 257 P) :: (nat_lit 258, kAt 258 P) :: (nat_lit 259, kAt 259 P) :: (nat_lit 260, kAt 260 P) :: []
theorem fill_now : PySem.Challenge.rw_oc0130_01.prog = PySem.Challenge.rw_oc0130_01.prog ∧ KW = KW := by
  k_fill
  exact ⟨rfl, rfl⟩
theorem at_in {K : Frag} {h : Heap} (X : K.In h) : ∀ {as : List Nat}, (as.all fun a => (K.lookup a).isSome) = true → Frag.In (as.map fun a => (a, (K.lookup a).getD default)) h
  | [], _ => fun _ _ e => by cases e
  | a :: r, q => fun x o e => by
    rw [List.all_cons, Bool.and_eq_true] at q
    rw [List.map_cons, List.lookup_cons] at e
    split at e
    · rename_i z
      have z' : x = a := by simpa using z
      subst z'
      obtain ⟨v, hv⟩ := Option.isSome_iff_exists.mp q.1
      rw [hv] at e; cases e
      exact X _ _ hv
    · exact at_in X q.2 _ _ e
theorem KW_in {P : Params} {h : Heap} (X : (hdx.heap_1 P).In h) : (KW P).In h := by
  have e : KW P = ((KW P).map Prod.fst).map fun a => (a, ((hdx.heap_1 P).lookup a).getD default) := by kernel_rfl
  rw [e]
  exact at_in X (by kernel_rfl)
abbrev PG : Program := Challenge.rw_oc0130_01.row.prog
/-- an accumulator -/
noncomputable def accObj (d : Addr) (items : Array Value) (n : Nat) : Obj := ⟨.ref 150, some d, .seq items n, #[]⟩
end Mine
end
section
open PySem PySem.W PyProof.Rows PySem.Spec PySem.Calls
set_option maxRecDepth 100000
namespace Mine
theorem start_R1 : True := by
  w_top off
  k_with_none
  (k_with "own:omega" => (first | with_reducible assumption | (refine' Mine.room2 ?h ?e; (case h => with_reducible assumption); (case e => decide)) | (refine' Mine.room1 ?h ?e; (case h => with_reducible assumption); (case e => decide)) | (refine' Mine.le_up ?h ?e; (case h => with_reducible assumption); (case e => decide)) | (refine' Mine.room0 ?h; (case h => with_reducible assumption)) | ((fail_if_success (fail_if_success omega (config := {}))); lia)))
  trivial
section
variable {w : World} {A : Around} {E : Value → Shared → Prop} {s : Shared} {row d : Addr} {items : Array Value} {n : Nat}

theorem acc_type {M : Model} {h : Heap} (ho : h.get? row = some (accObj d items n)) : Looks M h (typeOf (.ref row)) (.ref 150) := (Looks.ld ho).andThen .now
theorem acc_sub {M : Model} {h : Heap} (X : (KW w.params).In h) : Looks M h (isSubtype (.ref 150) (.type "list")) true := looks_mroIn X (by kernel_rfl)
theorem acc_isInst {M : Model} {h : Heap} (X : (KW w.params).In h) (ho : h.get? row = some (accObj d items n)) : Looks M h (isInstance (.ref row) (.type "list")) true := (acc_type ho).andThen (acc_sub X)

/-- a call of one of list's own upon an accumulator -/
theorem acc_call {T : String} {name : Str} {id : String} {b : Builtin} {rest : List Value} {n₁ : String} {Q : Value → Shared → Prop} (X : (KW w.params).In s.heap) (ho : s.heap.get? row = some (accObj d items n))
    (S : Slot T name id) (hsplit : splitId id = some ("list", n₁))
    (hkind : (Manifest.find? "list").bind (·.attrs.lookup n₁) = some .slot ∨ (Manifest.find? "list").bind (·.attrs.lookup n₁) = some .method)
    (hb : entryFor table id = some b) (ha : argsOk id ⟨.ref row :: rest, []⟩)
    (hc : wpAny (model PG w) A.in1 (b ⟨.ref row :: rest, []⟩) (fun fin s' => ∃ v, fin = .done (.ret v) ∧ Q v s') E s) :
    wpAny (model PG w) A (call (.builtin id) (.ref row :: rest)) Q E s := by
  have hk : builtinKind id = (Manifest.find? "list").bind (·.attrs.lookup n₁) := by simp only [builtinKind, hsplit]
  have chk : ∀ {Q' : Unit → Shared → Prop} {E' : Value → Shared → Prop}, Q' () s → wpAny (model PG w) A.in1 (checkBuiltinCall id ⟨.ref row :: rest, []⟩) Q' E' s := by
    intro Q' E' hQ
    rcases hkind with h | h <;>
    · simp only [checkBuiltinCall, hk, h, hsplit]
      refine wpAny_bind ((acc_isInst X ho).here ?_)
      simp only [Bool.not_true, Bool.false_eq_true, if_false]
      cases hsig : Manifest.signature? id with
      | none => exact wpAny_pure hQ
      | some sig =>
        simp only [argsOk, hsig] at ha
        have h2 : Bind.checkArgs id sig ⟨.ref row :: rest, []⟩ = pure () := ha
        show wpAny _ A.in1 (Bind.checkArgs id sig ⟨.ref row :: rest, []⟩) Q' E' s
        rw [h2]; exact wpAny_pure hQ
  refine wpAny_call (codeAny_call_builtin S.plain hb (chk (wpAny_mono hc (fun fin s' h' => ?_) fun _ _ h' => h')))
  obtain ⟨v, rfl, hv⟩ := h'; exact hv

theorem acc_special {M : Model} {T : String} {name : Str} {id : String} {args : List Value} {Q : Option Value → Shared → Prop} (X : (KW w.params).In s.heap) (ho : s.heap.get? row = some (accObj d items n))
    (hs : findIn (KW w.params) (.ref 150) name = some (some (.builtin id))) (S : Slot T name id) (h : wpAny M A (call (.builtin id) (.ref row :: args)) (fun v => Q (some v)) E s) :
    wpAny M A (callSpecial? (.ref row) name args) Q E s :=
  wpAny_bind (wpAny_bind ((acc_type ho).here ((looks_findIn X hs).here (wpAny_holding (wpAny_bind (wpAny_of_eq (S.bind _) (wpAny_bind (wpAny_mono h (fun _ _ z => wpAny_pure z) fun _ _ z => z))))))))

theorem acc_noSeq {M : Model} {h : Heap} (X : (KW w.params).In h) : Looks M h (seqItemTypes.anyM fun n => isSubtype (.ref 150) (.type n)) false := anyM_none (K := KW w.params) X (by kernel_rfl)

theorem acc_getItem {k : Int} {t : Tok} {x : Value} {Q : Value → Shared → Prop} (X : (KW w.params).In s.heap) (ho : s.heap.get? row = some (accObj d items n)) (h0 : 0 ≤ k) (hfit : k < 2 ^ 63) (hx : items[k.toNat]? = some x) (h : Q x s) :
    wpAny (model PG w) A (getItem (.ref row) (.int k t)) Q E s := by
  unfold getItem sequenceKey
  refine wpAny_holding (wpAny_bind (wpAny_bind ((acc_type ho).here ?_)))
  refine wpAny_bind ((acc_noSeq X).here ?_)
  rw [if_pos (show (!false) = true from rfl)]
  refine wpAny_pure (wpAny_bind (acc_special X ho (by kernel_rfl) slot_list_getitem (acc_call X ho slot_list_getitem (n₁ := "__getitem__") (by decide +kernel) (.inr (by decide +kernel)) entry_list_getitem (args_list_getitem _ _) ?_)))
  show wpAny _ _ (Builtin.List.listSubscript? (.int k t) >>= _) _ _ s
  refine wpAny_bind (wpAny_listSubscript_int (fitsIndex_of h0 hfit) ?_)
  clear hfit
  obtain ⟨j, rfl⟩ := Int.eq_ofNat_of_zero_le h0
  have hx' : items[j]? = some x := hx
  show wpAny _ _ ((seqItemAt row j >>= fun r => pure (r.map (j, ·))) >>= _) _ _ s
  refine wpAny_bind (wpAny_bind (wpAny_seqItemAt ho rfl (wpAny_pure ?_)))
  rw [hx']
  first
    | exact wpAny_bind (wpAny_pure (wpAny_pure ⟨x, rfl, wpAny_pure h⟩))
    | exact wpAny_pure ⟨x, rfl, wpAny_pure h⟩

theorem acc_getItem_out {k : Int} {t : Tok} {Q : Value → Shared → Prop} (hA : A.handled = none) (X : (KW w.params).In s.heap) (ho : s.heap.get? row = some (accObj d items n)) (h0 : (items.size : Int) ≤ k) (hfit : k < 2 ^ 63)
    (hE : ∀ h' tk e, Heap.NewExc s.heap h' e "IndexError" → E (.ref e) { s with heap := h', toks := tk }) :
    wpAny (model PG w) A (getItem (.ref row) (.int k t)) Q E s := by
  unfold getItem sequenceKey
  refine wpAny_holding (wpAny_bind (wpAny_bind ((acc_type ho).here ?_)))
  refine wpAny_bind ((acc_noSeq X).here ?_)
  rw [if_pos (show (!false) = true from rfl)]
  refine wpAny_pure (wpAny_bind (acc_special X ho (by kernel_rfl) slot_list_getitem (acc_call X ho slot_list_getitem (n₁ := "__getitem__") (by decide +kernel) (.inr (by decide +kernel)) entry_list_getitem (args_list_getitem _ _) ?_)))
  show wpAny _ _ (Builtin.List.listSubscript? (.int k t) >>= _) _ _ s
  have h0' : 0 ≤ k := by omega
  refine wpAny_bind (wpAny_listSubscript_int (fitsIndex_of h0' hfit) ?_)
  clear hfit
  obtain ⟨j, rfl⟩ := Int.eq_ofNat_of_zero_le h0'
  have hx' : items[j]? = none := Array.getElem?_eq_none (by omega)
  show wpAny _ _ ((seqItemAt row j >>= fun r => pure (r.map (j, ·))) >>= _) _ _ s
  refine wpAny_bind (wpAny_bind (wpAny_seqItemAt ho rfl (wpAny_pure ?_)))
  rw [hx']
  first
    | exact wpAny_bind (wpAny_rule (by exact_raiseError plainExc_IndexError hA hE))
    | exact wpAny_bind (wpAny_rule (wpAny_bind (by exact_raiseError plainExc_IndexError hA hE)))
    | exact wpAny_bind (wpAny_bind (wpAny_rule (by exact_raiseError plainExc_IndexError hA hE)))
    | exact wpAny_rule (by exact_raiseError plainExc_IndexError hA hE)

theorem acc_mapSeq (d : Addr) (items : Array Value) (n : Nat) (f : Array Value → Array Value) : Obj.mapSeq f (accObj d items n) = accObj d (f items) (if (f items).size == items.size then n else n + 1) := rfl
theorem acc_upd {h : Heap} (ho : h.get? row = some (accObj d items n)) (f : Array Value → Array Value) :
    (h.update row (Obj.mapSeq f)).get? row = some (accObj d (f items) (if (f items).size == items.size then n else n + 1)) := by
  rw [Heap.get?_update_self _ ho (by rw [acc_mapSeq]; rfl), acc_mapSeq]

theorem acc_setItem {k : Int} {t : Tok} {v : Value} {Q : Unit → Shared → Prop} (X : (KW w.params).In s.heap) (ho : s.heap.get? row = some (accObj d items n)) (h0 : 0 ≤ k) (hfit : k < 2 ^ 63) (hn : k < items.size)
    (hQ : ∀ h', h'.get? row = some (accObj d (items.setIfInBounds k.toNat v) n) → Heap.SameBut row s.heap h' → Q () { s with heap := h' }) :
    wpAny (model PG w) A (setItem (.ref row) (.int k t) v) Q E s := by
  unfold setItem sequenceKey
  refine wpAny_holding (wpAny_bind (wpAny_bind ((acc_type ho).here ?_)))
  refine wpAny_bind ((acc_noSeq X).here ?_)
  rw [if_pos (show (!false) = true from rfl)]
  refine wpAny_pure (wpAny_bind (acc_special X ho (by kernel_rfl) slot_list_setitem (acc_call X ho slot_list_setitem (n₁ := "__setitem__") (by decide +kernel) (by first | exact .inl (by decide +kernel) | exact .inr (by decide +kernel)) entry_list_setitem (args_list_setitem _ _ _) ?_)))
  show wpAny _ _ (Builtin.List.listSubscript? (.int k t) >>= _) _ _ s
  refine wpAny_bind (wpAny_listSubscript_int (fitsIndex_of h0 hfit) ?_)
  clear hfit
  obtain ⟨j, rfl⟩ := Int.eq_ofNat_of_zero_le h0
  have hj : j < items.size := by omega
  have hx' : items[j]? = some items[j] := Array.getElem?_eq_getElem hj
  show wpAny _ _ ((seqItemAt row j >>= fun r => pure (r.map (j, ·))) >>= _) _ _ s
  refine wpAny_bind (wpAny_bind (wpAny_seqItemAt ho rfl (wpAny_pure ?_)))
  rw [hx']
  show wpAny _ _ (setSeqItemAt row j v >>= _) _ _ s
  have hfin : (s.heap.update row (Obj.mapSeq (·.setIfInBounds j v))).get? row = some (accObj d (items.setIfInBounds j v) n) := by
    rw [acc_upd ho]; simp
  refine wpAny_bind (wpAny_setSeqItemAt ho rfl ?_)
  first
    | exact wpAny_bind (wpAny_pure (wpAny_pure ⟨.none, rfl, wpAny_pure (hQ _ hfin (Heap.SameBut.update ..))⟩))
    | exact wpAny_pure ⟨.none, rfl, wpAny_pure (hQ _ hfin (Heap.SameBut.update ..))⟩

theorem acc_tail {value slice : PySem.Expr} {i : Value} {Q : Value → Shared → Prop} (X : (KW w.params).In s.heap) (ho : s.heap.get? row = some (accObj d items n))
    (hg : wpAny (model PG w) A (getItem (.ref row) i) Q E s) {ops : List Value} (hs : subscripted slice false (.ref row) i = operate ops (getItem (.ref row) i)) :
    wpAny (model PG w) A (subscriptTail value slice (.ref row) i) Q E s := by
  unfold subscriptTail getitemInPython
  refine wpAny_bind (wpAny_bind (wpAny_bind ((acc_type ho).here ((looks_findIn X (r := some (.builtin "list.__getitem__")) (by kernel_rfl)).here ?_))))
  have fin : wpAny (model PG w) A (subscripted slice false (.ref row) i) (fun r s₃ => wpAny (model PG w) A (letTemporaryGo value (.ref row) r >>= fun _ => pure r) Q E s₃) E s := by
    rw [hs]
    exact wpAny_operating (wpAny_mono hg (fun r s₃ h₃ => wpAny_bind (wpAny_letTemporaryGo (wpAny_pure h₃))) fun _ _ x => x)
  first
    | exact wpAny_pure (wpAny_bind fin)
    | exact wpAny_bind (wpAny_pure (wpAny_bind fin))
    | exact wpAny_bind fin
end
end Mine
end
section
open PySem PySem.W PyProof.Rows PySem.Spec PySem.Calls
set_option maxRecDepth 100000
namespace Mine
theorem start_R2 : True := by
  w_top off
  k_with_none
  (k_with "own:omega" => (first | with_reducible assumption | (refine' Mine.room2 ?h ?e; (case h => with_reducible assumption); (case e => decide)) | (refine' Mine.room1 ?h ?e; (case h => with_reducible assumption); (case e => decide)) | (refine' Mine.le_up ?h ?e; (case h => with_reducible assumption); (case e => decide)) | (refine' Mine.room0 ?h; (case h => with_reducible assumption)) | ((fail_if_success (fail_if_success omega (config := {}))); lia)))
  trivial
/-- a tuple of two texts -/
noncomputable def tupObj (x : Str) (t : Tok) (y : Str) (u : Tok) : Obj := { cls := .type "tuple", data := .seq #[.str x t, .str y u] }
noncomputable def strLt (x y : Str) : Bool := decide (x.cps.toList < y.cps.toList)
noncomputable def strLe (x y : Str) : Bool := !(decide (y.cps.toList < x.cps.toList))
section
variable {w : World} {A : Around} {E : Value → Shared → Prop} {s : Shared} {a b : Addr} {x₁ x₂ y₁ y₂ : Str} {t₁ t₂ u₁ u₂ : Tok}
theorem tup_typeIs {h : Shared} (ho : h.heap.get? a = some (tupObj x₁ t₁ x₂ t₂)) : h.TypeIs (.ref a) "tuple" := ⟨_, ho, rfl⟩

theorem tup_lt_tree {P : PySem.Fin → Shared → Prop} (ha : s.heap.get? a = some (tupObj x₁ t₁ x₂ t₂)) (hb : s.heap.get? b = some (tupObj y₁ u₁ y₂ u₂))
    (h : P (.done (.ret (.bool (if x₁ = y₁ then (if x₂ = y₂ then false else strLt x₂ y₂) else strLt x₁ y₁)))) s) :
    wpAny (model PG w) A (Builtin.«tuple.__lt__» ⟨[.ref a, .ref b], []⟩) P E s := by
  show wpAny _ _ (isInstance (.ref b) (.type "tuple") >>= _) _ _ s
  refine wpAny_bind (wpAny_isInstance (tup_typeIs hb) isSubtype_tuple_tuple ?_)
  simp only [Bool.not_true, Bool.false_eq_true, if_false]
  refine wpAny_bind (wpAny_tupleItemsOf ha rfl ?_)
  refine wpAny_bind (wpAny_tupleItemsOf hb rfl ?_)
  refine wpAny_bind ?_
  rw [show (#[Value.str x₁ t₁, Value.str x₂ t₂].toList.zip #[Value.str y₁ u₁, Value.str y₂ u₂].toList) = [(.str x₁ t₁, .str y₁ u₁), (.str x₂ t₂, .str y₂ u₂)] from rfl, List.forIn_cons]
  refine wpAny_bind (wpAny_bind (wpAny_eqBool_str ?_))
  by_cases e1 : x₁ = y₁
  · simp only [e1, decide_true, Bool.not_true, Bool.false_eq_true, if_false, if_true] at h ⊢
    refine wpAny_pure ?_
    dsimp only
    rw [List.forIn_cons]
    refine wpAny_bind (wpAny_bind (wpAny_eqBool_str ?_))
    by_cases e2 : x₂ = y₂
    · simp only [e2, decide_true, Bool.not_true, Bool.false_eq_true, if_false, if_true] at h ⊢
      refine wpAny_pure ?_
      dsimp only
      rw [List.forIn_nil]
      exact wpAny_pure (wpAny_pure h)
    · simp only [e2, decide_false, Bool.not_false, if_false, if_true] at h ⊢
      refine wpAny_bind (wpAny_rule (wpAny_bind (lt_str ?_)))
      exact wpAny_bind (wpAny_pure (wpAny_pure (wpAny_pure (wpAny_pure h))))
  · simp only [e1, decide_false, Bool.not_false, if_false, if_true] at h ⊢
    refine wpAny_bind (wpAny_rule (wpAny_bind (lt_str ?_)))
    exact wpAny_bind (wpAny_pure (wpAny_pure (wpAny_pure (wpAny_pure h))))

theorem tup_le_tree {P : PySem.Fin → Shared → Prop} (ha : s.heap.get? a = some (tupObj x₁ t₁ x₂ t₂)) (hb : s.heap.get? b = some (tupObj y₁ u₁ y₂ u₂))
    (h : P (.done (.ret (.bool (if x₁ = y₁ then (if x₂ = y₂ then true else strLe x₂ y₂) else strLe x₁ y₁)))) s) :
    wpAny (model PG w) A (Builtin.«tuple.__le__» ⟨[.ref a, .ref b], []⟩) P E s := by
  show wpAny _ _ (isInstance (.ref b) (.type "tuple") >>= _) _ _ s
  refine wpAny_bind (wpAny_isInstance (tup_typeIs hb) isSubtype_tuple_tuple ?_)
  simp only [Bool.not_true, Bool.false_eq_true, if_false]
  refine wpAny_bind (wpAny_tupleItemsOf ha rfl ?_)
  refine wpAny_bind (wpAny_tupleItemsOf hb rfl ?_)
  refine wpAny_bind ?_
  rw [show (#[Value.str x₁ t₁, Value.str x₂ t₂].toList.zip #[Value.str y₁ u₁, Value.str y₂ u₂].toList) = [(.str x₁ t₁, .str y₁ u₁), (.str x₂ t₂, .str y₂ u₂)] from rfl, List.forIn_cons]
  refine wpAny_bind (wpAny_bind (wpAny_eqBool_str ?_))
  by_cases e1 : x₁ = y₁
  · simp only [e1, decide_true, Bool.not_true, Bool.false_eq_true, if_false, if_true] at h ⊢
    refine wpAny_pure ?_
    dsimp only
    rw [List.forIn_cons]
    refine wpAny_bind (wpAny_bind (wpAny_eqBool_str ?_))
    by_cases e2 : x₂ = y₂
    · simp only [e2, decide_true, Bool.not_true, Bool.false_eq_true, if_false, if_true] at h ⊢
      refine wpAny_pure ?_
      dsimp only
      rw [List.forIn_nil]
      exact wpAny_pure (wpAny_pure h)
    · simp only [e2, decide_false, Bool.not_false, if_false, if_true] at h ⊢
      refine wpAny_bind (wpAny_rule (wpAny_bind (PySem.P.le_str ?_)))
      exact wpAny_bind (wpAny_pure (wpAny_pure (wpAny_pure (wpAny_pure h))))
  · simp only [e1, decide_false, Bool.not_false, if_false, if_true] at h ⊢
    refine wpAny_bind (wpAny_rule (wpAny_bind (PySem.P.le_str ?_)))
    exact wpAny_bind (wpAny_pure (wpAny_pure (wpAny_pure (wpAny_pure h))))

theorem tup_lt {Q : Value → Shared → Prop} (hu : A.units < cLine) (ha : s.heap.get? a = some (tupObj x₁ t₁ x₂ t₂)) (hb : s.heap.get? b = some (tupObj y₁ u₁ y₂ u₂))
    (h : Q (.bool (if x₁ = y₁ then (if x₂ = y₂ then false else strLt x₂ y₂) else strLt x₁ y₁)) s) : wpAny (model PG w) A (compareOp .Lt (.ref a) (.ref b)) Q E s :=
  wpAny_richCompare_same_room (op := .Lt) (tup_typeIs ha) (tup_typeIs hb) F.slot_tuple_lt
    (wpAny_call_entry F.slot_tuple_lt (tup_typeIs ha) F.entry_tuple_lt (tup_lt_tree ha hb ⟨_, rfl, (fun e => nomatch e), h⟩) (F.args_tuple_lt_2 _ _)) hu
theorem tup_le {Q : Value → Shared → Prop} (hu : A.units < cLine) (ha : s.heap.get? a = some (tupObj x₁ t₁ x₂ t₂)) (hb : s.heap.get? b = some (tupObj y₁ u₁ y₂ u₂))
    (h : Q (.bool (if x₁ = y₁ then (if x₂ = y₂ then true else strLe x₂ y₂) else strLe x₁ y₁)) s) : wpAny (model PG w) A (compareOp .LtE (.ref a) (.ref b)) Q E s :=
  wpAny_richCompare_same_room (op := .LtE) (tup_typeIs ha) (tup_typeIs hb) F.slot_tuple_le
    (wpAny_call_entry F.slot_tuple_le (tup_typeIs ha) F.entry_tuple_le (tup_le_tree ha hb ⟨_, rfl, (fun e => nomatch e), h⟩) (F.args_tuple_le_2 _ _)) hu
end

/-! pieces as numbers: 0 is ('', ''), BL is (' ', ''), any other k is ('', the sign of the code k) -/
abbrev BL : Nat := 1114112
noncomputable def pcF (k : Nat) : Str := if k = BL then ⟨#[32]⟩ else ⟨#[]⟩
noncomputable def pcS (k : Nat) : Str := if k = BL ∨ k = 0 then ⟨#[]⟩ else ⟨#[k]⟩
theorem one_lt (k j : Nat) : ([k] < [j]) ↔ k < j := by
  constructor
  · intro h
    cases h with
    | rel h => exact h
    | cons h => cases h
  · exact fun h => List.Lex.rel h
theorem pc_lt {k j : Nat} (hk : k ≤ BL) (hj : j ≤ BL) : (if pcF k = pcF j then (if pcS k = pcS j then false else strLt (pcS k) (pcS j)) else strLt (pcF k) (pcF j)) = decide (k < j) := by
  have hb : (0 : Nat) ≠ BL := by decide
  unfold strLt pcF pcS
  by_cases h1 : k = BL <;> by_cases h2 : j = BL <;> by_cases h3 : k = 0 <;> by_cases h4 : j = 0 <;> simp [h1, h2, h3, h4, -Nat.lt_irrefl] <;> (try omega)
  rw [Bool.eq_iff_iff]
  simp only [Bool.and_eq_true, Bool.not_eq_true', decide_eq_false_iff_not, decide_eq_true_eq, one_lt]
  omega
theorem pc_le {k j : Nat} (hk : k ≤ BL) (hj : j ≤ BL) : (if pcF k = pcF j then (if pcS k = pcS j then true else strLe (pcS k) (pcS j)) else strLe (pcF k) (pcF j)) = decide (k ≤ j) := by
  have hb : (0 : Nat) ≠ BL := by decide
  unfold strLe pcF pcS
  by_cases h1 : k = BL <;> by_cases h2 : j = BL <;> by_cases h3 : k = 0 <;> by_cases h4 : j = 0 <;> simp [h1, h2, h3, h4] <;> (try omega)
  rw [Bool.eq_iff_iff]
  simp only [Bool.or_eq_true, Bool.not_eq_true', decide_eq_false_iff_not, decide_eq_true_eq, one_lt]
  omega
end Mine
end
section
open PySem PySem.W PyProof.Rows PySem.Spec PySem.Calls
set_option maxRecDepth 100000
namespace Mine
theorem start_R3 : True := by
  w_top off
  k_with_none
  (k_with "own:omega" => (first | with_reducible assumption | (refine' Mine.room2 ?h ?e; (case h => with_reducible assumption); (case e => decide)) | (refine' Mine.room1 ?h ?e; (case h => with_reducible assumption); (case e => decide)) | (refine' Mine.le_up ?h ?e; (case h => with_reducible assumption); (case e => decide)) | (refine' Mine.room0 ?h; (case h => with_reducible assumption)) | ((fail_if_success (fail_if_success omega (config := {}))); lia)))
  trivial
/-- the ledger bears the piece k at a -/
noncomputable def PcAt (rest : List (Addr × Obj)) (a : Addr) (k : Nat) : Prop := k ≤ BL ∧ ∃ t u, (a, tupObj (pcF k) t (pcS k) u) ∈ rest
/-- these values are these pieces -/
noncomputable def Are (rest : List (Addr × Obj)) : List Value → List Nat → Prop
  | [], [] => True
  | v :: vs, k :: ks => (∃ a, v = .ref a ∧ PcAt rest a k) ∧ Are rest vs ks
  | _, _ => False
theorem PcAt.mono {rest rest' : List (Addr × Obj)} {a : Addr} {k : Nat} (h : PcAt rest a k) (s : ∀ p ∈ rest, p ∈ rest') : PcAt rest' a k :=
  let ⟨b, t, u, m⟩ := h; ⟨b, t, u, s _ m⟩
section
variable {rest : List (Addr × Obj)}
theorem Are.mono {rest' : List (Addr × Obj)} (s : ∀ p ∈ rest, p ∈ rest') : ∀ {vs : List Value} {ks : List Nat}, Are rest vs ks → Are rest' vs ks
  | [], [], _ => trivial
  | _ :: _, _ :: _, ⟨⟨a, e, p⟩, r⟩ => ⟨⟨a, e, p.mono s⟩, Are.mono s r⟩
theorem Are.length : ∀ {vs : List Value} {ks : List Nat}, Are rest vs ks → vs.length = ks.length
  | [], [], _ => rfl
  | _ :: _, _ :: _, ⟨_, r⟩ => by rw [List.length_cons, List.length_cons, Are.length r]
theorem Are.at : ∀ {vs : List Value} {ks : List Nat}, Are rest vs ks → ∀ {i : Nat}, i < ks.length → ∃ a, vs[i]? = some (.ref a) ∧ PcAt rest a (ks.getD i 0)
  | [], [], _, _, h => by simp at h
  | _ :: _, _ :: _, ⟨⟨a, e, p⟩, _⟩, 0, _ => ⟨a, by rw [e]; rfl, p⟩
  | _ :: _, _ :: ks, ⟨_, r⟩, i + 1, h => by
    obtain ⟨a, e, p⟩ := Are.at r (i := i) (by simpa using h)
    exact ⟨a, by simpa using e, by simpa using p⟩
theorem Are.set {a : Addr} {k : Nat} (p : PcAt rest a k) : ∀ {vs : List Value} {ks : List Nat}, Are rest vs ks → ∀ {i : Nat}, Are rest (vs.set i (.ref a)) (ks.set i k)
  | [], [], _, _ => trivial
  | _ :: _, _ :: _, ⟨_, r⟩, 0 => ⟨⟨a, rfl, p⟩, r⟩
  | _ :: _, _ :: _, ⟨q, r⟩, i + 1 => ⟨q, Are.set p r⟩
theorem Are.append : ∀ {vs : List Value} {ks : List Nat} {vs' : List Value} {ks' : List Nat}, Are rest vs ks → Are rest vs' ks' → Are rest (vs ++ vs') (ks ++ ks')
  | [], [], _, _, _, r => r
  | _ :: _, _ :: _, _, _, ⟨q, r⟩, r' => ⟨q, Are.append r r'⟩
theorem Are.take : ∀ {vs : List Value} {ks : List Nat} (n : Nat), Are rest vs ks → Are rest (vs.take n) (ks.take n)
  | [], [], n, _ => by cases n <;> trivial
  | _ :: _, _ :: _, 0, _ => trivial
  | _ :: _, _ :: _, n + 1, ⟨q, r⟩ => ⟨q, Are.take n r⟩
theorem Are.drop : ∀ {vs : List Value} {ks : List Nat} (n : Nat), Are rest vs ks → Are rest (vs.drop n) (ks.drop n)
  | [], [], n, _ => by cases n <;> trivial
  | _ :: _, _ :: _, 0, r => r
  | _ :: _, _ :: _, n + 1, ⟨_, r⟩ => Are.drop n r
theorem Are.le : ∀ {vs : List Value} {ks : List Nat}, Are rest vs ks → ∀ k ∈ ks, k ≤ BL
  | [], [], _, _, h => nomatch h
  | _ :: _, _ :: _, ⟨⟨_, _, p⟩, _⟩, _, .head _ => p.1
  | _ :: _, _ :: _, ⟨_, r⟩, _, .tail _ h => Are.le r _ h
end
/-! a frame's map with its known names written out -/
theorem at1 {g h : Heap} {L : Addr} {m : Str → Option Value} {x1 : Str} {v1 : Value} (F : Fr g L h m) (h1 : m x1 = some v1) : Fr g L h (fun y => if y = x1 then some v1 else m y) := by
  have e : m = (fun y => if y = x1 then some v1 else m y) := by
    funext y
    by_cases q : y = x1
    · subst q; simp [h1]
    · simp [q]
  rw [← e]; exact F
theorem at2 {g h : Heap} {L : Addr} {m : Str → Option Value} {x1 x2 : Str} {v1 v2 : Value} (F : Fr g L h m) (h1 : m x1 = some v1) (h2 : m x2 = some v2) : Fr g L h (fun y => if y = x1 then some v1 else if y = x2 then some v2 else m y) :=
  at1 (at1 F h2) (by by_cases q : x1 = x2 <;> simp_all)
theorem at3 {g h : Heap} {L : Addr} {m : Str → Option Value} {x1 x2 x3 : Str} {v1 v2 v3 : Value} (F : Fr g L h m) (h1 : m x1 = some v1) (h2 : m x2 = some v2) (h3 : m x3 = some v3) : Fr g L h (fun y => if y = x1 then some v1 else if y = x2 then some v2 else if y = x3 then some v3 else m y) :=
  at1 (at2 F h2 h3) (by by_cases q : x1 = x2 <;> by_cases q' : x1 = x3 <;> simp_all)
theorem at4 {g h : Heap} {L : Addr} {m : Str → Option Value} {x1 x2 x3 x4 : Str} {v1 v2 v3 v4 : Value} (F : Fr g L h m) (h1 : m x1 = some v1) (h2 : m x2 = some v2) (h3 : m x3 = some v3) (h4 : m x4 = some v4) :
    Fr g L h (fun y => if y = x1 then some v1 else if y = x2 then some v2 else if y = x3 then some v3 else if y = x4 then some v4 else m y) :=
  at1 (at3 F h2 h3 h4) (by by_cases q : x1 = x2 <;> by_cases q' : x1 = x3 <;> by_cases q'' : x1 = x4 <;> simp_all)
section
variable {w : World} {A : Around} {E : Value → Shared → Prop} {s : Shared} {row d : Addr} {n : Nat} {h₀ : Heap} {L : Addr} {m : Str → Option Value} {news rest : List (Addr × Obj)} {vs : List Value} {ks : List Nat}

theorem accK_sub {value slice : PySem.Expr} {k : Int} {u : Tok} {Q : Value → Shared → Prop} (F : Fr h₀ L s.heap m) (X₀ : (KW w.params).In h₀) (N : News h₀ L s.heap news) (hm : (row, accObj d vs.toArray n) ∈ news) (hA : Are rest vs ks)
    (h0 : 0 ≤ k) (hk : k < (ks.length : Int)) (hl : ks.length ≤ 1000) (h : ∀ a, vs[k.toNat]? = some (.ref a) → PcAt rest a (ks.getD k.toNat 0) → Q (.ref a) s)
    (hs : subscripted slice false (.ref row) (.int k u) = operate [.ref row, .int k u] (getItem (.ref row) (.int k u)) := by with_unfolding_all rfl) :
    wpAny (model PG w) A (subscriptTail value slice (.ref row) (.int k u)) Q E s := by
  obtain ⟨a, e, p⟩ := hA.at (i := k.toNat) (by omega)
  exact acc_tail (X₀.keeps F.keep) (N.get hm) (acc_getItem (X₀.keeps F.keep) (N.get hm) h0 (by omega) (by simpa using e) (h a e p)) hs
theorem accK_set {k : Int} {u : Tok} {a : Addr} {x : Nat} {Q : Unit → Shared → Prop} (F : Fr h₀ L s.heap m) (X₀ : (KW w.params).In h₀) (N : News h₀ L s.heap news) (hm : (row, accObj d vs.toArray n) ∈ news) (hr : ∀ p ∈ rest, p ∈ news) (hne : ∀ p ∈ rest, p.1 ≠ row) (hA : Are rest vs ks) (hx : PcAt rest a x)
    (h0 : 0 ≤ k) (hk : k < (ks.length : Int)) (hl : ks.length ≤ 1000)
    (h : ∀ vs' h', Are rest vs' (ks.set k.toNat x) → Fr h₀ L h' m → News h₀ L h' ((row, accObj d vs'.toArray n) :: rest) → Q () { s with heap := h' }) :
    wpAny (model PG w) A (setItem (.ref row) (.int k u) (.ref a)) Q E s := by
  refine acc_setItem (X₀.keeps F.keep) (N.get hm) h0 (by omega) (by have := hA.length; simp; omega) fun h' ho hs => ?_
  rw [List.setIfInBounds_toArray] at ho
  refine h _ h' (hA.set hx) (F.change hs (N _ hm).2.1 (N _ hm).2.2) (fun p hp => ?_)
  rcases List.mem_cons.mp hp with rfl | hp
  · exact ⟨ho, (N _ hm).2.1, (N _ hm).2.2⟩
  · exact ⟨(hs.2 p.1 (hne p hp)).trans (N p (hr p hp)).1, (N p (hr p hp)).2⟩
theorem pcK_lt {a b : Addr} {x y : Nat} {Q : Value → Shared → Prop} (hu : A.units < cLine) (N : News h₀ L s.heap news) (hr : ∀ p ∈ rest, p ∈ news) (ha : PcAt rest a x) (hb : PcAt rest b y) (h : Q (.bool (decide (x < y))) s) :
    wpAny (model PG w) A (compareOp .Lt (.ref a) (.ref b)) Q E s := by
  obtain ⟨hx, t, u, ma⟩ := ha
  obtain ⟨hy, t', u', mb⟩ := hb
  refine tup_lt hu (N.get (hr _ ma)) (N.get (hr _ mb)) ?_
  rw [pc_lt hx hy]; exact h
theorem pcK_le {a b : Addr} {x y : Nat} {Q : Value → Shared → Prop} (hu : A.units < cLine) (N : News h₀ L s.heap news) (hr : ∀ p ∈ rest, p ∈ news) (ha : PcAt rest a x) (hb : PcAt rest b y) (h : Q (.bool (decide (x ≤ y))) s) :
    wpAny (model PG w) A (compareOp .LtE (.ref a) (.ref b)) Q E s := by
  obtain ⟨hx, t, u, ma⟩ := ha
  obtain ⟨hy, t', u', mb⟩ := hb
  refine tup_le hu (N.get (hr _ ma)) (N.get (hr _ mb)) ?_
  rw [pc_le hx hy]; exact h
end
end Mine
end
section
open PySem PySem.W PyProof.Rows PySem.Spec PySem.Calls
set_option maxRecDepth 100000
namespace Mine
theorem start_G1 : True := by
  w_top off
  k_with_none
  (k_with "own:omega" => (first | with_reducible assumption | (refine' Mine.room2 ?h ?e; (case h => with_reducible assumption); (case e => decide)) | (refine' Mine.room1 ?h ?e; (case h => with_reducible assumption); (case e => decide)) | (refine' Mine.le_up ?h ?e; (case h => with_reducible assumption); (case e => decide)) | (refine' Mine.room0 ?h; (case h => with_reducible assumption)) | ((fail_if_success (fail_if_success omega (config := {}))); lia)))
  trivial
/-- a sequence's items, of whatever class it is -/
noncomputable def SeqAt (h : Heap) (a : Addr) (items : Array Value) : Prop := ∃ o n, h.get? a = some o ∧ o.data = .seq items n
theorem SeqAt.at' {h h' : Heap} {a : Addr} {items : Array Value} (x : SeqAt h a items) (e : ∀ o, h.get? a = some o → h'.get? a = some o) : SeqAt h' a items :=
  let ⟨o, n, ho, hd⟩ := x; ⟨o, n, e o ho, hd⟩
theorem SeqAt.acc {h : Heap} {a d : Addr} {vs : List Value} {n : Nat} (ho : h.get? a = some (accObj d vs.toArray n)) : SeqAt h a vs.toArray := ⟨_, _, ho, rfl⟩
section
variable {w : World} {A : Around} {E : Value → Shared → Prop} {s : Shared}

theorem seq_next {it l : Addr} {i : Nat} {items : Array Value} {x : Value} {Q : Option Value → Shared → Prop} (hit : s.heap.IsListIter it l i) (hl : SeqAt s.heap l items) (hx : items[i]? = some x)
    (hQ : ∀ h', h'.IsListIter it l (i + 1) → Heap.SameBut it s.heap h' → Q (some x) { s with heap := h' }) : wpAny (model PG w) A (pyNext (.ref it)) Q E s := by
  obtain ⟨o, ho, hc, hd⟩ := id hit
  obtain ⟨ol, nl, hol, hdl⟩ := hl
  unfold pyNext
  refine wpAny_bind (wpAny_attempt (wpAny_callSpecial?_slot (name := Str.ofString "__next__") hit.typeIs slot_listiter_next (wpAny_call_entry slot_listiter_next hit.typeIs entry_listiter_next ?_ (args_listiter_next _))))
  show wpAny _ _ (field (.ref it) 0 >>= _) _ _ s
  refine wpAny_bind (wpAny_field ho hd (x := .ref l) rfl ?_)
  show wpAny _ _ (if (Value.ref l == Value.none) = true then _ else _) _ _ s
  rw [if_neg (show ¬ ((Value.ref l == Value.none) = true) from Bool.false_ne_true)]
  show wpAny _ _ (field (.ref it) 1 >>= _) _ _ s
  refine wpAny_bind (wpAny_field ho hd (x := .int i 0) rfl ?_)
  show wpAny _ _ (seqItems? (.ref l) >>= _) _ _ s
  refine wpAny_bind (wpAny_seqItems hol hdl ?_)
  simp only [Int.toNat_natCast, hx]
  refine wpAny_bind (wpAny_setField ho hd (by simp) (wpAny_pure ⟨x, rfl, wpAny_pure (hQ _ ?_ (Heap.SameBut.update ..))⟩))
  exact ⟨_, Heap.get?_update_self _ ho (Obj.isFreed_of_fields (Obj.data_mapFields hd _)), (Obj.cls_mapFields ..).trans hc, by rw [Obj.data_mapFields hd]; simp [rawInt]⟩

theorem seq_end {it l : Addr} {i : Nat} {items : Array Value} {Q : Option Value → Shared → Prop} (hh : A.handled = none) (hit : s.heap.IsListIter it l i) (hl : SeqAt s.heap l items) (hx : items[i]? = none)
    (hQ : ∀ h', Heap.ExtBut it s.heap h' → Q none { s with heap := h' }) : wpAny (model PG w) A (pyNext (.ref it)) Q E s := by
  obtain ⟨o, ho, hc, hd⟩ := id hit
  obtain ⟨ol, nl, hol, hdl⟩ := hl
  unfold pyNext
  refine wpAny_bind (wpAny_attempt (wpAny_callSpecial?_slot (name := Str.ofString "__next__") hit.typeIs slot_listiter_next (wpAny_call_entry slot_listiter_next hit.typeIs entry_listiter_next ?_ (args_listiter_next _))))
  show wpAny _ _ (field (.ref it) 0 >>= _) _ _ s
  refine wpAny_bind (wpAny_field ho hd (x := .ref l) rfl ?_)
  show wpAny _ _ (if (Value.ref l == Value.none) = true then _ else _) _ _ s
  rw [if_neg (show ¬ ((Value.ref l == Value.none) = true) from Bool.false_ne_true)]
  show wpAny _ _ (field (.ref it) 1 >>= _) _ _ s
  refine wpAny_bind (wpAny_field ho hd (x := .int i 0) rfl ?_)
  show wpAny _ _ (seqItems? (.ref l) >>= _) _ _ s
  refine wpAny_bind (wpAny_seqItems hol hdl ?_)
  simp only [Int.toNat_natCast, hx]
  refine wpAny_bind (wpAny_rule (wpAny_bind (wpAny_setField ho hd (by simp) ?_)))
  show wpAny _ _ (newExc (.type "StopIteration") [] >>= _) _ _ _
  refine wpAny_bind ?_
  simp only [newExc, newTuple]
  refine wpAny_bind (wpAny_newObj_type ?_ (by size_fits))
  refine wpAny_bind (m := firstArgMember _ _) (wpAny_of_eq (a := Value.none) (by first | rfl | (simp only [firstArgMember]; rfl)) ?_)
  refine wpAny_newObj_type ?_ (by size_fits)
  simp only [raiseNew]
  refine wpAny_bind (wpAny_handled ?_)
  rw [show A.in1.handled = none from hh]
  refine wpAny_bind (wpAny_pure (wpAny_throw ?_))
  refine wpAny_bind (wpAny_isInstance (T := "StopIteration") (b := true) ⟨_, Heap.get?_push_size _ rfl, rfl⟩ isSubtype_stop ?_)
  exact wpAny_pure (hQ _ (((Heap.SameBut.update ..).extBut.push _).push _))

theorem acc_specialUn {M : Model} {T : String} {name : Str} {id : String} {row d : Addr} {items : Array Value} {n : Nat} {refuse : Sem Value} {Q : Option Value → Shared → Prop} (X : (KW w.params).In s.heap) (ho : s.heap.get? row = some (accObj d items n))
    (hs : findIn (KW w.params) (.ref 150) name = some (some (.builtin id))) (S : Slot T name id) (h : wpAny M A (call (.builtin id) [.ref row]) (fun v => Q (some v)) E s) :
    wpAny M A (callSpecialIfBoundUnlessNone? (.ref row) name refuse) Q E s := by
  simp only [callSpecialIfBoundUnlessNone?, bindSpecialIfBound?]
  refine wpAny_holding (wpAny_bind (wpAny_bind (wpAny_bind ((acc_type ho).here ((looks_findIn X hs).here ?_)))))
  dsimp only
  simp only [S.bind]
  refine wpAny_bind (wpAny_askSetting (wpAny_ite ?_))
  have fin : wpAny M A (if (Value.builtin id == Value.none) = true then (refuse >>= fun v => pure (some v)) else (call (.builtin id) [.ref row] >>= fun v => pure (some v))) Q E s := by
    simp only [builtin_beq_none, Bool.false_eq_true, if_false]
    exact wpAny_bind (wpAny_mono h (fun v s' h' => wpAny_pure h') fun _ _ h' => h')
  split
  · exact wpAny_bind (wpAny_pure (wpAny_pure fin))
  · exact wpAny_tryCatch (wpAny_bind (wpAny_pure (wpAny_pure fin)))
theorem acc_iter {row d : Addr} {items : Array Value} {n : Nat} {Q : Value → Shared → Prop} (X : (KW w.params).In s.heap) (ho : s.heap.get? row = some (accObj d items n))
    (hQ : Q (.ref s.heap.objs.size) { s with heap := s.heap.push { cls := .type "list_iterator", data := .fields #[.ref row, .int 0 0] } }) : wpAny (model PG w) A (pyIter (.ref row)) Q E s := by
  unfold pyIter
  refine wpAny_bind (wpAny_bind ((acc_type ho).here ((looks_findIn X (r := some (.builtin "list.__iter__")) (by kernel_rfl)).here ?_)))
  dsimp only
  refine wpAny_bind (acc_specialUn X ho (by kernel_rfl) slot_list_iter (acc_call X ho slot_list_iter (n₁ := "__iter__") (by decide +kernel) (by first | exact .inl (by decide +kernel) | exact .inr (by decide +kernel)) entry_list_iter (args_list_iter _) ?_))
  show wpAny _ _ (do ret (← newFields "list_iterator" [.ref row, rawInt 0])) _ _ s
  exact wpAny_bind (wpAny_newObj_type (wpAny_pure ⟨_, rfl, wpAny_bind (wpAny_specialOf (T := "list_iterator") ⟨_, Heap.get?_push_size _ rfl, rfl⟩ slot_listiter_next.lookup (wpAny_pure hQ))⟩))

/-- an iterator over a sequence of pairs, its items unpacked -/
theorem walks_pairs (hh : A.handled = none) (I ax : Addr) (hne : ax ≠ I) (items : Array Value) (Ts : Nat → Addr) (vals : Nat → Array Value)
    (hit : ∀ j, j < items.size → items[j]? = some (.ref (Ts j))) (hTI : ∀ j, j < items.size → Ts j ≠ I) :
    WalksU PG w A I (I :: ax :: (List.range items.size).map Ts) [I] items.size (fun j v => j < items.size ∧ v = vals j)
      (fun j h => h.IsListIter I ax j ∧ SeqAt h ax items ∧ ∀ k, k < items.size → h.IsTuple (Ts k) (vals k))
      (fun j T h => (j < items.size ∧ T = Ts j) ∧ h.IsListIter I ax (j + 1) ∧ SeqAt h ax items ∧ ∀ k, k < items.size → h.IsTuple (Ts k) (vals k)) where
  sub := fun b hb => by simp at hb; simp [hb]
  frame := fun _ _ _ st hk => ⟨st.1.at fun o e => hk I (by simp) o e, st.2.1.at' fun o e => hk ax (by simp) o e,
    fun k hk' => (st.2.2 k hk').at fun o e => hk (Ts k) (List.mem_cons_of_mem _ (List.mem_cons_of_mem _ (List.mem_map.mpr ⟨k, List.mem_range.mpr hk', rfl⟩))) o e⟩
  item := fun i s Q E hi st hQ => by
    refine seq_next st.1 st.2.1 (x := .ref (Ts i)) (hit i hi) fun h' hit' hs' => ?_
    have tup : ∀ k, k < items.size → h'.IsTuple (Ts k) (vals k) := fun k hk' => (st.2.2 k hk').extBut hs'.extBut (hTI k hk')
    exact hQ (Ts i) (vals i) h' s.toks ⟨hi, rfl⟩ (tup i hi) ⟨⟨hi, rfl⟩, hit', st.2.1.at' fun o e => hs'.extBut ax o hne e, tup⟩ fun b o hb e => hs'.extBut b o (fun h => hb (by simp [h])) e
  go := fun _ _ _ _ _ s Q _ hm hQ => wpAny_letOwnedTupleGo_listiter hm.2.1 (hQ s.heap hm.2 fun _ _ _ e => e)
  apart := fun j T _ hm hmem => by
    rcases List.mem_cons.mp hmem with e | e
    · exact hTI j hm.1.1 (hm.1.2 ▸ e)
    · cases e
  done := fun s Q E st hQ => seq_end hh st.1 st.2.1 (by simp) fun h' he' => hQ h' s.toks fun b o hb e => he' b o (fun h => hb (by simp [h])) e
  self := fun _ _ _ _ st hQ => wpAny_pyIter_listiter st.1 hQ

/-- an iterator seen as one whose first item has gone by already -/
theorem walks_late {I : Addr} {fp wr : List Addr} {G : Array GenState → Array GenState → Prop} {n : Nat} {P : Nat → Value → Prop} {St : Nat → Shared → Prop} {B : Around} (W : WalksS PG w B I fp wr G n P St) (P₀ : Value → Prop) :
    WalksS PG w B I fp wr G (n + 1) (fun i v => match i with | 0 => P₀ v | i + 1 => P i v) (fun i s => match i with | 0 => False | i + 1 => St i s) where
  sub := W.sub
  grefl := W.grefl
  gtrans := W.gtrans
  frame := fun i s h' tk st ht hk => by
    cases i with
    | zero => exact st
    | succ i => exact W.frame i s h' tk st ht hk
  item := fun i s Q E hi st hQ => by
    cases i with
    | zero => exact st.elim
    | succ i => exact W.item i s Q E (by omega) st hQ
  done := W.done
  self := fun i s Q E st hQ => by
    cases i with
    | zero => exact st.elim
    | succ i => exact W.self i s Q E st hQ
theorem preSum_late (k : Int) (val : Nat → Int) : ∀ j, preSum (fun i => match i with | 0 => k | i + 1 => val i) (j + 1) = k + preSum val j
  | 0 => by simp [preSum]
  | j + 1 => by rw [preSum, preSum_late k val j]; simp [preSum]; omega

/-- sum of what an iterator gives, from a first value on -/
theorem sum_from {x : Value} {k : Int} {tk : Tok} {Q : Value → Shared → Prop} (hk : InLong k)
    (h : wpAny (model PG w) A.in1 (pyIter x) (fun it s₂ => ∃ I fp wr G n P St val, it = .ref I ∧ WalksS PG w A.in1 I fp wr G n P St ∧ St 0 s₂ ∧ (∀ b ∈ fp, b < s₂.heap.objs.size) ∧
      (∀ i v, P i v → ∃ t, v = .int (val i) t) ∧ (∀ j, j < n → InLong (val j) ∧ InLong (k + preSum val (j + 1))) ∧
      ∀ s' t', Moved wr G s₂ s' → Q (.int (k + preSum val n) t') s') E s) :
    wpAny (model PG w) A (call (.builtin "sum") [x, .int k tk]) Q E s := by
  refine call_function_tree F.kind_sum F.plain_sum F.entry_sum (by unfold argsOk; kernel_rfl) ?_
  unfold Builtin.«sum»
  simp only [List.length_cons, List.length_nil]
  rw [if_neg (by decide)]
  refine wpAny_bind (wpAny_of_eq (show Builtin.Builtins.bindParams "sum" ["start"] 0 { pos := [.int k tk] } = pure [some (.int k tk)] from rfl) ?_)
  refine wpAny_bind (wpAny_mono h (fun it s₂ h₂ => ?_) fun _ _ e => e)
  obtain ⟨I, fp, wr, G, n, P, St, val, rfl, W, hst, hfp, hval, hfit, hQ⟩ := h₂
  dsimp only
  rw [if_pos (by show (decide (-(2 ^ 63) ≤ k) && decide (k < 2 ^ 63)) = true; simp only [Bool.and_eq_true, decide_eq_true_eq]; exact hk)]
  refine wpAny_bind (wpAny_rule (wpAny_bind (wpAny_mkInt ?_)))
  refine wpAny_bind (wpAny_pure ?_)
  simp only [List.forIn_cons, List.forIn_nil]
  refine wpAny_bind (wpAny_bind (wpAny_bind (wpAny_isInstance (T := "int") (b := false) (typeIs_int _ _ _) PySem.sub_int_str ?_)))
  simp only [Bool.false_eq_true, if_false]
  refine wpAny_pure (wpAny_bind (wpAny_bind (wpAny_isInstance (T := "int") (b := false) (typeIs_int _ _ _) PySem.sub_int_bytes ?_)))
  simp only [Bool.false_eq_true, if_false]
  refine wpAny_pure (wpAny_bind (wpAny_bind (wpAny_isInstance (T := "int") (b := false) (typeIs_int _ _ _) PySem.sub_int_bytearray ?_)))
  simp only [Bool.false_eq_true, if_false]
  refine wpAny_pure (wpAny_pure ?_)
  refine wpAny_bind (wpAny_newObj_type ?_)
  have hSf : s₂.heap.objs.size ∉ fp := fun hm => Nat.lt_irrefl _ (hfp _ hm)
  refine wpAny_pure ⟨plainId_quiet F.plain_sum_loop _, codeAny_sum_loopS (walks_late W fun v => ∃ t, v = .int k t) (fun i => match i with | 0 => k | i + 1 => val i) (fun i v hv => ?_) (fun j hj => ?_) s₂.heap.objs.size hSf n 1 _ s₂.toks 0 (by omega) (by omega)
    (W.frame 0 s₂ _ _ hst (by first | exact Nat.le_refl _ | exact Nat.le_succ _ | omega) fun b _ o e => Heap.get?_push_of_some _ e) ?_ fun s' t' hm => ?_⟩
  · cases i with
    | zero => exact hv
    | succ i => exact hval i v hv
  · cases j with
    | zero => exact ⟨hk, by rw [preSum_late]; simpa [preSum] using hk⟩
    | succ j => exact ⟨(hfit j (by omega)).1, by rw [preSum_late]; exact (hfit j (by omega)).2⟩
  · rw [preSum_late]
    simp only [preSum, Int.add_zero]
    exact Heap.get?_push_size _ rfl
  · rw [preSum_late]
    exact hQ s' t' (hm.drop_new (by first | exact Nat.le_refl _ | exact Nat.le_succ _ | omega))
end
end Mine
end
section
open PySem PySem.W PyProof.Rows PySem.Spec PySem.Calls
set_option maxRecDepth 100000
namespace Mine
theorem start_G2 : True := by
  w_top off
  k_with_none
  (k_with "own:omega" => (first | with_reducible assumption | (refine' Mine.room2 ?h ?e; (case h => with_reducible assumption); (case e => decide)) | (refine' Mine.room1 ?h ?e; (case h => with_reducible assumption); (case e => decide)) | (refine' Mine.le_up ?h ?e; (case h => with_reducible assumption); (case e => decide)) | (refine' Mine.room0 ?h; (case h => with_reducible assumption)) | ((fail_if_success (fail_if_success omega (config := {}))); lia)))
  trivial
/-- a code table -/
noncomputable def tabObj (ps : Array Value) : Obj := { cls := .none, data := .fields ps }
noncomputable def Found (pos : Pos) (ps : Array Value) : Prop := ∃ v, codeAmong pos ps.toList = some v
/-- a def's code whose table lies at P -/
noncomputable def codeOk (o : Obj) (P : Addr) : Bool := match o with
  | ⟨.type "code", _, .fields vs, _⟩ => (match vs.getD 18 .none, vs.getD 7 .none, vs.getD 9 .none, vs.getD 10 .none with
    | .str _ _, .int _ _, .bool _, .int _ _ => vs.getD 11 .none == .ref P && vs[11]? == some (.ref P)
    | _, _, _, _ => false)
  | _ => false
theorem codeOk_of {o : Obj} {P : Addr} (e : codeOk o P = true) : ∃ vs file tf flags tg inF text tt, o.cls = .type "code" ∧ o.data = .fields vs ∧ vs.getD 11 .none = .ref P ∧ vs[11]? = some (.ref P) ∧ vs.getD 18 .none = .str file tf ∧ vs.getD 7 .none = .int flags tg ∧ vs.getD 9 .none = .bool inF ∧ vs.getD 10 .none = .int text tt := by
  unfold codeOk at e
  split at e
  · split at e
    · rename_i h1 h2 h3 h4
      simp only [Bool.and_eq_true, beq_iff_eq] at e
      exact ⟨_, _, _, _, _, _, _, _, rfl, rfl, e.1, e.2, h1, h2, h3, h4⟩
    · cases e
  · cases e
section
variable {M : Model} {A : Around} {E : Value → Shared → Prop} {s : Shared}
theorem code_either {env : Env} {c P : Addr} {oc : Obj} {ps : Array Value} {pos : Pos} {q : Str} {scope : Scope} {Q : Value → Shared → Prop} (hc : env.code = .ref c) (hcode : s.heap.get? c = some oc) (hok : codeOk oc P = true) (ht : s.heap.get? P = some (tabObj ps))
    (hps : ps = #[] ∨ Found pos ps)
    (hQ : ∀ code h' tk ps', (∀ b o, b ≠ P → s.heap.get? b = some o → h'.get? b = some o) → h'.get? P = some (tabObj ps') → s.heap.objs.size ≤ h'.objs.size → Found pos ps' → (Found pos ps → ps' = ps) → Q code { s with heap := h', toks := tk }) :
    wpAny M A (genexprCode env pos q scope) Q E s := by
  obtain ⟨vs, file, tf, flags, tg, inF, text, tt, h0, hd, h11, h11', h18, h7, h9, h10⟩ := codeOk_of hok
  have hcP : c ≠ P := by
    rintro rfl
    rw [ht] at hcode
    cases hcode
    cases h0
  by_cases hf : Found pos ps
  · obtain ⟨v, hv⟩ := id hf
    unfold genexprCode codeAt
    rw [hc, if_neg (show ¬ ((Value.ref c == Value.none) = true) from Bool.false_ne_true)]
    refine wpAny_bind (wpAny_fieldsOf hcode hd ?_)
    rw [h11]
    refine wpAny_bind (wpAny_fieldsOf ht rfl ?_)
    rw [hv]
    exact wpAny_pure (hQ v s.heap s.toks ps (fun _ _ _ e => e) ht (Nat.le_refl _) hf fun _ => rfl)
  · have he : ps = #[] := hps.resolve_right hf
    subst he
    refine wpAny_genexprCodeX (P := P) (ps := #[]) hc ⟨oc, vs, file, tf, flags, tg, inF, text, tt, _, hcode, hd, h11, h18, h7, h9, h10, ht, rfl, trivial, hcP⟩ ⟨⟨oc, vs, hcode, h0, hd, h11'⟩, ht⟩ rfl ?_
    intro c' h' tk hx hge hlt _ _ ht' _
    refine hQ _ h' tk _ (fun b o hb e => hx b o hb e) ht'.2 (Nat.le_trans hge (Nat.le_of_lt hlt)) ⟨.ref c', ?_⟩ fun h => (hf h).elim
    simp [rawInt, codeAmong]
end
end Mine
end
section
open PySem PySem.W PyProof.Rows PySem.Spec PySem.Calls
set_option maxRecDepth 100000
namespace Mine
theorem start_G3 : True := by
  w_top off
  k_with_none
  (k_with "own:omega" => (first | with_reducible assumption | (refine' Mine.room2 ?h ?e; (case h => with_reducible assumption); (case e => decide)) | (refine' Mine.room1 ?h ?e; (case h => with_reducible assumption); (case e => decide)) | (refine' Mine.le_up ?h ?e; (case h => with_reducible assumption); (case e => decide)) | (refine' Mine.room0 ?h; (case h => with_reducible assumption)) | ((fail_if_success (fail_if_success omega (config := {}))); lia)))
  trivial
/-- these values are pairs of these texts -/
noncomputable def Pairs (news : List (Addr × Obj)) : List Value → List (Str × Str) → Prop
  | [], [] => True
  | v :: vs, q :: qs => (∃ a t u, v = .ref a ∧ (a, tupObj q.1 t q.2 u) ∈ news) ∧ Pairs news vs qs
  | _, _ => False
theorem Pairs.mono {news news' : List (Addr × Obj)} (s : ∀ p ∈ news, p ∈ news') : ∀ {vs : List Value} {qs : List (Str × Str)}, Pairs news vs qs → Pairs news' vs qs
  | [], [], _ => trivial
  | _ :: _, _ :: _, ⟨⟨a, t, u, e, p⟩, r⟩ => ⟨⟨a, t, u, e, s _ p⟩, Pairs.mono s r⟩
theorem Pairs.length {news : List (Addr × Obj)} : ∀ {vs : List Value} {qs : List (Str × Str)}, Pairs news vs qs → vs.length = qs.length
  | [], [], _ => rfl
  | _ :: _, _ :: _, ⟨_, r⟩ => by rw [List.length_cons, List.length_cons, Pairs.length r]
theorem Pairs.append {news : List (Addr × Obj)} : ∀ {vs : List Value} {qs : List (Str × Str)} {vs' : List Value} {qs' : List (Str × Str)}, Pairs news vs qs → Pairs news vs' qs' → Pairs news (vs ++ vs') (qs ++ qs')
  | [], [], _, _, _, r => r
  | _ :: _, _ :: _, _, _, ⟨q, r⟩, r' => ⟨q, Pairs.append r r'⟩
theorem Are.pairs {rest : List (Addr × Obj)} : ∀ {vs : List Value} {ks : List Nat}, Are rest vs ks → Pairs rest vs (ks.map fun k => (pcF k, pcS k))
  | [], [], _ => trivial
  | _ :: _, _ :: _, ⟨⟨a, e, _, t, u, p⟩, r⟩ => ⟨⟨a, t, u, e, p⟩, Are.pairs r⟩
theorem Pairs.funs {g h : Heap} {L : Addr} {news : List (Addr × Obj)} (N : News g L h news) : ∀ {vs : List Value} {qs : List (Str × Str)}, Pairs news vs qs →
    ∃ (Ts : Nat → Addr) (vals : Nat → Array Value), (∀ j, j < vs.length → vs[j]? = some (.ref (Ts j))) ∧ (∀ j, j < vs.length → h.IsTuple (Ts j) (vals j)) ∧ (∀ j, j < vs.length → ∃ x y t u, qs[j]? = some (x, y) ∧ vals j = #[.str x t, .str y u])
  | [], [], _ => ⟨fun _ => 0, fun _ => #[], fun _ hj => by simp at hj, fun _ hj => by simp at hj, fun _ hj => by simp at hj⟩
  | v :: vs, q :: qs, ⟨⟨a, t, u, e, p⟩, r⟩ => by
    obtain ⟨Ts, vals, h1, h2, h3⟩ := Pairs.funs N r
    refine ⟨fun j => match j with | 0 => a | j + 1 => Ts j, fun j => match j with | 0 => #[.str q.1 t, .str q.2 u] | j + 1 => vals j, fun j hj => ?_, fun j hj => ?_, fun j hj => ?_⟩
    · cases j with
      | zero => rw [e]; rfl
      | succ j => simpa using h1 j (by simpa using hj)
    · cases j with
      | zero => exact ⟨_, (N _ p).1, rfl, _, rfl⟩
      | succ j => exact h2 j (by simpa using hj)
    · cases j with
      | zero => exact ⟨q.1, q.2, t, u, rfl, rfl⟩
      | succ j => simpa using h3 j (by simpa using hj)
theorem passing_all (n : Nat) : passing (fun _ => true) n 0 = List.range n := by
  unfold passing; simp

section
variable {w : World} {A : Around} {E : Value → Shared → Prop} {s : Shared} {g : Heap} {L : Addr} {m mg mb : Str → Option Value} {p : Program} {loose : List Str} {mean : ExcName → Option Value} {rest : List (Addr × Obj)}
theorem walks_weak {B : Around} {I : Addr} {fp wr : List Addr} {GG : Array GenState → Array GenState → Prop} {n : Nat} {Fv : Nat → Value → Prop} {St : Nat → Shared → Prop} (W : WalksS PG w B I fp wr GG (List.range n).length (fun j y => ∃ i, (List.range n)[j]? = some i ∧ Fv i y) St) : WalksS PG w B I fp wr GG n Fv St := by
  rw [List.length_range] at W
  refine ⟨W.sub, W.grefl, W.gtrans, W.frame, fun i s Q E hi st hQ => W.item i s Q E hi st fun v s' hv => ?_, W.done, W.self⟩
  obtain ⟨j, hj, hv⟩ := hv
  simp [hi] at hj
  subst hj
  exact hQ v s' hv
theorem gen_pairs {env : Env} {elt iter : PySem.Expr} {xa xb : Str} {pa pb pt : Pos} {kt : Nat} {scope : Scope} {cl : List (Str × Addr)} {pos : Pos} {Q : Value → Shared → Prop} {c P row d : Addr} {oc : Obj} {ps : Array Value} {vs : List Value} {n : Nat} {qs : List (Str × Str)} (Fv : Nat → Value → Prop)
    (Fh : Fr g L s.heap m) (N : News g L s.heap ((P, tabObj ps) :: rest)) (hne : Found pos ps ∨ ∀ p ∈ rest, p.1 ≠ P) (X : (KW w.params).In g) (T : Top p loose mean mg mb g) (G : AllBare s.gens)
    (hh : A.handled = none) (hco : scope.isCoroutine = false) (hclos : closureFor scope env = pure cl) (hcell : ∀ y ∈ scope.names, y.2 ≠ .cell) (h0 : scope.names.lookup (".0" : Str) = some NameKind.local)
    (hxa : scope.names.lookup xa = some .local) (hxb : scope.names.lookup xb = some .local) (hab : xa ≠ xb) (hkind : scope.kind = .function) (hroom : A.depth < recursionLimit)
    (hiter : ∀ (Q' : Value → Shared → Prop), Q' (.ref row) s → wpAny (model PG w) A (eval iter env) Q' E s)
    (hrow : (row, accObj d vs.toArray n) ∈ rest) (hP : Pairs rest vs qs)
    (hc : env.code = .ref c) (hkc : (KW w.params).lookup c = some oc) (hok : codeOk oc P = true) (hps : ps = #[] ∨ Found pos ps) (hg : env.globals = mainGlobals)
    (q : ∀ (C : Addr) (code : Value) (s₂ : Shared) (m₂ : Str → Option Value) (A' : Around) (E' : Value → Shared → Prop) (i : Nat) (x y : Str) (t u : Tok), A'.handled = none → A'.depth ≤ A.depth + 1 → A'.units ≤ A.units + 8 → i < vs.length → qs[i]? = some (x, y) →
      Fr g C s₂.heap m₂ → m₂ xa = some (.str x t) → m₂ xb = some (.str y u) → wpAny (model PG w) A' (eval elt (genEnv scope cl C code builtinsNs env)) (fun y s₃ => Fv i y ∧ Keeps s₂ s₃) E' s₂)
    (k : ∀ a s' ps' K, L ≤ K → (∀ p ∈ (P, tabObj ps') :: rest, p.1 ≤ K) → Fr g L s'.heap m → News g L s'.heap ((P, tabObj ps') :: rest) → AllBare s'.gens → s'.os = s.os → Found pos ps' → (Found pos ps → ps' = ps) → Gen PG w A K a vs.length Fv s' → Q (.ref a) s')
    (hs : ∀ x, genFold iter env x = pure x) :
    wpAny (model PG w) A (eval (.GeneratorExp elt [⟨.Tuple [.Name xa pa, .Name xb pb] kt pt, iter, [], 0⟩] scope pos) env) Q E s := by
  have XH := X.keeps Fh.keep
  have hrow' := N.get (.tail _ hrow)
  have hLs : @LT.lt Nat _ L s.heap.objs.size := by obtain ⟨_, _, _, e, _⟩ := Fh.ns; exact Heap.lt_size e
  obtain ⟨bm, ob, BM⟩ := bmod_of_top T
  refine wpAny_GeneratorExp_walksQTD hh hco hclos hcell h0 hxa hxb hab hkind hroom (hiter _ (acc_iter XH hrow' ⟨?_, ?_⟩)) hs
  · exact (T.nolimit.keeps Fh.keep).push _
  refine code_either (P := P) (ps := ps) hc (Heap.get?_push_of_some _ (XH _ _ hkc)) hok (Heap.get?_push_of_some _ (N.get (.head _))) hps fun code h' tk ps' hk hP' hz hf hf' => ?_
  dsimp only at hk hz
  rw [Heap.size_push] at hz
  have hPg : g.get? P = none := (N _ (.head _)).2.2
  have kg : ∀ b o, g.get? b = some o → h'.get? b = some o := fun b o e => hk b o (fun e' => by subst e'; rw [hPg] at e; cases e) (Heap.get?_push_of_some _ (Fh.keep b o e))
  have BM' := BM.keeps kg
  refine wpAny_builtinsFor (s := { s with heap := h', toks := tk }) (hg ▸ BM'.ns) BM'.name BM'.ne BM'.obj BM'.cls BM'.dict BM'.data ?_
  obtain ⟨Ts, vals, v1, v2, v3⟩ := Pairs.funs (N := N) (hP.mono fun p hp => .tail _ hp)
  have hTlt : ∀ j, j < vs.length → @LT.lt Nat _ (Ts j) s.heap.objs.size := fun j hj => by obtain ⟨o, ho, _⟩ := v2 j hj; exact Heap.lt_size ho
  have hTP : ∀ j, j < vs.length → Ts j ≠ P := fun j hj e => by
    obtain ⟨o, ho, hcl, _⟩ := v2 j hj
    rw [e, N.get (.head _)] at ho
    cases ho; cases hcl
  have hrP : row ≠ P := fun e => by
    have := N.get (.head _); rw [← e, hrow'] at this; cases this
  have hrlt : @LT.lt Nat _ row s.heap.objs.size := Heap.lt_size hrow'
  have hsz : vs.toArray.size = vs.length := List.size_toArray ..
  refine ⟨s.heap.objs.size, _, _, _, _, _, _, fun _ => true, Fv, rfl, fun A' hA' => walks_pairs (w := w) hA' s.heap.objs.size row (Nat.ne_of_lt hrlt) vs.toArray Ts vals (fun j hj => by simpa using v1 j (by simpa using hj)) fun j hj => Nat.ne_of_lt (hTlt j (by simpa using hj)), ?_, ⟨?_, ?_, ?_⟩, ?_, ?_, ?_, ?_, ?_⟩
  · rintro i va ⟨hi, rfl⟩
    obtain ⟨x, y, t, u, _, e⟩ := v3 i (by simpa using hi)
    exact ⟨_, _, e⟩
  · exact ⟨_, hk _ _ (fun e => by have := ltN (Heap.lt_size (N.get (.head _))); exact absurd this (by rw [← e]; exact Nat.lt_irrefl _)) (Heap.get?_push_size _ rfl), rfl, rfl⟩
  · exact (SeqAt.acc hrow').at' fun o e => hk _ _ hrP (Heap.get?_push_of_some _ e)
  · intro j hj
    have hj' : j < vs.length := by simpa using hj
    obtain ⟨o, ho, r⟩ := v2 j hj'
    exact ⟨o, hk _ _ (hTP j hj') (Heap.get?_push_of_some _ ho), r⟩
  · intro b hb
    show @LT.lt Nat _ b h'.objs.size
    rcases List.mem_cons.mp hb with rfl | hb
    · omega
    · rcases List.mem_cons.mp hb with rfl | hb
      · omega
      · obtain ⟨j, hj, rfl⟩ := List.mem_map.mp hb
        have := hTlt j (by simpa using hj)
        omega
  · exact T.nolimit.keeps kg
  · intro hm
    have hcs : cStatics < s.heap.objs.size := let ⟨_, hn, _⟩ := (T.nolimit.keeps Fh.keep); hn.lt
    rcases List.mem_cons.mp hm with e | hb
    · exact absurd (e ▸ hcs) (Nat.lt_irrefl _)
    · cases hb
  · intro href hkr
    have FC : ∀ (s₂ : Shared) m₂, s₂.heap.Ns h'.objs.size m₂ → (∀ b ∈ List.range h'.objs.size, b ∉ [s.heap.objs.size] → ∀ o, href.get? b = some o → s₂.heap.get? b = some o) → Fr g h'.objs.size s₂.heap m₂ := by
      intro s₂ m₂ hn hkp
      refine ⟨hn, fun b o e => ?_, ?_⟩
      · have hb : @LT.lt Nat _ b s.heap.objs.size := Heap.lt_size (Fh.keep b o e)
        exact hkp b (List.mem_range.mpr (by omega)) (fun hm => by rcases List.mem_cons.mp hm with e' | e'; (exact absurd hb (by rw [e']; exact Nat.lt_irrefl _)); cases e') o (hkr b o (kg b o e))
      · exact Nat.le_trans (Nat.le_trans Fh.above (Nat.le_of_lt hLs)) (by omega)
    refine ⟨fun A' E' i va vb s₂ m₂ hA1 hA2 hA3 hPt hn h1 h2 hkp => ?_, fun A' E' i va vb s₂ m₂ hA1 hA2 hA3 hPt _ hn h1 h2 hkp => ?_⟩
    · rw [List.forIn_nil]
      exact wpAny_pure ⟨rfl, s₂.heap, s₂.toks, rfl, fun _ _ e => e⟩
    · obtain ⟨hi, e⟩ := hPt
      have hi' : i < vs.length := by simpa using hi
      obtain ⟨x, y, t, u, hq, ev⟩ := v3 i hi'
      rw [ev] at e
      have e1 : va = .str x t := by have := congrArg (fun z => z[0]?) e; simpa using this
      have e2 : vb = .str y u := by have := congrArg (fun z => z[1]?) e; simpa using this
      subst e1 e2
      exact q h'.objs.size code s₂ m₂ A' E' i x y t u hA1 hA2 hA3 hi' hq (FC s₂ m₂ hn hkp) h1 h2
  · intro a h₅ tk₅ gs hgb hag hsz₅ hk₅ W hat
    have hPlt : @LT.lt Nat _ P s.heap.objs.size := Heap.lt_size (N.get (.head _))
    have hpass := passing_all vs.toArray.size
    rw [hpass, hsz] at W
    refine k a _ ps' (s.heap.objs.size - 1) (by show @LE.le Nat _ _ _; omega) ?_ ?_ ?_ (G.push hgb) rfl hf hf' ?_
    · intro z hz'
      show @LE.le Nat _ _ _
      rcases List.mem_cons.mp hz' with rfl | hz'
      · omega
      · have := ltN (Heap.lt_size (N z (.tail _ hz')).1)
        omega
    · refine ⟨?_, fun b o e => hk₅ b o (kg b o e), Fh.above⟩
      have hLP : L ≠ P := Ne.symm (N _ (.head _)).2.1
      obtain ⟨oL, es, ep, hoL, r⟩ := Fh.ns
      exact ⟨oL, es, ep, hk₅ _ _ (hk _ _ hLP (Heap.get?_push_of_some _ hoL)), r⟩
    · intro z hz'
      rcases List.mem_cons.mp hz' with rfl | hz'
      · exact ⟨hk₅ _ _ hP', (N _ (.head _)).2⟩
      · by_cases hzP : z.1 = P
        · rcases hne with hfound | hne
          · have := hf' hfound
            subst this
            have hzo : z.2 = tabObj ps' := by
              have h1 := (N z (.tail _ hz')).1
              rw [hzP, N.get (.head _)] at h1
              exact (Option.some.inj h1).symm
            exact ⟨by rw [hzP, hzo]; exact hk₅ _ _ hP', (N z (.tail _ hz')).2⟩
          · exact absurd hzP (hne z hz')
        · exact ⟨hk₅ _ _ (hk _ _ hzP (Heap.get?_push_of_some _ (N z (.tail _ hz')).1)), (N z (.tail _ hz')).2⟩
    · have W' := walks_weak W
      refine ⟨_, _, _, _, W', hat, fun i s' st => st.1.typeIs, List.mem_cons_self, ?_, ?_⟩
      · intro b hb
        show @LT.lt Nat _ b h₅.objs.size
        replace hag := ltN hag
        dsimp only at hag
        rcases List.mem_cons.mp hb with rfl | hb
        · omega
        · rcases List.mem_cons.mp hb with rfl | hb
          · dsimp only; omega
          · have := List.mem_range.mp hb; dsimp only at this; omega
      · intro b hb
        show @LT.lt Nat _ _ b
        rcases List.mem_cons.mp hb with rfl | hb
        · dsimp only; omega
        · rcases List.mem_cons.mp hb with rfl | hb
          · omega
          · cases hb
end
end Mine
end
section
open PySem PySem.W PyProof.Rows PySem.Spec PySem.Calls
set_option maxRecDepth 100000
namespace Mine
theorem start_L0 : True := by
  w_top off
  k_with_none
  (k_with "own:omega" => (first | with_reducible assumption | (refine' Mine.room2 ?h ?e; (case h => with_reducible assumption); (case e => decide)) | (refine' Mine.room1 ?h ?e; (case h => with_reducible assumption); (case e => decide)) | (refine' Mine.le_up ?h ?e; (case h => with_reducible assumption); (case e => decide)) | (refine' Mine.room0 ?h; (case h => with_reducible assumption)) | ((fail_if_success (fail_if_success omega (config := {}))); lia)))
  trivial
section
variable {w : World} {A : Around} {E : Value → Shared → Prop} {s : Shared} {g : Heap} {L : Addr} {m mg mb : Str → Option Value} {p : Program} {loose : List Str} {mean : ExcName → Option Value} {news : List (Addr × Obj)}
theorem acc_inst {h : Heap} {row d : Addr} {items : Array Value} {n : Nat} {od : Obj} (N : News g L h news) (h1 : (row, accObj d items n) ∈ news) (h2 : (d, od) ∈ news) : InstAt h row (accObj d items n) 150 (some od) := ⟨(N _ h1).1, rfl, rfl, (N _ h2).1⟩
theorem sum_gen {a : Addr} {n K : Nat} {Fv : Nat → Value → Prop} {k : Int} {tk : Tok} {Q : Value → Shared → Prop} (Fh : Fr g L s.heap m) (N : News g L s.heap news) (G : AllBare s.gens) (X : Gen PG w A K a n Fv s) (hK : ∀ p ∈ news, p.1 ≤ K) (hL : L ≤ K) (val : Nat → Int) (hval : ∀ i v, Fv i v → ∃ t, v = .int (val i) t)
    (hk : InLong k) (hfit : ∀ j, j < n → InLong (val j) ∧ InLong (k + preSum val (j + 1)))
    (hQ : ∀ s' t', Fr g L s'.heap m → News g L s'.heap news → AllBare s'.gens → s'.os = s.os → Q (.int (k + preSum val n) t') s') : wpAny (model PG w) A (call (.builtin "sum") [.ref a, .int k tk]) Q E s := by
  obtain ⟨fp, wr, gi, St, W, hst, _, _, hfp, hwr⟩ := X
  have W := W.in4_1
  refine sum_from hk (W.self 0 _ _ _ hst ⟨a, _, _, _, _, _, _, val, rfl, W, hst, hfp, hval, hfit, fun s' t' hm => hQ s' t' (Fh.moved hm fun b hb => Nat.lt_of_le_of_lt hL (hwr b hb)) (fun p hp => ⟨hm.heap _ _ (fun hb => ?_) (N p hp).1, (N p hp).2⟩) (G.movedS hm) hm.os⟩)
  exact Nat.lt_irrefl _ (Nat.lt_of_le_of_lt (hK p hp) (hwr _ hb))
end
section
variable {M : Model} {w : World} {A : Around} {E : Value → Shared → Prop} {s : Shared} {g : Heap} {C : Addr} {m mg mb : Str → Option Value} {p : Program} {loose : List Str} {mean : ExcName → Option Value} {scope : Scope} {cl : List (Str × Addr)} {code : Value} {env : Env} {x : Str} {pos : Pos} {v : Value} {Q : Value → Shared → Prop}
theorem gen_name_B (F : Fr g C s.heap m) (X : (KW w.params).In g) (T : Top p loose mean mg mb g) (e : nsIn (KW w.params) mainGlobals x = some none) (hv : bootBuiltins x = some v) (hn : x ≠ "__name__") (h : Q v s)
    (hg : env.globals = mainGlobals) (hk : scope.kind = .function) (hx : (genEnv scope cl C code builtinsNs env).kindOf x = some .globalImplicit) (hd : (x == ("__debug__" : Str)) = false) :
    wpAny M A (eval (.Name x pos) (genEnv scope cl C code builtinsNs env)) Q E s :=
  Calls.Name_function_global hk hx (Calls.loadGlobal_builtin (env := genEnv scope cl C code builtinsNs env) (show s.heap.Ns env.globals mg from hg ▸ (topRead_of T).g.keeps F.keep) (mg_none_of X (topRead_of T).g e) ((topRead_of T).b.keeps F.keep) (((topRead_of T).builtins x hn).trans hv) h) hd
theorem gen_name_K (F : Fr g C s.heap m) (X : (KW w.params).In g) (T : Top p loose mean mg mb g) (e : nsIn (KW w.params) mainGlobals x = some (some v)) (h : Q v s)
    (hg : env.globals = mainGlobals) (hk : scope.kind = .function) (hx : (genEnv scope cl C code builtinsNs env).kindOf x = some .globalImplicit) (hd : (x == ("__debug__" : Str)) = false) :
    wpAny M A (eval (.Name x pos) (genEnv scope cl C code builtinsNs env)) Q E s :=
  Calls.Name_function_global hk hx (Calls.loadGlobal_global (env := genEnv scope cl C code builtinsNs env) (show s.heap.Ns env.globals mg from hg ▸ (topRead_of T).g.keeps F.keep) (mg_of X (topRead_of T).g e) h) hd
end
theorem gen_tick {w : World} {A : Around} {K a n : Nat} {Fv : Nat → Value → Prop} {s : Shared} {tk : Nat} (X : Gen PG w A K a n Fv s) (h : s.toks ≤ tk) : Gen PG w A K a n Fv { s with toks := tk } :=
  let ⟨fp, wr, g, St, W, h1, h2, h3, h4, h5⟩ := X
  ⟨fp, wr, g, St, W, W.frame 0 s s.heap tk h1 h fun _ _ _ e => e, h2, h3, h4, h5⟩
theorem lines_L0_0 : True := by
  (k_with "eval Name" => ((with_reducible show wpAny _ _ (eval (Expr.Name _ _) (genEnv _ _ _ _ _ _)) _ _ _); k_dflt (first | (refine' ldVarG ?k1 ?k2 ?_ ?k3 ?k4 ?k5; (case k1 => with_reducible assumption); (case k2 => with_reducible assumption); (case k3 => rfl); (case k4 => rfl); (case k5 => decide)) | (refine' gen_name_B ?k1 ?k2 ?k3 ?k4 ?k5 ?k6 ?_ ?k7 ?k8 ?k9 ?k10; (case k1 => with_reducible assumption); (case k2 => with_reducible assumption); (case k3 => with_reducible assumption); (case k4 => k_dflt k_is); (case k5 => boot_by_name); (case k6 => decide); (case k7 => rfl); (case k8 => rfl); (case k9 => rfl); (case k10 => decide)) | (refine' gen_name_K ?k1 ?k2 ?k3 ?k4 ?_ ?k7 ?k8 ?k9 ?k10; (case k1 => with_reducible assumption); (case k2 => with_reducible assumption); (case k3 => with_reducible assumption); (case k4 => k_dflt k_is); (case k7 => rfl); (case k8 => rfl); (case k9 => rfl); (case k10 => decide)))))
  (k_with "own:k_inst" => (refine' acc_inst ?N ?h1 ?h2; (case N => k_asm); (case h1 => first | assumption | k_mem); (case h2 => first | assumption | k_mem)))
  trivial
/-- the sum of the lengths -/
noncomputable def lens (qs : List (Str × Str)) : Int := (qs.map fun q => ((q.1.length + q.2.length : Nat) : Int)).sum
theorem preSum_lens (qs : List (Str × Str)) : ∀ j, j ≤ qs.length → preSum (fun i => (((qs.getD i default).1.length + (qs.getD i default).2.length : Nat) : Int)) j = lens (qs.take j)
  | 0, _ => by simp [preSum, lens]
  | j + 1, h => by
    rw [preSum, preSum_lens qs j (by omega)]
    unfold lens
    rw [List.take_succ, List.map_append, List.sum_append, List.getD_eq_getElem?_getD, List.getElem?_eq_getElem (by omega)]
    simp
theorem lens_bound : ∀ (qs : List (Str × Str)), (∀ q ∈ qs, q.1.length ≤ 10 ∧ q.2.length ≤ 10) → 0 ≤ lens qs ∧ lens qs ≤ 20 * (qs.length : Int)
  | [], _ => by simp [lens]
  | q :: qs, h => by
    have h1 := h q (.head _)
    have h2 := lens_bound qs fun q hq => h q (.tail _ hq)
    unfold lens at h2 ⊢
    rw [List.map_cons, List.sum_cons, List.length_cons]
    omega
/-- an accumulator's own dict -/
abbrev szObj (hs : Int) (t : Tok) (k : Int) (tk : Tok) (n : Nat) : Obj := dictOf [⟨hs, .str (Str.ofString "_initial_size") t, .int k tk⟩] n
end Mine
end
section
open PySem PySem.W PyProof.Rows PySem.Spec PySem.Calls
set_option maxRecDepth 100000
namespace Mine
theorem start_XA : True := by
  w_top off
  k_with_none
  (k_with "own:omega" => (first | with_reducible assumption | (refine' Mine.room2 ?h ?e; (case h => with_reducible assumption); (case e => decide)) | (refine' Mine.room1 ?h ?e; (case h => with_reducible assumption); (case e => decide)) | (refine' Mine.le_up ?h ?e; (case h => with_reducible assumption); (case e => decide)) | (refine' Mine.room0 ?h; (case h => with_reducible assumption)) | ((fail_if_success (fail_if_success omega (config := {}))); lia)))
  trivial
theorem lines_XA_0 : True := by
  (k_with "own:x_close" => assumption)
  trivial
set_option maxHeartbeats 4000000 in
theorem acc_attr {w : World} {A : Around} {E : Value → Shared → Prop} {s : Shared} {row d : Addr} {items : Array Value} {n nd : Nat} {hs k : Int} {t t₁ t₂ : Tok} {Q : Value → Shared → Prop}
    (X : (KW w.params).In s.heap) (ho : s.heap.get? row = some ⟨.ref 150, some d, .seq items n, #[]⟩) (hd : s.heap.get? d = some ⟨.type "dict", none, .dict #[⟨hs, .str (Str.ofString "_initial_size") t₁, .int k t₂⟩] nd, #[]⟩)
    (h : Q (.int k t₂) s) : wpAny (model PG w) A (call (.builtin "list.__getattribute__") [.ref row, .str (Str.ofString "_initial_size") t]) Q E s := by
  x_run
theorem slot_list_ga : Slot "list" "__getattribute__" "list.__getattribute__" := .of (owner := "list") (n := "__getattribute__") (by rw [typeLookup_type, builtinLookup_eq_fast]; kernel_rfl) (by decide +kernel) (by decide +kernel) (by decide +kernel)
  (by first | exact .inl (by decide +kernel) | exact .inr (by decide +kernel)) (by rw [isSubtype_type]; kernel_rfl)
theorem accK_attr {w : World} {A : Around} {E : Value → Shared → Prop} {s : Shared} {g : Heap} {L : Addr} {m : Str → Option Value} {news : List (Addr × Obj)} {row d : Addr} {items : Array Value} {n nd : Nat} {hs k : Int} {t₁ t₂ : Tok} {expr : Bool} {Q : Value → Shared → Prop}
    (F : Fr g L s.heap m) (X₀ : (KW w.params).In g) (N : News g L s.heap news) (h1 : (row, accObj d items n) ∈ news) (h2 : (d, szObj hs t₁ k t₂ nd) ∈ news) (h : Q (.int k t₂) { s with toks := s.toks + 1 }) :
    wpAny (model PG w) A (getAttr (.ref row) (Str.ofString "_initial_size") expr) Q E s := by
  have X := X₀.keeps F.keep
  have ho := N.get h1
  have hd := N.get h2
  obtain ⟨hh, gg, dd, tt, os⟩ := s
  dsimp only at X ho hd h
  unfold getAttr getAttrBy
  refine wpAny_bind (wpAny_mkText (wpAny_holding (wpAny_bind ((acc_type ho).at (wpAny_bind ((looks_findIn X (r := some (.builtin "list.__getattribute__")) (by kernel_rfl)).at ?_))))))
  show wpAny _ _ (getAttrByItsOwn _ _ _ _ _ _) _ _ _
  unfold getAttrByItsOwn hookBefore
  refine wpAny_bind ((looks_findIn (M := model PG w) X (t := .ref 150) (name := Str.ofString "__getattr__") (r := none) (by kernel_rfl)).at ?_)
  refine wpAny_bind (wpAny_attempt ?_)
  show wpAny _ _ (callGetattribute _ _ _ _) _ _ _
  have go : wpAny (model PG w) A (boundAndCalled (.builtin "list.__getattribute__") (.ref row) (.str (Str.ofString "_initial_size") tt)) (fun v s' => wpAny (model PG w) A (handedOut v) Q E s') (fun _ _ => False) ⟨hh, gg, dd, tt + 1, os⟩ := by
    unfold boundAndCalled
    refine wpAny_bind (wpAny_of_eq (slot_list_ga.bind _) ?_)
    exact acc_attr (s := ⟨hh, gg, dd, tt + 1, os⟩) X ho hd (by rw [handedOut_of (by rfl)]; exact wpAny_pure h)
  unfold callGetattribute
  rw [if_neg (by simp [onTheHeap])]
  exact wpAny_mono go (fun _ _ z => z) fun _ _ z => z.elim
end Mine
end
section
open PySem PySem.W PyProof.Rows PySem.Spec PySem.Calls
set_option maxRecDepth 100000
namespace Mine
theorem start_L1 : True := by
  w_top off
  k_with_none
  (k_with "own:omega" => (first | with_reducible assumption | (refine' Mine.room2 ?h ?e; (case h => with_reducible assumption); (case e => decide)) | (refine' Mine.room1 ?h ?e; (case h => with_reducible assumption); (case e => decide)) | (refine' Mine.le_up ?h ?e; (case h => with_reducible assumption); (case e => decide)) | (refine' Mine.room0 ?h; (case h => with_reducible assumption)) | ((fail_if_success (fail_if_success omega (config := {}))); lia)))
  trivial
theorem lines_L1_0 : True := by
  (k_with "eval Name" => ((with_reducible show wpAny _ _ (eval (Expr.Name _ _) (genEnv _ _ _ _ _ _)) _ _ _); k_dflt (first | (refine' ldVarG ?k1 ?k2 ?_ ?k3 ?k4 ?k5; (case k1 => with_reducible assumption); (case k2 => with_reducible assumption); (case k3 => rfl); (case k4 => rfl); (case k5 => decide)) | (refine' gen_name_B ?k1 ?k2 ?k3 ?k4 ?k5 ?k6 ?_ ?k7 ?k8 ?k9 ?k10; (case k1 => with_reducible assumption); (case k2 => with_reducible assumption); (case k3 => with_reducible assumption); (case k4 => k_dflt k_is); (case k5 => boot_by_name); (case k6 => decide); (case k7 => rfl); (case k8 => rfl); (case k9 => rfl); (case k10 => decide)) | (refine' gen_name_K ?k1 ?k2 ?k3 ?k4 ?_ ?k7 ?k8 ?k9 ?k10; (case k1 => with_reducible assumption); (case k2 => with_reducible assumption); (case k3 => with_reducible assumption); (case k4 => k_dflt k_is); (case k7 => rfl); (case k8 => rfl); (case k9 => rfl); (case k10 => decide)))))
  trivial
set_option maxHeartbeats 1000000 in
theorem len_call {w : World} {p : Program} {loose : List Str} {mean : ExcName → Option Value} {mg mb : Str → Option Value} {dp un : Nat} {gd : Option (List Code)} {cn : Str} {cs : Scope} {a : Addr} {ccd : Value} {cl : List (Str × Addr)} {outer : List Env} {A₀ : Around} {base h₀ : Heap} {L : Addr} {m : Str → Option Value} {rest : List (Addr × Obj)} {s : Shared}
    {Q E : Value → Shared → Prop} {row d : Addr} {vs : List Value} {n : Nat} {ps : Array Value} {qs : List (Str × Str)} {k : Int} {hs : Int} {t₁ t₂ : Tok} {nd : Nat}
    (B : Below A₀ base outer h₀) (F : Fr h₀ L s.heap m) (X : (KW w.params).In h₀) (N : News h₀ L s.heap ((112, tabObj ps) :: rest)) (T : Top p loose mean mg mb h₀) (hk : cs.kind = .function)
    (hd : dp + 5 < recursionLimit) (hu : un + 50 < cLine) (G : AllBare s.gens)
    (hps : ps = #[] ∨ Found ⟨77, 19, 77, 63⟩ ps) (hne : Found ⟨77, 19, 77, 63⟩ ps ∨ ∀ p ∈ rest, p.1 ≠ 112) (hrow : (row, accObj d vs.toArray n) ∈ rest) (hP : Pairs rest vs qs) (hdi : (d, szObj hs t₁ k t₂ nd) ∈ rest)
    (hsz : ∀ q ∈ qs, q.1.length ≤ 10 ∧ q.2.length ≤ 10) (hl : qs.length ≤ 1000) (hk0 : 0 ≤ k) (hk1 : k ≤ 100000)
    (ret : ∀ s' ps' t, Fr h₀ L s'.heap m → News h₀ L s'.heap ((112, tabObj ps') :: rest) → AllBare s'.gens → s'.os = s.os → Found ⟨77, 19, 77, 63⟩ ps' → (Found ⟨77, 19, 77, 63⟩ ps → ps' = ps) → Q (.int (k + lens qs) t) s') :
    wpAny (model PG w) (ktrTop dp un gd cn cs L a ccd cl outer) (call (.ref 117) [.ref row]) Q E s := by
  have hlen := hP.length
  refine wpAny_call ?_
  k_dflt ktr_enter
  k_steps
  rename Fr _ _ _ _ => lF
  rename News _ _ _ _ => lN
  rename Top _ _ _ _ _ _ => lT
  (with_unfolding_all refine gen_pairs (fun i y => ∃ t, y = .int (((qs.getD i default).1.length + (qs.getD i default).2.length : Nat) : Int) t) lF lN hne (by k_asm) lT G rfl rfl rfl (by decide) rfl rfl rfl (by decide) rfl (by ktr_room) (fun Q' h => ld lF rfl h) hrow hP rfl (by k_is) (by kernel_rfl) hps rfl ?q ?k (fun _ => rfl))
  case q =>
    intro C code s₂ m₂ A' E' i x y t u hA1 hA2 hA3 hi hq FC h1 h2
    have hq1 : qs.getD i default = (x, y) := by rw [List.getD_eq_getElem?_getD, hq]; rfl
    have hq2 := hsz (x, y) (List.mem_of_getElem? hq)
    rw [hq1]
    dsimp only at hq2 ⊢
    k_steps
    exact ⟨_, _, rfl, fun _ _ e => e⟩
  case k =>
    intro a' s' ps' K hK hK' F' N' G' hos hf hf' X'
    k_steps
    refine accK_attr F' (by k_asm) N' (.tail _ hrow) (.tail _ hdi) ?_
    k_steps
    have hb := lens_bound qs hsz
    refine sum_gen (s := { s' with toks := s'.toks + 1 }) F' N' G' (gen_tick X' (Nat.le_succ _)) hK' hK _ (fun i v hv => hv) ⟨by omega, by omega⟩ (fun j hj => ?_) fun s₃ t₃ F₃ N₃ G₃ os₃ => ?_
    · have hj' : j < qs.length := by omega
      have hq := hsz (qs.getD j default) (by rw [List.getD_eq_getElem?_getD, List.getElem?_eq_getElem hj']; exact List.getElem_mem hj')
      have hb' := lens_bound (qs.take (j + 1)) fun q hq => hsz q (List.mem_of_mem_take hq)
      have hl' : (qs.take (j + 1)).length ≤ 1000 := by rw [List.length_take]; omega
      rw [preSum_lens qs (j + 1) (by omega)]
      exact ⟨⟨by omega, by omega⟩, ⟨by omega, by omega⟩⟩
    · rw [hlen, preSum_lens qs qs.length (Nat.le_refl _), List.take_length]
      k_steps
      exact ret s₃ ps' t₃ (by k_asm) (by k_asm) G₃ (os₃.trans hos) hf hf'
end Mine
end
section
open PySem PySem.W PyProof.Rows PySem.Spec PySem.Calls
set_option maxRecDepth 100000
namespace Mine
theorem start_P1 : True := by
  w_top off
  k_with_none
  (k_with "own:omega" => (first | with_reducible assumption | (refine' Mine.room2 ?h ?e; (case h => with_reducible assumption); (case e => decide)) | (refine' Mine.room1 ?h ?e; (case h => with_reducible assumption); (case e => decide)) | (refine' Mine.le_up ?h ?e; (case h => with_reducible assumption); (case e => decide)) | (refine' Mine.room0 ?h; (case h => with_reducible assumption)) | ((fail_if_success (fail_if_success omega (config := {}))); lia)))
  trivial
theorem keeps_of {h₀ h : Heap} {news : List (Addr × Obj)} (D : X.Mem h₀ h [] news) : ∀ b o, h₀.get? b = some o → h.get? b = some o := fun b o e => D.keep b o e (by simp [X.away])
/-- a built-in bound to its self -/
abbrev boundObj (T : String) (id : String) (x : Addr) : Obj := { cls := .type T, data := .fields #[.builtin id, .ref x] }
/-- a new object was made, and nothing else turned -/
noncomputable def Made (o : Obj) (s : Shared) (v : Value) (s' : Shared) : Prop := ∃ a h', v = .ref a ∧ s' = { s with heap := h' } ∧ h'.get? a = some o ∧ (∀ b x, s.heap.get? b = some x → h'.get? b = some x) ∧ s.heap.get? a = none
section
variable {w : World} {A : Around} {E : Value → Shared → Prop} {h : Heap} {g : Array GenState} {d : Drawn} {t : Nat} {os : OsState}
theorem acc_mro (X : (KW w.params).In h) : Looks (model PG w) h (mroOf (.ref 150)) [.ref 150, .type "list", .type "object"] := by
  intro A Q E s k q
  have e : (clsIn (KW w.params) 150).map (·.mro) = some [.ref 150, .type "list", .type "object"] := by kernel_rfl
  obtain ⟨cd, hc, hm⟩ := Option.map_eq_some_iff.mp e
  exact wpAny_bind ((looks_clsIn (K := KW w.params) (C := 150) X hc) A _ E s k (wpAny_pure (by rw [hm]; exact q)))
theorem super_ga {so row : Addr} {name : Str} {tk : Tok} {T T' id gid : String} {Q : PySem.Fin → Shared → Prop} (X : (KW w.params).In h)
    (hso : h.get? so = some (ks_superObj 150 row 150)) (hf : alongIn (KW w.params) name [.type "list", .type "object"] = some (some (.builtin id))) (hty : typeOf (.builtin id) = pure (.type T)) (hget : typeLookup (.type T) "__get__" = pure (some (.builtin gid)))
    (hcall : wpAny (model PG w) A (call (.builtin gid) [.builtin id, .ref row, .ref 150]) (Made (boundObj T' id row) ⟨h, g, d, t, os⟩) (fun _ _ => False) ⟨h, g, d, t, os⟩)
    (hr : row ≠ 150) (hn : (name == ("__class__" : Str)) = false) (hq : ∀ v s', Made (boundObj T' id row) ⟨h, g, d, t, os⟩ v s' → Q (.done (.ret v)) s') :
    wpAny (model PG w) A (Builtin.«super.__getattribute__» ⟨[.ref so, .str name tk], []⟩) Q E ⟨h, g, d, t, os⟩ := by
  have hne : (Value.ref row == Value.ref 150) = false := by simp [hr]
  have hno := looks_opaque (M := model PG w) (K := KW w.params) (C := 150) X (by kernel_rfl)
  have hC := acc_mro X
  have hdt : (ks_superObj 150 row 150).data = .fields #[.ref 150, .ref row, .ref 150] := rfl
  have f0 : (#[.ref 150, .ref row, .ref 150] : Array Value)[0]? = some (.ref 150) := rfl
  have f1 : (#[.ref 150, .ref row, .ref 150] : Array Value)[1]? = some (.ref row) := rfl
  have f2 : (#[.ref 150, .ref row, .ref 150] : Array Value)[2]? = some (.ref 150) := rfl
  have hl : (([.ref 150, .type "list", .type "object"] : List Value).dropWhile (· != .ref 150)).drop 1 = [.type "list", .type "object"] := rfl
  unfold Builtin.«super.__getattribute__»
  repeat (first
    | (with_reducible refine wpAny_field hso hdt f0 ?_) | (with_reducible refine wpAny_field hso hdt f1 ?_) | (with_reducible refine wpAny_field hso hdt f2 ?_)
    | (with_reducible refine ks_wpAny_notOpaque hno ?_)
    | (with_reducible refine Looks.at hC ?_; rw [hl])
    | (refine ks_forIn_along X (fun _ _ => rfl) rfl ?_ hf)
    | (with_reducible refine wpAny_of_eq hty ?_)
    | (with_reducible refine wpAny_mono hcall (fun v s' hv => ?_) fun _ _ z => z.elim)
    | (with_reducible refine ⟨_, rfl, ?_⟩)
    | (simp only [hn, hne, Bool.or_false, Bool.false_eq_true, if_false])
    | wp_step
    | dsimp only)
  all_goals exact hq _ _ hv
theorem super_method {so row : Addr} {name : Str} {T T' id gid : String} {pl : Sem Bool} {Q : Value × List Value → Shared → Prop} (X : (KW w.params).In h)
    (hso : h.get? so = some (ks_superObj 150 row 150)) (hf : alongIn (KW w.params) name [.type "list", .type "object"] = some (some (.builtin id))) (hty : typeOf (.builtin id) = pure (.type T)) (hget : typeLookup (.type T) "__get__" = pure (some (.builtin gid)))
    (hcall : ∀ (A' : Around) (s' : Shared), s'.heap = h → wpAny (model PG w) A' (call (.builtin gid) [.builtin id, .ref row, .ref 150]) (Made (boundObj T' id row) s') (fun _ _ => False) s')
    (hr : row ≠ 150) (hn : (name == ("__class__" : Str)) = false) (hq : ∀ a h', h'.get? a = some (boundObj T' id row) → (∀ b x, h.get? b = some x → h'.get? b = some x) → h.get? a = none → Q (.ref a, []) ⟨h', g, d, t + 1, os⟩) :
    wpAny (model PG w) A (getMethod (.ref so) name pl) Q E ⟨h, g, d, t, os⟩ := by
  have hlk := F.ks_slot_super_ga.lookup
  have hcan := F.ks_canon_super_ga
  have hT : ∀ t', (⟨h, g, d, t', os⟩ : Shared).TypeIs (.ref so) "super" := fun _ => ⟨_, hso, rfl⟩
  unfold getMethod
  refine wpAny_bind (wpAny_specialOf (hT _) hlk ?_)
  show wpAny _ _ (if (Manifest.canonical "super.__getattribute__" != "object.__getattribute__") = true then _ else _) _ _ _
  rw [if_pos hcan]
  unfold getAttr getAttrBy
  refine wpAny_bind (wpAny_bind (wpAny_mkText (wpAny_holding (wpAny_bind (wpAny_typeOf (hT _) (wpAny_bind (wpAny_of_eq hlk ?_)))))))
  show wpAny _ _ (getAttrByItsOwn (.ref so) (.str name t) (.type "super") (.builtin "super.__getattribute__") true false) _ _ _
  unfold getAttrByItsOwn hookBefore callGetattribute boundAndCalled
  refine wpAny_bind (wpAny_of_eq (show (if onTheHeap (.type "super") then typeLookup (.type "super") "__getattr__" else pure none) = pure none from rfl) ?_)
  refine wpAny_bind (wpAny_attempt (wpAny_holding ?_))
  show wpAny _ _ (bindSpecial (.builtin "super.__getattribute__") (.ref so) >>= _) _ _ _
  refine wpAny_bind (wpAny_of_eq (F.ks_slot_super_ga.bind _) ?_)
  refine wpAny_mono (Q := fun v s' => Made (boundObj T' id row) ⟨h, g, d, t + 1, os⟩ v s') (E := fun _ _ => False)
    (wpAny_call_entry F.ks_slot_super_ga (hT _) F.ks_entry_super_ga (super_ga X hso hf hty hget (hcall _ _ rfl) hr hn fun v s' hv => ⟨_, rfl, hv⟩) (F.ks_gaArgs_super _ _)) (fun v s' hv => ?_) fun _ _ z => z.elim
  obtain ⟨a, h', rfl, rfl, h1, h2, h3⟩ := hv
  exact wpAny_pure (wpAny_pure (hq a h' h1 h2 h3))
end
theorem lines_P1_0 : True := by
  (k_with "own:x_close" => exact ⟨_, _, rfl, rfl, (PySem.W.X.Mem.nw (by assumption) _ (.head _)).1, keeps_of (by assumption), (PySem.W.X.Mem.nw (by assumption) _ (.head _)).2⟩)
  trivial
set_option maxHeartbeats 2000000 in
theorem get_len_x {w : World} {A : Around} {s : Shared} {row d : Addr} {items : Array Value} {n : Nat} (X : (KW w.params).In s.heap) (ho : s.heap.get? row = some ⟨.ref 150, some d, .seq items n, #[]⟩) :
    wpAny (model PG w) A (call (.builtin "wrapper_descriptor.__get__") [.builtin "list.__len__", .ref row, .ref 150]) (Made (boundObj "method-wrapper" "list.__len__" row) s) (fun _ _ => False) s := by
  x_run
set_option maxHeartbeats 2000000 in
theorem get_pop_x {w : World} {A : Around} {s : Shared} {row d : Addr} {items : Array Value} {n : Nat} (X : (KW w.params).In s.heap) (ho : s.heap.get? row = some ⟨.ref 150, some d, .seq items n, #[]⟩) :
    wpAny (model PG w) A (call (.builtin "method_descriptor.__get__") [.builtin "list.pop", .ref row, .ref 150]) (Made (boundObj "builtin_function_or_method" "list.pop" row) s) (fun _ _ => False) s := by
  x_run
set_option maxHeartbeats 2000000 in
theorem get_init_x {w : World} {A : Around} {s : Shared} {row d : Addr} {items : Array Value} {n : Nat} (X : (KW w.params).In s.heap) (ho : s.heap.get? row = some ⟨.ref 150, some d, .seq items n, #[]⟩) :
    wpAny (model PG w) A (call (.builtin "wrapper_descriptor.__get__") [.builtin "list.__init__", .ref row, .ref 150]) (Made (boundObj "method-wrapper" "list.__init__" row) s) (fun _ _ => False) s := by
  x_run
end Mine
end
section
open PySem PySem.W PyProof.Rows PySem.Spec PySem.Calls
set_option maxRecDepth 100000
namespace Mine
theorem start_P2 : True := by
  w_top off
  k_with_none
  (k_with "own:omega" => (first | with_reducible assumption | (refine' Mine.room2 ?h ?e; (case h => with_reducible assumption); (case e => decide)) | (refine' Mine.room1 ?h ?e; (case h => with_reducible assumption); (case e => decide)) | (refine' Mine.le_up ?h ?e; (case h => with_reducible assumption); (case e => decide)) | (refine' Mine.room0 ?h; (case h => with_reducible assumption)) | ((fail_if_success (fail_if_success omega (config := {}))); lia)))
  trivial
section
variable {w : World} {A : Around} {E : Value → Shared → Prop} {s : Shared}
theorem bound_call {q row : Addr} {T id : String} {b : Builtin} {pos : List Value} {Q : Value → Shared → Prop} (ho : s.heap.get? q = some (boundObj T id row)) (hT : (Value.type T == .type "method" || Value.type T == .type "builtin_function_or_method" || Value.type T == .type "method-wrapper") = true) (hm : (Value.type T != .type "method") = true)
    (hchk : ∀ {A' : Around} {Q' : Unit → Shared → Prop} {E' : Value → Shared → Prop}, Q' () s → wpAny (model PG w) A' (checkBoundCall id ⟨.ref row :: pos, []⟩) Q' E' s) (hp : plainId id = true) (hb : entryFor table id = some b)
    (h : wpAny (model PG w) A.in1 (b ⟨.ref row :: pos, []⟩) (fun fin s' => ∃ v, fin = .done (.ret v) ∧ Q v s') E s) : wpAny (model PG w) A (call (.ref q) pos) Q E s := by
  refine wpAny_call (codeAny_of_tree ?_)
  show wpAny _ _ (callAny (.ref q) _) _ _ _
  unfold callAny
  refine wpAny_bind (wpAny_load ho ?_)
  dsimp only
  rw [if_pos hT]
  show wpAny _ _ (if (Value.type T != .type "method") = true then _ else _) _ _ _
  rw [if_pos hm]
  refine wpAny_bind (hchk ?_)
  refine wpAny_pure ⟨plainId_quiet hp _, codeAny_builtin hb ?_⟩
  rw [Around.under_plainId hp _]
  exact wpAny_mono h (fun fin s' h' => by obtain ⟨v, rfl, hv⟩ := h'; exact hv) fun _ _ z => z
set_option maxHeartbeats 1000000 in
theorem check_len {row : Addr} {Q : Unit → Shared → Prop} (h : Q () s) : wpAny (model PG w) A (checkBoundCall "list.__len__" ⟨[.ref row], []⟩) Q E s := by
  rw [show checkBoundCall "list.__len__" ⟨[.ref row], []⟩ = pure () by kernel_rfl]
  exact wpAny_pure h
set_option maxHeartbeats 1000000 in
theorem check_init {row : Addr} {Q : Unit → Shared → Prop} (h : Q () s) : wpAny (model PG w) A (checkBoundCall "list.__init__" ⟨[.ref row], []⟩) Q E s := by
  rw [show checkBoundCall "list.__init__" ⟨[.ref row], []⟩ = pure () by kernel_rfl]
  exact wpAny_pure h
set_option maxHeartbeats 1000000 in
theorem check_pop {row d : Addr} {items : Array Value} {n : Nat} {Q : Unit → Shared → Prop} (X : (KW w.params).In s.heap) (ho : s.heap.get? row = some (accObj d items n)) (h : Q () s) : wpAny (model PG w) A (checkBoundCall "list.pop" ⟨[.ref row], []⟩) Q E s := by
  obtain ⟨hh, g, dr, t, os⟩ := s
  dsimp only at ho X
  have L0 := acc_type (M := model PG w) ho
  have L1 : Looks (model PG w) hh (isSubtype (.ref 150) (.type "module")) false := looks_mroIn X (by kernel_rfl)
  unfold checkBoundCall
  lk
  rw [if_neg (by decide)]
  dsimp only
  refine wpAny_bind ((L0.andThen L1).at ?_)
  rw [if_neg (by decide +kernel)]
  refine wpAny_bind (ks_wpAny_isType_inst ho (fun c e => nomatch e) ?_)
  rw [if_neg (by simp)]
  refine wpAny_bind (L0.at ?_)
  dsimp only
  have e : (clsIn (KW w.params) 150).map (·.qualname) = some (Str.ofString "_Accumulator") := by kernel_rfl
  obtain ⟨cd, hc, hm⟩ := Option.map_eq_some_iff.mp e
  refine wpAny_bind ((looks_clsIn X hc).at ?_)
  refine wpAny_bind ((looks_typeIn X (v := .ref 150) (t := .type "type") (by kernel_rfl)).at ?_)
  rw [if_pos (by decide), hm]
  exact wpAny_of_eq (by kernel_rfl) h
theorem acc_len_tree {row d : Addr} {items : Array Value} {n : Nat} {P : PySem.Fin → Shared → Prop} (ho : s.heap.get? row = some (accObj d items n)) (h : P (.done (.ret (.int items.size s.toks))) { s with toks := s.toks + 1 }) :
    wpAny (model PG w) A (Builtin.«list.__len__» ⟨[.ref row], []⟩) P E s := by
  show wpAny _ _ (seqSize row >>= fun n => retInt n) _ _ s
  unfold seqSize
  refine wpAny_bind (wpAny_bind (wpAny_loadPart ho ?_))
  exact wpAny_pure (wpAny_bind (wpAny_mkInt (wpAny_pure h)))
theorem acc_pop_tree {row d : Addr} {vs : List Value} {v : Value} {n : Nat} {P : PySem.Fin → Shared → Prop} (ho : s.heap.get? row = some (accObj d (vs ++ [v]).toArray n)) (hsz : vs.length ≤ 1000)
    (h : ∀ h' n', Heap.SameBut row s.heap h' → h'.get? row = some (accObj d vs.toArray n') → P (.done (.ret v)) { s with heap := h' }) :
    wpAny (model PG w) A (Builtin.«list.pop» ⟨[.ref row], []⟩) P E s := by
  unfold Builtin.«list.pop»
  refine wpAny_bind (wpAny_of_eq (a := (.ref row, [])) rfl ?_)
  refine wpAny_bind (wpAny_pure ?_)
  dsimp only
  rw [if_neg (by decide)]
  refine wpAny_bind (listItems_at ho rfl ?_)
  rw [if_neg (by simp)]
  have e : (seqIndex? (-1) (vs ++ [v]).toArray.size).bind (fun k => (vs ++ [v]).toArray[k]?.map (k, ·)) = some (vs.length, v) := by
    have e1 : seqIndex? (-1) (vs ++ [v]).toArray.size = some vs.length := by
      unfold seqIndex?
      simp
      omega
    rw [e1]
    simp
  have e2 : (vs ++ [v]).toArray.eraseIdxIfInBounds vs.length = vs.toArray := by
    simp [List.eraseIdx_append_of_length_le]
  rw [e]
  dsimp only
  refine wpAny_bind (listUpdate_at ho rfl ?_ (by simp [sizeLine]; omega) (by rw [e2]; simp [sizeLine]; omega))
  have e3 := acc_upd ho (fun x => x.eraseIdxIfInBounds vs.length)
  rw [e2] at e3
  exact wpAny_pure (h _ _ (Heap.SameBut.update ..) e3)
end
end Mine
end
section
open PySem PySem.W PyProof.Rows PySem.Spec PySem.Calls
set_option maxRecDepth 100000
namespace Mine
theorem start_P3 : True := by
  w_top off
  k_with_none
  (k_with "own:omega" => (first | with_reducible assumption | (refine' Mine.room2 ?h ?e; (case h => with_reducible assumption); (case e => decide)) | (refine' Mine.room1 ?h ?e; (case h => with_reducible assumption); (case e => decide)) | (refine' Mine.le_up ?h ?e; (case h => with_reducible assumption); (case e => decide)) | (refine' Mine.room0 ?h; (case h => with_reducible assumption)) | ((fail_if_success (fail_if_success omega (config := {}))); lia)))
  trivial
theorem acc_ne {w : World} {g h : Heap} {L row : Addr} {news : List (Addr × Obj)} {o : Obj} (X : (KW w.params).In g) (N : News g L h news) (hm : (row, o) ∈ news) : row ≠ 150 := by
  rintro rfl
  have e : (KW w.params).lookup 150 = some (kAt 150 w.params) := by kernel_rfl
  have := (N _ hm).2.2
  rw [X _ _ e] at this
  cases this
theorem news_push {g h h' : Heap} {L q : Addr} {m : Str → Option Value} {news : List (Addr × Obj)} {o : Obj} (F : Fr g L h m) (N : News g L h news) (h1 : h'.get? q = some o) (h2 : ∀ b x, h.get? b = some x → h'.get? b = some x) (h3 : h.get? q = none) :
    Fr g L h' m ∧ News g L h' ((q, o) :: news) := by
  refine ⟨F.keeps h2, fun z hz => ?_⟩
  rcases List.mem_cons.mp hz with rfl | hz
  · refine ⟨h1, ?_, ?_⟩
    · rintro rfl
      obtain ⟨_, _, _, e, _⟩ := F.ns
      rw [e] at h3; cases h3
    · cases e : g.get? q with
      | none => rfl
      | some x => rw [F.keep _ _ e] at h3; cases h3
  · exact ⟨h2 _ _ (N z hz).1, (N z hz).2⟩
theorem superK {w : World} {A : Around} {E : Value → Shared → Prop} {s : Shared} {g : Heap} {L so row : Addr} {m : Str → Option Value} {news : List (Addr × Obj)} {name : Str} {T T' id gid : String} {pl : Sem Bool} {Q : Value × List Value → Shared → Prop} {o : Obj} (F : Fr g L s.heap m) (X₀ : (KW w.params).In g) (N : News g L s.heap news)
    (hso : (so, ks_superObj 150 row 150) ∈ news) (hrow : (row, o) ∈ news) (hf : alongIn (KW w.params) name [.type "list", .type "object"] = some (some (.builtin id))) (hty : typeOf (.builtin id) = pure (.type T)) (hget : typeLookup (.type T) "__get__" = pure (some (.builtin gid)))
    (hcall : ∀ (A' : Around) (s' : Shared), s'.heap = s.heap → wpAny (model PG w) A' (call (.builtin gid) [.builtin id, .ref row, .ref 150]) (Made (boundObj T' id row) s') (fun _ _ => False) s')
    (hn : (name == ("__class__" : Str)) = false) (h : ∀ q h', Fr g L h' m → News g L h' ((q, boundObj T' id row) :: news) → Q (.ref q, []) { s with heap := h', toks := s.toks + 1 }) :
    wpAny (model PG w) A (getMethod (.ref so) name pl) Q E s := by
  have X := X₀.keeps F.keep
  have hr := acc_ne X₀ N hrow
  have h1 := N.get hso
  obtain ⟨hh, gg, dr, t, os⟩ := s
  refine super_method X h1 hf hty hget hcall hr hn fun a h' e1 e2 e3 => ?_
  obtain ⟨F', N'⟩ := news_push F N e1 e2 e3
  exact h a h' F' N'
theorem callWith_bound {w : World} {A : Around} {E : Value → Shared → Prop} {s : Shared} {env : Env} {pos : Pos} {T id : String} {q row : Addr} {Q : Value → Shared → Prop} (ho : s.heap.get? q = some (boundObj T id row)) (hT : T = "method-wrapper" ∨ T = "builtin_function_or_method")
    (h : wpAny (model PG w) A (call (.ref q) []) Q E s) : wpAny (model PG w) A (callWith pos (.ref q) [] (backTo pos (starEach [] env)) []) Q E s :=
  callWith_of (P := fun h => h.get? q = some (boundObj T id row)) rfl (fun h X => by rcases hT with rfl | rfl <;> exact ⟨.machine, .inr (.inl rfl), (Looks.ld (part := none) X).andThen .now⟩) (evalArgs_nil3 ⟨ho, h⟩)
theorem lines_P3_0 : True := by
  (k_with "own:k_inst" => (refine' acc_inst ?N ?h1 ?h2; (case N => k_asm); (case h1 => first | assumption | k_mem); (case h2 => first | assumption | k_mem)))
  trivial
set_option maxHeartbeats 1000000 in
theorem count_call {w : World} {p : Program} {loose : List Str} {mean : ExcName → Option Value} {mg mb : Str → Option Value} {dp un : Nat} {gd : Option (List Code)} {cn : Str} {cs : Scope} {a : Addr} {ccd : Value} {cl : List (Str × Addr)} {outer : List Env} {A₀ : Around} {base h₀ : Heap} {L : Addr} {m : Str → Option Value} {news : List (Addr × Obj)} {s : Shared}
    {Q E : Value → Shared → Prop} {row d : Addr} {vs : List Value} {n : Nat} {od : Obj}
    (B : Below A₀ base outer h₀) (F : Fr h₀ L s.heap m) (X : (KW w.params).In h₀) (N : News h₀ L s.heap news) (T : Top p loose mean mg mb h₀) (hk : cs.kind = .function)
    (hd : dp + 5 < recursionLimit) (hu : un + 50 < cLine) (hrow : (row, accObj d vs.toArray n) ∈ news) (hdi : (d, od) ∈ news)
    (ret : ∀ h' tk t, Fr h₀ L h' m → News h₀ L h' news → Q (.int vs.length t) { s with heap := h', toks := tk }) :
    wpAny (model PG w) (ktrTop dp un gd cn cs L a ccd cl outer) (call (.ref 147) [.ref row]) Q E s := by
  refine wpAny_call ?_
  k_dflt (refine' ks_code_super ?k1 ?k2 ?k3 ?k4 ?k5 ?kA ?kF ?kK ?k6 ?k7 ?k8 ?k9 ?kB ?_ ?c1 ?c2 ?c3 ?c4; (case kA => exact rfl); (case kF => exact rfl); (case kK => exact hk); (case k1 => k_asm); (case k2 => k_asm); (case k3 => k_asm); (case k4 => k_asm); (case k5 => k_asm); (case k6 => k_is); (case k7 => k_is); (case k8 => ktr_room); (case k9 => exact BindsTo.of_eq rfl); (case kB => exact locs rfl); (case c1 => decide); (case c2 => exact rfl); (case c3 => exact rfl); (case c4 => exact rfl))
  intro g' L' h₁ FG F' N' B' X' T' hlt
  k_steps
  rename Fr _ _ _ _ => F₂
  rename News _ _ _ _ => N₂
  refine superK (T' := "method-wrapper") F₂ X' N₂ (by k_mem) (.tail _ hrow) (id := "list.__len__") (gid := "wrapper_descriptor.__get__") (T := "wrapper_descriptor") (by kernel_rfl) (by kernel_rfl) (by rw [typeLookup_type, builtinLookup_eq_fast]; kernel_rfl) (fun A' s' hs => get_len_x (by rw [hs]; exact X'.keeps F₂.keep) (by rw [hs]; exact N₂.get (.tail _ hrow))) (by decide) fun q h' F₃ N₃ => ?_
  refine callWith_bound (N₃.get (.head _)) (.inl rfl) (bound_call (N₃.get (.head _)) (by decide) (by decide) check_len (by decide +kernel) entry_list_len (acc_len_tree (N₃.get (.tail _ (.tail _ hrow))) ⟨_, rfl, ?_⟩))
  dsimp only
  k_steps
  rename Fr _ _ _ _ => F₄
  rename News _ _ _ _ => N₄
  rw [List.size_toArray]
  exact ret _ _ _ F₄ (fun p hp => N₄ p (.tail _ (.tail _ hp)))

end Mine
end
section
open PySem PySem.W PyProof.Rows PySem.Spec PySem.Calls
set_option maxRecDepth 100000
namespace Mine
theorem start_P4 : True := by
  w_top off
  k_with_none
  (k_with "own:omega" => (first | with_reducible assumption | (refine' Mine.room2 ?h ?e; (case h => with_reducible assumption); (case e => decide)) | (refine' Mine.room1 ?h ?e; (case h => with_reducible assumption); (case e => decide)) | (refine' Mine.le_up ?h ?e; (case h => with_reducible assumption); (case e => decide)) | (refine' Mine.room0 ?h; (case h => with_reducible assumption)) | ((fail_if_success (fail_if_success omega (config := {}))); lia)))
  trivial
theorem canon_list_ga : (Manifest.canonical "list.__getattribute__" != "object.__getattribute__") = false := by decide +kernel
theorem accK_method {w : World} {A : Around} {E : Value → Shared → Prop} {s : Shared} {g : Heap} {L : Addr} {m : Str → Option Value} {news : List (Addr × Obj)} {row d : Addr} {items : Array Value} {n nd : Nat} {hs k : Int} {t₁ t₂ : Tok} {name : Str} {f : Value} {T : String} {pl : Sem Bool} {Q : Value × List Value → Shared → Prop}
    (F : Fr g L s.heap m) (X₀ : (KW w.params).In g) (N : News g L s.heap news) (h1 : (row, accObj d items n) ∈ news) (h2 : (d, szObj hs t₁ k t₂ nd) ∈ news)
    (hf : findIn (KW w.params) (.ref 150) name = some (some f)) (hty : typeIn (KW w.params) f = some (.type T)) (hT : T = "function" ∨ T = "method_descriptor") (hname : (Str.ofString "_initial_size" == name) = false) (h : Q (f, [.ref row]) s) :
    wpAny (model PG w) A (getMethod (.ref row) name pl) Q E s := by
  have X := X₀.keeps F.keep
  have ho := N.get h1
  have hd := N.get h2
  obtain ⟨hh, gg, dd, tt, os⟩ := s
  dsimp only at X ho hd
  unfold getMethod
  refine wpAny_bind (wpAny_bind ((acc_type ho).at ((looks_findIn X (r := some (.builtin "list.__getattribute__")) (by kernel_rfl)).at ?_)))
  dsimp only
  rw [if_neg (by rw [canon_list_ga]; simp)]
  refine wpAny_bind (wpAny_bind ((acc_type ho).at ((looks_findIn X (r := none) (by kernel_rfl)).at ?_)))
  rw [if_neg (by simp)]
  refine wpAny_bind (wpAny_bind ((acc_type ho).at ((looks_findIn X hf).at ?_)))
  dsimp only
  refine wpAny_bind ((looks_typeIn X hty).at ?_)
  rw [if_neg (by rcases hT with rfl | rfl <;> decide)]
  refine wpAny_bind (wpAny_loadPart ho ?_)
  dsimp only [accObj]
  have hns : hh.Ns d (fun y => if y = Str.ofString "_initial_size" then some (.int k t₂) else none) := by
    refine ⟨_, _, _, hd, rfl, ?_, fun y => ?_⟩
    · intro e he
      simp only [List.mem_toArray, List.mem_singleton] at he
      subst he
      exact ⟨_, _, rfl⟩
    · unfold nsFind findBy
      by_cases q : y = Str.ofString "_initial_size"
      · subst q; simp [Value.isStr]
      · have q' : ¬ (Str.ofString "_initial_size" = y) := fun e => q e.symm
        simp [Value.isStr, q, q']
  refine wpAny_bind (wpAny_nsGet hns ?_)
  have hn' : ¬ (name = Str.ofString "_initial_size") := fun e => by rw [e] at hname; simp at hname
  simp only [if_neg hn', Option.isSome_none, Bool.false_eq_true, if_false]
  exact wpAny_bind (wpAny_rule (wpAny_pure h))
theorem lines_P4_0 : True := by
  (k_with "own:k_mem" => with_reducible_and_instances assumption)
  (k_with "getMethod ref" => (k_here; k_dflt (refine' accK_method ?k1 ?k2 ?k3 ?k4 ?k5 ?k6 ?k7 ?k8 ?k9 ?_; (case k1 => k_asm); (case k2 => k_asm); (case k3 => k_asm); (case k4 => k_mem); (case k5 => k_mem); (case k6 => k_is); (case k7 => k_is); (case k8 => first | exact .inl rfl | exact .inr rfl); (case k9 => decide); k_whole)))
  (k_with "call ref" => (k_here; (k_dflt (show wpAny _ _ (call (Value.ref 147) [Value.ref _]) _ _ _)); k_dflt (refine' count_call ?k1 ?k2 ?k3 ?k4 ?k5 ?k6 ?k7 ?k8 ?k9 ?k10 ?_; (case k1 => k_asm); (case k2 => k_asm); (case k3 => k_asm); (case k4 => k_asm); (case k5 => k_asm); (case k6 => rfl); (case k7 => ktr_room); (case k8 => ktr_units); (case k9 => k_mem); (case k10 => k_mem); k_whole); intro _ _ _ _ _; (try dsimp only); (try k_sweep)))
  (k_with "own:steps" => repeat' (first | (k_unfold; (try dsimp only)) | ((fail_if_success (show _root_.PySem.wpAt _ _ _ _ _ _ _)); (first | walk1 | (dsimp only; walk1) | fail "no step"))))
  trivial
set_option maxHeartbeats 1000000 in
theorem pop_call {w : World} {p : Program} {loose : List Str} {mean : ExcName → Option Value} {mg mb : Str → Option Value} {dp un : Nat} {gd : Option (List Code)} {cn : Str} {cs : Scope} {a : Addr} {ccd : Value} {cl : List (Str × Addr)} {outer : List Env} {A₀ : Around} {base h₀ : Heap} {L : Addr} {m : Str → Option Value} {rest : List (Addr × Obj)} {s : Shared}
    {Q E : Value → Shared → Prop} {row d : Addr} {vs : List Value} {n : Nat} {hs k : Int} {t₁ t₂ : Tok} {nd : Nat}
    (B : Below A₀ base outer h₀) (F : Fr h₀ L s.heap m) (X : (KW w.params).In h₀) (N : News h₀ L s.heap ((row, accObj d vs.toArray n) :: rest)) (T : Top p loose mean mg mb h₀) (hk : cs.kind = .function)
    (hd : dp + 7 < recursionLimit) (hu : un + 70 < cLine) (hdi : (d, szObj hs t₁ k t₂ nd) ∈ rest) (hne : ∀ p ∈ rest, p.1 ≠ row) (hl : vs.length ≤ 1000)
    (ret0 : vs = [] → ∀ q t u h' tk', Fr h₀ L h' m → News h₀ L h' ((q, tupObj (pcF 0) t (pcS 0) u) :: (row, accObj d vs.toArray n) :: rest) → Q (.ref q) { s with heap := h', toks := tk' })
    (ret1 : ∀ vs₀ v, vs = vs₀ ++ [v] → ∀ n' h' tk', Fr h₀ L h' m → News h₀ L h' ((row, accObj d vs₀.toArray n') :: rest) → Q v { s with heap := h', toks := tk' }) :
    wpAny (model PG w) (ktrTop dp un gd cn cs L a ccd cl outer) (call (.ref 110) [.ref row]) Q E s := by
  refine wpAny_call ?_
  k_dflt (refine' ks_code_super ?k1 ?k2 ?k3 ?k4 ?k5 ?kA ?kF ?kK ?k6 ?k7 ?k8 ?k9 ?kB ?_ ?c1 ?c2 ?c3 ?c4; (case kA => exact rfl); (case kF => exact rfl); (case kK => exact hk); (case k1 => k_asm); (case k2 => k_asm); (case k3 => k_asm); (case k4 => k_asm); (case k5 => k_asm); (case k6 => k_is); (case k7 => k_is); (case k8 => ktr_room); (case k9 => exact BindsTo.of_eq rfl); (case kB => exact locs rfl); (case c1 => decide); (case c2 => exact rfl); (case c3 => exact rfl); (case c4 => exact rfl))
  intro g' L' h₁ FG F' N' B' X' T' hlt
  walk1
  walk1
  walk1
  k_extra "own:steps"
  · rename (((vs.length : Nat) : Int) = 0) => h0
    have hv : vs = [] := List.eq_nil_of_length_eq_zero (by omega)
    refine wpAt_of_wpAny ?_
    k_extra "own:steps"
    rename Fr _ _ _ _ => F₂
    rename News _ _ _ _ => N₂
    exact ret0 hv _ _ _ _ _ F₂ N₂
  · rename (¬ ((vs.length : Nat) : Int) = 0) => h0
    obtain ⟨vs₀, v, hv⟩ : ∃ vs₀ v, vs = vs₀ ++ [v] := ⟨vs.dropLast, vs.getLast (by intro e; rw [e] at h0; exact h0 rfl), (List.dropLast_concat_getLast _).symm⟩
    refine wpAt_of_wpAny (wpAny_execs_nil ?_)
    dsimp only
    refine ks_wpAt_execs_cons (ks_wpAt_Return_some (ks_wpAt_MethodCall ?_))
    rename Fr _ _ _ _ => F₂
    rename News _ _ _ _ => N₂
    k_dflt (refine ks_node F₂ X' N₂ T' (by k_is) (by rfl) (by rfl) (acc_inst N₂ (.head _) (.tail _ hdi)) (by k_is) (by rfl) (by first | rfl | decide +kernel) (by k_is) (by k_is) (by k_is) (by k_is) (by decide) (by rfl) (by rfl) (by rfl) (by rfl) (by decide +kernel) (by first | boot_by_name | rfl | kernel_rfl) ?_)
    intro so h₃ F₃ N₃ _
    subst hv
    refine superK (T' := "builtin_function_or_method") F₃ X' N₃ (.head _) (.tail _ (.head _)) (id := "list.pop") (gid := "method_descriptor.__get__") (T := "method_descriptor") (by kernel_rfl) (by kernel_rfl) (by rw [typeLookup_type, builtinLookup_eq_fast]; kernel_rfl) (fun A' s' hs => get_pop_x (by rw [hs]; exact X'.keeps F₃.keep) (by rw [hs]; exact N₃.get (.tail _ (.head _)))) (by decide) fun q h₄ F₄ N₄ => ?_
    have ho := N₄.get (.tail _ (.tail _ (.head _)))
    refine callWith_bound (N₄.get (.head _)) (.inr rfl) (bound_call (N₄.get (.head _)) (by decide) (by decide) (check_pop (X'.keeps F₄.keep) ho) (by decide +kernel) PySem.F.entry_list_pop (acc_pop_tree ho (by simp at hl; omega) fun h₅ n₅ hs ho₅ => ⟨_, rfl, ?_⟩))
    have hrow := N₄ _ (.tail _ (.tail _ (.head _)))
    have F₅ := F₄.change hs hrow.2.1 hrow.2.2
    have N₅ : News g' L' h₅ ((row, accObj d vs₀.toArray n₅) :: rest) := by
      intro z hz
      rcases List.mem_cons.mp hz with rfl | hz
      · exact ⟨ho₅, hrow.2⟩
      · have := N₄ z (.tail _ (.tail _ (.tail _ hz)))
        exact ⟨(hs.2 _ (hne z hz)).trans this.1, this.2⟩
    dsimp only
    k_extra "own:steps"
    rename Fr _ _ _ _ => F₆
    rename News _ _ _ _ => N₆
    exact ret1 vs₀ v rfl _ _ _ F₆ N₆
end Mine
end
section
open PySem PySem.W PyProof.Rows PySem.Spec PySem.Calls
set_option maxRecDepth 100000
namespace Mine
theorem start_S1 : True := by
  w_top off
  k_with_none
  (k_with "own:omega" => (first | with_reducible assumption | (refine' Mine.room2 ?h ?e; (case h => with_reducible assumption); (case e => decide)) | (refine' Mine.room1 ?h ?e; (case h => with_reducible assumption); (case e => decide)) | (refine' Mine.le_up ?h ?e; (case h => with_reducible assumption); (case e => decide)) | (refine' Mine.room0 ?h; (case h => with_reducible assumption)) | ((fail_if_success (fail_if_success omega (config := {}))); lia)))
  trivial
/-- what _siftdown makes of the pieces -/
noncomputable def sd (x sp pos : Nat) (ks : List Nat) : List Nat :=
  if sp < pos then
    if x < ks.getD ((pos - 1) / 2) 0 then sd x sp ((pos - 1) / 2) (ks.set pos (ks.getD ((pos - 1) / 2) 0)) else ks.set pos x
  else ks.set pos x
termination_by pos
decreasing_by omega

theorem rshift_nat {w : World} {A : Around} {E : Value → Shared → Prop} {s : Shared} {q : Nat} {t u : Tok} {Q : Value → Shared → Prop} (hq : 1 ≤ q) (h : Q (.int (((q - 1) / 2 : Nat) : Int) s.toks) { s with toks := s.toks + 1 }) :
    wpAny (model PG w) A (binaryOp .RShift (.int ((q : Int) - 1) t) (.int 1 u)) Q E s :=
  wpAny_rshift1_int (by omega) (by rw [show ((q : Int) - 1) / 2 = (((q - 1) / 2 : Nat) : Int) by omega]; exact h)

theorem lines_S1_0 : True := by
  (k_with "subscriptTail" => (k_here; (with_reducible show wpAny _ _ (subscriptTail _ _ (Value.ref _) (Value.int _ _)) _ _ _); (k_dflt (refine' accK_sub ?k1 ?k2 ?k3 ?k4 ?k5 ?k6 ?k7 ?k8 ?_ ?k9; (case k1 => k_asm); (case k2 => k_asm); (case k3 => k_asm); (case k4 => k_mem); (case k5 => k_asm); (case k6 => omega); (case k7 => omega); (case k8 => omega); (case k9 => with_unfolding_all rfl); k_whole)); intro _ _ _))
  (k_with "compareOp Lt ref" => (k_here; (k_dflt (refine' pcK_lt ?k1 ?k2 ?k3 ?k4 ?k5 ?_; (case k2 => k_asm); (case k4 => k_asm); (case k5 => k_asm); (case k3 => first | exact fun _ h => h | exact fun _ h => .tail _ h | exact fun _ h => .tail _ (.tail _ h)); (case k1 => ktr_units); k_whole))))
  (k_with "binaryOp RShift int int" => (k_here; (refine' rshift_nat ?k1 ?_; (case k1 => omega)); (try dsimp only)))
  (k_with "setItem ref int" => (k_here; (k_dflt (refine' accK_set ?k1 ?k2 ?k3 ?k4 ?kr ?ke ?k5 ?kx ?k6 ?k7 ?k8 ?_; (case k1 => k_asm); (case k2 => k_asm); (case k3 => k_asm); (case k4 => k_mem); (case k5 => k_asm); (case kx => k_asm); (case kr => first | exact fun _ h => h | exact fun _ h => .tail _ h | exact fun _ h => .tail _ (.tail _ h)); (case ke => k_asm); (case k6 => omega); (case k7 => omega); (case k8 => omega); k_whole)); intro _ _ _ _ _; (try k_sweep)))
  (k_with "own:steps" => repeat' (first | (k_unfold; (try dsimp only)) | ((fail_if_success (with_reducible show wpAny _ _ (exec (Stmt.While _ _ _ _) _) _ _ _)); (first | walk1 | (dsimp only; walk1) | fail "no step"))))
  trivial
set_option maxHeartbeats 8000000 in
theorem siftdown {w : World} {p : Program} {loose : List Str} {mean : ExcName → Option Value} {mg mb : Str → Option Value} {dp un : Nat} {gd : Option (List Code)} {cn : Str} {cs : Scope} {a : Addr} {ccd : Value} {cl : List (Str × Addr)} {outer : List Env} {A₀ : Around} {base h₀ : Heap} {L : Addr} {m : Str → Option Value} {rest : List (Addr × Obj)} {s : Shared}
    {Q E : Value → Shared → Prop} {row d : Addr} {vs : List Value} {ks : List Nat} {n : Nat} {sp pos : Nat} {t1 t2 : Tok}
    (B : Below A₀ base outer h₀) (F : Fr h₀ L s.heap m) (X : (KW w.params).In h₀) (N : News h₀ L s.heap ((row, accObj d vs.toArray n) :: rest)) (T : Top p loose mean mg mb h₀) (hk : cs.kind = .function)
    (hd : dp + 5 < recursionLimit) (hu : un + 50 < cLine)
    (hne : ∀ p ∈ rest, p.1 ≠ row) (hA : Are rest vs ks) (hp : pos < ks.length) (hl : ks.length ≤ 1000)
    (ret : ∀ vs' h' tk', Are rest vs' (sd (ks.getD pos 0) sp pos ks) → Fr h₀ L h' m → News h₀ L h' ((row, accObj d vs'.toArray n) :: rest) → Q .none { s with heap := h', toks := tk' }) :
    wpAny (model PG w) (ktrTop dp un gd cn cs L a ccd cl outer) (call (.ref 63) [.ref row, .int sp t1, .int pos t2]) Q E s := by
  refine wpAny_call ?_
  k_dflt ktr_enter
  k_extra "own:steps"
  rename Fr _ _ _ _ => lF
  rename News _ _ _ _ => lN
  rename PcAt _ _ _ => pX
  rename_i a₀ _ _
  simp only [Int.toNat_natCast] at pX
  (with_unfolding_all refine' While_inv2 (fun q m₁ nx => ∃ (vs' : List Value) (ks' : List Nat) (tp : Tok), nx = (row, accObj d vs'.toArray n) :: rest ∧ Are rest vs' ks' ∧ q < ks'.length ∧ ks'.length = ks.length ∧ sd (ks.getD pos 0) sp q ks' = sd (ks.getD pos 0) sp pos ks
      ∧ m₁ (Str.ofString "heap") = some (.ref row) ∧ m₁ (Str.ofString "startpos") = some (.int (sp : Int) t1) ∧ m₁ (Str.ofString "pos") = some (.int (q : Int) tp) ∧ m₁ (Str.ofString "newitem") = some (.ref a₀)) lF lN ⟨vs, ks, t2, rfl, hA, hp, rfl, rfl, rfl, rfl, rfl, rfl⟩ ?_)
  intro q m₁ nx h₁ tk₁ F₁ N₁ hJ
  obtain ⟨vs', ks', tp, rfl, hA', hq, hl', hsd, hm1, hm2, hm3, hm4⟩ := hJ
  replace F₁ := at4 F₁ hm1 hm2 hm3 hm4
  clear lF lN hm1 hm2 hm3 hm4 hA
  k_extra "own:steps"
  · rename ((sp : Int) < (q : Int)) => hlt
    rename (ks.getD pos 0 < _) => hx
    rename Are _ _ _ => A₂
    rename Fr _ _ _ _ => F₂
    rename News _ _ _ _ => N₂
    try simp only [Int.toNat_natCast] at hx A₂
    refine ⟨_, _, _, _, (q - 1) / 2, rfl, F₂, N₂, by omega, _, _, _, rfl, A₂, by simp only [List.length_set]; omega, by simp only [List.length_set]; omega, ?_, rfl, rfl, rfl, rfl⟩
    rw [← hsd]
    conv => rhs; rw [sd]
    rw [if_pos (by omega), if_pos hx]
  · rename ((sp : Int) < (q : Int)) => hlt
    rename (¬ ks.getD pos 0 < _) => hx
    try simp only [Int.toNat_natCast] at hx
    dsimp only [WhileStep2]
    k_extra "own:steps"
    rename Are _ _ _ => A₂
    rename Fr _ _ _ _ => F₂
    rename News _ _ _ _ => N₂
    try simp only [Int.toNat_natCast] at A₂
    refine ret _ _ _ ?_ F₂ N₂
    rw [← hsd, sd, if_pos (by omega), if_neg hx]
    exact A₂
  · rename (¬ (sp : Int) < (q : Int)) => hlt
    rename Are _ _ _ => A₂
    rename Fr _ _ _ _ => F₂
    rename News _ _ _ _ => N₂
    try simp only [Int.toNat_natCast] at A₂
    refine ret _ _ _ ?_ F₂ N₂
    rw [← hsd, sd, if_neg (by omega)]
    exact A₂
end Mine
end
section
open PySem PySem.W PyProof.Rows PySem.Spec PySem.Calls
set_option maxRecDepth 100000
namespace Mine
theorem start_C1 : True := by
  w_top off
  k_with_none
  (k_with "own:omega" => (first | with_reducible assumption | (refine' Mine.room2 ?h ?e; (case h => with_reducible assumption); (case e => decide)) | (refine' Mine.room1 ?h ?e; (case h => with_reducible assumption); (case e => decide)) | (refine' Mine.le_up ?h ?e; (case h => with_reducible assumption); (case e => decide)) | (refine' Mine.room0 ?h; (case h => with_reducible assumption)) | ((fail_if_success (fail_if_success omega (config := {}))); lia)))
  trivial
abbrev posL : Pos := ⟨77, 19, 77, 63⟩
abbrev posS : Pos := ⟨80, 32, 80, 85⟩
/-- what the ledger holds beside an accumulator: its own dict, the grown code tables -/
structure Rest (rest : List (Addr × Obj)) (row d : Addr) (k : Int) : Prop where
  ne : ∀ p ∈ rest, p.1 ≠ row
  sz : ∃ hs t₁ t₂ nd, (d, szObj hs t₁ k t₂ nd) ∈ rest
  tab : ∃ ps, (112, tabObj ps) ∈ rest ∧ Found posL ps
  lo : 0 ≤ k
  hi : k ≤ 100000
theorem lens_ones : ∀ {ks : List Nat}, (∀ x ∈ ks, 0 < x) → lens (ks.map fun k => (pcF k, pcS k)) = (ks.length : Int)
  | [], _ => rfl
  | k :: ks, h => by
    have h1 := h k (.head _)
    have h2 := lens_ones fun x hx => h x (.tail _ hx)
    unfold lens at h2 ⊢
    rw [List.map_cons, List.map_cons, List.sum_cons, h2, List.length_cons]
    have e : (pcF k).length + (pcS k).length = 1 := by
      unfold pcF pcS Str.length
      by_cases hb : k = BL
      · simp [hb]
      · have : k ≠ 0 := by omega
        simp [hb, this]
    rw [show ((pcF k, pcS k) : Str × Str).1 = pcF k from rfl, show ((pcF k, pcS k) : Str × Str).2 = pcS k from rfl, e]
    omega
theorem pc_short (ks : List Nat) : ∀ q ∈ ks.map fun k => (pcF k, pcS k), q.1.length ≤ 10 ∧ q.2.length ≤ 10 := by
  intro q hq
  obtain ⟨k, _, rfl⟩ := List.mem_map.mp hq
  unfold pcF pcS Str.length
  by_cases hb : k = BL <;> by_cases h0 : k = 0 <;> simp [hb, h0]
set_option maxHeartbeats 1000000 in
theorem accK_len {w : World} {p : Program} {loose : List Str} {mean : ExcName → Option Value} {mg mb : Str → Option Value} {dp un : Nat} {gd : Option (List Code)} {cn : Str} {cs : Scope} {a : Addr} {ccd : Value} {cl : List (Str × Addr)} {outer : List Env} {A₀ : Around} {base h₀ : Heap} {L : Addr} {m : Str → Option Value} {rest : List (Addr × Obj)} {s : Shared}
    {Q E : Value → Shared → Prop} {row d : Addr} {vs : List Value} {n : Nat} {k : Int} {ks : List Nat}
    (B : Below A₀ base outer h₀) (F : Fr h₀ L s.heap m) (X : (KW w.params).In h₀) (N : News h₀ L s.heap ((row, accObj d vs.toArray n) :: rest)) (T : Top p loose mean mg mb h₀) (hk : cs.kind = .function)
    (hd : dp + 5 < recursionLimit) (hu : un + 60 < cLine) (G : AllBare s.gens) (R : Rest rest row d k) (hA : Are rest vs ks) (hpos : ∀ x ∈ ks, 0 < x) (hl : ks.length ≤ 1000)
    (ret : ∀ s' t, Fr h₀ L s'.heap m → News h₀ L s'.heap ((row, accObj d vs.toArray n) :: rest) → AllBare s'.gens → s'.os = s.os → Q (.int (k + ks.length) t) s') :
    wpAny (model PG w) (ktrTop dp un gd cn cs L a ccd cl outer) (call (.builtin "len") [.ref row]) Q E s := by
  obtain ⟨hs, t₁, t₂, nd, hdi⟩ := R.sz
  obtain ⟨ps, htab, hf⟩ := R.tab
  refine len_K (K := KW w.params) (C := 150) (f := 117) F X (acc_inst N (.head _) (.tail _ hdi)) (by kernel_rfl) (by kernel_rfl) ?_
  refine len_call (un := un + 1) (rest := (row, accObj d vs.toArray n) :: rest) (ps := ps) B F X (fun z hz => ?_) T hk hd (by omega) G (.inr hf) (.inl hf) (.head _) (hA.pairs.mono fun z hz => .tail _ hz) (.tail _ hdi) (pc_short ks) (by simpa using hl) R.lo R.hi fun s' ps' t F' N' G' hos _ he => ?_
  · rcases List.mem_cons.mp hz with rfl | hz
    · exact N _ (.tail _ htab)
    · exact N _ hz
  · rw [lens_ones hpos]
    have h1 := R.lo
    have h2 := R.hi
    exact ⟨⟨by omega, by omega⟩, ret { s' with toks := s'.toks + 1 } s'.toks F' (fun z hz => N' z (.tail _ hz)) G' hos⟩
end Mine
end
section
open PySem PySem.W PyProof.Rows PySem.Spec PySem.Calls
set_option maxRecDepth 100000
namespace Mine
theorem start_S2 : True := by
  w_top off
  k_with_none
  (k_with "own:omega" => (first | with_reducible assumption | (refine' Mine.room2 ?h ?e; (case h => with_reducible assumption); (case e => decide)) | (refine' Mine.room1 ?h ?e; (case h => with_reducible assumption); (case e => decide)) | (refine' Mine.le_up ?h ?e; (case h => with_reducible assumption); (case e => decide)) | (refine' Mine.room0 ?h; (case h => with_reducible assumption)) | ((fail_if_success (fail_if_success omega (config := {}))); lia)))
  trivial
/-- the child that _siftup goes down to -/
noncomputable def chd (n pos : Nat) (ks : List Nat) : Nat := if 2 * pos + 2 < n ∧ ¬ ks.getD (2 * pos + 1) 0 < ks.getD (2 * pos + 2) 0 then 2 * pos + 2 else 2 * pos + 1
theorem chd_lt (n pos : Nat) (ks : List Nat) : pos < chd n pos ks := by unfold chd; split <;> omega
/-- _siftup's way down: the place reached, the pieces then -/
noncomputable def suGo (n pos : Nat) (ks : List Nat) : Nat × List Nat :=
  if 2 * pos + 1 < n then suGo n (chd n pos ks) (ks.set pos (ks.getD (chd n pos ks) 0)) else (pos, ks)
termination_by n - pos
decreasing_by have := chd_lt n pos ks; omega
/-- what _siftup makes of the pieces -/
noncomputable def su (pos : Nat) (ks : List Nat) : List Nat :=
  sd (ks.getD pos 0) pos (suGo ks.length pos ks).1 ((suGo ks.length pos ks).2.set (suGo ks.length pos ks).1 (ks.getD pos 0))
theorem at5 {g h : Heap} {L : Addr} {m : Str → Option Value} {x1 x2 x3 x4 x5 : Str} {v1 v2 v3 v4 v5 : Value} (F : Fr g L h m) (h1 : m x1 = some v1) (h2 : m x2 = some v2) (h3 : m x3 = some v3) (h4 : m x4 = some v4) (h5 : m x5 = some v5) :
    Fr g L h (fun y => if y = x1 then some v1 else if y = x2 then some v2 else if y = x3 then some v3 else if y = x4 then some v4 else if y = x5 then some v5 else m y) :=
  at1 (at4 F h2 h3 h4 h5) (by by_cases q : x1 = x2 <;> by_cases q' : x1 = x3 <;> by_cases q'' : x1 = x4 <;> by_cases q3 : x1 = x5 <;> simp_all)
theorem at6 {g h : Heap} {L : Addr} {m : Str → Option Value} {x1 x2 x3 x4 x5 x6 : Str} {v1 v2 v3 v4 v5 v6 : Value} (F : Fr g L h m) (h1 : m x1 = some v1) (h2 : m x2 = some v2) (h3 : m x3 = some v3) (h4 : m x4 = some v4) (h5 : m x5 = some v5) (h6 : m x6 = some v6) :
    Fr g L h (fun y => if y = x1 then some v1 else if y = x2 then some v2 else if y = x3 then some v3 else if y = x4 then some v4 else if y = x5 then some v5 else if y = x6 then some v6 else m y) :=
  at1 (at5 F h2 h3 h4 h5 h6) (by by_cases q : x1 = x2 <;> by_cases q' : x1 = x3 <;> by_cases q'' : x1 = x4 <;> by_cases q3 : x1 = x5 <;> by_cases q4 : x1 = x6 <;> simp_all)
theorem lines_S2_0 : True := by
  (k_with "own:k_mem" => with_reducible_and_instances assumption)
  (k_with "subscriptTail" => (k_here; (with_reducible show wpAny _ _ (subscriptTail _ _ (Value.ref _) (Value.int _ _)) _ _ _); (k_dflt (refine' accK_sub ?k1 ?k2 ?k3 ?k4 ?k5 ?k6 ?k7 ?k8 ?_ ?k9; (case k1 => k_asm); (case k2 => k_asm); (case k3 => k_asm); (case k4 => k_mem); (case k5 => k_asm); (case k6 => omega); (case k7 => omega); (case k8 => omega); (case k9 => with_unfolding_all rfl); k_whole)); intro _ _ _))
  (k_with "compareOp Lt ref" => (k_here; (k_dflt (refine' pcK_lt ?k1 ?k2 ?k3 ?k4 ?k5 ?_; (case k2 => k_asm); (case k4 => k_asm); (case k5 => k_asm); (case k3 => first | exact fun _ h => h | exact fun _ h => .tail _ h | exact fun _ h => .tail _ (.tail _ h)); (case k1 => ktr_units); k_whole))))
  (k_with "setItem ref int" => (k_here; (k_dflt (refine' accK_set ?k1 ?k2 ?k3 ?k4 ?kr ?ke ?k5 ?kx ?k6 ?k7 ?k8 ?_; (case k1 => k_asm); (case k2 => k_asm); (case k3 => k_asm); (case k4 => k_mem); (case k5 => k_asm); (case kx => k_asm); (case kr => first | exact fun _ h => h | exact fun _ h => .tail _ h | exact fun _ h => .tail _ (.tail _ h)); (case ke => k_asm); (case k6 => omega); (case k7 => omega); (case k8 => omega); k_whole)); intro _ _ _ _ _; (try k_sweep)))
  (k_with "call builtin:len" => (k_here; (with_reducible show wpAny _ _ (call (Value.builtin "len") [Value.ref _]) _ _ _); (k_dflt (refine' accK_len ?k1 ?k2 ?k3 ?k4 ?k5 ?k6 ?k7 ?k8 ?k9 ?ka ?kb ?kc ?kd ?_; (case k1 => k_asm); (case k2 => k_asm); (case k3 => k_asm); (case k4 => k_asm); (case k5 => k_asm); (case k6 => first | exact rfl | assumption); (case k7 => ktr_room); (case k8 => ktr_units); (case k9 => assumption); (case ka => assumption); (case kb => assumption); (case kc => assumption); (case kd => omega); k_whole)); intro _ _ _ _ _ _))
  (k_with "call ref" => (k_here; (k_dflt (show wpAny _ _ (call (Value.ref 63) [Value.ref _, Value.int _ _, Value.int _ _]) _ _ _)); k_dflt (refine' siftdown ?k1 ?k2 ?k3 ?k4 ?k5 ?k6 ?k7 ?k8 ?k9 ?ka ?kb ?kc ?_; (case k1 => k_asm); (case k2 => k_asm); (case k3 => k_asm); (case k4 => k_asm); (case k5 => k_asm); (case k6 => first | exact rfl | assumption); (case k7 => ktr_room); (case k8 => ktr_units); (case k9 => assumption); (case ka => assumption); (case kb => (simp only [List.length_set] at *; omega)); (case kc => (simp only [List.length_set] at *; omega)); k_whole); intro _ _ _ _ _ _; (try dsimp only); (try k_sweep)))
  (k_with "own:steps" => repeat' (first | (k_unfold; (try dsimp only)) | ((fail_if_success (with_reducible show wpAny _ _ (exec (Stmt.While _ _ _ _) _) _ _ _)); (first | walk1 | (dsimp only; walk1) | fail "no step"))))
  trivial
set_option maxHeartbeats 2000000 in
theorem siftup {w : World} {p : Program} {loose : List Str} {mean : ExcName → Option Value} {mg mb : Str → Option Value} {dp un : Nat} {gd : Option (List Code)} {cn : Str} {cs : Scope} {a : Addr} {ccd : Value} {cl : List (Str × Addr)} {outer : List Env} {A₀ : Around} {base h₀ : Heap} {L : Addr} {m : Str → Option Value} {rest : List (Addr × Obj)} {s : Shared}
    {Q E : Value → Shared → Prop} {row d : Addr} {vs : List Value} {ks : List Nat} {n : Nat} {pos : Nat} {t1 : Tok}
    (B : Below A₀ base outer h₀) (F : Fr h₀ L s.heap m) (X : (KW w.params).In h₀) (N : News h₀ L s.heap ((row, accObj d vs.toArray n) :: rest)) (T : Top p loose mean mg mb h₀) (hk : cs.kind = .function)
    (hd : dp + 9 < recursionLimit) (hu : un + 90 < cLine) (G : AllBare s.gens) (R : Rest rest row d 0) (hA : Are rest vs ks) (hpos : ∀ x ∈ ks, 0 < x) (hp : pos < ks.length) (hl : ks.length ≤ 1000)
    (ret : ∀ vs' s', Are rest vs' (su pos ks) → Fr h₀ L s'.heap m → News h₀ L s'.heap ((row, accObj d vs'.toArray n) :: rest) → AllBare s'.gens → s'.os = s.os → Q .none s') :
    wpAny (model PG w) (ktrTop dp un gd cn cs L a ccd cl outer) (call (.ref 70) [.ref row, .int pos t1]) Q E s := by
  have hne := R.ne
  refine wpAny_call ?_
  k_dflt ktr_enter
  k_extra "own:steps"
  rename Fr _ _ _ _ => lF
  rename News _ _ _ _ => lN
  rename PcAt _ _ _ => pX
  rename AllBare _ => lG
  rename (_ = (_ : OsState)) => hos
  simp only [Int.toNat_natCast] at pX
  dsimp only at lF hos
  (with_unfolding_all refine' While_inv2 (fun q m₁ nx => ∃ (vs' : List Value) (ks' : List Nat) (pos' : Nat) (a₀ : Addr) (zp zc : Int) (tp ts tc te : Tok), q = ks.length - pos' ∧ zp = (pos' : Int) ∧ zc = 2 * (pos' : Int) + 1 ∧ nx = (row, accObj d vs'.toArray n) :: rest ∧ Are rest vs' ks' ∧ pos' < ks.length ∧ ks'.length = ks.length ∧ suGo ks.length pos' ks' = suGo ks.length pos ks ∧ PcAt rest a₀ (ks.getD pos 0)
      ∧ m₁ (Str.ofString "heap") = some (.ref row) ∧ m₁ (Str.ofString "pos") = some (.int zp tp) ∧ m₁ (Str.ofString "startpos") = some (.int (pos : Int) ts) ∧ m₁ (Str.ofString "newitem") = some (.ref a₀) ∧ m₁ (Str.ofString "childpos") = some (.int zc tc) ∧ m₁ (Str.ofString "endpos") = some (.int (0 + (ks.length : Int)) te)) lF lN ⟨vs, ks, pos, _, _, _, _, _, _, _, rfl, rfl, rfl, rfl, hA, hp, rfl, rfl, pX, rfl, rfl, rfl, rfl, rfl, rfl⟩ ?_)
  intro q m₁ nx h₁ tk₁ F₁ N₁ hJ
  obtain ⟨vs', ks', pos', a₀, zp, zc, tp, ts, tc, te, rfl, rfl, rfl, rfl, hA', hp', hl', hsu, pX', hm1, hm2, hm3, hm4, hm5, hm6⟩ := hJ
  replace F₁ := at6 F₁ hm1 hm2 hm3 hm4 hm5 hm6
  clear lF lN hm1 hm2 hm3 hm4 hm5 hm6 hA pX hp
  k_extra "own:steps"
  · rename Are _ _ _ => A₂
    rename Fr _ _ _ _ => F₂
    rename News _ _ _ _ => N₂
    rename (_ < (_ : Nat)) => hlt
    rename (2 * (pos' : Int) + 1 + 1 < _) => hr
    rename (2 * (pos' : Int) + 1 < _) => hc
    have e1 : (2 * (pos' : Int) + 1).toNat = 2 * pos' + 1 := by omega
    have e2 : (2 * (pos' : Int) + 1 + 1).toNat = 2 * pos' + 2 := by omega
    simp only [e1, e2, Int.toNat_natCast] at hlt A₂
    have ec : chd ks.length pos' ks' = 2 * pos' + 1 := by unfold chd; rw [if_neg]; rintro ⟨_, h⟩; exact h hlt
    refine ⟨_, _, _, _, ks.length - (2 * pos' + 1), rfl, F₂, N₂, by omega, _, _, 2 * pos' + 1, _, _, _, _, _, _, _, rfl, ?_, ?_, rfl, A₂, by omega, by simp only [List.length_set]; omega, ?_, pX', rfl, rfl, rfl, rfl, rfl, rfl⟩
    · omega
    · omega
    · rw [← hsu]
      conv => rhs; rw [suGo]
      rw [if_pos (by omega), ec]
  · rename Are _ _ _ => A₂
    rename Fr _ _ _ _ => F₂
    rename News _ _ _ _ => N₂
    rename (¬ _ < (_ : Nat)) => hlt
    rename (2 * (pos' : Int) + 1 + 1 < _) => hr
    rename (2 * (pos' : Int) + 1 < _) => hc
    have e1 : (2 * (pos' : Int) + 1).toNat = 2 * pos' + 1 := by omega
    have e2 : (2 * (pos' : Int) + 1 + 1).toNat = 2 * pos' + 2 := by omega
    simp only [e1, e2, Int.toNat_natCast] at hlt A₂
    have ec : chd ks.length pos' ks' = 2 * pos' + 2 := by unfold chd; rw [if_pos]; exact ⟨by omega, hlt⟩
    refine ⟨_, _, _, _, ks.length - (2 * pos' + 2), rfl, F₂, N₂, by omega, _, _, 2 * pos' + 2, _, _, _, _, _, _, _, rfl, ?_, ?_, rfl, A₂, by omega, by simp only [List.length_set]; omega, ?_, pX', rfl, rfl, rfl, rfl, rfl, rfl⟩
    · omega
    · omega
    · rw [← hsu]
      conv => rhs; rw [suGo]
      rw [if_pos (by omega), ec]
  · rename Are _ _ _ => A₂
    rename Fr _ _ _ _ => F₂
    rename News _ _ _ _ => N₂
    rename (¬ (2 * (pos' : Int) + 1 + 1 < _)) => hr
    rename (2 * (pos' : Int) + 1 < _) => hc
    have e1 : (2 * (pos' : Int) + 1).toNat = 2 * pos' + 1 := by omega
    simp only [e1, Int.toNat_natCast] at A₂
    have ec : chd ks.length pos' ks' = 2 * pos' + 1 := by unfold chd; rw [if_neg]; rintro ⟨h, _⟩; omega
    refine ⟨_, _, _, _, ks.length - (2 * pos' + 1), rfl, F₂, N₂, by omega, _, _, 2 * pos' + 1, _, _, _, _, _, _, _, rfl, ?_, ?_, rfl, A₂, by omega, by simp only [List.length_set]; omega, ?_, pX', rfl, rfl, rfl, rfl, rfl, rfl⟩
    · omega
    · omega
    · rw [← hsu]
      conv => rhs; rw [suGo]
      rw [if_pos (by omega), ec]
  · have e1 : ((pos' : Int)).toNat = pos' := by omega
    rename Are rest _ (sd _ _ _ _) => A₂
    rename (¬ (2 * (pos' : Int) + 1 < _)) => hc
    rename Fr h₀ _ _ _ => F₂
    rename News h₀ _ _ _ => N₂
    have es : suGo ks.length pos' ks' = (pos', ks') := by rw [suGo, if_neg (by omega)]
    have eg : (ks'.set pos' (ks.getD pos 0)).getD pos' 0 = ks.getD pos 0 := by
      simp only [List.getD_eq_getElem?_getD]
      rw [List.getElem?_set_self (by omega)]; rfl
    rw [e1, eg] at A₂
    refine ret _ _ ?_ F₂ N₂ lG hos
    unfold su
    rw [← hsu, es]
    exact A₂
end Mine
end
section
open PySem PySem.W PyProof.Rows PySem.Spec PySem.Calls
set_option maxRecDepth 100000
namespace Mine
theorem start_S3 : True := by
  w_top off
  k_with_none
  (k_with "own:omega" => (first | with_reducible assumption | (refine' Mine.room2 ?h ?e; (case h => with_reducible assumption); (case e => decide)) | (refine' Mine.room1 ?h ?e; (case h => with_reducible assumption); (case e => decide)) | (refine' Mine.le_up ?h ?e; (case h => with_reducible assumption); (case e => decide)) | (refine' Mine.room0 ?h; (case h => with_reducible assumption)) | ((fail_if_success (fail_if_success omega (config := {}))); lia)))
  trivial
theorem accK_out {w : World} {A : Around} {E : Value → Shared → Prop} {s : Shared} {h₀ : Heap} {L row d : Addr} {m : Str → Option Value} {news rest : List (Addr × Obj)} {vs : List Value} {ks : List Nat} {n : Nat} {value slice : PySem.Expr} {k : Int} {u : Tok} {Q : Value → Shared → Prop} (hA : A.handled = none) (F : Fr h₀ L s.heap m) (X₀ : (KW w.params).In h₀) (N : News h₀ L s.heap news) (hm : (row, accObj d vs.toArray n) ∈ news) (hAre : Are rest vs ks)
    (hk : (ks.length : Int) ≤ k) (hb : k < 2 ^ 63)
    (hE : ∀ h' tk e, Heap.NewExc s.heap h' e "IndexError" → E (.ref e) { s with heap := h', toks := tk })
    (hs : subscripted slice false (.ref row) (.int k u) = operate [.ref row, .int k u] (getItem (.ref row) (.int k u)) := by with_unfolding_all rfl) :
    wpAny (model PG w) A (subscriptTail value slice (.ref row) (.int k u)) Q E s :=
  acc_tail (X₀.keeps F.keep) (N.get hm) (acc_getItem_out hA (X₀.keeps F.keep) (N.get hm) (by have := hAre.length; simp only [List.size_toArray]; omega) hb hE) hs
/-- the slide that a row ends in whose length says too much -/
noncomputable def slid (n pos : Nat) (ks : List Nat) : List Nat :=
  if 2 * pos + 2 < n then slid n (chd n pos ks) (ks.set pos (ks.getD (chd n pos ks) 0)) else ks
termination_by n - pos
decreasing_by have := chd_lt n pos ks; omega
theorem lines_S3_0 : True := by
  (k_with "own:k_mem" => with_reducible_and_instances assumption)
  (k_with "subscriptTail" => (k_here; (with_reducible show wpAny _ _ (subscriptTail _ _ (Value.ref _) (Value.int _ _)) _ _ _); (k_dflt (refine' accK_out ?k0 ?k1 ?k2 ?k3 ?k4 ?k5 ?k6 ?k7 ?_ ?k9; (case k0 => exact rfl); (case k1 => k_asm); (case k2 => k_asm); (case k3 => k_asm); (case k4 => k_mem); (case k5 => k_asm); (case k6 => omega); (case k7 => omega); (case k9 => with_unfolding_all rfl); k_whole)); intro _ _ _ _))
  (k_with "subscriptTail" => (k_here; (with_reducible show wpAny _ _ (subscriptTail _ _ (Value.ref _) (Value.int _ _)) _ _ _); (k_dflt (refine' accK_sub ?k1 ?k2 ?k3 ?k4 ?k5 ?k6 ?k7 ?k8 ?_ ?k9; (case k1 => k_asm); (case k2 => k_asm); (case k3 => k_asm); (case k4 => k_mem); (case k5 => k_asm); (case k6 => omega); (case k7 => omega); (case k8 => omega); (case k9 => with_unfolding_all rfl); k_whole)); intro _ _ _))
  (k_with "compareOp Lt ref" => (k_here; (k_dflt (refine' pcK_lt ?k1 ?k2 ?k3 ?k4 ?k5 ?_; (case k2 => k_asm); (case k4 => k_asm); (case k5 => k_asm); (case k3 => first | exact fun _ h => h | exact fun _ h => .tail _ h | exact fun _ h => .tail _ (.tail _ h)); (case k1 => ktr_units); k_whole))))
  (k_with "setItem ref int" => (k_here; (k_dflt (refine' accK_set ?k1 ?k2 ?k3 ?k4 ?kr ?ke ?k5 ?kx ?k6 ?k7 ?k8 ?_; (case k1 => k_asm); (case k2 => k_asm); (case k3 => k_asm); (case k4 => k_mem); (case k5 => k_asm); (case kx => k_asm); (case kr => first | exact fun _ h => h | exact fun _ h => .tail _ h | exact fun _ h => .tail _ (.tail _ h)); (case ke => k_asm); (case k6 => omega); (case k7 => omega); (case k8 => omega); k_whole)); intro _ _ _ _ _; (try k_sweep)))
  (k_with "call builtin:len" => (k_here; (with_reducible show wpAny _ _ (call (Value.builtin "len") [Value.ref _]) _ _ _); (k_dflt (refine' accK_len ?k1 ?k2 ?k3 ?k4 ?k5 ?k6 ?k7 ?k8 ?k9 ?ka ?kb ?kc ?kd ?_; (case k1 => k_asm); (case k2 => k_asm); (case k3 => k_asm); (case k4 => k_asm); (case k5 => k_asm); (case k6 => first | exact rfl | assumption); (case k7 => ktr_room); (case k8 => ktr_units); (case k9 => assumption); (case ka => assumption); (case kb => assumption); (case kc => assumption); (case kd => omega); k_whole)); intro _ _ _ _ _ _))
  (k_with "call ref" => (k_here; (k_dflt (show wpAny _ _ (call (Value.ref 63) [Value.ref _, Value.int _ _, Value.int _ _]) _ _ _)); k_dflt (refine' siftdown ?k1 ?k2 ?k3 ?k4 ?k5 ?k6 ?k7 ?k8 ?k9 ?ka ?kb ?kc ?_; (case k1 => k_asm); (case k2 => k_asm); (case k3 => k_asm); (case k4 => k_asm); (case k5 => k_asm); (case k6 => first | exact rfl | assumption); (case k7 => ktr_room); (case k8 => ktr_units); (case k9 => assumption); (case ka => assumption); (case kb => (simp only [List.length_set] at *; omega)); (case kc => (simp only [List.length_set] at *; omega)); k_whole); intro _ _ _ _ _ _; (try dsimp only); (try k_sweep)))
  (k_with "own:steps" => repeat' (first | (k_unfold; (try dsimp only)) | ((fail_if_success (with_reducible show wpAny _ _ (exec (Stmt.While _ _ _ _) _) _ _ _)); (first | walk1 | (dsimp only; walk1) | fail "no step"))))
  trivial
set_option maxHeartbeats 2000000 in
theorem siftup_bad {w : World} {p : Program} {loose : List Str} {mean : ExcName → Option Value} {mg mb : Str → Option Value} {dp un : Nat} {gd : Option (List Code)} {cn : Str} {cs : Scope} {a : Addr} {ccd : Value} {cl : List (Str × Addr)} {outer : List Env} {A₀ : Around} {base h₀ : Heap} {L : Addr} {m : Str → Option Value} {rest : List (Addr × Obj)} {s : Shared}
    {Q E : Value → Shared → Prop} {row d : Addr} {vs : List Value} {ks : List Nat} {n : Nat} {pos : Nat} {t1 : Tok} {k : Int}
    (B : Below A₀ base outer h₀) (F : Fr h₀ L s.heap m) (X : (KW w.params).In h₀) (N : News h₀ L s.heap ((row, accObj d vs.toArray n) :: rest)) (T : Top p loose mean mg mb h₀) (hk : cs.kind = .function)
    (hd : dp + 9 < recursionLimit) (hu : un + 90 < cLine) (G : AllBare s.gens) (R : Rest rest row d k) (hA : Are rest vs ks) (hpos : ∀ x ∈ ks, 0 < x) (hp : pos < ks.length) (hl : ks.length ≤ 1000) (hkn : (ks.length : Int) < k) (hkm : k ≤ 10000)
    (err : ∀ e g s' vs', Fr h₀ L g m → g.UpToSlots s'.heap → RaisedN base (envX cn cs L a ccd cl :: outer) e (.type "IndexError") ((row, accObj d vs'.toArray n) :: rest) s'.heap → Are rest vs' (slid ks.length pos ks) → AllBare s'.gens → s'.os = s.os → E (.ref e) s') :
    wpAny (model PG w) (ktrTop dp un gd cn cs L a ccd cl outer) (call (.ref 70) [.ref row, .int pos t1]) Q E s := by
  have hne := R.ne
  refine wpAny_call ?_
  k_dflt ktr_enter
  k_extra "own:steps"
  rename Fr _ _ _ _ => lF
  rename News _ _ _ _ => lN
  rename PcAt _ _ _ => pX
  rename AllBare _ => lG
  rename (_ = (_ : OsState)) => hos
  simp only [Int.toNat_natCast] at pX
  dsimp only at lF hos
  (with_unfolding_all refine' While_inv2 (fun q m₁ nx => ∃ (vs' : List Value) (ks' : List Nat) (pos' : Nat) (a₀ : Addr) (zp zc : Int) (tp ts tc te : Tok), q = ks.length - pos' ∧ zp = (pos' : Int) ∧ zc = 2 * (pos' : Int) + 1 ∧ nx = (row, accObj d vs'.toArray n) :: rest ∧ Are rest vs' ks' ∧ pos' < ks.length ∧ ks'.length = ks.length ∧ slid ks.length pos' ks' = slid ks.length pos ks ∧ PcAt rest a₀ (ks.getD pos 0)
      ∧ m₁ (Str.ofString "heap") = some (.ref row) ∧ m₁ (Str.ofString "pos") = some (.int zp tp) ∧ m₁ (Str.ofString "startpos") = some (.int (pos : Int) ts) ∧ m₁ (Str.ofString "newitem") = some (.ref a₀) ∧ m₁ (Str.ofString "childpos") = some (.int zc tc) ∧ m₁ (Str.ofString "endpos") = some (.int (k + (ks.length : Int)) te)) lF lN ⟨vs, ks, pos, _, _, _, _, _, _, _, rfl, rfl, rfl, rfl, hA, hp, rfl, rfl, pX, rfl, rfl, rfl, rfl, rfl, rfl⟩ ?_)
  intro q m₁ nx h₁ tk₁ F₁ N₁ hJ
  obtain ⟨vs', ks', pos', a₀, zp, zc, tp, ts, tc, te, rfl, rfl, rfl, rfl, hA', hp', hl', hsu, pX', hm1, hm2, hm3, hm4, hm5, hm6⟩ := hJ
  replace F₁ := at6 F₁ hm1 hm2 hm3 hm4 hm5 hm6
  clear lF lN hm1 hm2 hm3 hm4 hm5 hm6 hA pX hp
  by_cases hin : 2 * pos' + 2 < ks.length
  · k_extra "own:steps"
    · rename Are _ _ _ => A₂
      rename Fr _ _ _ _ => F₂
      rename News _ _ _ _ => N₂
      rename (_ < (_ : Nat)) => hlt
      have e1 : (2 * (pos' : Int) + 1).toNat = 2 * pos' + 1 := by omega
      have e2 : (2 * (pos' : Int) + 1 + 1).toNat = 2 * pos' + 2 := by omega
      simp only [e1, e2, Int.toNat_natCast] at hlt A₂
      have ec : chd ks.length pos' ks' = 2 * pos' + 1 := by unfold chd; rw [if_neg]; rintro ⟨_, h⟩; exact h hlt
      refine ⟨_, _, _, _, ks.length - (2 * pos' + 1), rfl, F₂, N₂, by omega, _, _, 2 * pos' + 1, _, _, _, _, _, _, _, rfl, ?_, ?_, rfl, A₂, by omega, by simp only [List.length_set]; omega, ?_, pX', rfl, rfl, rfl, rfl, rfl, rfl⟩
      · omega
      · omega
      · rw [← hsu]
        conv => rhs; rw [slid]
        rw [if_pos (by omega), ec]
    · rename Are _ _ _ => A₂
      rename Fr _ _ _ _ => F₂
      rename News _ _ _ _ => N₂
      rename (¬ _ < (_ : Nat)) => hlt
      have e1 : (2 * (pos' : Int) + 1).toNat = 2 * pos' + 1 := by omega
      have e2 : (2 * (pos' : Int) + 1 + 1).toNat = 2 * pos' + 2 := by omega
      simp only [e1, e2, Int.toNat_natCast] at hlt A₂
      have ec : chd ks.length pos' ks' = 2 * pos' + 2 := by unfold chd; rw [if_pos]; exact ⟨by omega, hlt⟩
      refine ⟨_, _, _, _, ks.length - (2 * pos' + 2), rfl, F₂, N₂, by omega, _, _, 2 * pos' + 2, _, _, _, _, _, _, _, rfl, ?_, ?_, rfl, A₂, by omega, by simp only [List.length_set]; omega, ?_, pX', rfl, rfl, rfl, rfl, rfl, rfl⟩
      · omega
      · omega
      · rw [← hsu]
        conv => rhs; rw [slid]
        rw [if_pos (by omega), ec]
    all_goals (exfalso; omega)
  · have hsl : slid ks.length pos ks = ks' := by rw [← hsu, slid, if_neg hin]
    rw [hsl] at err
    by_cases hin1 : 2 * pos' + 1 < ks.length
    · k_extra "own:steps"
      · rename RaisedN _ _ _ _ _ _ => R₂
        rename Heap.UpToSlots _ _ => U₂
        exact err _ _ _ _ (by assumption) U₂ R₂ hA' lG hos
      all_goals (exfalso; omega)
    · k_extra "own:steps"
      · rename RaisedN _ _ _ _ _ _ => R₂
        rename Heap.UpToSlots _ _ => U₂
        exact err _ _ _ _ (by assumption) U₂ R₂ hA' lG hos
      all_goals (exfalso; omega)
end Mine
end
section
open PySem PySem.W PyProof.Rows PySem.Spec PySem.Calls
set_option maxRecDepth 100000
namespace Mine
theorem start_H1 : True := by
  w_top off
  k_with_none
  (k_with "own:omega" => (first | with_reducible assumption | (refine' Mine.room2 ?h ?e; (case h => with_reducible assumption); (case e => decide)) | (refine' Mine.room1 ?h ?e; (case h => with_reducible assumption); (case e => decide)) | (refine' Mine.le_up ?h ?e; (case h => with_reducible assumption); (case e => decide)) | (refine' Mine.room0 ?h; (case h => with_reducible assumption)) | ((fail_if_success (fail_if_success omega (config := {}))); lia)))
  trivial
section
variable {w : World} {A : Around} {E : Value → Shared → Prop} {s : Shared} {h₀ : Heap} {L row d : Addr} {m : Str → Option Value} {news rest : List (Addr × Obj)} {vs : List Value} {ks : List Nat} {n : Nat}
theorem acc_append {x : Value} {Q : Value → Shared → Prop} (X : (KW w.params).In s.heap) (ho : s.heap.get? row = some (accObj d vs.toArray n)) (hl : vs.length ≤ 1000)
    (h : ∀ h' n', Heap.SameBut row s.heap h' → h'.get? row = some (accObj d (vs ++ [x]).toArray n') → Q .none { s with heap := h' }) :
    wpAny (model PG w) A (call (.builtin "list.append") [.ref row, x]) Q E s := by
  refine acc_call X ho slot_list_append (n₁ := "append") (by decide +kernel) (.inr (by decide +kernel)) entry_list_append (args_list_append _ _) ?_
  show wpAny _ _ (updateSeq row (·.push x) >>= fun _ => ret .none) _ _ s
  refine wpAny_bind ?_
  have e := acc_upd ho (·.push x)
  refine wpAny_updateSeq (f := (·.push x)) ho rfl (wpAny_pure ⟨.none, rfl, h _ (if (vs.toArray.push x).size == vs.toArray.size then n else n + 1) (Heap.SameBut.update ..) ?_⟩) (by simp [sizeLine]; omega) (by simp [sizeLine]; omega)
  rw [e]; simp
theorem accK_append {a : Addr} {x : Nat} {Q : Value → Shared → Prop} (F : Fr h₀ L s.heap m) (X₀ : (KW w.params).In h₀) (N : News h₀ L s.heap ((row, accObj d vs.toArray n) :: rest)) (hne : ∀ p ∈ rest, p.1 ≠ row) (hA : Are rest vs ks) (hx : PcAt rest a x) (hl : ks.length ≤ 1000)
    (h : ∀ vs' n' h', vs' = vs ++ [.ref a] → Are rest vs' (ks ++ [x]) → Fr h₀ L h' m → News h₀ L h' ((row, accObj d vs'.toArray n') :: rest) → Q .none { s with heap := h' }) :
    wpAny (model PG w) A (call (.builtin "list.append") [.ref row, .ref a]) Q E s := by
  have hrow := N _ (.head _)
  refine acc_append (X₀.keeps F.keep) (N.get (.head _)) (by have := hA.length; omega) fun h' n' hs ho => h _ n' h' rfl (hA.append ⟨⟨_, rfl, hx⟩, trivial⟩) (F.change hs hrow.2.1 hrow.2.2) fun z hz => ?_
  rcases List.mem_cons.mp hz with rfl | hz
  · exact ⟨ho, hrow.2⟩
  · have := N z (.tail _ hz)
    exact ⟨(hs.2 _ (hne z hz)).trans this.1, this.2⟩
theorem accK_methodR {k : Int} {name : Str} {f : Value} {T : String} {pl : Sem Bool} {Q : Value × List Value → Shared → Prop} (F : Fr h₀ L s.heap m) (X₀ : (KW w.params).In h₀) (N : News h₀ L s.heap news) (R : Rest rest row d k) (h1 : (row, accObj d vs.toArray n) ∈ news) (hr : ∀ p ∈ rest, p ∈ news)
    (hf : findIn (KW w.params) (.ref 150) name = some (some f)) (hty : typeIn (KW w.params) f = some (.type T)) (hT : T = "function" ∨ T = "method_descriptor") (hname : (Str.ofString "_initial_size" == name) = false) (h : Q (f, [.ref row]) s) :
    wpAny (model PG w) A (getMethod (.ref row) name pl) Q E s := by
  obtain ⟨hs, t₁, t₂, nd, hdi⟩ := R.sz
  exact accK_method F X₀ N h1 (hr _ hdi) hf hty hT hname h
end
theorem lines_H1_0 : True := by
  (k_with "own:lomega" => first | omega | (simp only [List.length_append, List.length_cons, List.length_nil, List.length_set] at *; omega))
  (k_with "own:k_mem" => with_reducible_and_instances assumption)
  (k_with "subscriptTail" => (k_here; (with_reducible show wpAny _ _ (subscriptTail _ _ (Value.ref _) (Value.int _ _)) _ _ _); (k_dflt (refine' accK_out ?k0 ?k1 ?k2 ?k3 ?k4 ?k5 ?k6 ?k7 ?_ ?k9; (case k0 => exact rfl); (case k1 => k_asm); (case k2 => k_asm); (case k3 => k_asm); (case k4 => k_mem); (case k5 => k_asm); (case k6 => k_extra "own:lomega"); (case k7 => k_extra "own:lomega"); (case k9 => with_unfolding_all rfl); k_whole)); intro _ _ _ _))
  (k_with "subscriptTail" => (k_here; (with_reducible show wpAny _ _ (subscriptTail _ _ (Value.ref _) (Value.int _ _)) _ _ _); (k_dflt (refine' accK_sub ?k1 ?k2 ?k3 ?k4 ?k5 ?k6 ?k7 ?k8 ?_ ?k9; (case k1 => k_asm); (case k2 => k_asm); (case k3 => k_asm); (case k4 => k_mem); (case k5 => k_asm); (case k6 => k_extra "own:lomega"); (case k7 => k_extra "own:lomega"); (case k8 => k_extra "own:lomega"); (case k9 => with_unfolding_all rfl); k_whole)); intro _ _ _))
  (k_with "compareOp Lt ref" => (k_here; (k_dflt (refine' pcK_lt ?k1 ?k2 ?k3 ?k4 ?k5 ?_; (case k2 => k_asm); (case k4 => k_asm); (case k5 => k_asm); (case k3 => first | exact fun _ h => h | exact fun _ h => .tail _ h | exact fun _ h => .tail _ (.tail _ h)); (case k1 => ktr_units); k_whole))))
  (k_with "setItem ref int" => (k_here; (k_dflt (refine' accK_set ?k1 ?k2 ?k3 ?k4 ?kr ?ke ?k5 ?kx ?k6 ?k7 ?k8 ?_; (case k1 => k_asm); (case k2 => k_asm); (case k3 => k_asm); (case k4 => k_mem); (case k5 => k_asm); (case kx => k_asm); (case kr => first | exact fun _ h => h | exact fun _ h => .tail _ h | exact fun _ h => .tail _ (.tail _ h)); (case ke => k_asm); (case k6 => k_extra "own:lomega"); (case k7 => k_extra "own:lomega"); (case k8 => k_extra "own:lomega"); k_whole)); intro _ _ _ _ _; (try k_sweep)))
  (k_with "call builtin:len" => (k_here; (with_reducible show wpAny _ _ (call (Value.builtin "len") [Value.ref _]) _ _ _); (k_dflt (refine' accK_len ?k1 ?k2 ?k3 ?k4 ?k5 ?k6 ?k7 ?k8 ?k9 ?ka ?kb ?kc ?kd ?_; (case k1 => k_asm); (case k2 => k_asm); (case k3 => k_asm); (case k4 => k_asm); (case k5 => k_asm); (case k6 => first | exact rfl | assumption); (case k7 => ktr_room); (case k8 => ktr_units); (case k9 => assumption); (case ka => assumption); (case kb => assumption); (case kc => assumption); (case kd => k_extra "own:lomega"); k_whole)); intro _ _ _ _ _ _))
  (k_with "own:steps" => repeat' (first | (k_unfold; (try dsimp only)) | ((fail_if_success (with_reducible show wpAny _ _ (exec (Stmt.While _ _ _ _) _) _ _ _)); (first | walk1 | (dsimp only; walk1) | fail "no step"))))
  (k_with "getMethod ref" => (k_here; k_dflt (refine' accK_methodR ?k1 ?k2 ?k3 ?k4 ?k5 ?k6 ?k7 ?k8 ?k9 ?ka ?_; (case k1 => k_asm); (case k2 => k_asm); (case k3 => k_asm); (case k4 => k_asm); (case k5 => k_mem); (case k6 => first | exact fun _ h => h | exact fun _ h => .tail _ h | exact fun _ h => .tail _ (.tail _ h)); (case k7 => k_is); (case k8 => k_is); (case k9 => first | exact .inl rfl | exact .inr rfl); (case ka => decide); k_whole)))
  (k_with "call builtin:list.append" => (k_here; (k_dflt (refine' accK_append ?k1 ?k2 ?k3 ?k4 ?k5 ?k6 ?k7 ?_; (case k1 => k_asm); (case k2 => k_asm); (case k3 => k_asm); (case k4 => k_asm); (case k5 => k_asm); (case k6 => k_asm); (case k7 => k_extra "own:lomega"); k_whole)); intro _ _ _ _ _ _ _; (try k_sweep)))
  trivial
theorem siftdownZ {w : World} {p : Program} {loose : List Str} {mean : ExcName → Option Value} {mg mb : Str → Option Value} {dp un : Nat} {gd : Option (List Code)} {cn : Str} {cs : Scope} {a : Addr} {ccd : Value} {cl : List (Str × Addr)} {outer : List Env} {A₀ : Around} {base h₀ : Heap} {L : Addr} {m : Str → Option Value} {rest : List (Addr × Obj)} {s : Shared}
    {Q E : Value → Shared → Prop} {row d : Addr} {vs : List Value} {ks : List Nat} {n : Nat} {z1 z2 : Int} {t1 t2 : Tok}
    (B : Below A₀ base outer h₀) (F : Fr h₀ L s.heap m) (X : (KW w.params).In h₀) (N : News h₀ L s.heap ((row, accObj d vs.toArray n) :: rest)) (T : Top p loose mean mg mb h₀) (hk : cs.kind = .function)
    (hd : dp + 5 < recursionLimit) (hu : un + 50 < cLine) (hne : ∀ p ∈ rest, p.1 ≠ row) (hA : Are rest vs ks) (h1 : 0 ≤ z1) (h2 : 0 ≤ z2) (hp : z2 < ks.length) (hl : ks.length ≤ 1000)
    (ret : ∀ vs' h' tk', Are rest vs' (sd (ks.getD z2.toNat 0) z1.toNat z2.toNat ks) → Fr h₀ L h' m → News h₀ L h' ((row, accObj d vs'.toArray n) :: rest) → Q .none { s with heap := h', toks := tk' }) :
    wpAny (model PG w) (ktrTop dp un gd cn cs L a ccd cl outer) (call (.ref 63) [.ref row, .int z1 t1, .int z2 t2]) Q E s := by
  obtain ⟨a1, rfl⟩ := Int.eq_ofNat_of_zero_le h1
  obtain ⟨a2, rfl⟩ := Int.eq_ofNat_of_zero_le h2
  exact siftdown B F X N T hk (by omega) (by omega) hne hA (by omega) hl ret
set_option maxHeartbeats 2000000 in
theorem siftdown_bad {w : World} {p : Program} {loose : List Str} {mean : ExcName → Option Value} {mg mb : Str → Option Value} {dp un : Nat} {gd : Option (List Code)} {cn : Str} {cs : Scope} {a : Addr} {ccd : Value} {cl : List (Str × Addr)} {outer : List Env} {A₀ : Around} {base h₀ : Heap} {L : Addr} {m : Str → Option Value} {rest : List (Addr × Obj)} {s : Shared}
    {Q E : Value → Shared → Prop} {row d : Addr} {vs : List Value} {ks : List Nat} {n : Nat} {z1 z2 : Int} {t1 t2 : Tok}
    (B : Below A₀ base outer h₀) (F : Fr h₀ L s.heap m) (X : (KW w.params).In h₀) (N : News h₀ L s.heap ((row, accObj d vs.toArray n) :: rest)) (T : Top p loose mean mg mb h₀) (hk : cs.kind = .function)
    (hd : dp + 5 < recursionLimit) (hu : un + 50 < cLine) (G : AllBare s.gens) (hA : Are rest vs ks) (h2 : 0 ≤ z2) (hp : ks.length ≤ z2) (hz : z2 < 2 ^ 62)
    (err : ∀ e g s', Fr h₀ L g m → g.UpToSlots s'.heap → RaisedN base (envX cn cs L a ccd cl :: outer) e (.type "IndexError") ((row, accObj d vs.toArray n) :: rest) s'.heap → AllBare s'.gens → s'.os = s.os → E (.ref e) s') :
    wpAny (model PG w) (ktrTop dp un gd cn cs L a ccd cl outer) (call (.ref 63) [.ref row, .int z1 t1, .int z2 t2]) Q E s := by
  refine wpAny_call ?_
  k_dflt ktr_enter
  k_extra "own:steps"
  rename RaisedN _ _ _ _ _ _ => R₂
  rename Heap.UpToSlots _ _ => U₂
  exact err _ _ _ (by assumption) U₂ R₂ G rfl
theorem lines_H1_1 : True := by
  (k_with "call ref" => (k_here; (k_dflt (show wpAny _ _ (call (Value.ref 63) [Value.ref _, Value.int _ _, Value.int _ _]) _ _ _)); k_dflt (refine' siftdownZ ?k1 ?k2 ?k3 ?k4 ?k5 ?k6 ?k7 ?k8 ?k9 ?ka ?kx ?ky ?kb ?kc ?_; (case kx => k_extra "own:lomega"); (case ky => k_extra "own:lomega"); (case k1 => k_asm); (case k2 => k_asm); (case k3 => k_asm); (case k4 => k_asm); (case k5 => k_asm); (case k6 => first | exact rfl | assumption); (case k7 => ktr_room); (case k8 => ktr_units); (case k9 => assumption); (case ka => assumption); (case kb => k_extra "own:lomega"); (case kc => k_extra "own:lomega"); k_whole); intro _ _ _ _ _ _; (try dsimp only); (try k_sweep)))
  (k_with "call ref" => (k_here; (k_dflt (show wpAny _ _ (call (Value.ref 63) [Value.ref _, Value.int _ _, Value.int _ _]) _ _ _)); k_dflt (refine' siftdown_bad ?k1 ?k2 ?k3 ?k4 ?k5 ?k6 ?k7 ?k8 ?k9 ?ka ?kb ?kc ?kd ?_; (case k1 => k_asm); (case k2 => k_asm); (case k3 => k_asm); (case k4 => k_asm); (case k5 => k_asm); (case k6 => first | exact rfl | assumption); (case k7 => ktr_room); (case k8 => ktr_units); (case k9 => assumption); (case ka => assumption); (case kb => k_extra "own:lomega"); (case kc => k_extra "own:lomega"); (case kd => k_extra "own:lomega"); k_whole); intro _ _ _ _ _ _ _ _))
  trivial
set_option maxHeartbeats 2000000 in
theorem push_ok {w : World} {p : Program} {loose : List Str} {mean : ExcName → Option Value} {mg mb : Str → Option Value} {dp un : Nat} {gd : Option (List Code)} {cn : Str} {cs : Scope} {a : Addr} {ccd : Value} {cl : List (Str × Addr)} {outer : List Env} {A₀ : Around} {base h₀ : Heap} {L : Addr} {m : Str → Option Value} {rest : List (Addr × Obj)} {s : Shared}
    {Q E : Value → Shared → Prop} {row d : Addr} {vs : List Value} {ks : List Nat} {n : Nat} {ia : Addr} {x : Nat}
    (B : Below A₀ base outer h₀) (F : Fr h₀ L s.heap m) (X : (KW w.params).In h₀) (N : News h₀ L s.heap ((row, accObj d vs.toArray n) :: rest)) (T : Top p loose mean mg mb h₀) (hk : cs.kind = .function)
    (hd : dp + 12 < recursionLimit) (hu : un + 120 < cLine) (G : AllBare s.gens) (R : Rest rest row d 0) (hA : Are rest vs ks) (hpos : ∀ x ∈ ks, 0 < x) (hl : ks.length ≤ 999) (hi : PcAt rest ia x) (hx : 0 < x)
    (ret : ∀ vs' n' s', Are rest vs' (sd x 0 ks.length (ks ++ [x])) → Fr h₀ L s'.heap m → News h₀ L s'.heap ((row, accObj d vs'.toArray n') :: rest) → AllBare s'.gens → s'.os = s.os → Q .none s') :
    wpAny (model PG w) (ktrTop dp un gd cn cs L a ccd cl outer) (call (.ref 28) [.ref row, .ref ia]) Q E s := by
  have hne := R.ne
  have hpos' : ∀ y ∈ ks ++ [x], 0 < y := by intro y hy; rcases List.mem_append.mp hy with h | h; exact hpos y h; simp at h; omega
  refine wpAny_call ?_
  k_dflt ktr_enter
  k_extra "own:steps"
  rename Are _ _ (sd _ _ _ _) => A₂
  rename AllBare _ => lG
  rename Fr h₀ _ _ _ => F₂
  rename News h₀ _ _ _ => N₂
  rename (_ = (_ : OsState)) => hos
  have e2 : (0 + ((ks ++ [x]).length : Int) - 1).toNat = ks.length := by simp only [List.length_append, List.length_cons, List.length_nil]; omega
  have eg : (ks ++ [x]).getD ks.length 0 = x := by simp
  rw [e2, eg] at A₂
  exact ret _ _ _ A₂ F₂ N₂ lG hos
end Mine
end
section
open PySem PySem.W PyProof.Rows PySem.Spec PySem.Calls
set_option maxRecDepth 100000
namespace Mine
theorem start_H2 : True := by
  w_top off
  k_with_none
  (k_with "own:omega" => (first | with_reducible assumption | (refine' Mine.room2 ?h ?e; (case h => with_reducible assumption); (case e => decide)) | (refine' Mine.room1 ?h ?e; (case h => with_reducible assumption); (case e => decide)) | (refine' Mine.le_up ?h ?e; (case h => with_reducible assumption); (case e => decide)) | (refine' Mine.room0 ?h; (case h => with_reducible assumption)) | ((fail_if_success (fail_if_success omega (config := {}))); lia)))
  trivial
theorem lines_H2_0 : True := by
  (k_with "own:lomega" => first | omega | (simp only [List.length_append, List.length_cons, List.length_nil, List.length_set] at *; omega))
  (k_with "own:k_mem" => with_reducible_and_instances assumption)
  (k_with "subscriptTail" => (k_here; (with_reducible show wpAny _ _ (subscriptTail _ _ (Value.ref _) (Value.int _ _)) _ _ _); (k_dflt (refine' accK_out ?k0 ?k1 ?k2 ?k3 ?k4 ?k5 ?k6 ?k7 ?_ ?k9; (case k0 => exact rfl); (case k1 => k_asm); (case k2 => k_asm); (case k3 => k_asm); (case k4 => k_mem); (case k5 => k_asm); (case k6 => k_extra "own:lomega"); (case k7 => k_extra "own:lomega"); (case k9 => with_unfolding_all rfl); k_whole)); intro _ _ _ _))
  (k_with "subscriptTail" => (k_here; (with_reducible show wpAny _ _ (subscriptTail _ _ (Value.ref _) (Value.int _ _)) _ _ _); (k_dflt (refine' accK_sub ?k1 ?k2 ?k3 ?k4 ?k5 ?k6 ?k7 ?k8 ?_ ?k9; (case k1 => k_asm); (case k2 => k_asm); (case k3 => k_asm); (case k4 => k_mem); (case k5 => k_asm); (case k6 => k_extra "own:lomega"); (case k7 => k_extra "own:lomega"); (case k8 => k_extra "own:lomega"); (case k9 => with_unfolding_all rfl); k_whole)); intro _ _ _))
  (k_with "compareOp Lt ref" => (k_here; (k_dflt (refine' pcK_lt ?k1 ?k2 ?k3 ?k4 ?k5 ?_; (case k2 => k_asm); (case k4 => k_asm); (case k5 => k_asm); (case k3 => first | exact fun _ h => h | exact fun _ h => .tail _ h | exact fun _ h => .tail _ (.tail _ h)); (case k1 => ktr_units); k_whole))))
  (k_with "setItem ref int" => (k_here; (k_dflt (refine' accK_set ?k1 ?k2 ?k3 ?k4 ?kr ?ke ?k5 ?kx ?k6 ?k7 ?k8 ?_; (case k1 => k_asm); (case k2 => k_asm); (case k3 => k_asm); (case k4 => k_mem); (case k5 => k_asm); (case kx => k_asm); (case kr => first | exact fun _ h => h | exact fun _ h => .tail _ h | exact fun _ h => .tail _ (.tail _ h)); (case ke => k_asm); (case k6 => k_extra "own:lomega"); (case k7 => k_extra "own:lomega"); (case k8 => k_extra "own:lomega"); k_whole)); intro _ _ _ _ _; (try k_sweep)))
  (k_with "call builtin:len" => (k_here; (with_reducible show wpAny _ _ (call (Value.builtin "len") [Value.ref _]) _ _ _); (k_dflt (refine' accK_len ?k1 ?k2 ?k3 ?k4 ?k5 ?k6 ?k7 ?k8 ?k9 ?ka ?kb ?kc ?kd ?_; (case k1 => k_asm); (case k2 => k_asm); (case k3 => k_asm); (case k4 => k_asm); (case k5 => k_asm); (case k6 => first | exact rfl | assumption); (case k7 => ktr_room); (case k8 => ktr_units); (case k9 => assumption); (case ka => assumption); (case kb => assumption); (case kc => assumption); (case kd => k_extra "own:lomega"); k_whole)); intro _ _ _ _ _ _))
  (k_with "own:steps" => repeat' (first | (k_unfold; (try dsimp only)) | ((fail_if_success (with_reducible show wpAny _ _ (exec (Stmt.While _ _ _ _) _) _ _ _)); (first | walk1 | (dsimp only; walk1) | fail "no step"))))
  (k_with "getMethod ref" => (k_here; k_dflt (refine' accK_methodR ?k1 ?k2 ?k3 ?k4 ?k5 ?k6 ?k7 ?k8 ?k9 ?ka ?_; (case k1 => k_asm); (case k2 => k_asm); (case k3 => k_asm); (case k4 => k_asm); (case k5 => k_mem); (case k6 => first | exact fun _ h => h | exact fun _ h => .tail _ h | exact fun _ h => .tail _ (.tail _ h)); (case k7 => k_is); (case k8 => k_is); (case k9 => first | exact .inl rfl | exact .inr rfl); (case ka => decide); k_whole)))
  (k_with "call builtin:list.append" => (k_here; (k_dflt (refine' accK_append ?k1 ?k2 ?k3 ?k4 ?k5 ?k6 ?k7 ?_; (case k1 => k_asm); (case k2 => k_asm); (case k3 => k_asm); (case k4 => k_asm); (case k5 => k_asm); (case k6 => k_asm); (case k7 => k_extra "own:lomega"); k_whole)); intro _ _ _ _ _ _ _; (try k_sweep)))
  (k_with "call ref" => (k_here; (k_dflt (show wpAny _ _ (call (Value.ref 63) [Value.ref _, Value.int _ _, Value.int _ _]) _ _ _)); k_dflt (refine' siftdownZ ?k1 ?k2 ?k3 ?k4 ?k5 ?k6 ?k7 ?k8 ?k9 ?ka ?kx ?ky ?kb ?kc ?_; (case kx => k_extra "own:lomega"); (case ky => k_extra "own:lomega"); (case k1 => k_asm); (case k2 => k_asm); (case k3 => k_asm); (case k4 => k_asm); (case k5 => k_asm); (case k6 => first | exact rfl | assumption); (case k7 => ktr_room); (case k8 => ktr_units); (case k9 => assumption); (case ka => assumption); (case kb => k_extra "own:lomega"); (case kc => k_extra "own:lomega"); k_whole); intro _ _ _ _ _ _; (try dsimp only); (try k_sweep)))
  (k_with "call ref" => (k_here; (k_dflt (show wpAny _ _ (call (Value.ref 63) [Value.ref _, Value.int _ _, Value.int _ _]) _ _ _)); k_dflt (refine' siftdown_bad ?k1 ?k2 ?k3 ?k4 ?k5 ?k6 ?k7 ?k8 ?k9 ?ka ?kb ?kc ?kd ?_; (case k1 => k_asm); (case k2 => k_asm); (case k3 => k_asm); (case k4 => k_asm); (case k5 => k_asm); (case k6 => first | exact rfl | assumption); (case k7 => ktr_room); (case k8 => ktr_units); (case k9 => assumption); (case ka => assumption); (case kb => k_extra "own:lomega"); (case kc => k_extra "own:lomega"); (case kd => k_extra "own:lomega"); k_whole); intro _ _ _ _ _ _ _ _))
  (k_with "own:fin_os" => (first | rfl | assumption | (simp only [] at *; simp only [*])))
  (k_with "own:fin_err" => (refine' err _ _ _ _ _ ?fg ?u ?r ?ar ?gg ?os; (case u => with_reducible assumption); (case r => with_reducible assumption); (case fg => with_reducible assumption); (try (case ar => with_reducible assumption)); (try (case gg => with_reducible assumption)); (try (case os => k_extra "own:fin_os"))))
  trivial
theorem siftup0 {w : World} {p : Program} {loose : List Str} {mean : ExcName → Option Value} {mg mb : Str → Option Value} {dp un : Nat} {gd : Option (List Code)} {cn : Str} {cs : Scope} {a : Addr} {ccd : Value} {cl : List (Str × Addr)} {outer : List Env} {A₀ : Around} {base h₀ : Heap} {L : Addr} {m : Str → Option Value} {rest : List (Addr × Obj)} {s : Shared}
    {Q E : Value → Shared → Prop} {row d : Addr} {vs : List Value} {ks : List Nat} {n : Nat} {t1 : Tok}
    (B : Below A₀ base outer h₀) (F : Fr h₀ L s.heap m) (X : (KW w.params).In h₀) (N : News h₀ L s.heap ((row, accObj d vs.toArray n) :: rest)) (T : Top p loose mean mg mb h₀) (hk : cs.kind = .function)
    (hd : dp + 9 < recursionLimit) (hu : un + 90 < cLine) (G : AllBare s.gens) (R : Rest rest row d 0) (hA : Are rest vs ks) (hpos : ∀ x ∈ ks, 0 < x) (hp : 0 < ks.length) (hl : ks.length ≤ 1000)
    (ret : ∀ vs' s', Are rest vs' (su 0 ks) → Fr h₀ L s'.heap m → News h₀ L s'.heap ((row, accObj d vs'.toArray n) :: rest) → AllBare s'.gens → s'.os = s.os → Q .none s') :
    wpAny (model PG w) (ktrTop dp un gd cn cs L a ccd cl outer) (call (.ref 70) [.ref row, .int 0 t1]) Q E s :=
  siftup (pos := 0) B F X N T hk hd hu G R hA hpos hp hl ret
theorem siftup_bad0 {w : World} {p : Program} {loose : List Str} {mean : ExcName → Option Value} {mg mb : Str → Option Value} {dp un : Nat} {gd : Option (List Code)} {cn : Str} {cs : Scope} {a : Addr} {ccd : Value} {cl : List (Str × Addr)} {outer : List Env} {A₀ : Around} {base h₀ : Heap} {L : Addr} {m : Str → Option Value} {rest : List (Addr × Obj)} {s : Shared}
    {Q E : Value → Shared → Prop} {row d : Addr} {vs : List Value} {ks : List Nat} {n : Nat} {t1 : Tok} {k : Int}
    (B : Below A₀ base outer h₀) (F : Fr h₀ L s.heap m) (X : (KW w.params).In h₀) (N : News h₀ L s.heap ((row, accObj d vs.toArray n) :: rest)) (T : Top p loose mean mg mb h₀) (hk : cs.kind = .function)
    (hd : dp + 9 < recursionLimit) (hu : un + 90 < cLine) (G : AllBare s.gens) (R : Rest rest row d k) (hA : Are rest vs ks) (hpos : ∀ x ∈ ks, 0 < x) (hp : 0 < ks.length) (hl : ks.length ≤ 1000) (hkn : (ks.length : Int) < k) (hkm : k ≤ 10000)
    (err : ∀ e g s' vs', Fr h₀ L g m → g.UpToSlots s'.heap → RaisedN base (envX cn cs L a ccd cl :: outer) e (.type "IndexError") ((row, accObj d vs'.toArray n) :: rest) s'.heap → Are rest vs' (slid ks.length 0 ks) → AllBare s'.gens → s'.os = s.os → E (.ref e) s') :
    wpAny (model PG w) (ktrTop dp un gd cn cs L a ccd cl outer) (call (.ref 70) [.ref row, .int 0 t1]) Q E s :=
  siftup_bad (pos := 0) B F X N T hk hd hu G R hA hpos hp hl hkn hkm err
theorem lines_H2_1 : True := by
  (k_with "call ref" => (k_here; (k_dflt (show wpAny _ _ (call (Value.ref 70) [Value.ref _, Value.int 0 _]) _ _ _)); k_dflt (refine' siftup0 ?k1 ?k2 ?k3 ?k4 ?k5 ?k6 ?k7 ?k8 ?k9 ?ka ?kb ?kc ?kd ?ke ?_; (case k1 => k_asm); (case k2 => k_asm); (case k3 => k_asm); (case k4 => k_asm); (case k5 => k_asm); (case k6 => first | exact rfl | assumption); (case k7 => ktr_room); (case k8 => ktr_units); (case k9 => assumption); (case ka => assumption); (case kb => assumption); (case kc => assumption); (case kd => k_extra "own:lomega"); (case ke => k_extra "own:lomega"); k_whole); intro _ _ _ _ _ _ _; (try dsimp only)))
  (k_with "call ref" => (k_here; (k_dflt (show wpAny _ _ (call (Value.ref 70) [Value.ref _, Value.int 0 _]) _ _ _)); k_dflt (refine' siftup_bad0 ?k1 ?k2 ?k3 ?k4 ?k5 ?k6 ?k7 ?k8 ?k9 ?ka ?kb ?kc ?kd ?ke ?kf ?kg ?_; (case k1 => k_asm); (case k2 => k_asm); (case k3 => k_asm); (case k4 => k_asm); (case k5 => k_asm); (case k6 => first | exact rfl | assumption); (case k7 => ktr_room); (case k8 => ktr_units); (case k9 => assumption); (case ka => assumption); (case kb => assumption); (case kc => assumption); (case kd => k_extra "own:lomega"); (case ke => k_extra "own:lomega"); (case kf => k_extra "own:lomega"); (case kg => k_extra "own:lomega"); k_whole); intro _ _ _ _ _ _ _ _ _ _))
  trivial
set_option maxHeartbeats 2000000 in
theorem push_bad {w : World} {p : Program} {loose : List Str} {mean : ExcName → Option Value} {mg mb : Str → Option Value} {dp un : Nat} {gd : Option (List Code)} {cn : Str} {cs : Scope} {a : Addr} {ccd : Value} {cl : List (Str × Addr)} {outer : List Env} {A₀ : Around} {base h₀ : Heap} {L : Addr} {m : Str → Option Value} {rest : List (Addr × Obj)} {s : Shared}
    {Q E : Value → Shared → Prop} {row d : Addr} {vs : List Value} {ks : List Nat} {n : Nat} {ia : Addr} {x : Nat} {k : Int}
    (B : Below A₀ base outer h₀) (F : Fr h₀ L s.heap m) (X : (KW w.params).In h₀) (N : News h₀ L s.heap ((row, accObj d vs.toArray n) :: rest)) (T : Top p loose mean mg mb h₀) (hk : cs.kind = .function)
    (hd : dp + 12 < recursionLimit) (hu : un + 120 < cLine) (G : AllBare s.gens) (R : Rest rest row d k) (hA : Are rest vs ks) (hpos : ∀ x ∈ ks, 0 < x) (hl : ks.length ≤ 999) (hi : PcAt rest ia x) (hx : 0 < x) (hkn : (ks.length : Int) < k) (hkm : k ≤ 10000)
    (err : ∀ e g s' vs' n', Fr h₀ L g m → g.UpToSlots s'.heap → RaisedN base (envX cn cs L a ccd cl :: outer) e (.type "IndexError") ((row, accObj d vs'.toArray n') :: rest) s'.heap → Are rest vs' (ks ++ [x]) → AllBare s'.gens → s'.os = s.os → E (.ref e) s') :
    wpAny (model PG w) (ktrTop dp un gd cn cs L a ccd cl outer) (call (.ref 28) [.ref row, .ref ia]) Q E s := by
  have hne := R.ne
  have hpos' : ∀ y ∈ ks ++ [x], 0 < y := by intro y hy; rcases List.mem_append.mp hy with h | h; exact hpos y h; simp at h; omega
  refine wpAny_call ?_
  k_dflt ktr_enter
  k_extra "own:steps"
  k_extra "own:fin_err"
set_option maxHeartbeats 2000000 in
theorem replace_ok {w : World} {p : Program} {loose : List Str} {mean : ExcName → Option Value} {mg mb : Str → Option Value} {dp un : Nat} {gd : Option (List Code)} {cn : Str} {cs : Scope} {a : Addr} {ccd : Value} {cl : List (Str × Addr)} {outer : List Env} {A₀ : Around} {base h₀ : Heap} {L : Addr} {m : Str → Option Value} {rest : List (Addr × Obj)} {s : Shared}
    {Q E : Value → Shared → Prop} {row d : Addr} {vs : List Value} {ks : List Nat} {n : Nat} {ia : Addr} {x : Nat}
    (B : Below A₀ base outer h₀) (F : Fr h₀ L s.heap m) (X : (KW w.params).In h₀) (N : News h₀ L s.heap ((row, accObj d vs.toArray n) :: rest)) (T : Top p loose mean mg mb h₀) (hk : cs.kind = .function)
    (hd : dp + 12 < recursionLimit) (hu : un + 120 < cLine) (G : AllBare s.gens) (R : Rest rest row d 0) (hA : Are rest vs ks) (hpos : ∀ x ∈ ks, 0 < x) (hl : ks.length ≤ 1000) (hn : 0 < ks.length) (hi : PcAt rest ia x) (hx : 0 < x)
    (ret : ∀ ra vs' n' s', PcAt rest ra (ks.getD 0 0) → Are rest vs' (su 0 (ks.set 0 x)) → Fr h₀ L s'.heap m → News h₀ L s'.heap ((row, accObj d vs'.toArray n') :: rest) → AllBare s'.gens → s'.os = s.os → Q (.ref ra) s') :
    wpAny (model PG w) (ktrTop dp un gd cn cs L a ccd cl outer) (call (.ref 42) [.ref row, .ref ia]) Q E s := by
  have hne := R.ne
  have hpos' : ∀ y ∈ ks.set (Int.toNat 0) x, 0 < y := by intro y hy; rcases List.mem_or_eq_of_mem_set hy with h | h; exact hpos y h; omega
  refine wpAny_call ?_
  k_dflt ktr_enter
  k_extra "own:steps"
  exact ret _ _ _ _ (by assumption) (by assumption) (by assumption) (by assumption) (by assumption) (by k_extra "own:fin_os")
set_option maxHeartbeats 2000000 in
theorem replace_bad {w : World} {p : Program} {loose : List Str} {mean : ExcName → Option Value} {mg mb : Str → Option Value} {dp un : Nat} {gd : Option (List Code)} {cn : Str} {cs : Scope} {a : Addr} {ccd : Value} {cl : List (Str × Addr)} {outer : List Env} {A₀ : Around} {base h₀ : Heap} {L : Addr} {m : Str → Option Value} {rest : List (Addr × Obj)} {s : Shared}
    {Q E : Value → Shared → Prop} {row d : Addr} {vs : List Value} {ks : List Nat} {n : Nat} {ia : Addr} {x : Nat} {k : Int}
    (B : Below A₀ base outer h₀) (F : Fr h₀ L s.heap m) (X : (KW w.params).In h₀) (N : News h₀ L s.heap ((row, accObj d vs.toArray n) :: rest)) (T : Top p loose mean mg mb h₀) (hk : cs.kind = .function)
    (hd : dp + 12 < recursionLimit) (hu : un + 120 < cLine) (G : AllBare s.gens) (R : Rest rest row d k) (hA : Are rest vs ks) (hpos : ∀ x ∈ ks, 0 < x) (hl : ks.length ≤ 1000) (hi : PcAt rest ia x) (hx : 0 < x) (hn : 0 < ks.length) (hkn : (ks.length : Int) < k) (hkm : k ≤ 10000)
    (err : ∀ e g s' vs' n', Fr h₀ L g m → g.UpToSlots s'.heap → RaisedN base (envX cn cs L a ccd cl :: outer) e (.type "IndexError") ((row, accObj d vs'.toArray n') :: rest) s'.heap → Are rest vs' (slid ks.length 0 (ks.set 0 x)) → AllBare s'.gens → s'.os = s.os → E (.ref e) s') :
    wpAny (model PG w) (ktrTop dp un gd cn cs L a ccd cl outer) (call (.ref 42) [.ref row, .ref ia]) Q E s := by
  have hne := R.ne
  have hpos' : ∀ y ∈ ks.set (Int.toNat 0) x, 0 < y := by intro y hy; rcases List.mem_or_eq_of_mem_set hy with h | h; exact hpos y h; omega
  refine wpAny_call ?_
  k_dflt ktr_enter
  k_extra "own:steps"
  rename Are _ _ (slid _ _ _) => A₂
  rw [List.length_set] at A₂
  k_extra "own:fin_err"
  exact A₂
set_option maxHeartbeats 2000000 in
theorem replace_none {w : World} {p : Program} {loose : List Str} {mean : ExcName → Option Value} {mg mb : Str → Option Value} {dp un : Nat} {gd : Option (List Code)} {cn : Str} {cs : Scope} {a : Addr} {ccd : Value} {cl : List (Str × Addr)} {outer : List Env} {A₀ : Around} {base h₀ : Heap} {L : Addr} {m : Str → Option Value} {rest : List (Addr × Obj)} {s : Shared}
    {Q E : Value → Shared → Prop} {row d : Addr} {vs : List Value} {ks : List Nat} {n : Nat} {ia : Addr}
    (B : Below A₀ base outer h₀) (F : Fr h₀ L s.heap m) (X : (KW w.params).In h₀) (N : News h₀ L s.heap ((row, accObj d vs.toArray n) :: rest)) (T : Top p loose mean mg mb h₀) (hk : cs.kind = .function)
    (hd : dp + 12 < recursionLimit) (hu : un + 120 < cLine) (G : AllBare s.gens) (hA : Are rest vs []) 
    (err : ∀ e g s' vs' n', Fr h₀ L g m → g.UpToSlots s'.heap → RaisedN base (envX cn cs L a ccd cl :: outer) e (.type "IndexError") ((row, accObj d vs'.toArray n') :: rest) s'.heap → Are rest vs' [] → AllBare s'.gens → s'.os = s.os → E (.ref e) s') :
    wpAny (model PG w) (ktrTop dp un gd cn cs L a ccd cl outer) (call (.ref 42) [.ref row, .ref ia]) Q E s := by
  have hl : ([] : List Nat).length = 0 := rfl
  refine wpAny_call ?_
  k_dflt ktr_enter
  k_extra "own:steps"
  k_extra "own:fin_err"
theorem Are.last {rest : List (Addr × Obj)} : ∀ {vs₀ : List Value} {v : Value} {ks₀ : List Nat} {x : Nat}, Are rest (vs₀ ++ [v]) (ks₀ ++ [x]) → Are rest vs₀ ks₀ ∧ ∃ a, v = .ref a ∧ PcAt rest a x
  | [], _, [], _, h => ⟨trivial, h.1⟩
  | [], _, _ :: ks, _, h => by have := Are.length h; simp at this
  | _ :: vs, _, [], _, h => by have := Are.length h; simp at this
  | _ :: _, _, _ :: _, _, h => ⟨⟨h.1, (Are.last h.2).1⟩, (Are.last h.2).2⟩
theorem pop_last {w : World} {p : Program} {loose : List Str} {mean : ExcName → Option Value} {mg mb : Str → Option Value} {dp un : Nat} {gd : Option (List Code)} {cn : Str} {cs : Scope} {a : Addr} {ccd : Value} {cl : List (Str × Addr)} {outer : List Env} {A₀ : Around} {base h₀ : Heap} {L : Addr} {m : Str → Option Value} {rest : List (Addr × Obj)} {s : Shared}
    {Q E : Value → Shared → Prop} {row d : Addr} {vs : List Value} {ks : List Nat} {n : Nat} {x : Nat} {k : Int}
    (B : Below A₀ base outer h₀) (F : Fr h₀ L s.heap m) (X : (KW w.params).In h₀) (N : News h₀ L s.heap ((row, accObj d vs.toArray n) :: rest)) (T : Top p loose mean mg mb h₀) (hk : cs.kind = .function)
    (hd : dp + 7 < recursionLimit) (hu : un + 70 < cLine)  (R : Rest rest row d k) (hA : Are rest vs (ks ++ [x])) (hl : ks.length ≤ 999)
    (ret : ∀ vs₀ ia n' h' tk', Are rest vs₀ ks → PcAt rest ia x → Fr h₀ L h' m → News h₀ L h' ((row, accObj d vs₀.toArray n') :: rest) → Q (.ref ia) { s with heap := h', toks := tk' }) :
    wpAny (model PG w) (ktrTop dp un gd cn cs L a ccd cl outer) (call (.ref 110) [.ref row]) Q E s := by
  obtain ⟨hs, t₁, t₂, nd, hdi⟩ := R.sz
  have hlen := hA.length
  simp only [List.length_append, List.length_cons, List.length_nil] at hlen
  refine pop_call B F X N T hk hd hu hdi R.ne (by omega) (fun e => ?_) fun vs₀ v e n' h' tk' F' N' => ?_
  · subst e; simp at hlen
  · subst e
    obtain ⟨h1, ia, rfl, h2⟩ := Are.last hA
    exact ret _ _ _ _ _ h1 h2 F' N'
theorem pop_none {w : World} {p : Program} {loose : List Str} {mean : ExcName → Option Value} {mg mb : Str → Option Value} {dp un : Nat} {gd : Option (List Code)} {cn : Str} {cs : Scope} {a : Addr} {ccd : Value} {cl : List (Str × Addr)} {outer : List Env} {A₀ : Around} {base h₀ : Heap} {L : Addr} {m : Str → Option Value} {rest : List (Addr × Obj)} {s : Shared}
    {Q E : Value → Shared → Prop} {row d : Addr} {vs : List Value} {ks : List Nat} {n : Nat} {k : Int}
    (B : Below A₀ base outer h₀) (F : Fr h₀ L s.heap m) (X : (KW w.params).In h₀) (N : News h₀ L s.heap ((row, accObj d vs.toArray n) :: rest)) (T : Top p loose mean mg mb h₀) (hk : cs.kind = .function)
    (hd : dp + 7 < recursionLimit) (hu : un + 70 < cLine)  (R : Rest rest row d k) (hA : Are rest vs [])
    (ret : ∀ q t u h' tk', Fr h₀ L h' m → News h₀ L h' ((q, tupObj (pcF 0) t (pcS 0) u) :: (row, accObj d vs.toArray n) :: rest) → Q (.ref q) { s with heap := h', toks := tk' }) :
    wpAny (model PG w) (ktrTop dp un gd cn cs L a ccd cl outer) (call (.ref 110) [.ref row]) Q E s := by
  obtain ⟨hs, t₁, t₂, nd, hdi⟩ := R.sz
  have hlen := hA.length
  refine pop_call B F X N T hk hd hu hdi R.ne (by simp at hlen; simp [hlen]) (fun e => ret) fun vs₀ v e n' h' tk' F' N' => ?_
  subst e; simp at hlen
theorem lines_H2_2 : True := by
  (k_with "call ref" => (k_here; (k_dflt (show wpAny _ _ (call (Value.ref 110) [Value.ref _]) _ _ _)); k_dflt (refine' pop_last ?k1 ?k2 ?k3 ?k4 ?k5 ?k6 ?k7 ?k8 ?k9 ?ka ?kb ?_; (case k1 => k_asm); (case k2 => k_asm); (case k3 => k_asm); (case k4 => k_asm); (case k5 => k_asm); (case k6 => first | exact rfl | assumption); (case k7 => ktr_room); (case k8 => ktr_units); (case k9 => assumption); (case ka => assumption); (case kb => k_extra "own:lomega"); k_whole); intro _ _ _ _ _ _ _ _ _; (try dsimp only); (try k_sweep)))
  trivial
end Mine
end
section
open PySem PySem.W PyProof.Rows PySem.Spec PySem.Calls
set_option maxRecDepth 100000
namespace Mine
theorem start_H3 : True := by
  w_top off
  k_with_none
  (k_with "own:omega" => (first | with_reducible assumption | (refine' Mine.room2 ?h ?e; (case h => with_reducible assumption); (case e => decide)) | (refine' Mine.room1 ?h ?e; (case h => with_reducible assumption); (case e => decide)) | (refine' Mine.le_up ?h ?e; (case h => with_reducible assumption); (case e => decide)) | (refine' Mine.room0 ?h; (case h => with_reducible assumption)) | ((fail_if_success (fail_if_success omega (config := {}))); lia)))
  trivial
theorem lenBody {w : World} {A : Around} {E : Value → Shared → Prop} {s : Shared} {h₀ : Heap} {L x : Addr} {m : Str → Option Value} {K : Frag} {ox : Obj} {C f : Addr} {od : Option Obj}
   {Q : Value → Shared → Prop} (F : Fr h₀ L s.heap m) (X₀ : K.In h₀) (I : InstAt s.heap x ox C od) (hs : findIn K (.ref C) "__len__" = some (some (.ref f))) (hf : isFn K (.ref f) = true)
    (h : wpAny (model PG w) A.in1 (call (.ref f) [.ref x]) (W.LenBack Q) E s) : wpAny (model PG w) A (runValue (.builtin "len" ⟨[.ref x], []⟩)) Q E s := by
  have key : wpAny (model PG w) A.in1 (Builtin.«len» ⟨[.ref x], []⟩) (fun fin s' => ∃ v, fin = .done (.ret v) ∧ Q v s') E s := by
    unfold Builtin.«len»
    refine wpAny_bind (m := oneArg "len" _) (wpAny_pure ?_)
    refine wpAny_bind (m := callSpecial? (.ref x) (Str.ofString "__len__")) (special_fn (X₀.keeps F.keep) I hs (beq_iff_eq.mp hf) (wpAny_mono h (fun r s' hr => ?_) fun _ _ y => y))
    cases r <;> first | exact hr.elim | skip
    rename_i n u
    obtain ⟨⟨h0, h1⟩, hq⟩ := hr
    refine wpAny_bind (wpAny_holding (wpAny_pure ?_))
    refine wpAny_bind (wpAny_letGo ?_)
    show wpAny _ _ (if n < 0 then _ else _) _ _ _
    rw [if_neg (by omega)]
    show wpAny _ _ (if n ≥ 2 ^ 63 then _ else _) _ _ _
    rw [if_neg (by omega)]
    exact wpAny_bind (wpAny_mkInt (wpAny_pure ⟨_, rfl, hq⟩))
  refine wpAny_runValue (codeAny_builtin entry_len ?_)
  rw [Around.under_plainId plain_len _]
  refine wpAny_mono key (fun fin s' hq => ?_) fun _ _ e => e
  obtain ⟨v, rfl, hq⟩ := hq
  exact hq
theorem accK_truthy {w : World} {p : Program} {loose : List Str} {mean : ExcName → Option Value} {mg mb : Str → Option Value} {dp un : Nat} {gd : Option (List Code)} {cn : Str} {cs : Scope} {a : Addr} {ccd : Value} {cl : List (Str × Addr)} {outer : List Env} {A₀ : Around} {base h₀ : Heap} {L : Addr} {m : Str → Option Value} {rest : List (Addr × Obj)} {s : Shared}
    {Q E : Value → Shared → Prop} {row d : Addr} {vs : List Value} {ks : List Nat} {n : Nat} {k : Int} {Qb : Bool → Shared → Prop}
    (B : Below A₀ base outer h₀) (F : Fr h₀ L s.heap m) (X : (KW w.params).In h₀) (N : News h₀ L s.heap ((row, accObj d vs.toArray n) :: rest)) (T : Top p loose mean mg mb h₀) (hk : cs.kind = .function)
    (hd : dp + 5 < recursionLimit) (hu : un + 60 < cLine) (G : AllBare s.gens) (R : Rest rest row d k) (hA : Are rest vs ks) (hpos : ∀ x ∈ ks, 0 < x) (hl : ks.length ≤ 1000)
    (ret : ∀ s', Fr h₀ L s'.heap m → News h₀ L s'.heap ((row, accObj d vs.toArray n) :: rest) → AllBare s'.gens → s'.os = s.os → Qb (k + ks.length != 0) s') :
    wpAny (model PG w) (ktrTop dp un gd cn cs L a ccd cl outer) (truthy (.ref row)) Qb E s := by
  obtain ⟨hs, t₁, t₂, nd, hdi⟩ := R.sz
  obtain ⟨ps, htab, hf⟩ := R.tab
  have I := acc_inst N (.head _) (.tail _ hdi)
  have X' := X.keeps F.keep
  unfold truthy
  refine wpAny_bind (m := callSpecial? (.ref row) (Str.ofString "__bool__")) (wpAny_bind (wpAny_bind (I.type.here ((looks_findIn X' (r := none) (by kernel_rfl)).here (wpAny_pure ?_)))))
  refine wpAny_bind (wpAny_bind (I.type.here ((looks_findIn X' (r := some (.ref 117)) (by kernel_rfl)).here ?_)))
  show wpAny _ _ (if (some (Value.ref 117)).isNone = true then _ else _) _ _ _
  rw [if_neg (by simp)]
  refine wpAny_bind (lenBody (K := KW w.params) (C := 150) (f := 117) F X I (by kernel_rfl) (by kernel_rfl) ?_)
  refine len_call (un := un + 1) (rest := (row, accObj d vs.toArray n) :: rest) (ps := ps) B F X (fun z hz => ?_) T hk hd (by omega) G (.inr hf) (.inl hf) (.head _) (hA.pairs.mono fun z hz => .tail _ hz) (.tail _ hdi) (pc_short ks) (by simpa using hl) R.lo R.hi fun s' ps' t F' N' G' hos _ he => ?_
  · rcases List.mem_cons.mp hz with rfl | hz
    · exact N _ (.tail _ htab)
    · exact N _ hz
  · rw [lens_ones hpos]
    have h1 := R.lo
    have h2 := R.hi
    exact ⟨⟨by omega, by omega⟩, wpAny_pure (ret { s' with toks := s'.toks + 1 } F' (fun z hz => N' z (.tail _ hz)) G' hos)⟩
theorem accK_yes {w : World} {p : Program} {loose : List Str} {mean : ExcName → Option Value} {mg mb : Str → Option Value} {dp un : Nat} {gd : Option (List Code)} {cn : Str} {cs : Scope} {a : Addr} {ccd : Value} {cl : List (Str × Addr)} {outer : List Env} {A₀ : Around} {base h₀ : Heap} {L : Addr} {m : Str → Option Value} {rest : List (Addr × Obj)} {s : Shared}
    {Q E : Value → Shared → Prop} {row d : Addr} {vs : List Value} {ks : List Nat} {n : Nat} {k : Int} {Qb : Bool → Shared → Prop}
    (B : Below A₀ base outer h₀) (F : Fr h₀ L s.heap m) (X : (KW w.params).In h₀) (N : News h₀ L s.heap ((row, accObj d vs.toArray n) :: rest)) (T : Top p loose mean mg mb h₀) (hk : cs.kind = .function)
    (hd : dp + 5 < recursionLimit) (hu : un + 60 < cLine) (G : AllBare s.gens) (R : Rest rest row d k) (hA : Are rest vs ks) (hpos : ∀ x ∈ ks, 0 < x) (hl : ks.length ≤ 1000) (hz : 0 < k + ks.length)
    (ret : ∀ s', Fr h₀ L s'.heap m → News h₀ L s'.heap ((row, accObj d vs.toArray n) :: rest) → AllBare s'.gens → s'.os = s.os → Qb true s') :
    wpAny (model PG w) (ktrTop dp un gd cn cs L a ccd cl outer) (truthy (.ref row)) Qb E s := by
  have e : (k + ks.length != 0) = true := bne_iff_ne.mpr (by omega)
  exact accK_truthy (Q := fun _ _ => True) B F X N T hk hd hu G R hA hpos hl (e ▸ ret)
theorem accK_no {w : World} {p : Program} {loose : List Str} {mean : ExcName → Option Value} {mg mb : Str → Option Value} {dp un : Nat} {gd : Option (List Code)} {cn : Str} {cs : Scope} {a : Addr} {ccd : Value} {cl : List (Str × Addr)} {outer : List Env} {A₀ : Around} {base h₀ : Heap} {L : Addr} {m : Str → Option Value} {rest : List (Addr × Obj)} {s : Shared}
    {Q E : Value → Shared → Prop} {row d : Addr} {vs : List Value} {ks : List Nat} {n : Nat} {k : Int} {Qb : Bool → Shared → Prop}
    (B : Below A₀ base outer h₀) (F : Fr h₀ L s.heap m) (X : (KW w.params).In h₀) (N : News h₀ L s.heap ((row, accObj d vs.toArray n) :: rest)) (T : Top p loose mean mg mb h₀) (hk : cs.kind = .function)
    (hd : dp + 5 < recursionLimit) (hu : un + 60 < cLine) (G : AllBare s.gens) (R : Rest rest row d k) (hA : Are rest vs ks) (hpos : ∀ x ∈ ks, 0 < x) (hl : ks.length ≤ 1000) (hz : k + ks.length = 0)
    (ret : ∀ s', Fr h₀ L s'.heap m → News h₀ L s'.heap ((row, accObj d vs.toArray n) :: rest) → AllBare s'.gens → s'.os = s.os → Qb false s') :
    wpAny (model PG w) (ktrTop dp un gd cn cs L a ccd cl outer) (truthy (.ref row)) Qb E s := by
  have e : (k + ks.length != 0) = false := by rw [hz]; rfl
  exact accK_truthy (Q := fun _ _ => True) B F X N T hk hd hu G R hA hpos hl (e ▸ ret)
theorem lines_H3_0 : True := by
  (k_with "own:lomega" => first | omega | (simp only [List.length_append, List.length_cons, List.length_nil, List.length_set] at *; omega))
  (k_with "own:k_mem" => with_reducible_and_instances assumption)
  (k_with "subscriptTail" => (k_here; (with_reducible show wpAny _ _ (subscriptTail _ _ (Value.ref _) (Value.int _ _)) _ _ _); (k_dflt (refine' accK_out ?k0 ?k1 ?k2 ?k3 ?k4 ?k5 ?k6 ?k7 ?_ ?k9; (case k0 => exact rfl); (case k1 => k_asm); (case k2 => k_asm); (case k3 => k_asm); (case k4 => k_mem); (case k5 => k_asm); (case k6 => k_extra "own:lomega"); (case k7 => k_extra "own:lomega"); (case k9 => with_unfolding_all rfl); k_whole)); intro _ _ _ _))
  (k_with "subscriptTail" => (k_here; (with_reducible show wpAny _ _ (subscriptTail _ _ (Value.ref _) (Value.int _ _)) _ _ _); (k_dflt (refine' accK_sub ?k1 ?k2 ?k3 ?k4 ?k5 ?k6 ?k7 ?k8 ?_ ?k9; (case k1 => k_asm); (case k2 => k_asm); (case k3 => k_asm); (case k4 => k_mem); (case k5 => k_asm); (case k6 => k_extra "own:lomega"); (case k7 => k_extra "own:lomega"); (case k8 => k_extra "own:lomega"); (case k9 => with_unfolding_all rfl); k_whole)); intro _ _ _))
  (k_with "compareOp Lt ref" => (k_here; (k_dflt (refine' pcK_lt ?k1 ?k2 ?k3 ?k4 ?k5 ?_; (case k2 => k_asm); (case k4 => k_asm); (case k5 => k_asm); (case k3 => first | exact fun _ h => h | exact fun _ h => .tail _ h | exact fun _ h => .tail _ (.tail _ h)); (case k1 => ktr_units); k_whole))))
  (k_with "setItem ref int" => (k_here; (k_dflt (refine' accK_set ?k1 ?k2 ?k3 ?k4 ?kr ?ke ?k5 ?kx ?k6 ?k7 ?k8 ?_; (case k1 => k_asm); (case k2 => k_asm); (case k3 => k_asm); (case k4 => k_mem); (case k5 => k_asm); (case kx => k_asm); (case kr => first | exact fun _ h => h | exact fun _ h => .tail _ h | exact fun _ h => .tail _ (.tail _ h)); (case ke => k_asm); (case k6 => k_extra "own:lomega"); (case k7 => k_extra "own:lomega"); (case k8 => k_extra "own:lomega"); k_whole)); intro _ _ _ _ _; (try k_sweep)))
  (k_with "call builtin:len" => (k_here; (with_reducible show wpAny _ _ (call (Value.builtin "len") [Value.ref _]) _ _ _); (k_dflt (refine' accK_len ?k1 ?k2 ?k3 ?k4 ?k5 ?k6 ?k7 ?k8 ?k9 ?ka ?kb ?kc ?kd ?_; (case k1 => k_asm); (case k2 => k_asm); (case k3 => k_asm); (case k4 => k_asm); (case k5 => k_asm); (case k6 => first | exact rfl | assumption); (case k7 => ktr_room); (case k8 => ktr_units); (case k9 => assumption); (case ka => assumption); (case kb => assumption); (case kc => assumption); (case kd => k_extra "own:lomega"); k_whole)); intro _ _ _ _ _ _))
  (k_with "own:steps" => repeat' (first | (k_unfold; (try dsimp only)) | ((fail_if_success (with_reducible show wpAny _ _ (exec (Stmt.While _ _ _ _) _) _ _ _)); (first | walk1 | (dsimp only; walk1) | fail "no step"))))
  (k_with "getMethod ref" => (k_here; k_dflt (refine' accK_methodR ?k1 ?k2 ?k3 ?k4 ?k5 ?k6 ?k7 ?k8 ?k9 ?ka ?_; (case k1 => k_asm); (case k2 => k_asm); (case k3 => k_asm); (case k4 => k_asm); (case k5 => k_mem); (case k6 => first | exact fun _ h => h | exact fun _ h => .tail _ h | exact fun _ h => .tail _ (.tail _ h)); (case k7 => k_is); (case k8 => k_is); (case k9 => first | exact .inl rfl | exact .inr rfl); (case ka => decide); k_whole)))
  (k_with "call builtin:list.append" => (k_here; (k_dflt (refine' accK_append ?k1 ?k2 ?k3 ?k4 ?k5 ?k6 ?k7 ?_; (case k1 => k_asm); (case k2 => k_asm); (case k3 => k_asm); (case k4 => k_asm); (case k5 => k_asm); (case k6 => k_asm); (case k7 => k_extra "own:lomega"); k_whole)); intro _ _ _ _ _ _ _; (try k_sweep)))
  (k_with "call ref" => (k_here; (k_dflt (show wpAny _ _ (call (Value.ref 63) [Value.ref _, Value.int _ _, Value.int _ _]) _ _ _)); k_dflt (refine' siftdownZ ?k1 ?k2 ?k3 ?k4 ?k5 ?k6 ?k7 ?k8 ?k9 ?ka ?kx ?ky ?kb ?kc ?_; (case kx => k_extra "own:lomega"); (case ky => k_extra "own:lomega"); (case k1 => k_asm); (case k2 => k_asm); (case k3 => k_asm); (case k4 => k_asm); (case k5 => k_asm); (case k6 => first | exact rfl | assumption); (case k7 => ktr_room); (case k8 => ktr_units); (case k9 => assumption); (case ka => assumption); (case kb => k_extra "own:lomega"); (case kc => k_extra "own:lomega"); k_whole); intro _ _ _ _ _ _; (try dsimp only); (try k_sweep)))
  (k_with "call ref" => (k_here; (k_dflt (show wpAny _ _ (call (Value.ref 63) [Value.ref _, Value.int _ _, Value.int _ _]) _ _ _)); k_dflt (refine' siftdown_bad ?k1 ?k2 ?k3 ?k4 ?k5 ?k6 ?k7 ?k8 ?k9 ?ka ?kb ?kc ?kd ?_; (case k1 => k_asm); (case k2 => k_asm); (case k3 => k_asm); (case k4 => k_asm); (case k5 => k_asm); (case k6 => first | exact rfl | assumption); (case k7 => ktr_room); (case k8 => ktr_units); (case k9 => assumption); (case ka => assumption); (case kb => k_extra "own:lomega"); (case kc => k_extra "own:lomega"); (case kd => k_extra "own:lomega"); k_whole); intro _ _ _ _ _ _ _ _))
  (k_with "own:fin_os" => (first | rfl | assumption | (simp only [] at *; simp only [*])))
  (k_with "own:fin_err" => (refine' err _ _ _ _ _ ?fg ?u ?r ?ar ?gg ?os; (case u => with_reducible assumption); (case r => with_reducible assumption); (case fg => with_reducible assumption); (try (case ar => with_reducible assumption)); (try (case gg => with_reducible assumption)); (try (case os => k_extra "own:fin_os"))))
  (k_with "call ref" => (k_here; (k_dflt (show wpAny _ _ (call (Value.ref 70) [Value.ref _, Value.int 0 _]) _ _ _)); k_dflt (refine' siftup0 ?k1 ?k2 ?k3 ?k4 ?k5 ?k6 ?k7 ?k8 ?k9 ?ka ?kb ?kc ?kd ?ke ?_; (case k1 => k_asm); (case k2 => k_asm); (case k3 => k_asm); (case k4 => k_asm); (case k5 => k_asm); (case k6 => first | exact rfl | assumption); (case k7 => ktr_room); (case k8 => ktr_units); (case k9 => assumption); (case ka => assumption); (case kb => assumption); (case kc => assumption); (case kd => k_extra "own:lomega"); (case ke => k_extra "own:lomega"); k_whole); intro _ _ _ _ _ _ _; (try dsimp only)))
  (k_with "call ref" => (k_here; (k_dflt (show wpAny _ _ (call (Value.ref 70) [Value.ref _, Value.int 0 _]) _ _ _)); k_dflt (refine' siftup_bad0 ?k1 ?k2 ?k3 ?k4 ?k5 ?k6 ?k7 ?k8 ?k9 ?ka ?kb ?kc ?kd ?ke ?kf ?kg ?_; (case k1 => k_asm); (case k2 => k_asm); (case k3 => k_asm); (case k4 => k_asm); (case k5 => k_asm); (case k6 => first | exact rfl | assumption); (case k7 => ktr_room); (case k8 => ktr_units); (case k9 => assumption); (case ka => assumption); (case kb => assumption); (case kc => assumption); (case kd => k_extra "own:lomega"); (case ke => k_extra "own:lomega"); (case kf => k_extra "own:lomega"); (case kg => k_extra "own:lomega"); k_whole); intro _ _ _ _ _ _ _ _ _ _))
  (k_with "call ref" => (k_here; (k_dflt (show wpAny _ _ (call (Value.ref 110) [Value.ref _]) _ _ _)); k_dflt (refine' pop_last ?k1 ?k2 ?k3 ?k4 ?k5 ?k6 ?k7 ?k8 ?k9 ?ka ?kb ?_; (case k1 => k_asm); (case k2 => k_asm); (case k3 => k_asm); (case k4 => k_asm); (case k5 => k_asm); (case k6 => first | exact rfl | assumption); (case k7 => ktr_room); (case k8 => ktr_units); (case k9 => assumption); (case ka => assumption); (case kb => k_extra "own:lomega"); k_whole); intro _ _ _ _ _ _ _ _ _; (try dsimp only); (try k_sweep)))
  (k_with "truthy ref" => (k_here; (k_dflt (refine' accK_yes (Q := fun _ _ => True) ?k1 ?k2 ?k3 ?k4 ?k5 ?k6 ?k7 ?k8 ?k9 ?ka ?kb ?kc ?kd ?ke ?_; (case k1 => k_asm); (case k2 => k_asm); (case k3 => k_asm); (case k4 => k_asm); (case k5 => k_asm); (case k6 => first | exact rfl | assumption); (case k7 => ktr_room); (case k8 => ktr_units); (case k9 => assumption); (case ka => assumption); (case kb => assumption); (case kc => assumption); (case kd => k_extra "own:lomega"); (case ke => k_extra "own:lomega"); k_whole)); intro _ _ _ _ _))
  (k_with "truthy ref" => (k_here; (k_dflt (refine' accK_no (Q := fun _ _ => True) ?k1 ?k2 ?k3 ?k4 ?k5 ?k6 ?k7 ?k8 ?k9 ?ka ?kb ?kc ?kd ?ke ?_; (case k1 => k_asm); (case k2 => k_asm); (case k3 => k_asm); (case k4 => k_asm); (case k5 => k_asm); (case k6 => first | exact rfl | assumption); (case k7 => ktr_room); (case k8 => ktr_units); (case k9 => assumption); (case ka => assumption); (case kb => assumption); (case kc => assumption); (case kd => k_extra "own:lomega"); (case ke => k_extra "own:lomega"); k_whole)); intro _ _ _ _ _))
  trivial
set_option maxHeartbeats 2000000 in
theorem pop_ok {w : World} {p : Program} {loose : List Str} {mean : ExcName → Option Value} {mg mb : Str → Option Value} {dp un : Nat} {gd : Option (List Code)} {cn : Str} {cs : Scope} {a : Addr} {ccd : Value} {cl : List (Str × Addr)} {outer : List Env} {A₀ : Around} {base h₀ : Heap} {L : Addr} {m : Str → Option Value} {rest : List (Addr × Obj)} {s : Shared}
    {Q E : Value → Shared → Prop} {row d : Addr} {vs : List Value} {ks : List Nat} {n : Nat} {x : Nat}
    (B : Below A₀ base outer h₀) (F : Fr h₀ L s.heap m) (X : (KW w.params).In h₀) (N : News h₀ L s.heap ((row, accObj d vs.toArray n) :: rest)) (T : Top p loose mean mg mb h₀) (hk : cs.kind = .function)
    (hd : dp + 12 < recursionLimit) (hu : un + 120 < cLine) (G : AllBare s.gens) (R : Rest rest row d 0) (hA : Are rest vs (ks ++ [x])) (hpos : ∀ x ∈ ks, 0 < x) (hl : ks.length ≤ 999) (hx : 0 < x) (hn : 0 < ks.length)
    (ret : ∀ ra vs' n' s', PcAt rest ra (ks.getD 0 0) → Are rest vs' (su 0 (ks.set 0 x)) → Fr h₀ L s'.heap m → News h₀ L s'.heap ((row, accObj d vs'.toArray n') :: rest) → AllBare s'.gens → s'.os = s.os → Q (.ref ra) s') :
    wpAny (model PG w) (ktrTop dp un gd cn cs L a ccd cl outer) (call (.ref 35) [.ref row]) Q E s := by
  have hne := R.ne
  have hpos' : ∀ y ∈ ks.set (Int.toNat 0) x, 0 < y := by intro y hy; rcases List.mem_or_eq_of_mem_set hy with h | h; exact hpos y h; omega
  refine wpAny_call ?_
  k_dflt ktr_enter
  k_extra "own:steps"
  exact ret _ _ _ _ (by assumption) (by assumption) (by assumption) (by assumption) (by assumption) (by k_extra "own:fin_os")
set_option maxHeartbeats 2000000 in
theorem pop_one {w : World} {p : Program} {loose : List Str} {mean : ExcName → Option Value} {mg mb : Str → Option Value} {dp un : Nat} {gd : Option (List Code)} {cn : Str} {cs : Scope} {a : Addr} {ccd : Value} {cl : List (Str × Addr)} {outer : List Env} {A₀ : Around} {base h₀ : Heap} {L : Addr} {m : Str → Option Value} {rest : List (Addr × Obj)} {s : Shared}
    {Q E : Value → Shared → Prop} {row d : Addr} {vs : List Value} {ks : List Nat} {n : Nat} {x : Nat}
    (B : Below A₀ base outer h₀) (F : Fr h₀ L s.heap m) (X : (KW w.params).In h₀) (N : News h₀ L s.heap ((row, accObj d vs.toArray n) :: rest)) (T : Top p loose mean mg mb h₀) (hk : cs.kind = .function)
    (hd : dp + 12 < recursionLimit) (hu : un + 120 < cLine) (G : AllBare s.gens) (R : Rest rest row d 0) (hA : Are rest vs ([] ++ [x]))
    (ret : ∀ ra vs' n' s', PcAt rest ra x → Are rest vs' [] → Fr h₀ L s'.heap m → News h₀ L s'.heap ((row, accObj d vs'.toArray n') :: rest) → AllBare s'.gens → s'.os = s.os → Q (.ref ra) s') :
    wpAny (model PG w) (ktrTop dp un gd cn cs L a ccd cl outer) (call (.ref 35) [.ref row]) Q E s := by
  have hne := R.ne
  have hl : ([] : List Nat).length = 0 := rfl
  have hpos : ∀ y ∈ ([] : List Nat), 0 < y := fun _ h => nomatch h
  refine wpAny_call ?_
  k_dflt ktr_enter
  k_extra "own:steps"
  exact ret _ _ _ _ (by assumption) (by assumption) (by assumption) (by assumption) (by assumption) (by k_extra "own:fin_os")
set_option maxHeartbeats 2000000 in
theorem pop_bad {w : World} {p : Program} {loose : List Str} {mean : ExcName → Option Value} {mg mb : Str → Option Value} {dp un : Nat} {gd : Option (List Code)} {cn : Str} {cs : Scope} {a : Addr} {ccd : Value} {cl : List (Str × Addr)} {outer : List Env} {A₀ : Around} {base h₀ : Heap} {L : Addr} {m : Str → Option Value} {rest : List (Addr × Obj)} {s : Shared}
    {Q E : Value → Shared → Prop} {row d : Addr} {vs : List Value} {ks : List Nat} {n : Nat} {x : Nat} {k : Int}
    (B : Below A₀ base outer h₀) (F : Fr h₀ L s.heap m) (X : (KW w.params).In h₀) (N : News h₀ L s.heap ((row, accObj d vs.toArray n) :: rest)) (T : Top p loose mean mg mb h₀) (hk : cs.kind = .function)
    (hd : dp + 12 < recursionLimit) (hu : un + 120 < cLine) (G : AllBare s.gens) (R : Rest rest row d k) (hA : Are rest vs (ks ++ [x])) (hpos : ∀ x ∈ ks, 0 < x) (hl : ks.length ≤ 999) (hx : 0 < x) (hn : 0 < ks.length) (hkn : (ks.length : Int) < k) (hkm : k ≤ 10000)
    (err : ∀ e g s' vs' n', Fr h₀ L g m → g.UpToSlots s'.heap → RaisedN base (envX cn cs L a ccd cl :: outer) e (.type "IndexError") ((row, accObj d vs'.toArray n') :: rest) s'.heap → Are rest vs' (slid ks.length 0 (ks.set 0 x)) → AllBare s'.gens → s'.os = s.os → E (.ref e) s') :
    wpAny (model PG w) (ktrTop dp un gd cn cs L a ccd cl outer) (call (.ref 35) [.ref row]) Q E s := by
  have hne := R.ne
  have hpos' : ∀ y ∈ ks.set (Int.toNat 0) x, 0 < y := by intro y hy; rcases List.mem_or_eq_of_mem_set hy with h | h; exact hpos y h; omega
  refine wpAny_call ?_
  k_dflt ktr_enter
  k_extra "own:steps"
  rename Are _ _ (slid _ _ _) => A₂
  rw [List.length_set] at A₂
  k_extra "own:fin_err"
  exact A₂
set_option maxHeartbeats 2000000 in
theorem pop_bad1 {w : World} {p : Program} {loose : List Str} {mean : ExcName → Option Value} {mg mb : Str → Option Value} {dp un : Nat} {gd : Option (List Code)} {cn : Str} {cs : Scope} {a : Addr} {ccd : Value} {cl : List (Str × Addr)} {outer : List Env} {A₀ : Around} {base h₀ : Heap} {L : Addr} {m : Str → Option Value} {rest : List (Addr × Obj)} {s : Shared}
    {Q E : Value → Shared → Prop} {row d : Addr} {vs : List Value} {ks : List Nat} {n : Nat} {x : Nat} {k : Int}
    (B : Below A₀ base outer h₀) (F : Fr h₀ L s.heap m) (X : (KW w.params).In h₀) (N : News h₀ L s.heap ((row, accObj d vs.toArray n) :: rest)) (T : Top p loose mean mg mb h₀) (hk : cs.kind = .function)
    (hd : dp + 12 < recursionLimit) (hu : un + 120 < cLine) (G : AllBare s.gens) (R : Rest rest row d k) (hA : Are rest vs ([] ++ [x])) (hkn : 0 < k) (hkm : k ≤ 10000)
    (err : ∀ e g s' vs' n', Fr h₀ L g m → g.UpToSlots s'.heap → RaisedN base (envX cn cs L a ccd cl :: outer) e (.type "IndexError") ((row, accObj d vs'.toArray n') :: rest) s'.heap → Are rest vs' [] → AllBare s'.gens → s'.os = s.os → E (.ref e) s') :
    wpAny (model PG w) (ktrTop dp un gd cn cs L a ccd cl outer) (call (.ref 35) [.ref row]) Q E s := by
  have hne := R.ne
  have hl : ([] : List Nat).length = 0 := rfl
  have hpos : ∀ y ∈ ([] : List Nat), 0 < y := fun _ h => nomatch h
  refine wpAny_call ?_
  k_dflt ktr_enter
  k_extra "own:steps"
  k_extra "own:fin_err"
end Mine
end
section
open PySem PySem.W PyProof.Rows PySem.Spec PySem.Calls
set_option maxRecDepth 100000
namespace Mine
theorem start_H4 : True := by
  w_top off
  k_with_none
  (k_with "own:omega" => (first | with_reducible assumption | (refine' Mine.room2 ?h ?e; (case h => with_reducible assumption); (case e => decide)) | (refine' Mine.room1 ?h ?e; (case h => with_reducible assumption); (case e => decide)) | (refine' Mine.le_up ?h ?e; (case h => with_reducible assumption); (case e => decide)) | (refine' Mine.room0 ?h; (case h => with_reducible assumption)) | ((fail_if_success (fail_if_success omega (config := {}))); lia)))
  trivial
theorem Rest.more {rest : List (Addr × Obj)} {row d q : Addr} {k : Int} {o : Obj} (R : Rest rest row d k) (h : q ≠ row) : Rest ((q, o) :: rest) row d k := by
  obtain ⟨h1, ⟨a, b, c, e, h2⟩, ⟨ps, h3, h4⟩, h5, h6⟩ := R
  exact ⟨fun p hp => by rcases List.mem_cons.mp hp with rfl | hp; exact h; exact h1 p hp, ⟨a, b, c, e, .tail _ h2⟩, ⟨ps, .tail _ h3, h4⟩, h5, h6⟩
theorem pop_none' {w : World} {p : Program} {loose : List Str} {mean : ExcName → Option Value} {mg mb : Str → Option Value} {dp un : Nat} {gd : Option (List Code)} {cn : Str} {cs : Scope} {a : Addr} {ccd : Value} {cl : List (Str × Addr)} {outer : List Env} {A₀ : Around} {base h₀ : Heap} {L : Addr} {m : Str → Option Value} {rest : List (Addr × Obj)} {s : Shared}
    {Q E : Value → Shared → Prop} {row d : Addr} {vs : List Value} {ks : List Nat} {n : Nat} {k : Int}
    (B : Below A₀ base outer h₀) (F : Fr h₀ L s.heap m) (X : (KW w.params).In h₀) (N : News h₀ L s.heap ((row, accObj d vs.toArray n) :: rest)) (T : Top p loose mean mg mb h₀) (hk : cs.kind = .function)
    (hd : dp + 7 < recursionLimit) (hu : un + 70 < cLine)  (R : Rest rest row d k) (hA : Are rest vs [])
    (ret : ∀ q t u h' tk', Rest ((q, tupObj (pcF 0) t (pcS 0) u) :: rest) row d k → Are ((q, tupObj (pcF 0) t (pcS 0) u) :: rest) vs [] → Fr h₀ L h' m → News h₀ L h' ((row, accObj d vs.toArray n) :: (q, tupObj (pcF 0) t (pcS 0) u) :: rest) → Q (.ref q) { s with heap := h', toks := tk' }) :
    wpAny (model PG w) (ktrTop dp un gd cn cs L a ccd cl outer) (call (.ref 110) [.ref row]) Q E s :=
  pop_none (ks := []) B F X N T hk hd hu R hA fun q t u h' tk' F' N' => by
    have hne : q ≠ row := fun e => by
      have h1 := N'.get (.head _)
      have h2 := N'.get (.tail _ (.head _))
      rw [e, h2] at h1
      cases h1
    refine ret q t u h' tk' (R.more hne) (hA.mono fun _ h => .tail _ h) F' fun z hz => ?_
    rcases List.mem_cons.mp hz with rfl | hz
    · exact N' _ (.tail _ (.head _))
    · rcases List.mem_cons.mp hz with rfl | hz
      · exact N' _ (.head _)
      · exact N' _ (.tail _ (.tail _ hz))
theorem lines_H4_0 : True := by
  (k_with "own:lomega" => first | omega | (simp only [List.length_append, List.length_cons, List.length_nil, List.length_set] at *; omega))
  (k_with "own:k_mem" => with_reducible_and_instances assumption)
  (k_with "subscriptTail" => (k_here; (with_reducible show wpAny _ _ (subscriptTail _ _ (Value.ref _) (Value.int _ _)) _ _ _); (k_dflt (refine' accK_out ?k0 ?k1 ?k2 ?k3 ?k4 ?k5 ?k6 ?k7 ?_ ?k9; (case k0 => exact rfl); (case k1 => k_asm); (case k2 => k_asm); (case k3 => k_asm); (case k4 => k_mem); (case k5 => k_asm); (case k6 => k_extra "own:lomega"); (case k7 => k_extra "own:lomega"); (case k9 => with_unfolding_all rfl); k_whole)); intro _ _ _ _))
  (k_with "subscriptTail" => (k_here; (with_reducible show wpAny _ _ (subscriptTail _ _ (Value.ref _) (Value.int _ _)) _ _ _); (k_dflt (refine' accK_sub ?k1 ?k2 ?k3 ?k4 ?k5 ?k6 ?k7 ?k8 ?_ ?k9; (case k1 => k_asm); (case k2 => k_asm); (case k3 => k_asm); (case k4 => k_mem); (case k5 => k_asm); (case k6 => k_extra "own:lomega"); (case k7 => k_extra "own:lomega"); (case k8 => k_extra "own:lomega"); (case k9 => with_unfolding_all rfl); k_whole)); intro _ _ _))
  (k_with "compareOp Lt ref" => (k_here; (k_dflt (refine' pcK_lt ?k1 ?k2 ?k3 ?k4 ?k5 ?_; (case k2 => k_asm); (case k4 => k_asm); (case k5 => k_asm); (case k3 => first | exact fun _ h => h | exact fun _ h => .tail _ h | exact fun _ h => .tail _ (.tail _ h)); (case k1 => ktr_units); k_whole))))
  (k_with "setItem ref int" => (k_here; (k_dflt (refine' accK_set ?k1 ?k2 ?k3 ?k4 ?kr ?ke ?k5 ?kx ?k6 ?k7 ?k8 ?_; (case k1 => k_asm); (case k2 => k_asm); (case k3 => k_asm); (case k4 => k_mem); (case k5 => k_asm); (case kx => k_asm); (case kr => first | exact fun _ h => h | exact fun _ h => .tail _ h | exact fun _ h => .tail _ (.tail _ h)); (case ke => k_asm); (case k6 => k_extra "own:lomega"); (case k7 => k_extra "own:lomega"); (case k8 => k_extra "own:lomega"); k_whole)); intro _ _ _ _ _; (try k_sweep)))
  (k_with "call builtin:len" => (k_here; (with_reducible show wpAny _ _ (call (Value.builtin "len") [Value.ref _]) _ _ _); (k_dflt (refine' accK_len ?k1 ?k2 ?k3 ?k4 ?k5 ?k6 ?k7 ?k8 ?k9 ?ka ?kb ?kc ?kd ?_; (case k1 => k_asm); (case k2 => k_asm); (case k3 => k_asm); (case k4 => k_asm); (case k5 => k_asm); (case k6 => first | exact rfl | assumption); (case k7 => ktr_room); (case k8 => ktr_units); (case k9 => assumption); (case ka => assumption); (case kb => assumption); (case kc => assumption); (case kd => k_extra "own:lomega"); k_whole)); intro _ _ _ _ _ _))
  (k_with "own:steps" => repeat' (first | (k_unfold; (try dsimp only)) | ((fail_if_success (with_reducible show wpAny _ _ (exec (Stmt.While _ _ _ _) _) _ _ _)); (first | walk1 | (dsimp only; walk1) | fail "no step"))))
  (k_with "getMethod ref" => (k_here; k_dflt (refine' accK_methodR ?k1 ?k2 ?k3 ?k4 ?k5 ?k6 ?k7 ?k8 ?k9 ?ka ?_; (case k1 => k_asm); (case k2 => k_asm); (case k3 => k_asm); (case k4 => k_asm); (case k5 => k_mem); (case k6 => first | exact fun _ h => h | exact fun _ h => .tail _ h | exact fun _ h => .tail _ (.tail _ h)); (case k7 => k_is); (case k8 => k_is); (case k9 => first | exact .inl rfl | exact .inr rfl); (case ka => decide); k_whole)))
  (k_with "call builtin:list.append" => (k_here; (k_dflt (refine' accK_append ?k1 ?k2 ?k3 ?k4 ?k5 ?k6 ?k7 ?_; (case k1 => k_asm); (case k2 => k_asm); (case k3 => k_asm); (case k4 => k_asm); (case k5 => k_asm); (case k6 => k_asm); (case k7 => k_extra "own:lomega"); k_whole)); intro _ _ _ _ _ _ _; (try k_sweep)))
  (k_with "call ref" => (k_here; (k_dflt (show wpAny _ _ (call (Value.ref 63) [Value.ref _, Value.int _ _, Value.int _ _]) _ _ _)); k_dflt (refine' siftdownZ ?k1 ?k2 ?k3 ?k4 ?k5 ?k6 ?k7 ?k8 ?k9 ?ka ?kx ?ky ?kb ?kc ?_; (case kx => k_extra "own:lomega"); (case ky => k_extra "own:lomega"); (case k1 => k_asm); (case k2 => k_asm); (case k3 => k_asm); (case k4 => k_asm); (case k5 => k_asm); (case k6 => first | exact rfl | assumption); (case k7 => ktr_room); (case k8 => ktr_units); (case k9 => assumption); (case ka => assumption); (case kb => k_extra "own:lomega"); (case kc => k_extra "own:lomega"); k_whole); intro _ _ _ _ _ _; (try dsimp only); (try k_sweep)))
  (k_with "call ref" => (k_here; (k_dflt (show wpAny _ _ (call (Value.ref 63) [Value.ref _, Value.int _ _, Value.int _ _]) _ _ _)); k_dflt (refine' siftdown_bad ?k1 ?k2 ?k3 ?k4 ?k5 ?k6 ?k7 ?k8 ?k9 ?ka ?kb ?kc ?kd ?_; (case k1 => k_asm); (case k2 => k_asm); (case k3 => k_asm); (case k4 => k_asm); (case k5 => k_asm); (case k6 => first | exact rfl | assumption); (case k7 => ktr_room); (case k8 => ktr_units); (case k9 => assumption); (case ka => assumption); (case kb => k_extra "own:lomega"); (case kc => k_extra "own:lomega"); (case kd => k_extra "own:lomega"); k_whole); intro _ _ _ _ _ _ _ _))
  (k_with "own:fin_os" => (first | rfl | assumption | (simp only [] at *; simp only [*])))
  (k_with "own:fin_err" => (refine' err _ _ _ _ _ ?fg ?u ?r ?ar ?gg ?os; (case u => with_reducible assumption); (case r => with_reducible assumption); (case fg => with_reducible assumption); (try (case ar => with_reducible assumption)); (try (case gg => with_reducible assumption)); (try (case os => k_extra "own:fin_os"))))
  (k_with "call ref" => (k_here; (k_dflt (show wpAny _ _ (call (Value.ref 70) [Value.ref _, Value.int 0 _]) _ _ _)); k_dflt (refine' siftup0 ?k1 ?k2 ?k3 ?k4 ?k5 ?k6 ?k7 ?k8 ?k9 ?ka ?kb ?kc ?kd ?ke ?_; (case k1 => k_asm); (case k2 => k_asm); (case k3 => k_asm); (case k4 => k_asm); (case k5 => k_asm); (case k6 => first | exact rfl | assumption); (case k7 => ktr_room); (case k8 => ktr_units); (case k9 => assumption); (case ka => assumption); (case kb => assumption); (case kc => assumption); (case kd => k_extra "own:lomega"); (case ke => k_extra "own:lomega"); k_whole); intro _ _ _ _ _ _ _; (try dsimp only)))
  (k_with "call ref" => (k_here; (k_dflt (show wpAny _ _ (call (Value.ref 70) [Value.ref _, Value.int 0 _]) _ _ _)); k_dflt (refine' siftup_bad0 ?k1 ?k2 ?k3 ?k4 ?k5 ?k6 ?k7 ?k8 ?k9 ?ka ?kb ?kc ?kd ?ke ?kf ?kg ?_; (case k1 => k_asm); (case k2 => k_asm); (case k3 => k_asm); (case k4 => k_asm); (case k5 => k_asm); (case k6 => first | exact rfl | assumption); (case k7 => ktr_room); (case k8 => ktr_units); (case k9 => assumption); (case ka => assumption); (case kb => assumption); (case kc => assumption); (case kd => k_extra "own:lomega"); (case ke => k_extra "own:lomega"); (case kf => k_extra "own:lomega"); (case kg => k_extra "own:lomega"); k_whole); intro _ _ _ _ _ _ _ _ _ _))
  (k_with "call ref" => (k_here; (k_dflt (show wpAny _ _ (call (Value.ref 110) [Value.ref _]) _ _ _)); k_dflt (refine' pop_last ?k1 ?k2 ?k3 ?k4 ?k5 ?k6 ?k7 ?k8 ?k9 ?ka ?kb ?_; (case k1 => k_asm); (case k2 => k_asm); (case k3 => k_asm); (case k4 => k_asm); (case k5 => k_asm); (case k6 => first | exact rfl | assumption); (case k7 => ktr_room); (case k8 => ktr_units); (case k9 => assumption); (case ka => assumption); (case kb => k_extra "own:lomega"); k_whole); intro _ _ _ _ _ _ _ _ _; (try dsimp only); (try k_sweep)))
  (k_with "truthy ref" => (k_here; (k_dflt (refine' accK_yes (Q := fun _ _ => True) ?k1 ?k2 ?k3 ?k4 ?k5 ?k6 ?k7 ?k8 ?k9 ?ka ?kb ?kc ?kd ?ke ?_; (case k1 => k_asm); (case k2 => k_asm); (case k3 => k_asm); (case k4 => k_asm); (case k5 => k_asm); (case k6 => first | exact rfl | assumption); (case k7 => ktr_room); (case k8 => ktr_units); (case k9 => assumption); (case ka => assumption); (case kb => assumption); (case kc => assumption); (case kd => k_extra "own:lomega"); (case ke => k_extra "own:lomega"); k_whole)); intro _ _ _ _ _))
  (k_with "truthy ref" => (k_here; (k_dflt (refine' accK_no (Q := fun _ _ => True) ?k1 ?k2 ?k3 ?k4 ?k5 ?k6 ?k7 ?k8 ?k9 ?ka ?kb ?kc ?kd ?ke ?_; (case k1 => k_asm); (case k2 => k_asm); (case k3 => k_asm); (case k4 => k_asm); (case k5 => k_asm); (case k6 => first | exact rfl | assumption); (case k7 => ktr_room); (case k8 => ktr_units); (case k9 => assumption); (case ka => assumption); (case kb => assumption); (case kc => assumption); (case kd => k_extra "own:lomega"); (case ke => k_extra "own:lomega"); k_whole)); intro _ _ _ _ _))
  (k_with "call ref" => (k_here; (k_dflt (show wpAny _ _ (call (Value.ref 110) [Value.ref _]) _ _ _)); k_dflt (refine' pop_none' (ks := []) ?k1 ?k2 ?k3 ?k4 ?k5 ?k6 ?k7 ?k8 ?k9 ?ka ?_; (case k1 => k_asm); (case k2 => k_asm); (case k3 => k_asm); (case k4 => k_asm); (case k5 => k_asm); (case k6 => first | exact rfl | assumption); (case k7 => ktr_room); (case k8 => ktr_units); (case k9 => assumption); (case ka => assumption); k_whole); intro _ _ _ _ _ _ _ _ _; (try dsimp only); (try k_sweep)))
  trivial
set_option maxHeartbeats 2000000 in
theorem pop_empty {w : World} {p : Program} {loose : List Str} {mean : ExcName → Option Value} {mg mb : Str → Option Value} {dp un : Nat} {gd : Option (List Code)} {cn : Str} {cs : Scope} {a : Addr} {ccd : Value} {cl : List (Str × Addr)} {outer : List Env} {A₀ : Around} {base h₀ : Heap} {L : Addr} {m : Str → Option Value} {rest : List (Addr × Obj)} {s : Shared}
    {Q E : Value → Shared → Prop} {row d : Addr} {vs : List Value} {ks : List Nat} {n : Nat} 
    (B : Below A₀ base outer h₀) (F : Fr h₀ L s.heap m) (X : (KW w.params).In h₀) (N : News h₀ L s.heap ((row, accObj d vs.toArray n) :: rest)) (T : Top p loose mean mg mb h₀) (hk : cs.kind = .function)
    (hd : dp + 12 < recursionLimit) (hu : un + 120 < cLine) (G : AllBare s.gens) (R : Rest rest row d 0) (hA : Are rest vs [])
    (ret : ∀ q t u s', Rest ((q, tupObj (pcF 0) t (pcS 0) u) :: rest) row d 0 → Fr h₀ L s'.heap m → News h₀ L s'.heap ((row, accObj d vs.toArray n) :: (q, tupObj (pcF 0) t (pcS 0) u) :: rest) → AllBare s'.gens → s'.os = s.os → Q (.ref q) s') :
    wpAny (model PG w) (ktrTop dp un gd cn cs L a ccd cl outer) (call (.ref 35) [.ref row]) Q E s := by
  have hne := R.ne
  have hl : ([] : List Nat).length = 0 := rfl
  have hpos : ∀ y ∈ ([] : List Nat), 0 < y := fun _ h => nomatch h
  refine wpAny_call ?_
  k_dflt ktr_enter
  k_extra "own:steps"
  exact ret _ _ _ _ (by assumption) (by assumption) (by assumption) (by assumption) (by k_extra "own:fin_os")
set_option maxHeartbeats 2000000 in
theorem pop_bad0 {w : World} {p : Program} {loose : List Str} {mean : ExcName → Option Value} {mg mb : Str → Option Value} {dp un : Nat} {gd : Option (List Code)} {cn : Str} {cs : Scope} {a : Addr} {ccd : Value} {cl : List (Str × Addr)} {outer : List Env} {A₀ : Around} {base h₀ : Heap} {L : Addr} {m : Str → Option Value} {rest : List (Addr × Obj)} {s : Shared}
    {Q E : Value → Shared → Prop} {row d : Addr} {vs : List Value} {ks : List Nat} {n : Nat} {k : Int}
    (B : Below A₀ base outer h₀) (F : Fr h₀ L s.heap m) (X : (KW w.params).In h₀) (N : News h₀ L s.heap ((row, accObj d vs.toArray n) :: rest)) (T : Top p loose mean mg mb h₀) (hk : cs.kind = .function)
    (hd : dp + 12 < recursionLimit) (hu : un + 120 < cLine) (G : AllBare s.gens) (R : Rest rest row d k) (hA : Are rest vs []) (hkn : 0 < k) (hkm : k ≤ 10000)
    (err : ∀ q t u e g s', Rest ((q, tupObj (pcF 0) t (pcS 0) u) :: rest) row d k → Fr h₀ L g m → g.UpToSlots s'.heap → RaisedN base (envX cn cs L a ccd cl :: outer) e (.type "IndexError") ((row, accObj d vs.toArray n) :: (q, tupObj (pcF 0) t (pcS 0) u) :: rest) s'.heap → AllBare s'.gens → s'.os = s.os → E (.ref e) s') :
    wpAny (model PG w) (ktrTop dp un gd cn cs L a ccd cl outer) (call (.ref 35) [.ref row]) Q E s := by
  have hne := R.ne
  have hl : ([] : List Nat).length = 0 := rfl
  have hpos : ∀ y ∈ ([] : List Nat), 0 < y := fun _ h => nomatch h
  refine wpAny_call ?_
  k_dflt ktr_enter
  k_extra "own:steps"
  refine' err _ _ _ _ _ _ ?rr ?fg ?u ?r ?gg ?os
  (case u => with_reducible assumption)
  (case r => with_reducible assumption)
  (case fg => with_reducible assumption)
  (case rr => with_reducible assumption)
  (case gg => with_reducible assumption)
  (case os => k_extra "own:fin_os")
set_option maxHeartbeats 2000000 in
theorem pp_less {w : World} {p : Program} {loose : List Str} {mean : ExcName → Option Value} {mg mb : Str → Option Value} {dp un : Nat} {gd : Option (List Code)} {cn : Str} {cs : Scope} {a : Addr} {ccd : Value} {cl : List (Str × Addr)} {outer : List Env} {A₀ : Around} {base h₀ : Heap} {L : Addr} {m : Str → Option Value} {rest : List (Addr × Obj)} {s : Shared}
    {Q E : Value → Shared → Prop} {row d : Addr} {vs : List Value} {ks : List Nat} {n : Nat} {ia : Addr} {x : Nat}
    (B : Below A₀ base outer h₀) (F : Fr h₀ L s.heap m) (X : (KW w.params).In h₀) (N : News h₀ L s.heap ((row, accObj d vs.toArray n) :: rest)) (T : Top p loose mean mg mb h₀) (hk : cs.kind = .function)
    (hd : dp + 12 < recursionLimit) (hu : un + 120 < cLine) (G : AllBare s.gens) (R : Rest rest row d 0) (hA : Are rest vs ks) (hpos : ∀ x ∈ ks, 0 < x) (hl : ks.length ≤ 1000) (hn : 0 < ks.length) (hi : PcAt rest ia x) (hx : 0 < x) (hlt : ks.getD (Int.toNat 0) 0 < x)
    (ret : ∀ ra vs' n' s', PcAt rest ra (ks.getD 0 0) → Are rest vs' (su 0 (ks.set 0 x)) → Fr h₀ L s'.heap m → News h₀ L s'.heap ((row, accObj d vs'.toArray n') :: rest) → AllBare s'.gens → s'.os = s.os → Q (.ref ra) s') :
    wpAny (model PG w) (ktrTop dp un gd cn cs L a ccd cl outer) (call (.ref 49) [.ref row, .ref ia]) Q E s := by
  have hne := R.ne
  have hpos' : ∀ y ∈ ks.set (Int.toNat 0) x, 0 < y := by intro y hy; rcases List.mem_or_eq_of_mem_set hy with h | h; exact hpos y h; omega
  refine wpAny_call ?_
  k_dflt ktr_enter
  k_extra "own:steps"
  exact ret _ _ _ _ (by assumption) (by assumption) (by assumption) (by assumption) (by assumption) (by k_extra "own:fin_os")
set_option maxHeartbeats 2000000 in
theorem pp_keep {w : World} {p : Program} {loose : List Str} {mean : ExcName → Option Value} {mg mb : Str → Option Value} {dp un : Nat} {gd : Option (List Code)} {cn : Str} {cs : Scope} {a : Addr} {ccd : Value} {cl : List (Str × Addr)} {outer : List Env} {A₀ : Around} {base h₀ : Heap} {L : Addr} {m : Str → Option Value} {rest : List (Addr × Obj)} {s : Shared}
    {Q E : Value → Shared → Prop} {row d : Addr} {vs : List Value} {ks : List Nat} {n : Nat} {ia : Addr} {x : Nat} {k : Int}
    (B : Below A₀ base outer h₀) (F : Fr h₀ L s.heap m) (X : (KW w.params).In h₀) (N : News h₀ L s.heap ((row, accObj d vs.toArray n) :: rest)) (T : Top p loose mean mg mb h₀) (hk : cs.kind = .function)
    (hd : dp + 12 < recursionLimit) (hu : un + 120 < cLine) (G : AllBare s.gens) (R : Rest rest row d k) (hA : Are rest vs ks) (hpos : ∀ x ∈ ks, 0 < x) (hl : ks.length ≤ 1000) (hn : 0 < ks.length) (hi : PcAt rest ia x) (hx : 0 < x) (hlt : ¬ ks.getD (Int.toNat 0) 0 < x)
    (ret : ∀ s', Fr h₀ L s'.heap m → News h₀ L s'.heap ((row, accObj d vs.toArray n) :: rest) → AllBare s'.gens → s'.os = s.os → Q (.ref ia) s') :
    wpAny (model PG w) (ktrTop dp un gd cn cs L a ccd cl outer) (call (.ref 49) [.ref row, .ref ia]) Q E s := by
  have hne := R.ne
  have hk0 := R.lo
  refine wpAny_call ?_
  k_dflt ktr_enter
  k_extra "own:steps"
  exact ret _ (by assumption) (by assumption) (by assumption) (by k_extra "own:fin_os")
set_option maxHeartbeats 2000000 in
theorem pp_empty {w : World} {p : Program} {loose : List Str} {mean : ExcName → Option Value} {mg mb : Str → Option Value} {dp un : Nat} {gd : Option (List Code)} {cn : Str} {cs : Scope} {a : Addr} {ccd : Value} {cl : List (Str × Addr)} {outer : List Env} {A₀ : Around} {base h₀ : Heap} {L : Addr} {m : Str → Option Value} {rest : List (Addr × Obj)} {s : Shared}
    {Q E : Value → Shared → Prop} {row d : Addr} {vs : List Value} {ks : List Nat} {n : Nat} {ia : Addr}
    (B : Below A₀ base outer h₀) (F : Fr h₀ L s.heap m) (X : (KW w.params).In h₀) (N : News h₀ L s.heap ((row, accObj d vs.toArray n) :: rest)) (T : Top p loose mean mg mb h₀) (hk : cs.kind = .function)
    (hd : dp + 12 < recursionLimit) (hu : un + 120 < cLine) (G : AllBare s.gens) (R : Rest rest row d 0) (hA : Are rest vs [])
    (ret : ∀ s', Fr h₀ L s'.heap m → News h₀ L s'.heap ((row, accObj d vs.toArray n) :: rest) → AllBare s'.gens → s'.os = s.os → Q (.ref ia) s') :
    wpAny (model PG w) (ktrTop dp un gd cn cs L a ccd cl outer) (call (.ref 49) [.ref row, .ref ia]) Q E s := by
  have hne := R.ne
  have hl : ([] : List Nat).length = 0 := rfl
  have hpos : ∀ y ∈ ([] : List Nat), 0 < y := fun _ h => nomatch h
  refine wpAny_call ?_
  k_dflt ktr_enter
  k_extra "own:steps"
  exact ret _ (by assumption) (by assumption) (by assumption) (by k_extra "own:fin_os")
set_option maxHeartbeats 2000000 in
theorem pp_bad {w : World} {p : Program} {loose : List Str} {mean : ExcName → Option Value} {mg mb : Str → Option Value} {dp un : Nat} {gd : Option (List Code)} {cn : Str} {cs : Scope} {a : Addr} {ccd : Value} {cl : List (Str × Addr)} {outer : List Env} {A₀ : Around} {base h₀ : Heap} {L : Addr} {m : Str → Option Value} {rest : List (Addr × Obj)} {s : Shared}
    {Q E : Value → Shared → Prop} {row d : Addr} {vs : List Value} {ks : List Nat} {n : Nat} {ia : Addr} {x : Nat} {k : Int}
    (B : Below A₀ base outer h₀) (F : Fr h₀ L s.heap m) (X : (KW w.params).In h₀) (N : News h₀ L s.heap ((row, accObj d vs.toArray n) :: rest)) (T : Top p loose mean mg mb h₀) (hk : cs.kind = .function)
    (hd : dp + 12 < recursionLimit) (hu : un + 120 < cLine) (G : AllBare s.gens) (R : Rest rest row d k) (hA : Are rest vs ks) (hpos : ∀ x ∈ ks, 0 < x) (hl : ks.length ≤ 1000) (hn : 0 < ks.length) (hi : PcAt rest ia x) (hx : 0 < x) (hlt : ks.getD (Int.toNat 0) 0 < x) (hkn : (ks.length : Int) < k) (hkm : k ≤ 10000)
    (err : ∀ e g s' vs' n', Fr h₀ L g m → g.UpToSlots s'.heap → RaisedN base (envX cn cs L a ccd cl :: outer) e (.type "IndexError") ((row, accObj d vs'.toArray n') :: rest) s'.heap → Are rest vs' (slid ks.length 0 (ks.set 0 x)) → AllBare s'.gens → s'.os = s.os → E (.ref e) s') :
    wpAny (model PG w) (ktrTop dp un gd cn cs L a ccd cl outer) (call (.ref 49) [.ref row, .ref ia]) Q E s := by
  have hne := R.ne
  have hpos' : ∀ y ∈ ks.set (Int.toNat 0) x, 0 < y := by intro y hy; rcases List.mem_or_eq_of_mem_set hy with h | h; exact hpos y h; omega
  refine wpAny_call ?_
  k_dflt ktr_enter
  k_extra "own:steps"
  rename Are _ _ (slid _ _ _) => A₂
  rw [List.length_set] at A₂
  k_extra "own:fin_err"
  exact A₂
set_option maxHeartbeats 2000000 in
theorem pp_bad0 {w : World} {p : Program} {loose : List Str} {mean : ExcName → Option Value} {mg mb : Str → Option Value} {dp un : Nat} {gd : Option (List Code)} {cn : Str} {cs : Scope} {a : Addr} {ccd : Value} {cl : List (Str × Addr)} {outer : List Env} {A₀ : Around} {base h₀ : Heap} {L : Addr} {m : Str → Option Value} {rest : List (Addr × Obj)} {s : Shared}
    {Q E : Value → Shared → Prop} {row d : Addr} {vs : List Value} {ks : List Nat} {n : Nat} {ia : Addr} {k : Int}
    (B : Below A₀ base outer h₀) (F : Fr h₀ L s.heap m) (X : (KW w.params).In h₀) (N : News h₀ L s.heap ((row, accObj d vs.toArray n) :: rest)) (T : Top p loose mean mg mb h₀) (hk : cs.kind = .function)
    (hd : dp + 12 < recursionLimit) (hu : un + 120 < cLine) (G : AllBare s.gens) (R : Rest rest row d k) (hA : Are rest vs []) (hkn : 0 < k) (hkm : k ≤ 10000)
    (err : ∀ e g s' vs' n', Fr h₀ L g m → g.UpToSlots s'.heap → RaisedN base (envX cn cs L a ccd cl :: outer) e (.type "IndexError") ((row, accObj d vs'.toArray n') :: rest) s'.heap → Are rest vs' [] → AllBare s'.gens → s'.os = s.os → E (.ref e) s') :
    wpAny (model PG w) (ktrTop dp un gd cn cs L a ccd cl outer) (call (.ref 49) [.ref row, .ref ia]) Q E s := by
  have hne := R.ne
  have hl : ([] : List Nat).length = 0 := rfl
  have hpos : ∀ y ∈ ([] : List Nat), 0 < y := fun _ h => nomatch h
  refine wpAny_call ?_
  k_dflt ktr_enter
  k_extra "own:steps"
  k_extra "own:fin_err"
end Mine
end
section
open PySem PySem.W PyProof.Rows PySem.Spec PySem.Calls
set_option maxRecDepth 100000
namespace Mine
theorem start_F0 : True := by
  w_top off
  k_with_none
  (k_with "own:omega" => (first | with_reducible assumption | (refine' Mine.room2 ?h ?e; (case h => with_reducible assumption); (case e => decide)) | (refine' Mine.room1 ?h ?e; (case h => with_reducible assumption); (case e => decide)) | (refine' Mine.le_up ?h ?e; (case h => with_reducible assumption); (case e => decide)) | (refine' Mine.room0 ?h; (case h => with_reducible assumption)) | ((fail_if_success (fail_if_success omega (config := {}))); lia)))
  trivial
section
variable {w : World} {A : Around} {E : Value → Shared → Prop} {s : Shared}
theorem rangeSize_nat {b : Int} (h : 0 ≤ b) : Builtin.Range.rangeSize 0 b 1 = b := by
  unfold Builtin.Range.rangeSize
  by_cases h' : 0 < b
  · rw [if_pos (by decide), if_pos h', Int.ediv_one]; omega
  · rw [if_pos (by decide), if_neg h']; omega
theorem fitsLong {i : Int} (h : 0 ≤ i + 10) (h' : i ≤ 100000) : Builtin.Range.rangeFitsLong i = true := by
  unfold Builtin.Range.rangeFitsLong
  simp only [Bool.and_eq_true, decide_eq_true_eq]
  omega
theorem call_range_reversed {r : Addr} {b : Int} {t u v : Tok} {Q : Value → Shared → Prop} (hr : IsRange s.heap r 0 b 1 t u v) (h0 : 0 ≤ b) (h1 : b ≤ 1000)
    (h : Q (.ref s.heap.objs.size) { s with heap := s.heap.push (krsIt (b - 1) b (-1)) }) : wpAny (model PG w) A (call (.builtin "range.__reversed__") [.ref r]) Q E s := by
  have hT : s.TypeIs (.ref r) "range" := ⟨_, hr, rfl⟩
  refine wpAny_call_entry PySem.F.slot_range_reversed hT PySem.F.entry_range_reversed ?_ (PySem.F.args_range_reversed_1 _)
  unfold Builtin.«range.__reversed__»
  refine wpAny_bind (wpAny_of_eq (a := Value.ref r) rfl ?_)
  unfold Builtin.Range.rangeFields
  refine wpAny_bind (wpAny_bind (wpAny_field hr rfl (x := .int 0 t) rfl (wpAny_bind (wpAny_of_eq (a := some 0) rfl ?_))))
  refine (wpAny_bind (wpAny_field hr rfl (x := .int b u) rfl (wpAny_bind (wpAny_of_eq (a := some b) rfl ?_))))
  refine (wpAny_bind (wpAny_field hr rfl (x := .int 1 v) rfl (wpAny_bind (wpAny_of_eq (a := some 1) rfl ?_))))
  refine wpAny_pure ?_
  dsimp only
  rw [rangeSize_nat h0, fitsLong (i := 0) (by omega) (by omega), fitsLong (i := b) (by omega) (by omega), fitsLong (i := 1) (by omega) (by omega), fitsLong (i := -1) (by omega) (by omega), fitsLong (i := 0 - 1) (by omega) (by omega)]
  have e : (0 + (b - 1) * 1) = b - 1 := by omega
  rw [e]
  simp only [Bool.and_self, Bool.not_true, Bool.false_eq_true, if_false, if_true]
  first
    | exact wpAny_bind (wpAny_newObj_type (wpAny_pure ⟨_, rfl, h⟩))
    | exact wpAny_bind (wpAny_pure (wpAny_bind (wpAny_newObj_type (wpAny_pure ⟨_, rfl, h⟩))))
theorem sub_ri_reversed : isSubtype (.type "range_iterator") (.type "reversed") = pure false := by rw [isSubtype_type]; kernel_rfl
theorem code_reversed_range {r : Addr} {b : Int} {t u v : Tok} {Q₁ : Value → Shared → Prop} (hr : IsRange s.heap r 0 b 1 t u v) (h0 : 0 ≤ b) (h1 : b ≤ 1000)
    (h : Q₁ (.ref s.heap.objs.size) { s with heap := s.heap.push (krsIt (b - 1) b (-1)) }) :
    codeAny (model PG w) A (.call (.builtin "reversed.__new__") ⟨[.type "reversed", .ref r], []⟩) (wants Q₁ E) s := by
  have hT : s.TypeIs (.ref r) "range" := ⟨_, hr, rfl⟩
  refine codeAny_of_tree ?_
  show wpAny _ A.in1 (do checkBuiltinCall "reversed.__new__" ⟨[.type "reversed", .ref r], []⟩; again (.builtin "reversed.__new__" ⟨[.type "reversed", .ref r], []⟩)) _ _ s
  refine wpAny_bind (wpAny_of_eq (PySem.F.newCall_reversed_1 _) (wpAny_pure ⟨plainId_quiet PySem.F.plain_reversed_new _, codeAny_builtin PySem.F.entry_reversed_new ?_⟩))
  rw [Around.under_plainId PySem.F.plain_reversed_new _]
  unfold Builtin.«reversed.__new__»
  refine wpAny_bind (wpAny_of_eq (newClass_reversed _) ?_)
  try dsimp only
  refine wpAny_bind (wpAny_of_eq (a := ()) (by first | rfl | kernel_rfl) ?_)
  refine wpAny_bind (wpAny_of_eq (a := ()) (by first | rfl | kernel_rfl) ?_)
  try dsimp only
  refine wpAny_bind (wpAny_specialOf hT PySem.F.slot_range_reversed.lookup ?_)
  try dsimp only
  refine wpAny_bind (wpAny_of_eq (PySem.F.slot_range_reversed.bind _) ?_)
  try dsimp only
  first
  | rw [if_neg (show ¬ ((Value.builtin "range.__reversed__" == Value.none) = true) from Bool.false_ne_true)]
  | (show wpAny _ _ (if (Value.builtin "range.__reversed__" == Value.none) = true then _ else _) _ _ _; rw [if_neg (show ¬ ((Value.builtin "range.__reversed__" == Value.none) = true) from Bool.false_ne_true)])
  refine wpAny_bind (wpAny_rule ?_)
  refine wpAny_bind (m := runValue (.call (.builtin "range.__reversed__") ⟨[.ref r], []⟩)) (show wpAny _ _ (call (.builtin "range.__reversed__") [.ref r]) _ _ _ from call_range_reversed hr h0 h1 ?_)
  first
  | exact wpAny_pure h
  | exact wpAny_bind (wpAny_pure (wpAny_pure h))
theorem call_reversed_range {r : Addr} {b : Int} {t u v : Tok} {Q : Value → Shared → Prop} (hr : IsRange s.heap r 0 b 1 t u v) (h0 : 0 ≤ b) (h1 : b ≤ 1000)
    (h : Q (.ref s.heap.objs.size) { s with heap := s.heap.push (krsIt (b - 1) b (-1)) }) : wpAny (model PG w) A (call (.type "reversed") [.ref r]) Q E s := by
  refine callType_other (U := "range_iterator") (Q₁ := fun obj s₁ => obj = .ref s.heap.objs.size ∧ s₁ = { s with heap := s.heap.push (krsIt (b - 1) b (-1)) }) (by decide +kernel) PySem.F.create_reversed ⟨_, _, PySem.F.mro_reversed⟩ PySem.F.made_reversed sub_ri_reversed (PySem.F.typeCall_reversed_1 _) (code_reversed_range hr h0 h1 ⟨rfl, rfl⟩) ?_
  rintro obj s₁ ⟨rfl, rfl⟩
  exact ⟨⟨_, Heap.get?_push_size _ rfl, rfl⟩, h⟩
end
end Mine
end
section
open PySem
namespace Mine
theorem start_V1 : True := by
  w_top off
  k_with_none
  (k_with "own:omega" => (first | with_reducible assumption | (refine' Mine.room2 ?h ?e; (case h => with_reducible assumption); (case e => decide)) | (refine' Mine.room1 ?h ?e; (case h => with_reducible assumption); (case e => decide)) | (refine' Mine.le_up ?h ?e; (case h => with_reducible assumption); (case e => decide)) | (refine' Mine.room0 ?h; (case h => with_reducible assumption)) | ((fail_if_success (fail_if_success omega (config := {}))); lia)))
  trivial
theorem set_swap {l : List Nat} {i j x : Nat} (hi : i < l.length) (hj : j < l.length) : ((l.set i (l.getD j 0)).set j x).Perm (l.set i x) := by
  by_cases hij : i = j
  · subst hij
    rw [List.set_set]
  · rw [List.perm_iff_count]
    intro a
    have hj' : j < (l.set i (l.getD j 0)).length := by simpa using hj
    rw [List.count_set hj', List.count_set hi, List.count_set hi]
    have e1 : (l.set i (l.getD j 0))[j] = l[j] := by rw [List.getElem_set_ne hij]
    have e2 : l.getD j 0 = l[j] := by simp [hj]
    rw [e1, e2]
    have h1 : (l[i] == a) = true → 0 < l.count a := by
      intro h; rw [List.count_pos_iff]; have := beq_iff_eq.mp h; rw [← this]; exact List.getElem_mem _
    by_cases p1 : (l[i] == a) = true <;> by_cases p2 : (l[j] == a) = true <;> by_cases p3 : (x == a) = true <;> simp [p1, p2, p3] <;> have := h1 <;> simp_all <;> omega
theorem sd_perm (x sp : Nat) : ∀ (pos : Nat) (ks : List Nat), pos < ks.length → (sd x sp pos ks).Perm (ks.set pos x) := by
  intro pos
  induction pos using Nat.strongRecOn with
  | _ pos ih =>
    intro ks h
    rw [sd]
    split
    · split
      · exact (ih _ (by omega) _ (by simp; omega)).trans (set_swap h (by omega))
      · exact .refl _
    · exact .refl _
theorem chd_lt_len {n pos : Nat} {ks : List Nat} (h : 2 * pos + 1 < n) : chd n pos ks < n := by
  unfold chd; split <;> omega
theorem suGo_perm (n x : Nat) : ∀ (q pos : Nat) (ks : List Nat), n - pos = q → ks.length = n → pos < n → (suGo n pos ks).1 < n ∧ (suGo n pos ks).2.length = n ∧ ((suGo n pos ks).2.set (suGo n pos ks).1 x).Perm (ks.set pos x) := by
  intro q
  induction q using Nat.strongRecOn with
  | _ q ih =>
    intro pos ks hq hl hp
    rw [suGo]
    split
    · rename_i h
      have h1 := chd_lt n pos ks
      have h2 := chd_lt_len (ks := ks) h
      obtain ⟨a, b, c⟩ := ih (n - chd n pos ks) (by omega) (chd n pos ks) (ks.set pos (ks.getD (chd n pos ks) 0)) rfl (by simpa using hl) h2
      exact ⟨a, b, c.trans (set_swap (by omega) (by omega))⟩
    · exact ⟨hp, hl, .refl _⟩
theorem su_perm {pos : Nat} {ks : List Nat} (h : pos < ks.length) : (su pos ks).Perm ks := by
  obtain ⟨a, b, c⟩ := suGo_perm ks.length (ks.getD pos 0) _ pos ks rfl rfl h
  have := sd_perm (ks.getD pos 0) pos (suGo ks.length pos ks).1 ((suGo ks.length pos ks).2.set (suGo ks.length pos ks).1 (ks.getD pos 0)) (by simp; omega)
  rw [List.set_set] at this
  refine (show (su pos ks).Perm _ from this).trans (c.trans ?_)
  have e : ks.set pos (ks.getD pos 0) = ks := by
    have : ks.getD pos 0 = ks[pos] := by simp [h]
    rw [this, List.set_getElem_self]
  rw [e]
theorem su_length {pos : Nat} {ks : List Nat} (h : pos < ks.length) : (su pos ks).length = ks.length := (su_perm h).length_eq
/-- heapify -/
noncomputable def hfy : Nat → List Nat → List Nat
  | 0, ks => ks
  | i + 1, ks => hfy i (su i ks)
theorem hfy_perm : ∀ (i : Nat) (ks : List Nat), i ≤ ks.length → (hfy i ks).Perm ks
  | 0, _, _ => .refl _
  | i + 1, ks, h => (hfy_perm i (su i ks) (by rw [su_length (by omega)]; omega)).trans (su_perm (by omega))
/-- the slide keeps the length -/
theorem slid_length (n : Nat) : ∀ (q pos : Nat) (ks : List Nat), n - pos = q → (slid n pos ks).length = ks.length := by
  intro q
  induction q using Nat.strongRecOn with
  | _ q ih =>
    intro pos ks hq
    rw [slid]
    split
    · have h1 := chd_lt n pos ks
      rw [ih (n - chd n pos ks) (by omega) _ _ rfl]; simp
    · rfl
theorem slid_pos (n : Nat) : ∀ (q pos : Nat) (ks : List Nat), n - pos = q → n = ks.length → (∀ x ∈ ks, 0 < x) → ∀ x ∈ slid n pos ks, 0 < x := by
  intro q
  induction q using Nat.strongRecOn with
  | _ q ih =>
    intro pos ks hq hn hp
    rw [slid]
    split
    · rename_i h
      have h1 := chd_lt n pos ks
      have h2 := chd_lt_len (ks := ks) (show 2 * pos + 1 < n by omega)
      refine ih (n - chd n pos ks) (by omega) _ _ rfl (by simpa using hn) ?_
      intro y hy
      rcases List.mem_or_eq_of_mem_set hy with h | h
      · exact hp y h
      · rw [h]
        have : ks.getD (chd n pos ks) 0 = ks[chd n pos ks]'(by omega) := by simp [show chd n pos ks < ks.length by omega]
        rw [this]; exact hp _ (List.getElem_mem _)
    · exact hp
end Mine
end
section
open PySem PySem.W PyProof.Rows PySem.Spec PySem.Calls
set_option maxRecDepth 100000
namespace Mine
theorem start_F1 : True := by
  w_top off
  k_with_none
  (k_with "own:omega" => (first | with_reducible assumption | (refine' Mine.room2 ?h ?e; (case h => with_reducible assumption); (case e => decide)) | (refine' Mine.room1 ?h ?e; (case h => with_reducible assumption); (case e => decide)) | (refine' Mine.le_up ?h ?e; (case h => with_reducible assumption); (case e => decide)) | (refine' Mine.room0 ?h; (case h => with_reducible assumption)) | ((fail_if_success (fail_if_success omega (config := {}))); lia)))
  trivial
section
variable {w : World} {A : Around} {E : Value → Shared → Prop} {s : Shared} {env : Env} {h₀ : Heap} {m : Str → Option Value} {news : List (Addr × Obj)}
/-- what a turn of a loop leaves -/
noncomputable def TurnEnd (h₀ : Heap) (L I : Addr) (St : Nat → Heap → Prop) (J : Nat → Array GenState → OsState → (Str → Option Value) → List (Addr × Obj) → Prop) (Q : Flow → Shared → Prop) (i : Nat) (f : Flow) (s₃ : Shared) : Prop :=
  match f with
  | .next | .cont => ∃ m₂ news₂, Fr h₀ L s₃.heap m₂ ∧ News h₀ L s₃.heap news₂ ∧ (∀ p ∈ news₂, p.1 ≠ I) ∧ St (i + 1) s₃.heap ∧ J (i + 1) s₃.gens s₃.os m₂ news₂
  | .brk => Q .next s₃
  | .ret v => Q (.ret v) s₃
/-- a for loop over a walk, its body free to turn the state -/
theorem loopS {Q : Flow → Shared → Prop} {x : Str} {px : Pos} {body : List Stmt} {I L : Addr} {fp : List Addr} {n : Nat} {P : Nat → Value → Prop} {St : Nat → Heap → Prop} (J : Nat → Array GenState → OsState → (Str → Option Value) → List (Addr × Obj) → Prop)
    (W : Walks PG w A I fp [I] n P St) (hx : env.kindOf x = some .local) (hp : (env.scope.kind == .class || (env.scope.kind == .module && env.locals != env.globals)) = false)
    (hL : L ∉ fp) (hI : h₀.get? I = none) (hst : St 0 s.heap) (F : Fr h₀ L s.heap m) (N : News h₀ L s.heap news) (hoff : ∀ p ∈ news, p.1 ≠ I) (h0 : J 0 s.gens s.os m news)
    (step : ∀ i v s₁ m₁ news₁, i < n → P i v → St (i + 1) s₁.heap → Fr h₀ L s₁.heap (fun y => if y = x then some v else m₁ y) → News h₀ L s₁.heap news₁ → (∀ p ∈ news₁, p.1 ≠ I) → J i s₁.gens s₁.os m₁ news₁ →
      wpAny (model PG w) A (execs body env) (TurnEnd h₀ L I St J Q i) E s₁)
    (hQ : ∀ s' m' news', Fr h₀ L s'.heap m' → News h₀ L s'.heap news' → J n s'.gens s'.os m' news' → Q .next s')
    (hloc : env.locals = L := by rfl) (hE : PassesOwn (model PG w) A env E := by passes_own) :
    codeAny (model PG w) A (.forLoop (.Name x px) (.ref I) body [] env) (fun r s' => match r with | .ok f => Q f s' | .error e => cameBackBy (model PG w) A env E e s') s := by
  subst hloc
  have hLI : env.locals ≠ I := fun e => hL (W.sub _ (by rw [e]; simp))
  refine codeAny_forLoop (fun k s' => ∃ m' news' i, St i s'.heap ∧ Fr h₀ env.locals s'.heap m' ∧ News h₀ env.locals s'.heap news' ∧ (∀ p ∈ news', p.1 ≠ I) ∧ J i s'.gens s'.os m' news' ∧ i ≤ n ∧ k = n + 1 - i) ?_ (n + 1)
    ⟨m, news, 0, hst, F, N, hoff, h0, Nat.zero_le _, rfl⟩
  rintro k s' ⟨m', news', i, hst', F', N', hoff', hJ, hi, rfl⟩
  have next : ∀ h₁ : Heap, (∀ b o, b ∉ [I] → s'.heap.get? b = some o → h₁.get? b = some o) → Fr h₀ env.locals h₁ m' ∧ News h₀ env.locals h₁ news' := fun h₁ hk₁ =>
    ⟨⟨F'.ns.at' fun o e => hk₁ _ o (by simpa using hLI) e, fun b o e => hk₁ b o (by simp; intro q; rw [q, hI] at e; cases e) (F'.keep b o e), F'.above⟩, fun p hp => ⟨hk₁ _ _ (by simpa using hoff' p hp) (N' p hp).1, (N' p hp).2⟩⟩
  by_cases hlt : i < n
  · refine W.item i _ _ _ hlt hst' fun v h₁ tk₁ hP hst₁ hk₁ => ?_
    obtain ⟨F₁, N₁⟩ := next h₁ hk₁
    refine wpAny_assign_Name (wpAny_storeName_local hx F₁.ns (fun h₂ hn₂ hs₂ => ?_) hp)
    have F₂ := F₁.set hn₂ hs₂
    have hst₂ : St (i + 1) h₂ := W.frame _ _ _ hst₁ fun b hb o e => (hs₂.2 b fun q => hL (q ▸ hb)).trans e
    refine wpAny_mono (wpAny_passesOwn hE (step i v { s' with heap := h₂, toks := _ } m' news' hlt hP hst₂ F₂ (N₁.set hs₂) hoff' hJ)) (fun f s₃ h₃ => ?_) fun _ _ e => e
    cases f with
    | next => obtain ⟨m₂, news₂, F₃, N₃, ho₃, hst₃, hJ₃⟩ := h₃; exact ⟨n + 1 - (i + 1), by omega, m₂, news₂, i + 1, hst₃, F₃, N₃, ho₃, hJ₃, hlt, rfl⟩
    | cont => obtain ⟨m₂, news₂, F₃, N₃, ho₃, hst₃, hJ₃⟩ := h₃; exact ⟨n + 1 - (i + 1), by omega, m₂, news₂, i + 1, hst₃, F₃, N₃, ho₃, hJ₃, hlt, rfl⟩
    | brk => exact h₃
    | ret v => exact h₃
  · have hin : i = n := by omega
    subst hin
    refine W.done _ _ _ hst' fun h₁ tk₁ hk₁ => wpAny_execs_nil ?_
    obtain ⟨F₁, N₁⟩ := next h₁ hk₁
    exact hQ { s' with heap := h₁, toks := tk₁ } m' news' F₁ N₁ hJ
end
theorem lines_F1_0 : True := by
  (k_with "own:lomega" => first | omega | (simp only [List.length_append, List.length_cons, List.length_nil, List.length_set] at *; omega))
  (k_with "own:k_mem" => with_reducible_and_instances assumption)
  (k_with "subscriptTail" => (k_here; (with_reducible show wpAny _ _ (subscriptTail _ _ (Value.ref _) (Value.int _ _)) _ _ _); (k_dflt (refine' accK_out ?k0 ?k1 ?k2 ?k3 ?k4 ?k5 ?k6 ?k7 ?_ ?k9; (case k0 => exact rfl); (case k1 => k_asm); (case k2 => k_asm); (case k3 => k_asm); (case k4 => k_mem); (case k5 => k_asm); (case k6 => k_extra "own:lomega"); (case k7 => k_extra "own:lomega"); (case k9 => with_unfolding_all rfl); k_whole)); intro _ _ _ _))
  (k_with "subscriptTail" => (k_here; (with_reducible show wpAny _ _ (subscriptTail _ _ (Value.ref _) (Value.int _ _)) _ _ _); (k_dflt (refine' accK_sub ?k1 ?k2 ?k3 ?k4 ?k5 ?k6 ?k7 ?k8 ?_ ?k9; (case k1 => k_asm); (case k2 => k_asm); (case k3 => k_asm); (case k4 => k_mem); (case k5 => k_asm); (case k6 => k_extra "own:lomega"); (case k7 => k_extra "own:lomega"); (case k8 => k_extra "own:lomega"); (case k9 => with_unfolding_all rfl); k_whole)); intro _ _ _))
  (k_with "compareOp Lt ref" => (k_here; (k_dflt (refine' pcK_lt ?k1 ?k2 ?k3 ?k4 ?k5 ?_; (case k2 => k_asm); (case k4 => k_asm); (case k5 => k_asm); (case k3 => first | exact fun _ h => h | exact fun _ h => .tail _ h | exact fun _ h => .tail _ (.tail _ h)); (case k1 => ktr_units); k_whole))))
  (k_with "setItem ref int" => (k_here; (k_dflt (refine' accK_set ?k1 ?k2 ?k3 ?k4 ?kr ?ke ?k5 ?kx ?k6 ?k7 ?k8 ?_; (case k1 => k_asm); (case k2 => k_asm); (case k3 => k_asm); (case k4 => k_mem); (case k5 => k_asm); (case kx => k_asm); (case kr => first | exact fun _ h => h | exact fun _ h => .tail _ h | exact fun _ h => .tail _ (.tail _ h)); (case ke => k_asm); (case k6 => k_extra "own:lomega"); (case k7 => k_extra "own:lomega"); (case k8 => k_extra "own:lomega"); k_whole)); intro _ _ _ _ _; (try k_sweep)))
  (k_with "call builtin:len" => (k_here; (with_reducible show wpAny _ _ (call (Value.builtin "len") [Value.ref _]) _ _ _); (k_dflt (refine' accK_len ?k1 ?k2 ?k3 ?k4 ?k5 ?k6 ?k7 ?k8 ?k9 ?ka ?kb ?kc ?kd ?_; (case k1 => k_asm); (case k2 => k_asm); (case k3 => k_asm); (case k4 => k_asm); (case k5 => k_asm); (case k6 => first | exact rfl | assumption); (case k7 => ktr_room); (case k8 => ktr_units); (case k9 => assumption); (case ka => assumption); (case kb => assumption); (case kc => assumption); (case kd => k_extra "own:lomega"); k_whole)); intro _ _ _ _ _ _))
  (k_with "own:steps" => repeat' (first | (k_unfold; (try dsimp only)) | ((fail_if_success (with_reducible show wpAny _ _ (exec (Stmt.While _ _ _ _) _) _ _ _)); (first | walk1 | (dsimp only; walk1) | fail "no step"))))
  (k_with "getMethod ref" => (k_here; k_dflt (refine' accK_methodR ?k1 ?k2 ?k3 ?k4 ?k5 ?k6 ?k7 ?k8 ?k9 ?ka ?_; (case k1 => k_asm); (case k2 => k_asm); (case k3 => k_asm); (case k4 => k_asm); (case k5 => k_mem); (case k6 => first | exact fun _ h => h | exact fun _ h => .tail _ h | exact fun _ h => .tail _ (.tail _ h)); (case k7 => k_is); (case k8 => k_is); (case k9 => first | exact .inl rfl | exact .inr rfl); (case ka => decide); k_whole)))
  (k_with "call builtin:list.append" => (k_here; (k_dflt (refine' accK_append ?k1 ?k2 ?k3 ?k4 ?k5 ?k6 ?k7 ?_; (case k1 => k_asm); (case k2 => k_asm); (case k3 => k_asm); (case k4 => k_asm); (case k5 => k_asm); (case k6 => k_asm); (case k7 => k_extra "own:lomega"); k_whole)); intro _ _ _ _ _ _ _; (try k_sweep)))
  (k_with "call ref" => (k_here; (k_dflt (show wpAny _ _ (call (Value.ref 63) [Value.ref _, Value.int _ _, Value.int _ _]) _ _ _)); k_dflt (refine' siftdownZ ?k1 ?k2 ?k3 ?k4 ?k5 ?k6 ?k7 ?k8 ?k9 ?ka ?kx ?ky ?kb ?kc ?_; (case kx => k_extra "own:lomega"); (case ky => k_extra "own:lomega"); (case k1 => k_asm); (case k2 => k_asm); (case k3 => k_asm); (case k4 => k_asm); (case k5 => k_asm); (case k6 => first | exact rfl | assumption); (case k7 => ktr_room); (case k8 => ktr_units); (case k9 => assumption); (case ka => assumption); (case kb => k_extra "own:lomega"); (case kc => k_extra "own:lomega"); k_whole); intro _ _ _ _ _ _; (try dsimp only); (try k_sweep)))
  (k_with "call ref" => (k_here; (k_dflt (show wpAny _ _ (call (Value.ref 63) [Value.ref _, Value.int _ _, Value.int _ _]) _ _ _)); k_dflt (refine' siftdown_bad ?k1 ?k2 ?k3 ?k4 ?k5 ?k6 ?k7 ?k8 ?k9 ?ka ?kb ?kc ?kd ?_; (case k1 => k_asm); (case k2 => k_asm); (case k3 => k_asm); (case k4 => k_asm); (case k5 => k_asm); (case k6 => first | exact rfl | assumption); (case k7 => ktr_room); (case k8 => ktr_units); (case k9 => assumption); (case ka => assumption); (case kb => k_extra "own:lomega"); (case kc => k_extra "own:lomega"); (case kd => k_extra "own:lomega"); k_whole); intro _ _ _ _ _ _ _ _))
  (k_with "own:fin_os" => (first | rfl | assumption | (simp only [] at *; simp only [*])))
  (k_with "own:fin_err" => (refine' err _ _ _ _ _ ?fg ?u ?r ?ar ?gg ?os; (case u => with_reducible assumption); (case r => with_reducible assumption); (case fg => with_reducible assumption); (try (case ar => with_reducible assumption)); (try (case gg => with_reducible assumption)); (try (case os => k_extra "own:fin_os"))))
  (k_with "call ref" => (k_here; (k_dflt (show wpAny _ _ (call (Value.ref 70) [Value.ref _, Value.int 0 _]) _ _ _)); k_dflt (refine' siftup0 ?k1 ?k2 ?k3 ?k4 ?k5 ?k6 ?k7 ?k8 ?k9 ?ka ?kb ?kc ?kd ?ke ?_; (case k1 => k_asm); (case k2 => k_asm); (case k3 => k_asm); (case k4 => k_asm); (case k5 => k_asm); (case k6 => first | exact rfl | assumption); (case k7 => ktr_room); (case k8 => ktr_units); (case k9 => assumption); (case ka => assumption); (case kb => assumption); (case kc => assumption); (case kd => k_extra "own:lomega"); (case ke => k_extra "own:lomega"); k_whole); intro _ _ _ _ _ _ _; (try dsimp only)))
  (k_with "call ref" => (k_here; (k_dflt (show wpAny _ _ (call (Value.ref 70) [Value.ref _, Value.int 0 _]) _ _ _)); k_dflt (refine' siftup_bad0 ?k1 ?k2 ?k3 ?k4 ?k5 ?k6 ?k7 ?k8 ?k9 ?ka ?kb ?kc ?kd ?ke ?kf ?kg ?_; (case k1 => k_asm); (case k2 => k_asm); (case k3 => k_asm); (case k4 => k_asm); (case k5 => k_asm); (case k6 => first | exact rfl | assumption); (case k7 => ktr_room); (case k8 => ktr_units); (case k9 => assumption); (case ka => assumption); (case kb => assumption); (case kc => assumption); (case kd => k_extra "own:lomega"); (case ke => k_extra "own:lomega"); (case kf => k_extra "own:lomega"); (case kg => k_extra "own:lomega"); k_whole); intro _ _ _ _ _ _ _ _ _ _))
  (k_with "call ref" => (k_here; (k_dflt (show wpAny _ _ (call (Value.ref 110) [Value.ref _]) _ _ _)); k_dflt (refine' pop_last ?k1 ?k2 ?k3 ?k4 ?k5 ?k6 ?k7 ?k8 ?k9 ?ka ?kb ?_; (case k1 => k_asm); (case k2 => k_asm); (case k3 => k_asm); (case k4 => k_asm); (case k5 => k_asm); (case k6 => first | exact rfl | assumption); (case k7 => ktr_room); (case k8 => ktr_units); (case k9 => assumption); (case ka => assumption); (case kb => k_extra "own:lomega"); k_whole); intro _ _ _ _ _ _ _ _ _; (try dsimp only); (try k_sweep)))
  (k_with "truthy ref" => (k_here; (k_dflt (refine' accK_yes (Q := fun _ _ => True) ?k1 ?k2 ?k3 ?k4 ?k5 ?k6 ?k7 ?k8 ?k9 ?ka ?kb ?kc ?kd ?ke ?_; (case k1 => k_asm); (case k2 => k_asm); (case k3 => k_asm); (case k4 => k_asm); (case k5 => k_asm); (case k6 => first | exact rfl | assumption); (case k7 => ktr_room); (case k8 => ktr_units); (case k9 => assumption); (case ka => assumption); (case kb => assumption); (case kc => assumption); (case kd => k_extra "own:lomega"); (case ke => k_extra "own:lomega"); k_whole)); intro _ _ _ _ _))
  (k_with "truthy ref" => (k_here; (k_dflt (refine' accK_no (Q := fun _ _ => True) ?k1 ?k2 ?k3 ?k4 ?k5 ?k6 ?k7 ?k8 ?k9 ?ka ?kb ?kc ?kd ?ke ?_; (case k1 => k_asm); (case k2 => k_asm); (case k3 => k_asm); (case k4 => k_asm); (case k5 => k_asm); (case k6 => first | exact rfl | assumption); (case k7 => ktr_room); (case k8 => ktr_units); (case k9 => assumption); (case ka => assumption); (case kb => assumption); (case kc => assumption); (case kd => k_extra "own:lomega"); (case ke => k_extra "own:lomega"); k_whole)); intro _ _ _ _ _))
  (k_with "call ref" => (k_here; (k_dflt (show wpAny _ _ (call (Value.ref 110) [Value.ref _]) _ _ _)); k_dflt (refine' pop_none' (ks := []) ?k1 ?k2 ?k3 ?k4 ?k5 ?k6 ?k7 ?k8 ?k9 ?ka ?_; (case k1 => k_asm); (case k2 => k_asm); (case k3 => k_asm); (case k4 => k_asm); (case k5 => k_asm); (case k6 => first | exact rfl | assumption); (case k7 => ktr_room); (case k8 => ktr_units); (case k9 => assumption); (case ka => assumption); k_whole); intro _ _ _ _ _ _ _ _ _; (try dsimp only); (try k_sweep)))
  (k_with "own:steps" => repeat' (first | (k_unfold; (try dsimp only)) | ((fail_if_success (with_reducible show wpAny _ _ (exec (Stmt.For _ _ _ _ _) _) _ _ _)); (first | walk1 | (dsimp only; walk1) | fail "no step"))))
  trivial
theorem PcAt.less {rest : List (Addr × Obj)} {q a : Addr} {o : Obj} {k : Nat} (hno : ∀ x t y u, o ≠ tupObj x t y u) : PcAt ((q, o) :: rest) a k → PcAt rest a k := by
  rintro ⟨h, t, u, hm⟩
  rcases List.mem_cons.mp hm with e | hm
  · exact absurd (Prod.mk.inj e).2.symm (hno _ _ _ _)
  · exact ⟨h, t, u, hm⟩
theorem Are.less {rest : List (Addr × Obj)} {q : Addr} {o : Obj} (hno : ∀ x t y u, o ≠ tupObj x t y u) : ∀ {vs : List Value} {ks : List Nat}, Are ((q, o) :: rest) vs ks → Are rest vs ks
  | [], [], _ => trivial
  | _ :: _, _ :: _, ⟨⟨a, e, h⟩, r⟩ => ⟨⟨a, e, h.less hno⟩, r.less hno⟩
theorem News.cons' {h₀ h : Heap} {L I : Addr} {o : Obj} {news : List (Addr × Obj)} (N : News h₀ L h news) (h1 : h.get? I = some o) (h2 : I ≠ L) (h3 : h₀.get? I = none) : News h₀ L h ((I, o) :: news) := fun p hp => by
  rcases List.mem_cons.mp hp with rfl | hp
  · exact ⟨h1, h2, h3⟩
  · exact N p hp
theorem newsOf {h₀ h : Heap} {L : Addr} {news led : List (Addr × Obj)} (N : News h₀ L h news) (hs : ∀ p ∈ led, p ∈ news) : News h₀ L h led := fun p hp => N p (hs p hp)
theorem News.mid {h₀ h : Heap} {L I : Addr} {o : Obj} {p₀ : Addr × Obj} {news : List (Addr × Obj)} (N : News h₀ L h (p₀ :: news)) (h1 : h.get? I = some o) (h2 : I ≠ L) (h3 : h₀.get? I = none) : News h₀ L h (p₀ :: (I, o) :: news) := fun p hp => by
  rcases List.mem_cons.mp hp with rfl | hp
  · exact N _ (.head _)
  · rcases List.mem_cons.mp hp with rfl | hp
    · exact ⟨h1, h2, h3⟩
    · exact N p (.tail _ hp)
theorem grow {rest : List (Addr × Obj)} {row d q : Addr} {k : Int} {o : Obj} {vs : List Value} {ks : List Nat} (R : Rest rest row d k) (hA : Are rest vs ks) (h : q ≠ row) : Rest ((q, o) :: rest) row d k ∧ Are ((q, o) :: rest) vs ks :=
  ⟨R.more h, hA.mono fun _ h => .tail _ h⟩
theorem siftupZ {w : World} {p : Program} {loose : List Str} {mean : ExcName → Option Value} {mg mb : Str → Option Value} {dp un : Nat} {gd : Option (List Code)} {cn : Str} {cs : Scope} {a : Addr} {ccd : Value} {cl : List (Str × Addr)} {outer : List Env} {A₀ : Around} {base h₀ : Heap} {L : Addr} {m : Str → Option Value} {rest : List (Addr × Obj)} {s : Shared}
    {Q E : Value → Shared → Prop} {row d : Addr} {vs : List Value} {ks : List Nat} {n : Nat} {z : Int} {t1 : Tok}
    (B : Below A₀ base outer h₀) (F : Fr h₀ L s.heap m) (X : (KW w.params).In h₀) (N : News h₀ L s.heap ((row, accObj d vs.toArray n) :: rest)) (T : Top p loose mean mg mb h₀) (hk : cs.kind = .function)
    (hd : dp + 9 < recursionLimit) (hu : un + 90 < cLine) (G : AllBare s.gens) (R : Rest rest row d 0) (hA : Are rest vs ks) (hpos : ∀ x ∈ ks, 0 < x) (hz : 0 ≤ z) (hp : z < ks.length) (hl : ks.length ≤ 1000)
    (ret : ∀ vs' s', Are rest vs' (su z.toNat ks) → Fr h₀ L s'.heap m → News h₀ L s'.heap ((row, accObj d vs'.toArray n) :: rest) → AllBare s'.gens → s'.os = s.os → Q .none s') :
    wpAny (model PG w) (ktrTop dp un gd cn cs L a ccd cl outer) (call (.ref 70) [.ref row, .int z t1]) Q E s := by
  obtain ⟨a1, rfl⟩ := Int.eq_ofNat_of_zero_le hz
  exact siftup B F X N T hk hd hu G R hA hpos (by omega) hl ret
theorem lines_F1_1 : True := by
  (k_with "call ref" => (k_here; (k_dflt (show wpAny _ _ (call (Value.ref 70) [Value.ref _, Value.int _ _]) _ _ _)); k_dflt (refine' siftupZ ?k1 ?k2 ?k3 ?k4 ?k5 ?k6 ?k7 ?k8 ?k9 ?ka ?kb ?kc ?kz ?kd ?ke ?_; (case k1 => k_asm); (case k2 => k_asm); (case k3 => k_asm); (case k4 => k_asm); (case k5 => k_asm); (case k6 => first | exact rfl | assumption); (case k7 => ktr_room); (case k8 => ktr_units); (case k9 => assumption); (case ka => assumption); (case kb => assumption); (case kc => assumption); (case kz => k_extra "own:lomega"); (case kd => k_extra "own:lomega"); (case ke => k_extra "own:lomega"); k_whole); intro _ _ _ _ _ _ _; (try dsimp only)))
  trivial
set_option maxHeartbeats 2000000 in
theorem heapify_ok {w : World} {p : Program} {loose : List Str} {mean : ExcName → Option Value} {mg mb : Str → Option Value} {dp un : Nat} {gd : Option (List Code)} {cn : Str} {cs : Scope} {a : Addr} {ccd : Value} {cl : List (Str × Addr)} {outer : List Env} {A₀ : Around} {base h₀ : Heap} {L : Addr} {m : Str → Option Value} {rest : List (Addr × Obj)} {s : Shared}
    {Q E : Value → Shared → Prop} {row d : Addr} {vs : List Value} {ks : List Nat} {n : Nat}
    (B : Below A₀ base outer h₀) (F : Fr h₀ L s.heap m) (X : (KW w.params).In h₀) (N : News h₀ L s.heap ((row, accObj d vs.toArray n) :: rest)) (T : Top p loose mean mg mb h₀) (hk : cs.kind = .function)
    (hd : dp + 15 < recursionLimit) (hu : un + 150 < cLine) (G : AllBare s.gens) (R : Rest rest row d 0) (hA : Are rest vs ks) (hpos : ∀ x ∈ ks, 0 < x) (hl : ks.length ≤ 1000)
    (ret : ∀ vs' s', Are rest vs' (hfy (ks.length / 2) ks) → Fr h₀ L s'.heap m → News h₀ L s'.heap ((row, accObj d vs'.toArray n) :: rest) → AllBare s'.gens → s'.os = s.os → Q .none s') :
    wpAny (model PG w) (ktrTop dp un gd cn cs L a ccd cl outer) (call (.ref 56) [.ref row]) Q E s := by
  have hne := R.ne
  refine wpAny_call ?_
  k_dflt ktr_enter
  k_extra "own:steps"
  refine wpAny_For ?_
  k_extra "own:steps"
  rename IsRange _ _ _ _ _ _ _ _ => hr
  rename Fr _ _ _ _ => lF
  rename News _ _ _ _ => lN
  rename AllBare _ => lG
  rename (_ = (_ : OsState)) => hos
  rename Below _ _ _ _ => lB
  rename KW _ |>.In _ => lX
  rename Top _ _ _ _ _ _ => lT
  have eb : (0 + (ks.length : Int)).fdiv 2 = ((ks.length / 2 : Nat) : Int) := by rw [Int.fdiv_eq_ediv_of_nonneg _ (by decide)]; omega
  rw [eb] at hr
  dsimp only at hos
  refine call_reversed_range hr (by omega) (by omega) ?_
  refine wpAny_pyIter_rangeiter (Heap.get?_push_size _ rfl) ?_
  rename Fr h₀ _ _ _ => FG
  have lt := Heap.lt_size (lN.get (.head _))
  have lL := lF.ns.lt
  have lfr := lF.fresh
  generalize hh : Shared.heap _ = hx at *
  refine loopS (J := fun i g os m₁ news₁ => ∃ (vs' : List Value) (ks' : List Nat), news₁ = (row, accObj d vs'.toArray n) :: rest ∧ Are rest vs' ks' ∧ ks'.length = ks.length ∧ (∀ x ∈ ks', 0 < x) ∧ hfy (ks.length / 2 - i) ks' = hfy (ks.length / 2) ks ∧ AllBare g ∧ os = s.os ∧ m₁ (Str.ofString "x") = some (.ref row))
    (Walks.range rfl _ (((ks.length / 2 : Nat) : Int) - 1) (-1) (ks.length / 2)) rfl rfl ?_ lfr ?_ (lF.push _) (lN.pushKeep _) ?_ ⟨vs, ks, rfl, hA, rfl, hpos, rfl, lG, hos, rfl⟩ ?_ ?_
  · exact fun h => Nat.lt_irrefl _ (List.mem_singleton.mp h ▸ lL)
  · show IsRangeIter _ _ _ _ _
    have e1 : ((ks.length / 2 : Nat) : Int) - 1 + ((0 : Nat) : Int) * -1 = ((ks.length / 2 : Nat) : Int) - 1 := by omega
    have e2 : ((ks.length / 2 : Nat) : Int) - ((0 : Nat) : Int) = ((ks.length / 2 : Nat) : Int) := by omega
    rw [e1, e2]
    exact Heap.get?_push_size _ rfl
  · exact lN.apart
  · rintro i v s₁ m₁ news₁ hi ⟨ti, rfl⟩ hst F₁ N₁ off ⟨vs', ks', rfl, A₁, hl₁, hp₁, he, hG, ho, hm⟩
    have hrow : row ≠ _ := off _ (.head _)
    replace F₁ := at2 (x1 := Str.ofString "x") (x2 := Str.ofString "i") F₁ (by rw [if_neg (by decide)]; exact hm) (by rw [if_pos rfl])
    obtain ⟨oI, eo⟩ : ∃ o : Obj, o = krsIt ((((ks.length / 2 : Nat) : Int)) - 1 + ((i + 1 : Nat) : Int) * -1) ((((ks.length / 2 : Nat) : Int)) - ((i + 1 : Nat) : Int)) (-1) := ⟨_, rfl⟩
    have hno : ∀ x t y u, oI ≠ tupObj x t y u := by intro x t y u e; rw [eo] at e; exact absurd (congrArg Obj.cls e) (by simp [krsIt, tupObj])
    have N₂ := News.mid (o := oI) N₁ (eo ▸ hst) (Nat.ne_of_gt lL) lfr
    obtain ⟨R₂, A₂⟩ := grow (o := oI) R A₁ hrow.symm
    have hi' : i < ks.length / 2 := hi
    clear lF lN hA A₁ N₁ R
    k_extra "own:steps"
    rename Are _ _ (su _ _) => A₃
    rename Fr _ _ _ _ => F₃
    rename News _ _ _ _ => N₃
    rename AllBare _ => G₃
    rename (_ = (_ : OsState)) => ho₃
    have ez : ((((ks.length / 2 : Nat) : Int)) - 1 + (i : Int) * -1).toNat = ks.length / 2 - (i + 1) := by omega
    rw [ez] at A₃
    refine ⟨_, _, F₃, newsOf (led := (row, _) :: rest) N₃ (fun z hz => ?_), fun z hz => ?_, ?_, _, _, rfl, A₃.less hno, ?_, ?_, ?_, G₃, ho₃.trans ho, rfl⟩
    · rcases List.mem_cons.mp hz with rfl | hz
      · exact .head _
      · exact .tail _ (.tail _ hz)
    · rcases List.mem_cons.mp hz with rfl | hz
      · exact hrow
      · exact off _ (.tail _ hz)
    · have := N₃.get (.tail _ (.head _))
      rw [eo] at this
      exact this
    · rw [su_length (by omega), hl₁]
    · exact fun x hx => hp₁ x ((su_perm (by omega)).mem_iff.mp hx)
    · rw [← he]
      have : ks.length / 2 - i = (ks.length / 2 - (i + 1)) + 1 := by omega
      rw [this]
      rfl
  · rintro s₁ m₁ news₁ F₁ N₁ ⟨vs', ks', rfl, A₁, hl₁, hp₁, he, hG, ho, hm⟩
    rw [Nat.sub_self] at he
    replace he : ks' = _ := he
    subst he
    clear lF lN
    dsimp only
    k_extra "own:steps"
    exact ret _ _ A₁ (by assumption) (by assumption) hG ho
end Mine
end
section
open PySem PySem.W PyProof.Rows PySem.Spec PySem.Calls
set_option maxRecDepth 100000
namespace Mine
theorem start_C2 : True := by
  w_top off
  k_with_none
  (k_with "own:omega" => (first | with_reducible assumption | (refine' Mine.room2 ?h ?e; (case h => with_reducible assumption); (case e => decide)) | (refine' Mine.room1 ?h ?e; (case h => with_reducible assumption); (case e => decide)) | (refine' Mine.le_up ?h ?e; (case h => with_reducible assumption); (case e => decide)) | (refine' Mine.room0 ?h; (case h => with_reducible assumption)) | ((fail_if_success (fail_if_success omega (config := {}))); lia)))
  trivial
/-- an empty accumulator was made, with its dict, and nothing else turned -/
noncomputable def MadeAcc (s : Shared) (v : Value) (s' : Shared) : Prop := ∃ a d h', v = .ref a ∧ s' = { s with heap := h' } ∧ h'.get? a = some (accObj d #[] 0) ∧ h'.get? d = some emptyDict ∧ (∀ b x, s.heap.get? b = some x → h'.get? b = some x) ∧ s.heap.get? a = none ∧ s.heap.get? d = none
section
theorem lines_C2_0 : True := by
  (k_with "own:x_close" => (exact ⟨_, _, _, rfl, rfl, (PySem.W.X.Mem.nw (by assumption) _ (.head _)).1, (PySem.W.X.Mem.nw (by assumption) _ (.tail _ (.head _))).1, keeps_of (by assumption), (PySem.W.X.Mem.nw (by assumption) _ (.head _)).2, (PySem.W.X.Mem.nw (by assumption) _ (.tail _ (.head _))).2⟩))
  trivial
set_option maxHeartbeats 2000000 in
theorem new_acc_x {w : World} {A : Around} {s : Shared} {k : Int} {t : Tok} (X : (KW w.params).In s.heap) :
    wpAny (model PG w) A (call (.builtin "list.__new__") [.ref 150, .int k t]) (MadeAcc s) (fun _ _ => False) s := by
  x_run
end
noncomputable def madeSlot (K : Frag) (C : Addr) (id : String) : Bool := match K.lookup C with
  | some ⟨_, _, .cls cd, sl⟩ => (sl.toList[4]?).join == some (.builtin id) && !cd.mro.isEmpty
  | _ => false
theorem made_slot {K : Frag} {M : Model} {h : Heap} (X : K.In h) {C : Addr} {id : String} (hid : withoutEnding? id ".__new__" = withoutEnding? id ".__new__") (e : madeSlot K C id = true) : ∃ oc od cd sl, K.lookup C = some ⟨oc, od, .cls cd, sl⟩ ∧ cd.mro.isEmpty = false ∧ Looks M h (mroOf (.ref C)) cd.mro ∧ Looks M h (Bind.madeBy (.ref C)) (some id) := by
  unfold madeSlot at e
  split at e
  · rename_i oc od cd sl ho
    simp only [Bool.and_eq_true, Bool.not_eq_true', beq_iff_eq] at e
    obtain ⟨e3, e4⟩ := e
    have hc : clsIn K C = some cd := by unfold clsIn; rw [ho]
    have hm : Looks M h (mroOf (.ref C)) cd.mro := (looks_clsIn X hc).andThen .now
    obtain ⟨c, l, hl⟩ : ∃ c l, cd.mro = c :: l := by cases q : cd.mro with | nil => rw [q] at e4; cases e4 | cons c l => exact ⟨c, l, rfl⟩
    refine ⟨oc, od, cd, sl, ho, e4, hm, ?_⟩
    intro A Q E s k q
    unfold Bind.madeBy
    refine wpAny_bind (hm A _ E s k ?_)
    rw [hl, List.forIn_cons]
    refine wpAny_bind (wpAny_bind (wpAny_bind (wpAny_bind (wpAny_loadPart (k _ _ (X _ _ ho)) (wpAny_pure ?_)))))
    dsimp only
    rw [← Array.getElem?_toList, e3]
    exact wpAny_pure (wpAny_pure (wpAny_pure q))
  · cases e
theorem acc_make {w : World} {A : Around} {R : Result → Shared → Prop} {s : Shared} {k : Int} {t : Tok} (X : (KW w.params).In s.heap)
    (hq : ∀ a d h', h'.get? a = some (accObj d #[] 0) → h'.get? d = some emptyDict → (∀ b x, s.heap.get? b = some x → h'.get? b = some x) → s.heap.get? a = none → s.heap.get? d = none →
      codeAny (model PG w) (A.under (.builtin "type.__call__" ⟨[.ref 150, .int k t], []⟩)) (.call (.ref 87) ⟨[.ref a, .int k t], []⟩) (InitBack a R) { s with heap := h' }) :
    codeAny (model PG w) A (.call (.ref 150) ⟨[.int k t], []⟩) R s := by
  obtain ⟨oc, od, cd, sl, hC₀, e4, hm, made⟩ := made_slot (M := model PG w) X (C := 150) (id := "list.__new__") rfl (by kernel_rfl)
  have hC := X _ _ hC₀
  have call : Looks (model PG w) s.heap (specialOf (.ref 150) "__call__") (some (.builtin "type.__call__")) := looks_specialIn X (by kernel_rfl)
  have typ : Looks (model PG w) s.heap (isInstance (.ref 150) (.type "type")) true := looks_instIn X (by kernel_rfl)
  refine codeAny_of_tree ?_
  show wpAny _ _ (callAny (.ref 150) _) _ _ _
  refine nd_load hC ?_
  show wpAny _ _ (callAny.viaDunder (.ref 150) _) _ _ _
  unfold callAny.viaDunder
  refine wpAny_bind (call.at ?_)
  dsimp only
  rw [tc_bind]
  refine wpAny_bind (wpAny_pure (wpAny_bind (wpAny_pure ?_)))
  refine wpAny_pure (a := Fin.again (.call (.builtin "type.__call__") ⟨[.ref 150, .int k t], []⟩)) (And.intro rfl ?_)
  refine codeAny_call_builtin_at (Code.quiet_builtin _ (by decide +kernel)) entry_typeCall (check_slot tc_kind tc_split typ (tc_args _ _ _) ?_)
  unfold Builtin.«type.__call__»
  show wpAny _ _ (mroOf (.ref 150) >>= _) _ _ _
  refine wpAny_bind (hm.here ?_)
  dsimp only
  rw [if_neg (by rw [e4]; decide)]
  refine wpAny_bind (made.here ?_)
  dsimp only
  refine wpAny_bind (wpAny_pure ?_)
  refine wpAny_bind (wpAny_holding (wpAny_mono (new_acc_x X) (fun v s₁ hv => ?_) fun _ _ z => z.elim))
  obtain ⟨a, d, h', rfl, rfl, h1, h2, h3, h4, h5⟩ := hv
  have X' := X.keeps h3
  refine wpAny_bind (wpAny_bind ((acc_type (h := h') h1).here ((looks_subIn X' (t := .ref 150) (base := .ref 150) (r := true) (by kernel_rfl)).here ?_)))
  rw [if_neg (by decide)]
  refine wpAny_bind (wpAny_holding (wpAny_bind (wpAny_bind ((acc_type (h := h') h1).here ((looks_findIn X' (r := some (.ref 87)) (by kernel_rfl)).here ?_)))))
  refine wpAny_holding (wpAny_bind ((bind_fn X' (f := 87) (.ref a) (by kernel_rfl)).here (wpAny_bind (wpAny_call (codeAny_mono (hq a d h' h1 h2 h3 h4 h5) fun r s' z => ?_)))))
  rcases r with e | (v | _ | _ | _) <;> first | exact z | exact z.elim | skip
  obtain ⟨rfl, z⟩ := z
  exact wpAny_pure (wpAny_pure z)
end Mine
end
section
open PySem PySem.W PyProof.Rows PySem.Spec PySem.Calls
set_option maxRecDepth 100000
namespace Mine
theorem start_C2b : True := by
  w_top off
  k_with_none
  (k_with "own:omega" => (first | with_reducible assumption | (refine' Mine.room2 ?h ?e; (case h => with_reducible assumption); (case e => decide)) | (refine' Mine.room1 ?h ?e; (case h => with_reducible assumption); (case e => decide)) | (refine' Mine.le_up ?h ?e; (case h => with_reducible assumption); (case e => decide)) | (refine' Mine.room0 ?h; (case h => with_reducible assumption)) | ((fail_if_success (fail_if_success omega (config := {}))); lia)))
  trivial
section
variable {w : World} {A : Around} {E : Value → Shared → Prop} {s : Shared} {R : Result → Shared → Prop} {row d : Addr} {items : Array Value} {n : Nat}
theorem refuse_list (self : Value) : refuseLoop self "__setattr__" [.ref 150, .type "list", .type "object"] = pure () := by
  rw [refuseLoop_ref]
  kernel_rfl
theorem acc_osa {od : Obj} {tk : Tok} {v : Value} {es : Array DictEntry} {nd : Nat} (X : (KW w.params).In s.heap) (ho : s.heap.get? row = some (accObj d items n)) (hd : s.heap.get? d = some od) (hod : od.data = .dict es nd)
    (hes : (!es.any (·.key.isStr (Str.ofString "_initial_size")) && es.any (·.refKey)) = false)
    (hD' : (s.heap.update d (Obj.putName (Str.ofString "_initial_size") (PyData.keyHash w.params (Str.ofString "_initial_size")) (.str (Str.ofString "_initial_size") s.toks) v)).get? d = some (Obj.putName (Str.ofString "_initial_size") (PyData.keyHash w.params (Str.ofString "_initial_size")) (.str (Str.ofString "_initial_size") s.toks) v od))
    {es' : Array DictEntry} {nd' : Nat} (he' : (Obj.putName (Str.ofString "_initial_size") (PyData.keyHash w.params (Str.ofString "_initial_size")) (.str (Str.ofString "_initial_size") s.toks) v od).data = .dict es' nd') (hz : es'.size ≤ 1000)
    (h : R (.ok (.ret .none)) { s with heap := s.heap.update d (Obj.putName (Str.ofString "_initial_size") (PyData.keyHash w.params (Str.ofString "_initial_size")) (.str (Str.ofString "_initial_size") s.toks) v), toks := s.toks + 1 }) :
    codeAny (model PG w) A (.call (.builtin "object.__setattr__") ⟨[.ref row, .str (Str.ofString "_initial_size") tk, v], []⟩) R s := by
  have SF := PySem.F.store_object
  have sub : Looks (model PG w) s.heap (isInstance (.ref row) (.type "object")) true := (acc_type ho).andThen (looks_mroIn X (by kernel_rfl))
  refine codeAny_call_builtin SF.slot.plain SF.entry (@check_slot (model PG w) _ _ s "object.__setattr__" "object" "__setattr__" (.ref row) [.str (Str.ofString "_initial_size") tk, v] [] _ SF.kind SF.split sub (SF.args (.ref row) (.str (Str.ofString "_initial_size") tk) v) ?_)
  rw [osa_eq, refuse_eq]
  refine wpAny_bind (wpAny_bind ((acc_type ho).here (wpAny_bind ((acc_mro X).here ?_))))
  rw [refuse_list]
  refine wpAny_pure (wpAny_bind ((acc_type ho).here (wpAny_bind ((looks_findIn X (r := none) (by kernel_rfl)).here (wpAny_bind (wpAny_pure ?_))))))
  dsimp only
  obtain ⟨cd, hc, hcd⟩ := Option.map_eq_some_iff.mp (show (clsIn (KW w.params) 150).map (·.hasDict) = some true by kernel_rfl)
  refine wpAny_bind (wpAny_pure (wpAny_bind (wpAny_bind (wpAny_loadPart ho (wpAny_bind ((looks_clsIn X hc).here ?_))))))
  rw [hcd]
  refine wpAny_pure (a := some d) (wpAny_bind (wpAny_pure (wpAny_bind ?_)))
  unfold nsSet
  refine wpAny_bind (wpAny_bind (wpAny_askSetting (wpAny_pure (wpAny_bind (wpAny_mkText (wpAny_bind (wpAny_loadPart hd ?_)))))))
  rw [hod]
  dsimp only
  rw [aRefKeyMayBeTheName_at, hes]
  refine wpAny_updatePart hd ?_
  refine wpAny_bind (wpAny_lookBehind hD' (by rw [he']; exact pastItsLine_dict (by rw [sizeLine_eq]; omega)) ?_)
  exact wpAny_pure h
end
end Mine
end
section
open PySem PySem.W PyProof.Rows PySem.Spec PySem.Calls
set_option maxRecDepth 100000
namespace Mine
theorem start_C3 : True := by
  w_top off
  k_with_none
  (k_with "own:omega" => (first | with_reducible assumption | (refine' Mine.room2 ?h ?e; (case h => with_reducible assumption); (case e => decide)) | (refine' Mine.room1 ?h ?e; (case h => with_reducible assumption); (case e => decide)) | (refine' Mine.le_up ?h ?e; (case h => with_reducible assumption); (case e => decide)) | (refine' Mine.room0 ?h; (case h => with_reducible assumption)) | ((fail_if_success (fail_if_success omega (config := {}))); lia)))
  trivial
section
variable {w : World} {A : Around} {E : Value → Shared → Prop} {s : Shared}
theorem acc_init_tree {row d : Addr} {n : Nat} {P : PySem.Fin → Shared → Prop} (ho : s.heap.get? row = some (accObj d #[] n))
    (h : ∀ h', Heap.SameBut row s.heap h' → h'.get? row = some (accObj d #[] n) → P (.done (.ret .none)) { s with heap := h' }) :
    wpAny (model PG w) A (Builtin.«list.__init__» ⟨[.ref row], []⟩) P E s := by
  unfold Builtin.«list.__init__»
  dsimp only
  rw [if_neg (by decide), if_neg (by decide)]
  refine wpAny_bind (listItems_at ho rfl ?_)
  refine wpAny_bind (listUpdate_at ho rfl ?_ (by simp [sizeLine]) (by simp [sizeLine]))
  refine wpAny_bind (wpAny_letGo ?_)
  have e3 := acc_upd ho (fun _ => #[])
  exact wpAny_pure (h _ (Heap.SameBut.update ..) (by simpa using e3))
end
section
variable {w : World} {A : Around} {E : Value → Shared → Prop} {s : Shared} {g : Heap} {L row d : Addr} {m : Str → Option Value} {rest : List (Addr × Obj)} {items : Array Value} {n : Nat}
theorem put0 (hs : Int) (t : Tok) (v : Value) : Obj.putName (Str.ofString "_initial_size") hs (.str (Str.ofString "_initial_size") t) v emptyDict = dictOf [⟨hs, .str (Str.ofString "_initial_size") t, v⟩] 1 := by kernel_rfl
theorem put1 (hs hs' : Int) (t t' t₂ : Tok) (k : Int) (v : Value) (nd : Nat) : Obj.putName (Str.ofString "_initial_size") hs (.str (Str.ofString "_initial_size") t) v (szObj hs' t' k t₂ nd) = dictOf [⟨hs', .str (Str.ofString "_initial_size") t', v⟩] nd := by kernel_rfl
theorem upd_led {o o' : Obj} {f : Obj → Obj} {ro : Obj} (F : Fr g L s.heap m) (N : News g L s.heap ((row, ro) :: (d, o) :: rest)) (hrd : row ≠ d) (hne : ∀ p ∈ rest, p.1 ≠ d) (e : f o = o') (hf : o'.isFreed = false) :
    (s.heap.update d f).get? d = some o' ∧ Fr g L (s.heap.update d f) m ∧ News g L (s.heap.update d f) ((row, ro) :: (d, o') :: rest) := by
  have hd := N _ (.tail _ (.head _))
  have e1 : (s.heap.update d f).get? d = some o' := by rw [Heap.get?_update_self _ hd.1 (by rw [e]; exact hf), e]
  have hs : Heap.SameBut d s.heap (s.heap.update d f) := Heap.SameBut.update ..
  refine ⟨e1, F.change hs hd.2.1 hd.2.2, fun z hz => ?_⟩
  rcases List.mem_cons.mp hz with rfl | hz
  · have := N _ (.head _); exact ⟨(hs.2 _ hrd).trans this.1, this.2⟩
  · rcases List.mem_cons.mp hz with rfl | hz
    · exact ⟨e1, hd.2⟩
    · have := N z (.tail _ (.tail _ hz)); exact ⟨(hs.2 _ (hne z hz)).trans this.1, this.2⟩
theorem accK_set0 {k : Int} {t : Tok} {Q : Unit → Shared → Prop} (F : Fr g L s.heap m) (X₀ : (KW w.params).In g) (N : News g L s.heap ((row, accObj d items n) :: (d, emptyDict) :: rest)) (hne : ∀ p ∈ rest, p.1 ≠ d)
    (h : ∀ hs t₁ h' tk', Fr g L h' m → News g L h' ((row, accObj d items n) :: (d, szObj hs t₁ k t 1) :: rest) → Q () { s with heap := h', toks := tk' }) :
    wpAny (model PG w) A (setAttr (.ref row) (Str.ofString "_initial_size") (.int k t)) Q E s := by
  have ho := N.get (.head _)
  have hd := N.get (.tail _ (.head _))
  have hrd : row ≠ d := fun e => by rw [e, hd] at ho; exact absurd (congrArg Obj.cls (Option.some.inj ho)) (by simp [accObj])
  obtain ⟨u1, u2, u3⟩ := upd_led (f := Obj.putName (Str.ofString "_initial_size") (PyData.keyHash w.params (Str.ofString "_initial_size")) (.str (Str.ofString "_initial_size") (s.toks + 1)) (.int k t)) F N hrd hne (put0 _ _ _) rfl
  exact set_plain (K := KW w.params) (C := 150) (X₀.keeps F.keep) (acc_inst N (.head _) (.tail _ (.head _))) (by kernel_rfl) (acc_osa (s := { s with toks := s.toks + 1 }) (es := #[]) (es' := [⟨_, _, _⟩].toArray) (X₀.keeps F.keep) ho hd rfl (by kernel_rfl) (by rw [put0]; exact u1) (by rw [put0]) (by simp) (h _ _ _ _ u2 u3))
theorem accK_set1 {k k' hs' : Int} {t t' t₂ : Tok} {nd : Nat} {Q : Unit → Shared → Prop} (F : Fr g L s.heap m) (X₀ : (KW w.params).In g) (N : News g L s.heap ((row, accObj d items n) :: (d, szObj hs' t' k' t₂ nd) :: rest)) (hne : ∀ p ∈ rest, p.1 ≠ d)
    (h : ∀ h' tk', Fr g L h' m → News g L h' ((row, accObj d items n) :: (d, szObj hs' t' k t nd) :: rest) → Q () { s with heap := h', toks := tk' }) :
    wpAny (model PG w) A (setAttr (.ref row) (Str.ofString "_initial_size") (.int k t)) Q E s := by
  have ho := N.get (.head _)
  have hd := N.get (.tail _ (.head _))
  have hrd : row ≠ d := fun e => by rw [e, hd] at ho; exact absurd (congrArg Obj.cls (Option.some.inj ho)) (by simp [accObj])
  obtain ⟨u1, u2, u3⟩ := upd_led (f := Obj.putName (Str.ofString "_initial_size") (PyData.keyHash w.params (Str.ofString "_initial_size")) (.str (Str.ofString "_initial_size") (s.toks + 1)) (.int k t)) F N hrd hne (put1 _ _ _ _ _ _ _ _) rfl
  exact set_plain (K := KW w.params) (C := 150) (X₀.keeps F.keep) (acc_inst N (.head _) (.tail _ (.head _))) (by kernel_rfl) (acc_osa (s := { s with toks := s.toks + 1 }) (es := [⟨_, _, _⟩].toArray) (es' := [⟨_, _, _⟩].toArray) (X₀.keeps F.keep) ho hd rfl (by kernel_rfl) (by rw [put1]; exact u1) (by rw [put1]) (by simp) (h _ _ u2 u3))
end
theorem lines_C3_0 : True := by
  (k_with "own:k_mem" => with_reducible_and_instances assumption)
  (k_with "getMethod ref" => (k_here; k_dflt (refine' accK_method ?k1 ?k2 ?k3 ?k4 ?k5 ?k6 ?k7 ?k8 ?k9 ?_; (case k1 => k_asm); (case k2 => k_asm); (case k3 => k_asm); (case k4 => k_mem); (case k5 => k_mem); (case k6 => k_is); (case k7 => k_is); (case k8 => first | exact .inl rfl | exact .inr rfl); (case k9 => decide); k_whole)))
  (k_with "call ref" => (k_here; (k_dflt (show wpAny _ _ (call (Value.ref 147) [Value.ref _]) _ _ _)); k_dflt (refine' count_call ?k1 ?k2 ?k3 ?k4 ?k5 ?k6 ?k7 ?k8 ?k9 ?k10 ?_; (case k1 => k_asm); (case k2 => k_asm); (case k3 => k_asm); (case k4 => k_asm); (case k5 => k_asm); (case k6 => rfl); (case k7 => ktr_room); (case k8 => ktr_units); (case k9 => k_mem); (case k10 => k_mem); k_whole); intro _ _ _ _ _; (try dsimp only); (try k_sweep)))
  (k_with "own:steps" => repeat' (first | (k_unfold; (try dsimp only)) | ((fail_if_success (show _root_.PySem.wpAt _ _ _ _ _ _ _)); (first | walk1 | (dsimp only; walk1) | fail "no step"))))
  trivial
set_option maxHeartbeats 2000000 in
theorem new_call {w : World} {p : Program} {loose : List Str} {mean : ExcName → Option Value} {mg mb : Str → Option Value} {dp un : Nat} {gd : Option (List Code)} {cn : Str} {cs : Scope} {a : Addr} {ccd : Value} {cl : List (Str × Addr)} {outer : List Env} {A₀ : Around} {base h₀ : Heap} {L : Addr} {m : Str → Option Value} {rest : List (Addr × Obj)} {s : Shared}
    {Q E : Value → Shared → Prop} {k : Int} {t : Tok}
    (B : Below A₀ base outer h₀) (F : Fr h₀ L s.heap m) (X : (KW w.params).In h₀) (N : News h₀ L s.heap rest) (T : Top p loose mean mg mb h₀) (hk : cs.kind = .function)
    (hd : dp + 7 < recursionLimit) (hu : un + 70 < cLine)
    (ret : ∀ row d n hs t₁ t₂ nd h' tk', Fr h₀ L h' m → News h₀ L h' ((row, accObj d #[] n) :: (d, szObj hs t₁ k t₂ nd) :: rest) → (∀ z ∈ rest, z.1 ≠ row) → (∀ z ∈ rest, z.1 ≠ d) → Q (.ref row) { s with heap := h', toks := tk' }) :
    wpAny (model PG w) (ktrTop dp un gd cn cs L a ccd cl outer) (call (.ref 150) [.int k t]) Q E s := by
  refine wpAny_call (acc_make (X.keeps F.keep) fun row d h₂ e1 e2 e3 e4 e5 => ?_)
  obtain ⟨F₁, N₁⟩ := news_push (q := d) (o := emptyDict) F N e2 e3 e5
  have N₂ : News h₀ L h₂ ((row, accObj d #[] 0) :: (d, emptyDict) :: rest) := by
    refine News.cons' N₁ e1 ?_ ?_
    · rintro rfl
      obtain ⟨_, _, _, e, _⟩ := F.ns
      rw [e] at e4; cases e4
    · cases e : h₀.get? row with
      | none => rfl
      | some x => rw [F.keep _ _ e] at e4; cases e4
  k_dflt (refine' ks_code_super ?k1 ?k2 ?k3 ?k4 ?k5 ?kA ?kF ?kK ?k6 ?k7 ?k8 ?k9 ?kB ?_ ?c1 ?c2 ?c3 ?c4; (case kA => exact rfl); (case kF => exact rfl); (case kK => exact hk); (case k1 => k_asm); (case k2 => k_asm); (case k3 => k_asm); (case k4 => exact N₂); (case k5 => k_asm); (case k6 => k_is); (case k7 => k_is); (case k8 => ktr_room); (case k9 => exact binds_K (X.keeps F₁.keep) rfl (by k_is) rfl rfl rfl); (case kB => exact locs rfl); (case c1 => decide); (case c2 => exact rfl); (case c3 => exact rfl); (case c4 => exact rfl))
  intro g' L' h₁ FG F' N' B' X' T' hlt
  walk1
  walk1
  walk1
  k_extra "own:steps"
  rename Fr g' _ _ _ => F₂
  rename News g' _ _ _ => N₃
  have hne : ∀ z ∈ rest, z.1 ≠ d := fun z hz e => by
    have := (N z hz).1
    rw [e, e5] at this; cases this
  have hnr : ∀ z ∈ rest, z.1 ≠ row := fun z hz e => by
    have := (N z hz).1
    rw [e, e4] at this; cases this
  refine accK_set0 F₂ X' N₃ hne fun hs t₁ h₃ tk₃ F₃ N₃ => ?_
  dsimp only
  refine ks_wpAt_execs_cons (ks_wpAt_Expr_any (ks_wpAt_MethodCall ?_))
  k_dflt (refine ks_node F₃ X' N₃ T' (by k_is) (by rfl) (by rfl) (acc_inst N₃ (.head _) (.tail _ (.head _))) (by k_is) (by rfl) (by first | rfl | decide +kernel) (by k_is) (by k_is) (by k_is) (by k_is) (by decide) (by rfl) (by rfl) (by rfl) (by rfl) (by decide +kernel) (by first | boot_by_name | rfl | kernel_rfl) ?_)
  intro so h₃ F₃ N₃ _
  refine superK (T' := "method-wrapper") F₃ X' N₃ (.head _) (.tail _ (.head _)) (id := "list.__init__") (gid := "wrapper_descriptor.__get__") (T := "wrapper_descriptor") (by kernel_rfl) (by kernel_rfl) (by rw [typeLookup_type, builtinLookup_eq_fast]; kernel_rfl) (fun A' s' hs => get_init_x (by rw [hs]; exact X'.keeps F₃.keep) (by rw [hs]; exact N₃.get (.tail _ (.head _)))) (by decide) fun q h₄ F₄ N₄ => ?_
  have ho := N₄.get (.tail _ (.tail _ (.head _)))
  refine callWith_bound (N₄.get (.head _)) (.inl rfl) (bound_call (N₄.get (.head _)) (by decide) (by decide) check_init (by decide +kernel) PySem.F.entry_list_init (acc_init_tree ho fun h₅ hs₅ ho₅ => ⟨_, rfl, ?_⟩))
  have hrow := N₄ _ (.tail _ (.tail _ (.head _)))
  have F₅ := F₄.change hs₅ hrow.2.1 hrow.2.2
  have N₅ : News g' L' h₅ ((row, accObj d #[] 0) :: (d, szObj hs t₁ k t 1) :: rest) := by
    intro z hz
    rcases List.mem_cons.mp hz with rfl | hz
    · exact ⟨ho₅, hrow.2⟩
    · have := N₄ z (.tail _ (.tail _ (.tail _ hz)))
      refine ⟨(hs₅.2 _ ?_).trans this.1, this.2⟩
      rcases List.mem_cons.mp hz with rfl | hz
      · intro e
        have e' : d = row := e
        rw [e'] at this
        have := this.1
        rw [N₄.get (.tail _ (.tail _ (.head _)))] at this
        exact absurd (congrArg Obj.cls (Option.some.inj this)) (by simp [accObj])
      · exact hnr z hz
  dsimp only
  refine wpAt_of_wpAny ?_
  k_extra "own:steps"
  rename Fr h₀ _ h₅ _ => F₆
  rename News h₀ _ h₅ _ => N₆
  exact ret _ _ _ _ _ _ _ _ _ F₆ N₆ hnr hne
end Mine
end
section
open PySem PySem.W PyProof.Rows PySem.Spec PySem.Calls
set_option maxRecDepth 100000
namespace Mine
theorem start_C4 : True := by
  w_top off
  k_with_none
  (k_with "own:omega" => (first | with_reducible assumption | (refine' Mine.room2 ?h ?e; (case h => with_reducible assumption); (case e => decide)) | (refine' Mine.room1 ?h ?e; (case h => with_reducible assumption); (case e => decide)) | (refine' Mine.le_up ?h ?e; (case h => with_reducible assumption); (case e => decide)) | (refine' Mine.room0 ?h; (case h => with_reducible assumption)) | ((fail_if_success (fail_if_success omega (config := {}))); lia)))
  trivial
section
variable {w : World} {A : Around} {E : Value → Shared → Prop} {s : Shared} {h₀ : Heap} {L row d q : Addr} {m : Str → Option Value} {rest : List (Addr × Obj)} {vs : List Value} {n : Nat}
theorem accK_append2 {x : Value} {o : Obj} {Q : Value → Shared → Prop} (F : Fr h₀ L s.heap m) (X₀ : (KW w.params).In h₀) (N : News h₀ L s.heap ((q, o) :: (row, accObj d vs.toArray n) :: rest)) (hne : ∀ p ∈ rest, p.1 ≠ row) (ho : o.cls = .type "tuple") (hl : vs.length ≤ 1000)
    (h : ∀ n' h', Fr h₀ L h' m → News h₀ L h' ((row, accObj d (vs ++ [x]).toArray n') :: (q, o) :: rest) → Q .none { s with heap := h' }) :
    wpAny (model PG w) A (call (.builtin "list.append") [.ref row, x]) Q E s := by
  have hrow := N _ (.tail _ (.head _))
  refine acc_append (X₀.keeps F.keep) hrow.1 hl fun h' n' hs ho' => h n' h' (F.change hs hrow.2.1 hrow.2.2) fun z hz => ?_
  rcases List.mem_cons.mp hz with rfl | hz
  · exact ⟨ho', hrow.2⟩
  · rcases List.mem_cons.mp hz with rfl | hz
    · have := N _ (.head _)
      refine ⟨(hs.2 _ ?_).trans this.1, this.2⟩
      rintro rfl
      rw [hrow.1] at this
      have e := Option.some.inj this.1
      have e' : (Value.ref 150) = o.cls := congrArg Obj.cls e
      rw [ho] at e'; cases e'
    · have := N z (.tail _ (.tail _ hz))
      exact ⟨(hs.2 _ (hne z hz)).trans this.1, this.2⟩
end
theorem lines_C4_0 : True := by
  (k_with "own:lomega" => first | omega | (simp only [List.length_append, List.length_cons, List.length_nil, List.length_set] at *; omega))
  (k_with "own:k_mem" => with_reducible_and_instances assumption)
  (k_with "subscriptTail" => (k_here; (with_reducible show wpAny _ _ (subscriptTail _ _ (Value.ref _) (Value.int _ _)) _ _ _); (k_dflt (refine' accK_out ?k0 ?k1 ?k2 ?k3 ?k4 ?k5 ?k6 ?k7 ?_ ?k9; (case k0 => exact rfl); (case k1 => k_asm); (case k2 => k_asm); (case k3 => k_asm); (case k4 => k_mem); (case k5 => k_asm); (case k6 => k_extra "own:lomega"); (case k7 => k_extra "own:lomega"); (case k9 => with_unfolding_all rfl); k_whole)); intro _ _ _ _))
  (k_with "subscriptTail" => (k_here; (with_reducible show wpAny _ _ (subscriptTail _ _ (Value.ref _) (Value.int _ _)) _ _ _); (k_dflt (refine' accK_sub ?k1 ?k2 ?k3 ?k4 ?k5 ?k6 ?k7 ?k8 ?_ ?k9; (case k1 => k_asm); (case k2 => k_asm); (case k3 => k_asm); (case k4 => k_mem); (case k5 => k_asm); (case k6 => k_extra "own:lomega"); (case k7 => k_extra "own:lomega"); (case k8 => k_extra "own:lomega"); (case k9 => with_unfolding_all rfl); k_whole)); intro _ _ _))
  (k_with "compareOp Lt ref" => (k_here; (k_dflt (refine' pcK_lt ?k1 ?k2 ?k3 ?k4 ?k5 ?_; (case k2 => k_asm); (case k4 => k_asm); (case k5 => k_asm); (case k3 => first | exact fun _ h => h | exact fun _ h => .tail _ h | exact fun _ h => .tail _ (.tail _ h)); (case k1 => ktr_units); k_whole))))
  (k_with "setItem ref int" => (k_here; (k_dflt (refine' accK_set ?k1 ?k2 ?k3 ?k4 ?kr ?ke ?k5 ?kx ?k6 ?k7 ?k8 ?_; (case k1 => k_asm); (case k2 => k_asm); (case k3 => k_asm); (case k4 => k_mem); (case k5 => k_asm); (case kx => k_asm); (case kr => first | exact fun _ h => h | exact fun _ h => .tail _ h | exact fun _ h => .tail _ (.tail _ h)); (case ke => k_asm); (case k6 => k_extra "own:lomega"); (case k7 => k_extra "own:lomega"); (case k8 => k_extra "own:lomega"); k_whole)); intro _ _ _ _ _; (try k_sweep)))
  (k_with "call builtin:len" => (k_here; (with_reducible show wpAny _ _ (call (Value.builtin "len") [Value.ref _]) _ _ _); (k_dflt (refine' accK_len ?k1 ?k2 ?k3 ?k4 ?k5 ?k6 ?k7 ?k8 ?k9 ?ka ?kb ?kc ?kd ?_; (case k1 => k_asm); (case k2 => k_asm); (case k3 => k_asm); (case k4 => k_asm); (case k5 => k_asm); (case k6 => first | exact rfl | assumption); (case k7 => ktr_room); (case k8 => ktr_units); (case k9 => assumption); (case ka => assumption); (case kb => assumption); (case kc => assumption); (case kd => k_extra "own:lomega"); k_whole)); intro _ _ _ _ _ _))
  (k_with "own:steps" => repeat' (first | (k_unfold; (try dsimp only)) | ((fail_if_success (with_reducible show wpAny _ _ (exec (Stmt.While _ _ _ _) _) _ _ _)); (first | walk1 | (dsimp only; walk1) | fail "no step"))))
  (k_with "getMethod ref" => (k_here; k_dflt (refine' accK_methodR ?k1 ?k2 ?k3 ?k4 ?k5 ?k6 ?k7 ?k8 ?k9 ?ka ?_; (case k1 => k_asm); (case k2 => k_asm); (case k3 => k_asm); (case k4 => k_asm); (case k5 => k_mem); (case k6 => first | exact fun _ h => h | exact fun _ h => .tail _ h | exact fun _ h => .tail _ (.tail _ h)); (case k7 => k_is); (case k8 => k_is); (case k9 => first | exact .inl rfl | exact .inr rfl); (case ka => decide); k_whole)))
  (k_with "own:fin_os" => (first | rfl | assumption | (simp only [] at *; simp only [*])))
  (k_with "own:fin_err" => (refine' err _ _ _ _ _ ?fg ?u ?r ?ar ?gg ?os; (case u => with_reducible assumption); (case r => with_reducible assumption); (case fg => with_reducible assumption); (try (case ar => with_reducible assumption)); (try (case gg => with_reducible assumption)); (try (case os => k_extra "own:fin_os"))))
  (k_with "truthy ref" => (k_here; (k_dflt (refine' accK_yes (Q := fun _ _ => True) ?k1 ?k2 ?k3 ?k4 ?k5 ?k6 ?k7 ?k8 ?k9 ?ka ?kb ?kc ?kd ?ke ?_; (case k1 => k_asm); (case k2 => k_asm); (case k3 => k_asm); (case k4 => k_asm); (case k5 => k_asm); (case k6 => first | exact rfl | assumption); (case k7 => ktr_room); (case k8 => ktr_units); (case k9 => assumption); (case ka => assumption); (case kb => assumption); (case kc => assumption); (case kd => k_extra "own:lomega"); (case ke => k_extra "own:lomega"); k_whole)); intro _ _ _ _ _))
  (k_with "truthy ref" => (k_here; (k_dflt (refine' accK_no (Q := fun _ _ => True) ?k1 ?k2 ?k3 ?k4 ?k5 ?k6 ?k7 ?k8 ?k9 ?ka ?kb ?kc ?kd ?ke ?_; (case k1 => k_asm); (case k2 => k_asm); (case k3 => k_asm); (case k4 => k_asm); (case k5 => k_asm); (case k6 => first | exact rfl | assumption); (case k7 => ktr_room); (case k8 => ktr_units); (case k9 => assumption); (case ka => assumption); (case kb => assumption); (case kc => assumption); (case kd => k_extra "own:lomega"); (case ke => k_extra "own:lomega"); k_whole)); intro _ _ _ _ _))
  (k_with "getMethod ref" => (k_here; k_dflt (refine' accK_method ?k1 ?k2 ?k3 ?k4 ?k5 ?k6 ?k7 ?k8 ?k9 ?_; (case k1 => k_asm); (case k2 => k_asm); (case k3 => k_asm); (case k4 => first | exact .head _ | exact .tail _ (.head _)); (case k5 => first | exact .tail _ (by assumption) | exact .tail _ (.tail _ (by assumption))); (case k6 => k_is); (case k7 => k_is); (case k8 => first | exact .inl rfl | exact .inr rfl); (case k9 => decide); k_whole)))
  (k_with "call builtin:list.append" => (k_here; (k_dflt (refine' accK_append2 ?k1 ?k2 ?k3 ?k4 ?k5 ?k7 ?_; (case k1 => k_asm); (case k2 => k_asm); (case k3 => k_asm); (case k4 => k_asm); (case k5 => rfl); (case k7 => omega); k_whole)); intro _ _ _ _; (try k_sweep)))
  trivial
set_option maxHeartbeats 2000000 in
theorem push_call {w : World} {p : Program} {loose : List Str} {mean : ExcName → Option Value} {mg mb : Str → Option Value} {dp un : Nat} {gd : Option (List Code)} {cn : Str} {cs : Scope} {a : Addr} {ccd : Value} {cl : List (Str × Addr)} {outer : List Env} {A₀ : Around} {base h₀ : Heap} {L : Addr} {m : Str → Option Value} {rest : List (Addr × Obj)} {s : Shared}
    {Q E : Value → Shared → Prop} {row d : Addr} {vs : List Value} {n : Nat} {hs k : Int} {t₁ t₂ : Tok} {nd : Nat} {f pt : Str} {t u : Tok}
    (B : Below A₀ base outer h₀) (F : Fr h₀ L s.heap m) (X : (KW w.params).In h₀) (N : News h₀ L s.heap ((row, accObj d vs.toArray n) :: rest)) (T : Top p loose mean mg mb h₀) (hk : cs.kind = .function)
    (hd : dp + 5 < recursionLimit) (hu : un + 50 < cLine) (hdi : (d, szObj hs t₁ k t₂ nd) ∈ rest) (hne : ∀ p ∈ rest, p.1 ≠ row) (hl : vs.length ≤ 1000)
    (ret : ∀ q n' h' tk', Fr h₀ L h' m → News h₀ L h' ((row, accObj d (vs ++ [Value.ref q]).toArray n') :: (q, tupObj f t pt u) :: rest) → Q .none { s with heap := h', toks := tk' }) :
    wpAny (model PG w) (ktrTop dp un gd cn cs L a ccd cl outer) (call (.ref 94) [.ref row, .str f t, .str pt u]) Q E s := by
  refine wpAny_call ?_
  k_dflt ktr_enter
  k_extra "own:steps"
  rename Fr h₀ _ _ _ => F₆
  rename News h₀ _ _ _ => N₆
  exact ret _ _ _ _ F₆ N₆
end Mine
end
section
open PySem PySem.W PyProof.Rows PySem.Spec PySem.Calls
set_option maxRecDepth 100000
namespace Mine
theorem start_C5a : True := by
  w_top off
  k_with_none
  (k_with "own:omega" => (first | with_reducible assumption | (refine' Mine.room2 ?h ?e; (case h => with_reducible assumption); (case e => decide)) | (refine' Mine.room1 ?h ?e; (case h => with_reducible assumption); (case e => decide)) | (refine' Mine.le_up ?h ?e; (case h => with_reducible assumption); (case e => decide)) | (refine' Mine.room0 ?h; (case h => with_reducible assumption)) | ((fail_if_success (fail_if_success omega (config := {}))); lia)))
  trivial
section
variable {w : World} {A : Around} {E : Value → Shared → Prop} {s : Shared} {row d sl : Addr} {vs : List Value} {n : Nat}
theorem slice_parts {M : Model} {vl : Value} {lo : Option Int} {Q : Value × Value × Value → Shared → Prop} (hs : s.heap.IsSliceOf sl vl .none .none) (pl : IsPart vl lo) (h : Q (rawPart lo, .none, .none) s) :
    wpAny M A (Builtin.List.listSliceParts (.ref sl)) Q E s := by
  obtain ⟨os, hos, hcs, hds⟩ := id hs
  rw [listSliceParts_eq]
  refine wpAny_bind (wpAny_field hos hds (x := .none) rfl (wpAny_bind (wpAny_listPart .none ?_)))
  rw [if_neg (show ¬ ((rawPart none == rawInt 0) = true) from Bool.false_ne_true)]
  refine wpAny_bind (wpAny_field hos hds (x := vl) rfl (wpAny_bind (wpAny_listPart pl ?_)))
  exact wpAny_bind (wpAny_field hos hds (x := .none) rfl (wpAny_bind (wpAny_listPart .none (wpAny_pure h))))
theorem clip_le (lo : Option Int) (n : Nat) : lo.elim 0 (clipAt n) ≤ n := by
  cases lo with
  | none => exact Nat.zero_le _
  | some i => have := clipAt_cast n i; simp only [Option.elim]; omega
theorem pick_from (items : Array Value) (lo : Option Int) : slicePick items lo none none = (items.toList.drop (lo.elim 0 (clipAt items.size))).toArray := by
  rw [slicePick_plain]
  rw [List.take_of_length_le (by simp)]
theorem acc_getSlice {vl : Value} {lo : Option Int} {Q : Value → Shared → Prop} (X : (KW w.params).In s.heap) (ho : s.heap.get? row = some (accObj d vs.toArray n)) (hl : vs.length ≤ 1000)
    (hs : s.heap.IsSliceOf sl vl .none .none) (pl : IsPart vl lo)
    (h : Q (.ref s.heap.objs.size) { s with heap := s.heap.push { cls := .type "list", data := .seq (vs.drop (lo.elim 0 (clipAt vs.length))).toArray } }) :
    wpAny (model PG w) A (getItem (.ref row) (.ref sl)) Q E s := by
  obtain ⟨os, hos, hcs, hds⟩ := id hs
  have hTs : s.TypeIs (.ref sl) "slice" := ⟨os, hos, hcs⟩
  unfold getItem sequenceKey
  refine wpAny_holding (wpAny_bind (wpAny_bind ((acc_type ho).here ?_)))
  refine wpAny_bind ((acc_noSeq X).here ?_)
  rw [if_pos (show (!false) = true from rfl)]
  refine wpAny_pure (wpAny_bind (acc_special X ho (by kernel_rfl) slot_list_getitem (acc_call X ho slot_list_getitem (n₁ := "__getitem__") (by decide +kernel) (.inr (by decide +kernel)) entry_list_getitem (args_list_getitem _ _) ?_)))
  show wpAny _ _ (Builtin.List.listSubscript? (.ref sl) >>= _) _ _ s
  refine wpAny_bind ?_
  unfold Builtin.List.listSubscript?
  refine wpAny_bind (wpAny_specialOf hTs slice_no_index ?_)
  simp only [Option.isNone_none, if_true]
  refine wpAny_pure ?_
  show wpAny _ _ (typeOf (.ref sl) >>= _) _ _ s
  refine wpAny_bind (wpAny_typeOf hTs ?_)
  rw [if_neg (by decide)]
  refine wpAny_bind (slice_parts hs pl ?_)
  refine wpAny_bind (listItems_at ho rfl ?_)
  refine wpAny_bind (wpAny_of_eq (sliceIndices_raw lo none none vs.toArray.size (by simp)) ?_)
  have e := pick_from vs.toArray lo
  simp only [List.size_toArray] at e
  refine wpAny_bind (wpAny_newObj_type (wpAny_pure ⟨_, rfl, wpAny_pure ?_⟩) ?_)
  · have h' : Q (.ref s.heap.objs.size) { s with heap := s.heap.push { cls := .type "list", data := .seq (slicePick vs.toArray lo none none) } } := by rw [e]; exact h
    exact h'
  · have := slicePick_size_le vs.toArray lo none none
    exact Nat.le_trans this (by simp [sizeLine]; omega)
theorem acc_setSlice {vl : Value} {lo : Option Int} {l : Addr} {ws : List Value} {Q : Unit → Shared → Prop} (X : (KW w.params).In s.heap) (ho : s.heap.get? row = some (accObj d vs.toArray n)) (hl : vs.length ≤ 1000) (hw : ws.length ≤ 1000)
    (hs : s.heap.IsSliceOf sl vl .none .none) (pl : IsPart vl lo) (hlist : s.heap.IsList l ws.toArray) (hrl : row ≠ l)
    (h : ∀ h' n', Heap.SameBut row s.heap h' → h'.get? row = some (accObj d (vs.take (lo.elim 0 (clipAt vs.length)) ++ ws).toArray n') → Q () { s with heap := h' }) :
    wpAny (model PG w) A (setItem (.ref row) (.ref sl) (.ref l)) Q E s := by
  obtain ⟨os, hos, hcs, hds⟩ := id hs
  have hTs : s.TypeIs (.ref sl) "slice" := ⟨os, hos, hcs⟩
  obtain ⟨ol, hol, hcl, nl, hdl⟩ := id hlist
  unfold setItem sequenceKey
  refine wpAny_holding (wpAny_bind (wpAny_bind ((acc_type ho).here ?_)))
  refine wpAny_bind ((acc_noSeq X).here ?_)
  rw [if_pos (show (!false) = true from rfl)]
  refine wpAny_pure (wpAny_bind (acc_special X ho (by kernel_rfl) slot_list_setitem (acc_call X ho slot_list_setitem (n₁ := "__setitem__") (by decide +kernel) (by first | exact .inl (by decide +kernel) | exact .inr (by decide +kernel)) entry_list_setitem (args_list_setitem _ _ _) ?_)))
  show wpAny _ _ (Builtin.List.listSubscript? (.ref sl) >>= _) _ _ s
  refine wpAny_bind ?_
  unfold Builtin.List.listSubscript?
  refine wpAny_bind (wpAny_specialOf hTs slice_no_index ?_)
  simp only [Option.isNone_none, if_true]
  refine wpAny_pure ?_
  show wpAny _ _ (typeOf (.ref sl) >>= _) _ _ s
  refine wpAny_bind (wpAny_typeOf hTs ?_)
  rw [if_neg (by decide)]
  refine wpAny_bind (slice_parts hs pl ?_)
  dsimp only
  rw [if_neg (by simp [Builtin.List.listSameRef, hrl])]
  unfold Builtin.List.listAllItems
  refine wpAny_bind (wpAny_bind (wpAny_typeOf hlist.typeIs ?_))
  rw [if_pos (by decide)]
  refine listItems_at hol hdl ?_
  refine wpAny_bind (listItems_at ho rfl ?_)
  refine wpAny_bind (wpAny_of_eq (sliceIndices_raw lo none none vs.toArray.size (by simp)) ?_)
  rw [sliceBounds_plain]
  dsimp only
  rw [if_pos (by decide)]
  refine wpAny_bind (wpAny_rule ?_)
  have hc := clip_le lo vs.length
  have h1 : ¬ (Builtin.List.listTooLong (vs.toArray.size + ws.toArray.size) = true) := by simp [Builtin.List.listTooLong, sizeLine]; omega
  rw [if_neg h1]
  simp only [List.size_toArray, Option.elim_none] at *
  have e1 : (((lo.elim 0 (clipAt vs.length) : Nat) : Int)).toNat = lo.elim 0 (clipAt vs.length) := by omega
  have e2 : (max (((lo.elim 0 (clipAt vs.length) : Nat) : Int)) ((vs.length : Nat) : Int)).toNat = vs.length := by omega
  have e3 : ∀ xs : Array Value, xs = vs.toArray → xs.extract 0 (((lo.elim 0 (clipAt vs.length) : Nat) : Int)).toNat ++ ws.toArray ++ xs.extract (max (((lo.elim 0 (clipAt vs.length) : Nat) : Int)) ((vs.length : Nat) : Int)).toNat = (vs.take (lo.elim 0 (clipAt vs.length)) ++ ws).toArray := by
    rintro xs rfl
    rw [e1, e2]
    simp
  have e4 := acc_upd ho (fun xs => xs.extract 0 (((lo.elim 0 (clipAt vs.length) : Nat) : Int)).toNat ++ ws.toArray ++ xs.extract (max (((lo.elim 0 (clipAt vs.length) : Nat) : Int)) ((vs.length : Nat) : Int)).toNat)
  rw [e3 _ rfl] at e4
  refine wpAny_bind (listUpdate_at ho rfl ?_ (by simp [sizeLine]; omega) (by rw [e3 _ rfl]; simp [sizeLine]; omega))
  refine wpAny_bind (wpAny_letGo ?_)
  exact wpAny_pure ⟨_, rfl, wpAny_pure (h _ _ (Heap.SameBut.update ..) e4)⟩
end
end Mine
end
section
open PySem PySem.W PyProof.Rows PySem.Spec PySem.Calls
set_option maxRecDepth 100000
namespace Mine
theorem start_C5 : True := by
  w_top off
  k_with_none
  (k_with "own:omega" => (first | with_reducible assumption | (refine' Mine.room2 ?h ?e; (case h => with_reducible assumption); (case e => decide)) | (refine' Mine.room1 ?h ?e; (case h => with_reducible assumption); (case e => decide)) | (refine' Mine.le_up ?h ?e; (case h => with_reducible assumption); (case e => decide)) | (refine' Mine.room0 ?h; (case h => with_reducible assumption)) | ((fail_if_success (fail_if_success omega (config := {}))); lia)))
  trivial
section
variable {w : World} {A : Around} {E : Value → Shared → Prop} {s : Shared} {g : Heap} {L row d : Addr} {m : Str → Option Value} {rest news : List (Addr × Obj)} {vs : List Value} {n : Nat}
abbrev sliceObj (vl : Value) : Obj := { cls := .type "slice", data := .fields #[vl, .none, .none] }
theorem accK_getSlice {value slice : PySem.Expr} {vl : Value} {lo : Option Int} {Q : Value → Shared → Prop} (F : Fr g L s.heap m) (X₀ : (KW w.params).In g) (N : News g L s.heap news) (hrow : (row, accObj d vs.toArray n) ∈ news) (hl : vs.length ≤ 1000) (pl : IsPart vl lo)
    (h : ∀ l h', Fr g L h' m → News g L h' ((l, listOf (vs.drop (lo.elim 0 (clipAt vs.length))).toArray 0) :: news) → Q (.ref l) { s with heap := h' })
    (hs : subscripted slice false (.ref row) (.ref s.heap.objs.size) = operate [.ref s.heap.objs.size, .ref row] (getItem (.ref row) (.ref s.heap.objs.size)) := by with_unfolding_all rfl) :
    wpAny (model PG w) A (subscriptTail value slice (.ref row) (.ref s.heap.objs.size)) Q E { s with heap := s.heap.push (sliceObj vl) } := by
  have F₁ := F.push (sliceObj vl)
  have N₁ := N.pushKeep (sliceObj vl)
  have hsl : (s.heap.push (sliceObj vl)).IsSliceOf s.heap.objs.size vl .none .none := ⟨_, Heap.get?_push_size _ rfl, rfl, rfl⟩
  refine acc_tail (s := { s with heap := s.heap.push (sliceObj vl) }) (X₀.keeps F₁.keep) (N₁.get hrow) (acc_getSlice (s := { s with heap := s.heap.push (sliceObj vl) }) (X₀.keeps F₁.keep) (N₁.get hrow) hl hsl pl ?_) hs
  exact h _ _ (F₁.push _) (N₁.push F₁ _)
theorem News.third {g h : Heap} {L : Addr} {x y z : Addr × Obj} {r : List (Addr × Obj)} (N : News g L h (x :: y :: z :: r)) : News g L h (z :: x :: y :: r) := fun p hp => by
  rcases List.mem_cons.mp hp with rfl | hp
  · exact N _ (.tail _ (.tail _ (.head _)))
  · rcases List.mem_cons.mp hp with rfl | hp
    · exact N _ (.head _)
    · rcases List.mem_cons.mp hp with rfl | hp
      · exact N _ (.tail _ (.head _))
      · exact N _ (.tail _ (.tail _ (.tail _ hp)))
theorem News.second {g h : Heap} {L : Addr} {x y : Addr × Obj} {r : List (Addr × Obj)} (N : News g L h (x :: y :: r)) : News g L h (y :: x :: r) := fun p hp => by
  rcases List.mem_cons.mp hp with rfl | hp
  · exact N _ (.tail _ (.head _))
  · rcases List.mem_cons.mp hp with rfl | hp
    · exact N _ (.head _)
    · exact N _ (.tail _ (.tail _ hp))
theorem News.drop2 {g h : Heap} {L : Addr} {x y : Addr × Obj} {r : List (Addr × Obj)} (N : News g L h (x :: y :: r)) : News g L h (x :: r) := fun p hp => by
  rcases List.mem_cons.mp hp with rfl | hp
  · exact N _ (.head _)
  · exact N _ (.tail _ (.tail _ hp))
theorem accK_setSlice {vl : Value} {lo : Option Int} {l : Addr} {ws : List Value} {c : Nat} {oth : List (Addr × Obj)} {Q : Unit → Shared → Prop} (F : Fr g L s.heap m) (X₀ : (KW w.params).In g) (N : News g L s.heap ((row, accObj d vs.toArray n) :: oth)) (hne : ∀ p ∈ oth, p.1 ≠ row) (hlm : (l, listOf ws.toArray c) ∈ oth)
    (hl : vs.length ≤ 1000) (hw : ws.length ≤ 1000) (pl : IsPart vl lo)
    (h : ∀ n' h', Fr g L h' m → News g L h' ((row, accObj d (vs.take (lo.elim 0 (clipAt vs.length)) ++ ws).toArray n') :: oth) → Q () { s with heap := h' }) :
    wpAny (model PG w) A (setItem (.ref row) (.ref s.heap.objs.size) (.ref l)) Q E { s with heap := s.heap.push (sliceObj vl) } := by
  have F₁ := F.push (sliceObj vl)
  have N₁ := N.pushKeep (sliceObj vl)
  have hsl : (s.heap.push (sliceObj vl)).IsSliceOf s.heap.objs.size vl .none .none := ⟨_, Heap.get?_push_size _ rfl, rfl, rfl⟩
  have hrow := N₁ _ (.head _)
  refine acc_setSlice (s := { s with heap := s.heap.push (sliceObj vl) }) (X₀.keeps F₁.keep) hrow.1 hl hw hsl pl ⟨_, N₁.get (.tail _ hlm), rfl, _, rfl⟩ (hne _ hlm).symm fun h' n' hs ho => h n' h' (F₁.change hs hrow.2.1 hrow.2.2) fun z hz => ?_
  rcases List.mem_cons.mp hz with rfl | hz
  · exact ⟨ho, hrow.2⟩
  · have := N₁ z (.tail _ hz)
    exact ⟨(hs.2 _ (hne z hz)).trans this.1, this.2⟩
end
theorem lines_C5_0 : True := by
  (k_with "own:lomega" => first | omega | (simp only [List.length_append, List.length_cons, List.length_nil, List.length_set] at *; omega))
  (k_with "own:k_mem" => with_reducible_and_instances assumption)
  (k_with "subscriptTail" => (k_here; (with_reducible show wpAny _ _ (subscriptTail _ _ (Value.ref _) (Value.int _ _)) _ _ _); (k_dflt (refine' accK_out ?k0 ?k1 ?k2 ?k3 ?k4 ?k5 ?k6 ?k7 ?_ ?k9; (case k0 => exact rfl); (case k1 => k_asm); (case k2 => k_asm); (case k3 => k_asm); (case k4 => k_mem); (case k5 => k_asm); (case k6 => k_extra "own:lomega"); (case k7 => k_extra "own:lomega"); (case k9 => with_unfolding_all rfl); k_whole)); intro _ _ _ _))
  (k_with "subscriptTail" => (k_here; (with_reducible show wpAny _ _ (subscriptTail _ _ (Value.ref _) (Value.int _ _)) _ _ _); (k_dflt (refine' accK_sub ?k1 ?k2 ?k3 ?k4 ?k5 ?k6 ?k7 ?k8 ?_ ?k9; (case k1 => k_asm); (case k2 => k_asm); (case k3 => k_asm); (case k4 => k_mem); (case k5 => k_asm); (case k6 => k_extra "own:lomega"); (case k7 => k_extra "own:lomega"); (case k8 => k_extra "own:lomega"); (case k9 => with_unfolding_all rfl); k_whole)); intro _ _ _))
  (k_with "compareOp Lt ref" => (k_here; (k_dflt (refine' pcK_lt ?k1 ?k2 ?k3 ?k4 ?k5 ?_; (case k2 => k_asm); (case k4 => k_asm); (case k5 => k_asm); (case k3 => first | exact fun _ h => h | exact fun _ h => .tail _ h | exact fun _ h => .tail _ (.tail _ h)); (case k1 => ktr_units); k_whole))))
  (k_with "setItem ref int" => (k_here; (k_dflt (refine' accK_set ?k1 ?k2 ?k3 ?k4 ?kr ?ke ?k5 ?kx ?k6 ?k7 ?k8 ?_; (case k1 => k_asm); (case k2 => k_asm); (case k3 => k_asm); (case k4 => k_mem); (case k5 => k_asm); (case kx => k_asm); (case kr => first | exact fun _ h => h | exact fun _ h => .tail _ h | exact fun _ h => .tail _ (.tail _ h)); (case ke => k_asm); (case k6 => k_extra "own:lomega"); (case k7 => k_extra "own:lomega"); (case k8 => k_extra "own:lomega"); k_whole)); intro _ _ _ _ _; (try k_sweep)))
  (k_with "call builtin:len" => (k_here; (with_reducible show wpAny _ _ (call (Value.builtin "len") [Value.ref _]) _ _ _); (k_dflt (refine' accK_len ?k1 ?k2 ?k3 ?k4 ?k5 ?k6 ?k7 ?k8 ?k9 ?ka ?kb ?kc ?kd ?_; (case k1 => k_asm); (case k2 => k_asm); (case k3 => k_asm); (case k4 => k_asm); (case k5 => k_asm); (case k6 => first | exact rfl | assumption); (case k7 => ktr_room); (case k8 => ktr_units); (case k9 => assumption); (case ka => assumption); (case kb => assumption); (case kc => assumption); (case kd => k_extra "own:lomega"); k_whole)); intro _ _ _ _ _ _))
  (k_with "own:steps" => repeat' (first | (k_unfold; (try dsimp only)) | ((fail_if_success (with_reducible show wpAny _ _ (exec (Stmt.While _ _ _ _) _) _ _ _)); (first | walk1 | (dsimp only; walk1) | fail "no step"))))
  (k_with "getMethod ref" => (k_here; k_dflt (refine' accK_methodR ?k1 ?k2 ?k3 ?k4 ?k5 ?k6 ?k7 ?k8 ?k9 ?ka ?_; (case k1 => k_asm); (case k2 => k_asm); (case k3 => k_asm); (case k4 => k_asm); (case k5 => k_mem); (case k6 => first | exact fun _ h => h | exact fun _ h => .tail _ h | exact fun _ h => .tail _ (.tail _ h)); (case k7 => k_is); (case k8 => k_is); (case k9 => first | exact .inl rfl | exact .inr rfl); (case ka => decide); k_whole)))
  (k_with "own:fin_os" => (first | rfl | assumption | (simp only [] at *; simp only [*])))
  (k_with "own:fin_err" => (refine' err _ _ _ _ _ ?fg ?u ?r ?ar ?gg ?os; (case u => with_reducible assumption); (case r => with_reducible assumption); (case fg => with_reducible assumption); (try (case ar => with_reducible assumption)); (try (case gg => with_reducible assumption)); (try (case os => k_extra "own:fin_os"))))
  (k_with "truthy ref" => (k_here; (k_dflt (refine' accK_yes (Q := fun _ _ => True) ?k1 ?k2 ?k3 ?k4 ?k5 ?k6 ?k7 ?k8 ?k9 ?ka ?kb ?kc ?kd ?ke ?_; (case k1 => k_asm); (case k2 => k_asm); (case k3 => k_asm); (case k4 => k_asm); (case k5 => k_asm); (case k6 => first | exact rfl | assumption); (case k7 => ktr_room); (case k8 => ktr_units); (case k9 => assumption); (case ka => assumption); (case kb => assumption); (case kc => assumption); (case kd => k_extra "own:lomega"); (case ke => k_extra "own:lomega"); k_whole)); intro _ _ _ _ _))
  (k_with "truthy ref" => (k_here; (k_dflt (refine' accK_no (Q := fun _ _ => True) ?k1 ?k2 ?k3 ?k4 ?k5 ?k6 ?k7 ?k8 ?k9 ?ka ?kb ?kc ?kd ?ke ?_; (case k1 => k_asm); (case k2 => k_asm); (case k3 => k_asm); (case k4 => k_asm); (case k5 => k_asm); (case k6 => first | exact rfl | assumption); (case k7 => ktr_room); (case k8 => ktr_units); (case k9 => assumption); (case ka => assumption); (case kb => assumption); (case kc => assumption); (case kd => k_extra "own:lomega"); (case ke => k_extra "own:lomega"); k_whole)); intro _ _ _ _ _))
  (k_with "getMethod ref" => (k_here; k_dflt (refine' accK_method ?k1 ?k2 ?k3 ?k4 ?k5 ?k6 ?k7 ?k8 ?k9 ?_; (case k1 => k_asm); (case k2 => k_asm); (case k3 => k_asm); (case k4 => first | exact .head _ | exact .tail _ (.head _)); (case k5 => first | exact .tail _ (by assumption) | exact .tail _ (.tail _ (by assumption))); (case k6 => k_is); (case k7 => k_is); (case k8 => first | exact .inl rfl | exact .inr rfl); (case k9 => decide); k_whole)))
  (k_with "call builtin:list.append" => (k_here; (k_dflt (refine' accK_append2 ?k1 ?k2 ?k3 ?k4 ?k5 ?k7 ?_; (case k1 => k_asm); (case k2 => k_asm); (case k3 => k_asm); (case k4 => k_asm); (case k5 => rfl); (case k7 => omega); k_whole)); intro _ _ _ _; (try k_sweep)))
  (k_with "subscriptTail" => (k_here; (k_dflt (refine' accK_getSlice ?k1 ?k2 ?k3 ?k4 ?k5 ?k6 ?_ ?k7; (case k1 => k_asm); (case k2 => k_asm); (case k3 => k_asm); (case k4 => first | exact .head _ | exact .tail _ (.head _)); (case k5 => omega); (case k6 => first | exact .int _ _ | exact .none); (case k7 => with_unfolding_all rfl); k_whole)); intro _ _ _ _; (try k_sweep)))
  trivial
set_option maxHeartbeats 2000000 in
theorem popfrom_call {w : World} {p : Program} {loose : List Str} {mean : ExcName → Option Value} {mg mb : Str → Option Value} {dp un : Nat} {gd : Option (List Code)} {cn : Str} {cs : Scope} {a : Addr} {ccd : Value} {cl : List (Str × Addr)} {outer : List Env} {A₀ : Around} {base h₀ : Heap} {L : Addr} {m : Str → Option Value} {rest : List (Addr × Obj)} {s : Shared}
    {Q E : Value → Shared → Prop} {row d : Addr} {vs : List Value} {n : Nat} {hs k : Int} {t₁ t₂ : Tok} {nd : Nat} {c : Nat} {t : Tok}
    (B : Below A₀ base outer h₀) (F : Fr h₀ L s.heap m) (X : (KW w.params).In h₀) (N : News h₀ L s.heap ((row, accObj d vs.toArray n) :: rest)) (T : Top p loose mean mg mb h₀) (hk : cs.kind = .function)
    (hd : dp + 5 < recursionLimit) (hu : un + 50 < cLine) (hdi : (d, szObj hs t₁ k t₂ nd) ∈ rest) (hne : ∀ p ∈ rest, p.1 ≠ row) (hl : vs.length ≤ 1000) {z : Int} (hz : z = -(c : Int)) (hc : 1 ≤ c)
    (ret : ∀ l n' h' tk', Fr h₀ L h' m → News h₀ L h' ((row, accObj d (vs.take (vs.length - c)).toArray n') :: (l, listOf (vs.drop (vs.length - c)).toArray 0) :: rest) → Q (.ref l) { s with heap := h', toks := tk' }) :
    wpAny (model PG w) (ktrTop dp un gd cn cs L a ccd cl outer) (call (.ref 102) [.ref row, .int z t]) Q E s := by
  refine wpAny_call ?_
  k_dflt (refine' code_def ?k1 ?k2 ?k3 ?k4 ?k5 ?kA ?kF ?kK ?k6 ?k7 ?k8 ?k9 ?kB ?_ ?c2 ?c3 ?c4 ?c5; (case kA => exact rfl); (case kF => exact rfl); (case kK => assumption); (case k1 => k_asm); (case k2 => k_asm); (case k3 => k_asm); (case k4 => k_asm); (case k5 => k_asm); (case k6 => k_is); (case k7 => k_is); (case k8 => ktr_room); (case k9 => exact binds_K (X.keeps F.keep) rfl (by k_is) rfl rfl rfl); (case c5 => decide); (case kB => exact locs rfl); (case c2 => exact rfl); (case c3 => exact rfl); (case c4 => exact rfl); k_whole; intro g' L' h' FG' F' N' B' X' T'; (try dsimp only); (try k_fold))
  k_extra "own:steps"
  rename Fr g' _ _ _ => F₂
  rename News g' _ _ _ => N₂
  rename _ ∧ _ => hlt
  refine accK_setSlice (ws := []) (c := 0) F₂ X' (Mine.News.third N₂) ?_ (.head _) hl (Nat.zero_le _) (.int _ _) fun n' h₃ F₃ N₃ => ?_
  · intro z hz
    rcases List.mem_cons.mp hz with rfl | hz
    · exact N₂.twoPlaces (.head _) (.tail _ (.tail _ (.head rest))) (fun e => absurd (congrArg Obj.cls e) (by simp [accObj]))
    · rcases List.mem_cons.mp hz with rfl | hz
      · exact N₂.twoPlaces (.tail _ (.head _)) (.tail _ (.tail _ (.head rest))) (fun e => absurd (congrArg Obj.cls e) (by simp [accObj]))
      · exact hne z hz
  k_extra "own:steps"
  rename Fr h₀ _ _ _ => F₆
  rename News h₀ _ _ _ => N₆
  have e : (some z).elim 0 (clipAt vs.length) = vs.length - c := by rw [hz]; exact clipAt_neg _ _ hc
  simp only [e, List.append_nil] at N₆
  exact ret _ _ _ _ F₆ (Mine.News.drop2 N₆)
end Mine
end
section
open PySem PySem.W PyProof.Rows PySem.Spec PySem.Calls
set_option maxRecDepth 100000
namespace Mine
theorem start_C6 : True := by
  w_top off
  k_with_none
  (k_with "own:omega" => (first | with_reducible assumption | (refine' Mine.room2 ?h ?e; (case h => with_reducible assumption); (case e => decide)) | (refine' Mine.room1 ?h ?e; (case h => with_reducible assumption); (case e => decide)) | (refine' Mine.le_up ?h ?e; (case h => with_reducible assumption); (case e => decide)) | (refine' Mine.room0 ?h; (case h => with_reducible assumption)) | ((fail_if_success (fail_if_success omega (config := {}))); lia)))
  trivial
section
variable {w : World} {A : Around} {E : Value → Shared → Prop} {s : Shared} {g : Heap} {L row d l : Addr} {m : Str → Option Value} {rest : List (Addr × Obj)} {vs ws : List Value} {n c nd : Nat} {hs k : Int} {t₁ t₂ : Tok}
theorem reset_slice {Q : Unit → Shared → Prop} (F : Fr g L s.heap m) (X₀ : (KW w.params).In g) (N : News g L s.heap ((row, accObj d vs.toArray n) :: (d, szObj hs t₁ k t₂ nd) :: rest)) (hne : ∀ p ∈ rest, p.1 ≠ row) (hlm : (l, listOf ws.toArray c) ∈ rest)
    (hl : vs.length ≤ 1000) (hw : ws.length ≤ 1000)
    (h : ∀ n' h', Fr g L h' m → News g L h' ((row, accObj d ws.toArray n') :: (d, szObj hs t₁ k t₂ nd) :: rest) → Q () { s with heap := h' }) :
    wpAny (model PG w) A (setItem (.ref row) (.ref s.heap.objs.size) (.ref l)) Q E { s with heap := s.heap.push (sliceObj .none) } :=
  accK_setSlice (lo := none) F X₀ N (fun p hp => by
    rcases List.mem_cons.mp hp with rfl | hp
    · exact N.twoPlaces (.tail _ (.head _)) (.head _) (fun e => absurd (congrArg Obj.cls e) (by simp [accObj]))
    · exact hne p hp) (.tail _ hlm) hl hw .none h
end
theorem lines_C6_0 : True := by
  (k_with "own:lomega" => first | omega | (simp only [List.length_append, List.length_cons, List.length_nil, List.length_set] at *; omega))
  (k_with "own:k_mem" => with_reducible_and_instances assumption)
  (k_with "subscriptTail" => (k_here; (with_reducible show wpAny _ _ (subscriptTail _ _ (Value.ref _) (Value.int _ _)) _ _ _); (k_dflt (refine' accK_out ?k0 ?k1 ?k2 ?k3 ?k4 ?k5 ?k6 ?k7 ?_ ?k9; (case k0 => exact rfl); (case k1 => k_asm); (case k2 => k_asm); (case k3 => k_asm); (case k4 => k_mem); (case k5 => k_asm); (case k6 => k_extra "own:lomega"); (case k7 => k_extra "own:lomega"); (case k9 => with_unfolding_all rfl); k_whole)); intro _ _ _ _))
  (k_with "subscriptTail" => (k_here; (with_reducible show wpAny _ _ (subscriptTail _ _ (Value.ref _) (Value.int _ _)) _ _ _); (k_dflt (refine' accK_sub ?k1 ?k2 ?k3 ?k4 ?k5 ?k6 ?k7 ?k8 ?_ ?k9; (case k1 => k_asm); (case k2 => k_asm); (case k3 => k_asm); (case k4 => k_mem); (case k5 => k_asm); (case k6 => k_extra "own:lomega"); (case k7 => k_extra "own:lomega"); (case k8 => k_extra "own:lomega"); (case k9 => with_unfolding_all rfl); k_whole)); intro _ _ _))
  (k_with "compareOp Lt ref" => (k_here; (k_dflt (refine' pcK_lt ?k1 ?k2 ?k3 ?k4 ?k5 ?_; (case k2 => k_asm); (case k4 => k_asm); (case k5 => k_asm); (case k3 => first | exact fun _ h => h | exact fun _ h => .tail _ h | exact fun _ h => .tail _ (.tail _ h)); (case k1 => ktr_units); k_whole))))
  (k_with "setItem ref int" => (k_here; (k_dflt (refine' accK_set ?k1 ?k2 ?k3 ?k4 ?kr ?ke ?k5 ?kx ?k6 ?k7 ?k8 ?_; (case k1 => k_asm); (case k2 => k_asm); (case k3 => k_asm); (case k4 => k_mem); (case k5 => k_asm); (case kx => k_asm); (case kr => first | exact fun _ h => h | exact fun _ h => .tail _ h | exact fun _ h => .tail _ (.tail _ h)); (case ke => k_asm); (case k6 => k_extra "own:lomega"); (case k7 => k_extra "own:lomega"); (case k8 => k_extra "own:lomega"); k_whole)); intro _ _ _ _ _; (try k_sweep)))
  (k_with "call builtin:len" => (k_here; (with_reducible show wpAny _ _ (call (Value.builtin "len") [Value.ref _]) _ _ _); (k_dflt (refine' accK_len ?k1 ?k2 ?k3 ?k4 ?k5 ?k6 ?k7 ?k8 ?k9 ?ka ?kb ?kc ?kd ?_; (case k1 => k_asm); (case k2 => k_asm); (case k3 => k_asm); (case k4 => k_asm); (case k5 => k_asm); (case k6 => first | exact rfl | assumption); (case k7 => ktr_room); (case k8 => ktr_units); (case k9 => assumption); (case ka => assumption); (case kb => assumption); (case kc => assumption); (case kd => k_extra "own:lomega"); k_whole)); intro _ _ _ _ _ _))
  (k_with "own:steps" => repeat' (first | (k_unfold; (try dsimp only)) | ((fail_if_success (with_reducible show wpAny _ _ (exec (Stmt.While _ _ _ _) _) _ _ _)); (first | walk1 | (dsimp only; walk1) | fail "no step"))))
  (k_with "getMethod ref" => (k_here; k_dflt (refine' accK_methodR ?k1 ?k2 ?k3 ?k4 ?k5 ?k6 ?k7 ?k8 ?k9 ?ka ?_; (case k1 => k_asm); (case k2 => k_asm); (case k3 => k_asm); (case k4 => k_asm); (case k5 => k_mem); (case k6 => first | exact fun _ h => h | exact fun _ h => .tail _ h | exact fun _ h => .tail _ (.tail _ h)); (case k7 => k_is); (case k8 => k_is); (case k9 => first | exact .inl rfl | exact .inr rfl); (case ka => decide); k_whole)))
  (k_with "own:fin_os" => (first | rfl | assumption | (simp only [] at *; simp only [*])))
  (k_with "own:fin_err" => (refine' err _ _ _ _ _ ?fg ?u ?r ?ar ?gg ?os; (case u => with_reducible assumption); (case r => with_reducible assumption); (case fg => with_reducible assumption); (try (case ar => with_reducible assumption)); (try (case gg => with_reducible assumption)); (try (case os => k_extra "own:fin_os"))))
  (k_with "truthy ref" => (k_here; (k_dflt (refine' accK_yes (Q := fun _ _ => True) ?k1 ?k2 ?k3 ?k4 ?k5 ?k6 ?k7 ?k8 ?k9 ?ka ?kb ?kc ?kd ?ke ?_; (case k1 => k_asm); (case k2 => k_asm); (case k3 => k_asm); (case k4 => k_asm); (case k5 => k_asm); (case k6 => first | exact rfl | assumption); (case k7 => ktr_room); (case k8 => ktr_units); (case k9 => assumption); (case ka => assumption); (case kb => assumption); (case kc => assumption); (case kd => k_extra "own:lomega"); (case ke => k_extra "own:lomega"); k_whole)); intro _ _ _ _ _))
  (k_with "truthy ref" => (k_here; (k_dflt (refine' accK_no (Q := fun _ _ => True) ?k1 ?k2 ?k3 ?k4 ?k5 ?k6 ?k7 ?k8 ?k9 ?ka ?kb ?kc ?kd ?ke ?_; (case k1 => k_asm); (case k2 => k_asm); (case k3 => k_asm); (case k4 => k_asm); (case k5 => k_asm); (case k6 => first | exact rfl | assumption); (case k7 => ktr_room); (case k8 => ktr_units); (case k9 => assumption); (case ka => assumption); (case kb => assumption); (case kc => assumption); (case kd => k_extra "own:lomega"); (case ke => k_extra "own:lomega"); k_whole)); intro _ _ _ _ _))
  (k_with "getMethod ref" => (k_here; k_dflt (refine' accK_method ?k1 ?k2 ?k3 ?k4 ?k5 ?k6 ?k7 ?k8 ?k9 ?_; (case k1 => k_asm); (case k2 => k_asm); (case k3 => k_asm); (case k4 => first | exact .head _ | exact .tail _ (.head _)); (case k5 => first | exact .tail _ (by assumption) | exact .tail _ (.tail _ (by assumption))); (case k6 => k_is); (case k7 => k_is); (case k8 => first | exact .inl rfl | exact .inr rfl); (case k9 => decide); k_whole)))
  (k_with "call builtin:list.append" => (k_here; (k_dflt (refine' accK_append2 ?k1 ?k2 ?k3 ?k4 ?k5 ?k7 ?_; (case k1 => k_asm); (case k2 => k_asm); (case k3 => k_asm); (case k4 => k_asm); (case k5 => rfl); (case k7 => omega); k_whole)); intro _ _ _ _; (try k_sweep)))
  (k_with "subscriptTail" => (k_here; (k_dflt (refine' accK_getSlice ?k1 ?k2 ?k3 ?k4 ?k5 ?k6 ?_ ?k7; (case k1 => k_asm); (case k2 => k_asm); (case k3 => k_asm); (case k4 => first | exact .head _ | exact .tail _ (.head _)); (case k5 => omega); (case k6 => first | exact .int _ _ | exact .none); (case k7 => with_unfolding_all rfl); k_whole)); intro _ _ _ _; (try k_sweep)))
  (k_with "setItem ref ref" => (k_here; (k_dflt (refine' reset_slice ?k1 ?k2 ?k3 ?k4 ?k5 ?k6 ?k7 ?_; (case k1 => k_asm); (case k2 => k_asm); (case k3 => k_asm); (case k4 => assumption); (case k5 => assumption); (case k6 => assumption); (case k7 => assumption); k_whole)); intro _ _ _ _; (try k_sweep)))
  (k_with "setAttr ref" => (k_here; (k_dflt (refine' accK_set1 ?k1 ?k2 ?k3 ?k4 ?_; (case k1 => k_asm); (case k2 => k_asm); (case k3 => k_asm); (case k4 => assumption); k_whole)); intro _ _ _ _; (try k_sweep)))
  trivial
set_option maxHeartbeats 2000000 in
theorem reset_call {w : World} {p : Program} {loose : List Str} {mean : ExcName → Option Value} {mg mb : Str → Option Value} {dp un : Nat} {gd : Option (List Code)} {cn : Str} {cs : Scope} {a : Addr} {ccd : Value} {cl : List (Str × Addr)} {outer : List Env} {A₀ : Around} {base h₀ : Heap} {L : Addr} {m : Str → Option Value} {rest : List (Addr × Obj)} {s : Shared}
    {Q E : Value → Shared → Prop} {row d l : Addr} {vs ws : List Value} {n c : Nat} {hs k : Int} {t₁ t₂ : Tok} {nd : Nat}
    (B : Below A₀ base outer h₀) (F : Fr h₀ L s.heap m) (X : (KW w.params).In h₀) (N : News h₀ L s.heap ((row, accObj d vs.toArray n) :: (d, szObj hs t₁ k t₂ nd) :: rest)) (T : Top p loose mean mg mb h₀) (hk : cs.kind = .function)
    (hd : dp + 5 < recursionLimit) (hu : un + 50 < cLine) (hne : ∀ p ∈ rest, p.1 ≠ row) (hnd : ∀ p ∈ rest, p.1 ≠ d) (hl : vs.length ≤ 1000) (hw : ws.length ≤ 1000) (hlm : (l, listOf ws.toArray c) ∈ rest)
    (ret : ∀ n' t' h' tk', Fr h₀ L h' m → News h₀ L h' ((row, accObj d ws.toArray n') :: (d, szObj hs t₁ 0 t' nd) :: rest) → Q .none { s with heap := h', toks := tk' }) :
    wpAny (model PG w) (ktrTop dp un gd cn cs L a ccd cl outer) (call (.ref 132) [.ref row, .ref l]) Q E s := by
  refine wpAny_call ?_
  k_dflt (refine' code_def ?k1 ?k2 ?k3 ?k4 ?k5 ?kA ?kF ?kK ?k6 ?k7 ?k8 ?k9 ?kB ?_ ?c2 ?c3 ?c4 ?c5; (case kA => exact rfl); (case kF => exact rfl); (case kK => assumption); (case k1 => k_asm); (case k2 => k_asm); (case k3 => k_asm); (case k4 => k_asm); (case k5 => k_asm); (case k6 => k_is); (case k7 => k_is); (case k8 => ktr_room); (case k9 => exact binds_K (X.keeps F.keep) rfl (by k_is) rfl rfl rfl); (case c5 => decide); (case kB => exact locs rfl); (case c2 => exact rfl); (case c3 => exact rfl); (case c4 => exact rfl); k_whole; intro g' L' h' FG' F' N' B' X' T'; (try dsimp only); (try k_fold))
  k_extra "own:steps"
  rename Fr h₀ _ _ _ => F₆
  rename News h₀ _ _ _ => N₆
  exact ret _ _ _ _ F₆ N₆
end Mine
end
section
open PySem PySem.W PyProof.Rows PySem.Spec PySem.Calls
set_option maxRecDepth 100000
namespace Mine
theorem start_C7 : True := by
  w_top off
  k_with_none
  (k_with "own:omega" => (first | with_reducible assumption | (refine' Mine.room2 ?h ?e; (case h => with_reducible assumption); (case e => decide)) | (refine' Mine.room1 ?h ?e; (case h => with_reducible assumption); (case e => decide)) | (refine' Mine.le_up ?h ?e; (case h => with_reducible assumption); (case e => decide)) | (refine' Mine.room0 ?h; (case h => with_reducible assumption)) | ((fail_if_success (fail_if_success omega (config := {}))); lia)))
  trivial
theorem lines_C7_0 : True := by
  (k_with "eval Name" => ((with_reducible show wpAny _ _ (eval (Expr.Name _ _) (genEnv _ _ _ _ _ _)) _ _ _); k_dflt (first | (refine' ldVarG ?k1 ?k2 ?_ ?k3 ?k4 ?k5; (case k1 => with_reducible assumption); (case k2 => with_reducible assumption); (case k3 => rfl); (case k4 => rfl); (case k5 => decide)) | (refine' gen_name_B ?k1 ?k2 ?k3 ?k4 ?k5 ?k6 ?_ ?k7 ?k8 ?k9 ?k10; (case k1 => with_reducible assumption); (case k2 => with_reducible assumption); (case k3 => with_reducible assumption); (case k4 => k_dflt k_is); (case k5 => boot_by_name); (case k6 => decide); (case k7 => rfl); (case k8 => rfl); (case k9 => rfl); (case k10 => decide)) | (refine' gen_name_K ?k1 ?k2 ?k3 ?k4 ?_ ?k7 ?k8 ?k9 ?k10; (case k1 => with_reducible assumption); (case k2 => with_reducible assumption); (case k3 => with_reducible assumption); (case k4 => k_dflt k_is); (case k7 => rfl); (case k8 => rfl); (case k9 => rfl); (case k10 => decide)))))
  trivial
set_option maxHeartbeats 2000000 in
theorem str_call {w : World} {p : Program} {loose : List Str} {mean : ExcName → Option Value} {mg mb : Str → Option Value} {dp un : Nat} {gd : Option (List Code)} {cn : Str} {cs : Scope} {a : Addr} {ccd : Value} {cl : List (Str × Addr)} {outer : List Env} {A₀ : Around} {base h₀ : Heap} {L : Addr} {m : Str → Option Value} {rest : List (Addr × Obj)} {s : Shared}
    {Q E : Value → Shared → Prop} {row d : Addr} {vs : List Value} {n : Nat} {ps : Array Value} {qs : List (Str × Str)}
    (B : Below A₀ base outer h₀) (F : Fr h₀ L s.heap m) (X : (KW w.params).In h₀) (N : News h₀ L s.heap ((119, tabObj ps) :: rest)) (T : Top p loose mean mg mb h₀) (hk : cs.kind = .function)
    (hd : dp + 5 < recursionLimit) (hu : un + 50 < cLine) (G : AllBare s.gens)
    (hps : ps = #[] ∨ Found posS ps) (hne : Found posS ps ∨ ∀ p ∈ rest, p.1 ≠ 119) (hrow : (row, accObj d vs.toArray n) ∈ rest) (hP : Pairs rest vs qs)
    (hsz : ∀ q ∈ qs, q.1.length ≤ 10 ∧ q.2.length ≤ 10) (hl : qs.length ≤ 1000)
    (ret : ∀ s' ps' t, Fr h₀ L s'.heap m → News h₀ L s'.heap ((119, tabObj ps') :: rest) → AllBare s'.gens → s'.os = s.os → Found posS ps' → (Found posS ps → ps' = ps) → Q (.str (Txt.join "" (qs.map fun q => Txt.join "" [q.1, q.2])) t) s') :
    wpAny (model PG w) (ktrTop dp un gd cn cs L a ccd cl outer) (call (.ref 124) [.ref row]) Q E s := by
  have hlen := hP.length
  refine wpAny_call ?_
  k_dflt ktr_enter
  k_steps
  rename Fr _ _ _ _ => lF
  rename News _ _ _ _ => lN
  rename Top _ _ _ _ _ _ => lT
  (with_unfolding_all refine gen_pairs (fun i y => ∃ t, y = .str (Txt.join "" [(qs.getD i default).1, (qs.getD i default).2]) t) lF lN hne (by k_asm) lT G rfl rfl rfl (by decide) rfl rfl rfl (by decide) rfl (by ktr_room) (fun Q' h => ld lF rfl h) hrow hP rfl (by k_is) (by kernel_rfl) hps rfl ?q ?k (fun _ => rfl))
  case q =>
    intro C code s₂ m₂ A' E' i x y t u hA1 hA2 hA3 hi hq FC h1 h2
    have hq1 : qs.getD i default = (x, y) := by rw [List.getD_eq_getElem?_getD, hq]; rfl
    have hq2 := hsz (x, y) (List.mem_of_getElem? hq)
    rw [hq1]
    dsimp only at hq2 ⊢
    k_steps
    refine wpAny_newTuple ?_ (by simp [sizeLine])
    k_steps
    refine join_tuple (s := { s₂ with heap := s₂.heap.push _ }) (ys := [x, y]) ⟨_, Heap.get?_push_size _ rfl, rfl, _, rfl⟩ (.cons _ _ (.cons _ _ .nil)) (by have : (Str.ofString "").length = 0 := rfl; simp [this]; omega) fun t' k' => ?_
    exact ⟨⟨_, rfl⟩, _, _, rfl, fun b o e => Heap.get?_push_of_some _ e⟩
  case k =>
    intro a' s' ps' K hK hK' F' N' G' hos hf hf' X'
    k_steps
    have hm : (List.range vs.length).map (fun i => Txt.join "" [(qs.getD i default).1, (qs.getD i default).2]) = qs.map fun q => Txt.join "" [q.1, q.2] := by
      apply List.ext_getElem?
      intro j
      rw [List.getElem?_map, List.getElem?_map, hlen]
      by_cases hj : j < qs.length
      · rw [List.getElem?_range hj]
        simp [List.getElem?_eq_getElem hj]
      · rw [List.getElem?_eq_none (by simpa using Nat.le_of_not_lt hj), List.getElem?_eq_none (Nat.le_of_not_lt hj)]
        rfl
    refine join_rowsK F' G' X' hK (fun i => Txt.join "" [(qs.getD i default).1, (qs.getD i default).2]) (fun j v hv => hv) ?_ (fun s₃ t₃ F₃ G₃ os₃ keep => ?_) (by rw [hlen]; simp [sizeLine]; omega)
    · rw [hm]
      have h0 : (Str.ofString "").length = 0 := rfl
      refine joinOk_of ?_
      rw [h0, Nat.mul_zero, Nat.add_zero, List.map_map]
      have hb : ∀ (l : List (Str × Str)), (∀ q ∈ l, q.1.length ≤ 10 ∧ q.2.length ≤ 10) → (l.map ((fun x : Str => x.length) ∘ fun q => Txt.join "" [q.1, q.2])).sum ≤ 20 * l.length := by
        intro l hl'
        induction l with
        | nil => simp
        | cons q l ih =>
          have h1 := ih fun q hq => hl' q (.tail _ hq)
          have h2 := hl' q (.head _)
          have h3 : (Txt.join "" [q.1, q.2]).length ≤ ([q.1, q.2].map (·.length)).sum + [q.1, q.2].length * (Str.ofString "").length := StrLaws.join_length_le (Str.ofString "") [q.1, q.2]
          rw [h0] at h3
          simp only [List.map_cons, List.map_nil, List.sum_cons, List.sum_nil, List.length_cons, List.length_nil, Nat.mul_zero, Nat.add_zero] at h3
          simp only [List.map_cons, List.sum_cons, List.length_cons, Function.comp]
          (try simp only [Function.comp] at h1)
          omega
      have := hb qs hsz
      omega
    · have N₃ : News _ _ s₃.heap ((119, tabObj ps') :: rest) := fun p hp => ⟨keep _ _ (hK' p hp) (N' p hp).1, (N' p hp).2⟩
      rw [hm]
      k_steps
      exact ret s₃ ps' t₃ (by k_asm) (by k_asm) G₃ (os₃.trans hos) hf hf'
end Mine
end
section
open PySem PySem.W PyProof.Rows PySem.Spec PySem.Calls
set_option maxRecDepth 100000
namespace Mine
theorem start_D1 : True := by
  w_top off
  k_with_none
  (k_with "own:omega" => (first | with_reducible assumption | (refine' Mine.room2 ?h ?e; (case h => with_reducible assumption); (case e => decide)) | (refine' Mine.room1 ?h ?e; (case h => with_reducible assumption); (case e => decide)) | (refine' Mine.le_up ?h ?e; (case h => with_reducible assumption); (case e => decide)) | (refine' Mine.room0 ?h; (case h => with_reducible assumption)) | ((fail_if_success (fail_if_success omega (config := {}))); lia)))
  trivial
/-- the piece that a sign is -/
noncomputable def pieceOf (c : Nat) : Nat := if c = 45 then BL else c
end Mine
end
section
open PySem PySem.W PyProof.Rows PySem.Spec PySem.Calls
set_option maxRecDepth 100000
namespace Mine
theorem start_F2 : True := by
  w_top off
  k_with_none
  (k_with "own:omega" => (first | with_reducible assumption | (refine' Mine.room2 ?h ?e; (case h => with_reducible assumption); (case e => decide)) | (refine' Mine.room1 ?h ?e; (case h => with_reducible assumption); (case e => decide)) | (refine' Mine.le_up ?h ?e; (case h => with_reducible assumption); (case e => decide)) | (refine' Mine.room0 ?h; (case h => with_reducible assumption)) | ((fail_if_success (fail_if_success omega (config := {}))); lia)))
  trivial
theorem Pairs.at {news : List (Addr × Obj)} : ∀ {vs : List Value} {qs : List (Str × Str)} {i : Nat}, Pairs news vs qs → i < vs.length → ∃ a t u x y, vs[i]? = some (.ref a) ∧ qs[i]? = some (x, y) ∧ (a, tupObj x t y u) ∈ news
  | _ :: _, (x, y) :: _, 0, ⟨⟨a, t, u, e, h⟩, _⟩, _ => ⟨a, t, u, x, y, by rw [e]; rfl, rfl, h⟩
  | _ :: _, _ :: _, i + 1, ⟨_, r⟩, hi => by
    obtain ⟨a, t, u, x, y, h1, h2, h3⟩ := Pairs.at r (by simpa using hi)
    exact ⟨a, t, u, x, y, by simpa using h1, by simpa using h2, h3⟩
section
variable {w : World} {A : Around} {E : Value → Shared → Prop} {s : Shared} {env : Env} {h₀ : Heap} {m : Str → Option Value} {news : List (Addr × Obj)}
/-- a for loop over a plain list of pairs, its body free to turn the state -/
theorem loopP {Q : Flow → Shared → Prop} {xa xb : Str} {pa pb pt : Pos} {kt : Nat} {body : List Stmt} {I L l : Addr} {c : Nat} {vs : List Value} {qs : List (Str × Str)} (J : Nat → Array GenState → OsState → (Str → Option Value) → List (Addr × Obj) → Prop)
    (hh : A.handled = none) (hxa : env.kindOf xa = some .local) (hxb : env.kindOf xb = some .local) (hp : (env.scope.kind == .class || (env.scope.kind == .module && env.locals != env.globals)) = false)
    (hIL : I ≠ L) (hI : h₀.get? I = none) (hst : s.heap.IsListIter I l 0) (F : Fr h₀ L s.heap m) (N : News h₀ L s.heap news) (hoff : ∀ p ∈ news, p.1 ≠ I) (h0 : J 0 s.gens s.os m news)
    (hJ : ∀ i g os m₁ n₁, J i g os m₁ n₁ → (l, listOf vs.toArray c) ∈ n₁ ∧ Pairs n₁ vs qs)
    (step : ∀ i x y t u s₁ m₁ news₁, i < vs.length → qs[i]? = some (x, y) → s₁.heap.IsListIter I l (i + 1) → Fr h₀ L s₁.heap (fun z => if z = xb then some (.str y u) else if z = xa then some (.str x t) else m₁ z) → News h₀ L s₁.heap news₁ → (∀ p ∈ news₁, p.1 ≠ I) → J i s₁.gens s₁.os m₁ news₁ →
      wpAny (model PG w) A (execs body env) (TurnEnd h₀ L I (fun j h => h.IsListIter I l j) J Q i) E s₁)
    (hQ : ∀ s' m' news', Fr h₀ L s'.heap m' → News h₀ L s'.heap news' → J vs.length s'.gens s'.os m' news' → Q .next s')
    (hloc : env.locals = L := by rfl) (hE : PassesOwn (model PG w) A env E := by passes_own) :
    codeAny (model PG w) A (.forLoop (.Tuple [.Name xa pa, .Name xb pb] kt pt) (.ref I) body [] env) (fun r s' => match r with | .ok f => Q f s' | .error e => cameBackBy (model PG w) A env E e s') s := by
  subst hloc
  refine codeAny_forLoop_any (fun k s' => ∃ m' news' i, s'.heap.IsListIter I l i ∧ Fr h₀ env.locals s'.heap m' ∧ News h₀ env.locals s'.heap news' ∧ (∀ p ∈ news', p.1 ≠ I) ∧ J i s'.gens s'.os m' news' ∧ i ≤ vs.length ∧ k = vs.length + 1 - i) ?_ (vs.length + 1)
    ⟨m, news, 0, hst, F, N, hoff, h0, Nat.zero_le _, rfl⟩
  rintro k s' ⟨m', news', i, hst', F', N', hoff', hJ', hi, rfl⟩
  obtain ⟨hl, hP⟩ := hJ _ _ _ _ _ hJ'
  have hsq : SeqAt s'.heap l vs.toArray := ⟨_, _, N'.get hl, rfl⟩
  have keep : ∀ h₁ : Heap, (∀ b o, b ≠ I → s'.heap.get? b = some o → h₁.get? b = some o) → Fr h₀ env.locals h₁ m' ∧ News h₀ env.locals h₁ news' := fun h₁ hk₁ =>
    ⟨⟨F'.ns.at' fun o e => hk₁ _ o hIL.symm e, fun b o e => hk₁ b o (by intro q; rw [q, hI] at e; cases e) (F'.keep b o e), F'.above⟩, fun p hp => ⟨hk₁ _ _ (hoff' p hp) (N' p hp).1, (N' p hp).2⟩⟩
  by_cases hlt : i < vs.length
  · obtain ⟨a, t, u, x, y, e1, e2, e3⟩ := Pairs.at hP hlt
    refine seq_next hst' hsq (by simpa using e1) fun h₁ hit₁ hs₁ => ?_
    obtain ⟨F₁, N₁⟩ := keep h₁ fun b o hb e => (hs₁.2 b hb).trans e
    refine wpAny_letOwnedTupleGo_listiter (s := { s' with heap := h₁ }) hit₁ ?_
    have ht : IsTup h₁ a #[.str x t, .str y u] := ⟨_, N₁.get e3, rfl, _, rfl⟩
    refine assign_Tuple_tuple (s := { s' with heap := h₁ }) hh ht rfl rfl fun h₂ he => ?_
    have F₂ := F₁.extBut he (Nat.le_refl _)
    have N₂ : News h₀ env.locals h₂ news' := fun p hp => ⟨he _ _ (Nat.ne_of_lt (Heap.lt_size (N₁ p hp).1)) (N₁ p hp).1, (N₁ p hp).2⟩
    have hit₂ : h₂.IsListIter I l (i + 1) := hit₁.at fun o e => he _ _ (Nat.ne_of_lt (Heap.lt_size e)) e
    refine assignInOrder_cons (wpAny_assign_Name (wpAny_storeName_local hxa F₂.ns (fun h₃ hn₃ hs₃ => ?_) hp))
    have F₃ := F₂.set hn₃ hs₃
    have hit₃ : h₃.IsListIter I l (i + 1) := hit₂.at fun o e => (hs₃.2 _ hIL).trans e
    refine assignInOrder_cons (wpAny_assign_Name (wpAny_storeName_local hxb F₃.ns (fun h₄ hn₄ hs₄ => ?_) hp))
    have F₄ := F₃.set hn₄ hs₄
    have hit₄ : h₄.IsListIter I l (i + 1) := hit₃.at fun o e => (hs₄.2 _ hIL).trans e
    refine assignInOrder_nil ?_
    refine wpAny_mono (wpAny_passesOwn hE (step i x y t u { s' with heap := h₄, toks := _ } m' news' hlt e2 hit₄ F₄ ((N₂.set hs₃).set hs₄) hoff' hJ')) (fun f s₃ h₃ => ?_) fun _ _ e => e
    cases f with
    | next => obtain ⟨m₂, news₂, F₃, N₃, ho₃, hst₃, hJ₃⟩ := h₃; exact ⟨vs.length + 1 - (i + 1), by omega, m₂, news₂, i + 1, hst₃, F₃, N₃, ho₃, hJ₃, hlt, rfl⟩
    | cont => obtain ⟨m₂, news₂, F₃, N₃, ho₃, hst₃, hJ₃⟩ := h₃; exact ⟨vs.length + 1 - (i + 1), by omega, m₂, news₂, i + 1, hst₃, F₃, N₃, ho₃, hJ₃, hlt, rfl⟩
    | brk => exact h₃
    | ret v => exact h₃
  · have hin : i = vs.length := by omega
    subst hin
    refine seq_end hh hst' hsq (by simp) fun h₁ he => wpAny_execs_nil ?_
    obtain ⟨F₁, N₁⟩ := keep h₁ fun b o hb e => he b o hb e
    exact hQ { s' with heap := h₁ } m' news' F₁ N₁ hJ'
end
end Mine
end
section
open PySem PySem.W PyProof.Rows PySem.Spec PySem.Calls
set_option maxRecDepth 100000
namespace Mine
theorem start_D2 : True := by
  w_top off
  k_with_none
  (k_with "own:omega" => (first | with_reducible assumption | (refine' Mine.room2 ?h ?e; (case h => with_reducible assumption); (case e => decide)) | (refine' Mine.room1 ?h ?e; (case h => with_reducible assumption); (case e => decide)) | (refine' Mine.le_up ?h ?e; (case h => with_reducible assumption); (case e => decide)) | (refine' Mine.room0 ?h; (case h => with_reducible assumption)) | ((fail_if_success (fail_if_success omega (config := {}))); lia)))
  trivial
theorem lines_D2_0 : True := by
  (k_with "own:k_mem" => with_reducible_and_instances assumption)
  (k_with "call ref" => (k_here; (k_dflt (show wpAny _ _ (call (Value.ref 150) [Value.int _ _]) _ _ _)); k_dflt (refine' new_call ?k1 ?k2 ?k3 ?k4 ?k5 ?k6 ?k7 ?k8 ?_; (case k1 => k_asm); (case k2 => k_asm); (case k3 => k_asm); (case k4 => k_asm); (case k5 => k_asm); (case k6 => first | exact rfl | assumption); (case k7 => ktr_room); (case k8 => ktr_units); k_whole); intro rowN dN nN hsN t1N t2N ndN h' tk' F' N' neR neD; (try dsimp only); (try k_sweep)))
  (k_with "own:steps" => repeat' (first | (k_unfold; (try dsimp only)) | ((fail_if_success (with_reducible show wpAny _ _ (exec (Stmt.For _ _ _ _ _) _) _ _ _)); (first | walk1 | (dsimp only; walk1) | fail "no step"))))
  (k_with "getMethod ref" => (k_here; k_dflt (refine' accK_method ?k1 ?k2 ?k3 ?k4 ?k5 ?k6 ?k7 ?k8 ?k9 ?_; (case k1 => k_asm); (case k2 => k_asm); (case k3 => k_asm); (case k4 => exact .head _); (case k5 => exact .tail _ (by assumption)); (case k6 => k_is); (case k7 => k_is); (case k8 => first | exact .inl rfl | exact .inr rfl); (case k9 => decide); k_whole)))
  (k_with "call ref" => (k_here; (k_dflt (show wpAny _ _ (call (Value.ref 94) [Value.ref _, Value.str _ _, Value.str _ _]) _ _ _)); k_dflt (refine' push_call ?k1 ?k2 ?k3 ?k4 ?k5 ?k6 ?k7 ?k8 ?k9 ?ka ?kb ?_; (case k1 => k_asm); (case k2 => k_asm); (case k3 => k_asm); (case k4 => k_asm); (case k5 => k_asm); (case k6 => first | exact rfl | assumption); (case k7 => ktr_room); (case k8 => ktr_units); (case k9 => assumption); (case ka => assumption); (case kb => assumption); k_whole); intro qN nN2 h' tk' F' N'; (try dsimp only); (try k_sweep)))
  trivial
theorem News.filled1 {g h : Heap} {L : Addr} {x y z v : Addr × Obj} {tl rest : List (Addr × Obj)} (N : News g L h (x :: y :: z :: v :: (tl ++ rest))) : News g L h (x :: v :: ((y :: tl) ++ rest)) := fun p hp => by
  rcases List.mem_cons.mp hp with rfl | hp
  · exact N _ (.head _)
  · rcases List.mem_cons.mp hp with rfl | hp
    · exact N _ (.tail _ (.tail _ (.tail _ (.head _))))
    · rcases List.mem_cons.mp hp with rfl | hp
      · exact N _ (.tail _ (.head _))
      · exact N _ (.tail _ (.tail _ (.tail _ (.tail _ hp))))
theorem off3 {row I d : Addr} {oI od : Obj} {tl : List (Addr × Obj)} (h1 : row ≠ I) (h2 : d ≠ row) (h3 : ∀ z ∈ tl, z.1 ≠ row) : (∀ p ∈ (I, oI) :: (d, od) :: tl, p.1 ≠ row) ∧ (d, od) ∈ (I, oI) :: (d, od) :: tl := by
  refine ⟨fun p hp => ?_, .tail _ (.head _)⟩
  rcases List.mem_cons.mp hp with rfl | hp
  · exact h1.symm
  · rcases List.mem_cons.mp hp with rfl | hp
    · exact h2
    · exact h3 p hp
set_option maxHeartbeats 2000000 in
theorem filled_call {w : World} {p : Program} {loose : List Str} {mean : ExcName → Option Value} {mg mb : Str → Option Value} {dp un : Nat} {gd : Option (List Code)} {cn : Str} {cs : Scope} {a : Addr} {ccd : Value} {cl : List (Str × Addr)} {outer : List Env} {A₀ : Around} {base h₀ : Heap} {L : Addr} {m : Str → Option Value} {rest : List (Addr × Obj)} {s : Shared}
    {Q E : Value → Shared → Prop} {k : Int} {t : Tok} {l : Addr} {vs : List Value} {qs : List (Str × Str)} {c : Nat}
    (B : Below A₀ base outer h₀) (F : Fr h₀ L s.heap m) (X : (KW w.params).In h₀) (N : News h₀ L s.heap rest) (T : Top p loose mean mg mb h₀) (hk : cs.kind = .function)
    (hd : dp + 12 < recursionLimit) (hu : un + 120 < cLine) (hl : (l, listOf vs.toArray c) ∈ rest) (hP : Pairs rest vs qs) (hlen : vs.length ≤ 900)
    (ret : ∀ row d ws n' hs t₁ t₂ nd tl s', News h₀ L s'.heap ((row, accObj d ws.toArray n') :: (d, szObj hs t₁ k t₂ nd) :: (tl ++ rest)) → Fr h₀ L s'.heap m → Pairs tl ws qs → (∀ z ∈ tl ++ rest, z.1 ≠ row) → (∀ z ∈ tl ++ rest, z.1 ≠ d) → s'.gens = s.gens → s'.os = s.os → Q (.ref row) s') :
    wpAny (model PG w) (ktrTop dp un gd cn cs L a ccd cl outer) (call (.ref 222) [.int k t, .ref l]) Q E s := by
  refine wpAny_call ?_
  k_dflt ktr_enter
  k_extra "own:steps"
  refine wpAny_For ?_
  k_extra "own:steps"
  rename Fr _ _ _ _ => lF
  rename News _ _ _ _ => lN
  have lL := lF.ns.lt
  have lfr := lF.fresh
  refine wpAny_pyIter_list (items := vs.toArray) ⟨_, lN.get (.tail _ (.tail _ hl)), rfl, _, rfl⟩ ?_
  refine loopP (l := l) (c := c) (vs := vs) (qs := qs) (fun i g os m₁ news₁ => ∃ (ws : List Value) (n' : Nat) (tl : List (Addr × Obj)), news₁ = (rowN, accObj dN ws.toArray n') :: (dN, szObj hsN t1N k t2N ndN) :: (tl ++ rest) ∧ Pairs tl ws (qs.take i) ∧ ws.length = i ∧ (∀ z ∈ tl ++ rest, z.1 ≠ rowN) ∧ (∀ z ∈ tl ++ rest, z.1 ≠ dN) ∧ g = s.gens ∧ os = s.os ∧ m₁ (Str.ofString "row") = some (.ref rowN))
    rfl rfl rfl rfl (Nat.ne_of_gt lL) lfr ⟨_, Heap.get?_push_size _ rfl, rfl, rfl⟩ (lF.push _) (lN.pushKeep _) lN.apart ⟨[], _, [], rfl, trivial, rfl, neR, neD, rfl, rfl, rfl⟩ ?_ ?_ ?_
  · rintro i g os m₁ n₁ ⟨ws, n', tl, rfl, _⟩
    exact ⟨.tail _ (.tail _ (List.mem_append_right _ hl)), hP.mono fun p hp => .tail _ (.tail _ (List.mem_append_right _ hp))⟩
  · rintro i x y tx ty s₁ m₁ news₁ hi hq hst F₁ N₁ off ⟨ws, n', tl, rfl, hPs, hws, nr, ndd, hg, ho, hm⟩
    obtain ⟨oI, hoI, hcI, hdI⟩ := id hst
    have N₂ := Mine.News.mid N₁ hoI (Nat.ne_of_gt lL) lfr
    have eI := off _ (.head _)
    replace F₁ := at3 (x1 := Str.ofString "row") (x2 := Str.ofString "white") (x3 := Str.ofString "part") F₁ (by rw [if_neg (by decide), if_neg (by decide)]; exact hm) (by rw [if_neg (by decide), if_pos rfl]) (by rw [if_pos rfl])
    have hl5 : ws.length ≤ 1000 := by omega
    obtain ⟨hne5, hdi5⟩ := off3 (oI := oI) (od := szObj hsN t1N k t2N ndN) eI (N₁.twoPlaces (.tail _ (.head _)) (.head _) (fun e => absurd (congrArg Obj.cls e) (by simp [accObj]))) nr
    clear lF lN N₁
    k_extra "own:steps"
    have tr : qN ≠ rowN := N'.twoPlaces (.tail _ (.head _)) (.head _) (fun e => absurd (congrArg Obj.cls e) (by simp [accObj, tupObj]))
    have td : qN ≠ dN := N'.twoPlaces (.tail _ (.head _)) (.tail _ (.tail _ (.tail _ (.head _)))) (fun e => absurd (congrArg Obj.cls e) (by simp [tupObj]))
    have ti := N'.twoPlaces (.tail _ (.head _)) (.tail _ (.tail _ (.head _))) (fun e => absurd (congrArg Obj.cls e) (by simp [tupObj, hcI]))
    have hgI := N'.get (.tail _ (.tail _ (.head _)))
    refine ⟨_, _, F', Mine.News.filled1 N', fun z hz => ?_, ⟨oI, hgI, hcI, hdI⟩, ws ++ [.ref qN], nN2, (qN, tupObj x tx y ty) :: tl, rfl, ?_, by simp [hws], ?_, ?_, hg, ho, rfl⟩
    · rcases List.mem_cons.mp hz with rfl | hz
      · exact eI
      · rcases List.mem_cons.mp hz with rfl | hz
        · exact off _ (.tail _ (.head _))
        · rcases List.mem_cons.mp hz with rfl | hz
          · exact ti
          · exact off _ (.tail _ (.tail _ hz))
    · have e : qs.take (i + 1) = qs.take i ++ [(x, y)] := by rw [List.take_succ, hq]; rfl
      rw [e]
      exact Pairs.append (hPs.mono fun p hp => .tail _ hp) ⟨⟨qN, tx, ty, rfl, .head _⟩, trivial⟩
    · intro z hz
      rcases List.mem_cons.mp hz with rfl | hz
      · exact tr
      · exact nr z hz
    · intro z hz
      rcases List.mem_cons.mp hz with rfl | hz
      · exact td
      · exact ndd z hz
  · rintro s₁ m₁ news₁ F₁ N₁ ⟨ws, n', tl, rfl, hPs, hws, nr, ndd, hg, ho, hm⟩
    replace F₁ := at1 F₁ hm
    rw [List.take_of_length_le (by have := hP.length; omega)] at hPs
    clear lF lN
    dsimp only
    k_extra "own:steps"
    exact ret _ _ _ _ _ _ _ _ _ _ (by assumption) (by assumption) hPs nr ndd hg ho
end Mine
end
section
open PySem PySem.W PyProof.Rows PySem.Spec PySem.Calls
set_option maxRecDepth 100000
namespace Mine
theorem start_M1 : True := by
  w_top off
  k_with_none
  (k_with "own:omega" => (first | with_reducible assumption | (refine' Mine.room2 ?h ?e; (case h => with_reducible assumption); (case e => decide)) | (refine' Mine.room1 ?h ?e; (case h => with_reducible assumption); (case e => decide)) | (refine' Mine.le_up ?h ?e; (case h => with_reducible assumption); (case e => decide)) | (refine' Mine.room0 ?h; (case h => with_reducible assumption)) | ((fail_if_success (fail_if_success omega (config := {}))); lia)))
  trivial
section
variable {w : World} {A : Around} {E : Value → Shared → Prop} {s : Shared} {g : Heap} {L l : Addr} {m : Str → Option Value} {news : List (Addr × Obj)} {vs : List Value} {c : Nat}
/-- the cut of a list -/
noncomputable def cut (lo hi : Option Int) (vs : List α) : List α := (vs.drop (lo.elim 0 (clipAt vs.length))).take (hi.elim vs.length (clipAt vs.length) - lo.elim 0 (clipAt vs.length))
theorem listK_slice {value slice : PySem.Expr} {vl vu : Value} {lo hi : Option Int} {Q : Value → Shared → Prop} (F : Fr g L s.heap m) (N : News g L s.heap news) (hm : (l, listOf vs.toArray c) ∈ news) (hl : vs.length ≤ 1000) (pl : IsPart vl lo) (pu : IsPart vu hi)
    (h : ∀ q h', Fr g L h' m → News g L h' ((q, listOf (cut lo hi vs).toArray 0) :: news) → (∀ p ∈ news, p.1 ≠ q) → Q (.ref q) { s with heap := h' })
    (hs : subscripted slice false (.ref l) (.ref s.heap.objs.size) = operate [.ref s.heap.objs.size, .ref l] (getItem (.ref l) (.ref s.heap.objs.size)) := by with_unfolding_all rfl) :
    wpAny (model PG w) A (subscriptTail value slice (.ref l) (.ref s.heap.objs.size)) Q E { s with heap := s.heap.push { cls := .type "slice", data := .fields #[vl, vu, .none] } } := by
  have F₁ := F.push { cls := .type "slice", data := .fields #[vl, vu, .none] }
  have N₁ := N.pushKeep { cls := .type "slice", data := .fields #[vl, vu, .none] }
  have hsl := Heap.IsSliceOf.new s.heap vl vu .none
  have hL : (s.heap.push { cls := .type "slice", data := .fields #[vl, vu, .none] }).IsList l vs.toArray := ⟨_, N₁.get hm, rfl, _, rfl⟩
  have e := slicePick_plain vs.toArray lo hi
  simp only [List.size_toArray] at e
  refine tail_any (s := { s with heap := s.heap.push { cls := .type "slice", data := .fields #[vl, vu, .none] } }) hL.typeIs slot_list_getitem.lookup (wpAny_getItem_list_slice (s := { s with heap := s.heap.push { cls := .type "slice", data := .fields #[vl, vu, .none] } }) hL hsl pl pu .none (by simp) ?_ (by simp [sizeLine]; omega)) hs
  rw [e]
  exact h _ _ (F₁.push _) (N₁.push F₁ _) N₁.apart
theorem listK_sub {value slice : PySem.Expr} {rest : List (Addr × Obj)} {ks : List Nat} {k : Int} {u : Tok} {Q : Value → Shared → Prop} (N : News g L s.heap news) (hm : (l, listOf vs.toArray c) ∈ news) (hA : Are rest vs ks)
    (h0 : 0 ≤ k) (hk : k < (ks.length : Int)) (hl : ks.length ≤ 1000) (h : ∀ a, vs[k.toNat]? = some (.ref a) → PcAt rest a (ks.getD k.toNat 0) → Q (.ref a) s)
    (hs : subscripted slice false (.ref l) (.int k u) = operate [.ref l, .int k u] (getItem (.ref l) (.int k u)) := by with_unfolding_all rfl) :
    wpAny (model PG w) A (subscriptTail value slice (.ref l) (.int k u)) Q E s := by
  obtain ⟨a, e, p⟩ := hA.at (i := k.toNat) (by omega)
  have hL : s.heap.IsList l vs.toArray := ⟨_, N.get hm, rfl, _, rfl⟩
  exact tail_any hL.typeIs slot_list_getitem.lookup (wpAny_getItem_list hL h0 (by omega) (by simpa using e) (h a e p)) hs
theorem list_set_at {k : Int} {t : Tok} {v : Value} {items : Array Value} {Q : Unit → Shared → Prop} (ho : s.heap.get? l = some (listOf items c)) (h0 : 0 ≤ k) (hfit : k < 2 ^ 63) (hn : k < items.size)
    (hQ : ∀ h', h'.get? l = some (listOf (items.setIfInBounds k.toNat v) c) → Heap.SameBut l s.heap h' → Q () { s with heap := h' }) :
    wpAny (model PG w) A (setItem (.ref l) (.int k t) v) Q E s := by
  have hL : s.heap.IsList l items := ⟨_, ho, rfl, _, rfl⟩
  unfold setItem
  try with_reducible refine wpAny_holding ?_
  refine wpAny_bind (wpAny_sequenceKey hL.typeIs (by decide) ?_)
  refine wpAny_bind (wpAny_callSpecial?_slot (name := Str.ofString "__setitem__") hL.typeIs slot_list_setitem (wpAny_call_entry slot_list_setitem hL.typeIs entry_list_setitem ?_ (args_list_setitem _ _ _)))
  show wpAny _ _ (Builtin.List.listSubscript? (.int k t) >>= _) _ _ s
  refine wpAny_bind (wpAny_listSubscript_int (fitsIndex_of h0 hfit) ?_)
  clear hfit
  obtain ⟨j, rfl⟩ := Int.eq_ofNat_of_zero_le h0
  have hj : j < items.size := by omega
  have hx' : items[j]? = some items[j] := Array.getElem?_eq_getElem hj
  show wpAny _ _ ((seqItemAt l j >>= fun r => pure (r.map (j, ·))) >>= _) _ _ s
  refine wpAny_bind (wpAny_bind (wpAny_seqItemAt ho rfl (wpAny_pure ?_)))
  rw [hx']
  show wpAny _ _ (setSeqItemAt l j v >>= _) _ _ s
  have hfin : (s.heap.update l (Obj.mapSeq (·.setIfInBounds j v))).get? l = some (listOf (items.setIfInBounds j v) c) := by
    rw [Heap.get?_update_self _ ho (by simp [Obj.mapSeq]; rfl)]; simp [Obj.mapSeq]
  refine wpAny_bind (wpAny_setSeqItemAt ho rfl ?_)
  exact wpAny_bind (wpAny_pure (wpAny_pure ⟨.none, rfl, wpAny_pure (hQ _ hfin (Heap.SameBut.update ..))⟩))
theorem listK_set {rest : List (Addr × Obj)} {ks : List Nat} {k : Int} {u : Tok} {a : Addr} {x : Nat} {Q : Unit → Shared → Prop} (F : Fr g L s.heap m) (N : News g L s.heap ((l, listOf vs.toArray c) :: rest)) (hne : ∀ p ∈ rest, p.1 ≠ l) (hA : Are rest vs ks) (hx : PcAt rest a x)
    (h0 : 0 ≤ k) (hk : k < (ks.length : Int)) (hl : ks.length ≤ 1000)
    (h : ∀ vs' h', Are rest vs' (ks.set k.toNat x) → Fr g L h' m → News g L h' ((l, listOf vs'.toArray c) :: rest) → Q () { s with heap := h' }) :
    wpAny (model PG w) A (setItem (.ref l) (.int k u) (.ref a)) Q E s := by
  have hrow := N _ (.head _)
  refine list_set_at hrow.1 h0 (by omega) (by have := hA.length; simp; omega) fun h' ho hs => ?_
  rw [List.setIfInBounds_toArray] at ho
  refine h _ h' (hA.set hx) (F.change hs hrow.2.1 hrow.2.2) (fun p hp => ?_)
  rcases List.mem_cons.mp hp with rfl | hp
  · exact ⟨ho, hrow.2⟩
  · have := N p (.tail _ hp); exact ⟨(hs.2 p.1 (hne p hp)).trans this.1, this.2⟩
theorem listK_len {Q : Value → Shared → Prop} (N : News g L s.heap news) (hm : (l, listOf vs.toArray c) ∈ news) (hl : vs.length ≤ 1000) (h : ∀ t tk, Q (.int vs.length t) { s with toks := tk }) :
    wpAny (model PG w) A (call (.builtin "len") [.ref l]) Q E s := by
  have hL : s.heap.IsList l vs.toArray := ⟨_, N.get hm, rfl, _, rfl⟩
  refine Calls.call_len_list hL (by simp; omega) ?_
  rw [List.size_toArray]
  exact h _ _
end
end Mine
end
section
open PySem PySem.W PyProof.Rows PySem.Spec PySem.Calls
set_option maxRecDepth 100000
namespace Mine
theorem start_D3 : True := by
  w_top off
  k_with_none
  (k_with "own:omega" => (first | with_reducible assumption | (refine' Mine.room2 ?h ?e; (case h => with_reducible assumption); (case e => decide)) | (refine' Mine.room1 ?h ?e; (case h => with_reducible assumption); (case e => decide)) | (refine' Mine.le_up ?h ?e; (case h => with_reducible assumption); (case e => decide)) | (refine' Mine.room0 ?h; (case h => with_reducible assumption)) | ((fail_if_success (fail_if_success omega (config := {}))); lia)))
  trivial
theorem lines_D3_0 : True := by
  (k_with "own:k_mem" => with_reducible_and_instances assumption)
  (k_with "own:steps" => repeat' (first | (k_unfold; (try dsimp only)) | ((fail_if_success (with_reducible show wpAny _ _ (exec (Stmt.While _ _ _ _) _) _ _ _)); (first | walk1 | (dsimp only; walk1) | fail "no step"))))
  (k_with "subscriptTail" => (k_here; (k_dflt (refine' listK_slice ?k1 ?k3 ?k4 ?k5 ?k6 ?k7 ?_ ?k8; (case k1 => k_asm); (case k3 => k_asm); (case k4 => first | assumption | exact .head _); (case k5 => omega); (case k6 => first | exact .int _ _ | exact .none); (case k7 => first | exact .int _ _ | exact .none); (case k8 => with_unfolding_all rfl); k_whole)); intro lS h' F' N' hneS; (try k_sweep)))
  (k_with "subscriptTail" => (k_here; (with_reducible show wpAny _ _ (subscriptTail _ _ (Value.ref _) (Value.int _ _)) _ _ _); (k_dflt (refine' listK_sub ?k3 ?k4 ?k5 ?k6 ?k7 ?k8 ?_ ?k9; (case k3 => k_asm); (case k4 => exact .head _); (case k5 => k_asm); (case k6 => omega); (case k7 => omega); (case k8 => omega); (case k9 => with_unfolding_all rfl); k_whole)); intro _ _ _))
  (k_with "compareOp Lt ref" => (k_here; (k_dflt (refine' pcK_lt ?k1 ?k2 ?k3 ?k4 ?k5 ?_; (case k2 => k_asm); (case k4 => k_asm); (case k5 => k_asm); (case k3 => first | exact fun _ h => h | exact fun _ h => .tail _ h | exact fun _ h => .tail _ (.tail _ h)); (case k1 => ktr_units); k_whole))))
  (k_with "setItem ref int" => (k_here; (k_dflt (refine' listK_set ?k1 ?k3 ?ke ?k5 ?kx ?k6 ?k7 ?k8 ?_; (case k1 => k_asm); (case k3 => k_asm); (case k5 => k_asm); (case kx => k_asm); (case ke => k_asm); (case k6 => omega); (case k7 => omega); (case k8 => omega); k_whole)); intro _ _ _ _ _; (try k_sweep)))
  (k_with "call builtin:len" => (k_here; (with_reducible show wpAny _ _ (call (Value.builtin "len") [Value.ref _]) _ _ _); (k_dflt (refine' listK_len ?k3 ?k4 ?k5 ?_; (case k3 => k_asm); (case k4 => exact .head _); (case k5 => (have hq := Are.length (by assumption); omega)); k_whole)); intro _ _))
  trivial
set_option maxHeartbeats 2000000 in
theorem slid_call {w : World} {p : Program} {loose : List Str} {mean : ExcName → Option Value} {mg mb : Str → Option Value} {dp un : Nat} {gd : Option (List Code)} {cn : Str} {cs : Scope} {a : Addr} {ccd : Value} {cl : List (Str × Addr)} {outer : List Env} {A₀ : Around} {base h₀ : Heap} {L : Addr} {m : Str → Option Value} {rest : List (Addr × Obj)} {s : Shared}
    {Q E : Value → Shared → Prop} {l : Addr} {vs : List Value} {ks : List Nat} {c : Nat}
    (B : Below A₀ base outer h₀) (F : Fr h₀ L s.heap m) (X : (KW w.params).In h₀) (N : News h₀ L s.heap rest) (T : Top p loose mean mg mb h₀) (hk : cs.kind = .function)
    (hd : dp + 12 < recursionLimit) (hu : un + 120 < cLine) (hl : (l, listOf vs.toArray c) ∈ rest) (hA : Are rest vs ks) (hlen : vs.length ≤ 900)
    (ret : ∀ l' vs' h' tk', Are rest vs' (slid ks.length 0 ks) → Fr h₀ L h' m → News h₀ L h' ((l', listOf vs'.toArray 0) :: rest) → (∀ p ∈ rest, p.1 ≠ l') → Q (.ref l') { s with heap := h', toks := tk' }) :
    wpAny (model PG w) (ktrTop dp un gd cn cs L a ccd cl outer) (call (.ref 248) [.ref l]) Q E s := by
  refine wpAny_call ?_
  k_dflt ktr_enter
  k_extra "own:steps"
  rename Fr _ _ _ _ => lF
  rename News _ _ _ _ => lN
  have ec : cut none none vs = vs := by unfold cut; simp
  rw [ec] at lN
  have lN2 := newsOf (led := (lS, listOf vs.toArray 0) :: rest) lN (fun z hz => .tail _ hz)
  have hlk := hA.length
  (with_unfolding_all refine' While_inv2 (fun q m₁ nx => ∃ (vs' : List Value) (ks' : List Nat) (at' : Nat) (za : Int) (ta : Tok), q = ks.length - at' ∧ za = (at' : Int) ∧ nx = (lS, listOf vs'.toArray 0) :: rest ∧ Are rest vs' ks' ∧ ks'.length = ks.length ∧ slid ks.length at' ks' = slid ks.length 0 ks ∧ m₁ (Str.ofString "row") = some (.ref lS) ∧ m₁ (Str.ofString "at") = some (.int za ta)) lF lN2 ⟨vs, ks, 0, _, _, rfl, rfl, rfl, hA, rfl, rfl, rfl, rfl⟩ ?_)
  intro q m₁ nx h₁ tk₁ F₁ N₁ hJ
  obtain ⟨vs', ks', at', za, ta, rfl, rfl, rfl, hA', hl', hsu, hm1, hm2⟩ := hJ
  replace F₁ := at2 F₁ hm1 hm2
  have hlk' := hA'.length
  clear lF lN lN2 hm1 hm2 hA
  k_extra "own:steps"
  · rename Are _ _ _ => A₂
    rename Fr _ _ _ _ => F₂
    rename News _ _ _ _ => N₂
    rename (_ < (_ : Nat)) => hlt
    have e1 : (2 * (at' : Int) + 1).toNat = 2 * at' + 1 := by omega
    have e2 : (2 * (at' : Int) + 2).toNat = 2 * at' + 2 := by omega
    simp only [e1, e2, Int.toNat_natCast] at hlt A₂
    have ec : chd ks.length at' ks' = 2 * at' + 1 := by unfold chd; rw [if_neg]; rintro ⟨_, h⟩; exact h hlt
    refine ⟨_, _, _, _, ks.length - (2 * at' + 1), rfl, F₂, N₂, by omega, _, _, 2 * at' + 1, _, _, rfl, ?_, rfl, A₂, by simp only [List.length_set]; omega, ?_, rfl, rfl⟩
    · omega
    · rw [← hsu]
      conv => rhs; rw [slid]
      rw [if_pos (by omega), ec]
  · rename Are _ _ _ => A₂
    rename Fr _ _ _ _ => F₂
    rename News _ _ _ _ => N₂
    rename (¬ _ < (_ : Nat)) => hlt
    have e1 : (2 * (at' : Int) + 1).toNat = 2 * at' + 1 := by omega
    have e2 : (2 * (at' : Int) + 2).toNat = 2 * at' + 2 := by omega
    simp only [e1, e2, Int.toNat_natCast] at hlt A₂
    have ec : chd ks.length at' ks' = 2 * at' + 2 := by unfold chd; rw [if_pos]; exact ⟨by omega, hlt⟩
    refine ⟨_, _, _, _, ks.length - (2 * at' + 2), rfl, F₂, N₂, by omega, _, _, 2 * at' + 2, _, _, rfl, ?_, rfl, A₂, by simp only [List.length_set]; omega, ?_, rfl, rfl⟩
    · omega
    · rw [← hsu]
      conv => rhs; rw [slid]
      rw [if_pos (by omega), ec]
  · have es : slid ks.length 0 ks = ks' := by rw [← hsu, slid, if_neg (by omega)]
    rw [es] at ret
    exact ret _ _ _ _ hA' (by assumption) (by assumption) hneS
end Mine
end
section
open PySem PySem.W PyProof.Rows
namespace Mine
theorem start_SO1 : True := by
  w_top off
  k_with_none
  (k_with "own:omega" => (first | with_reducible assumption | (refine' Mine.room2 ?h ?e; (case h => with_reducible assumption); (case e => decide)) | (refine' Mine.room1 ?h ?e; (case h => with_reducible assumption); (case e => decide)) | (refine' Mine.le_up ?h ?e; (case h => with_reducible assumption); (case e => decide)) | (refine' Mine.room0 ?h; (case h => with_reducible assumption)) | ((fail_if_success (fail_if_success omega (config := {}))); lia)))
  trivial
/-- the sort's questions, answered by numbers -/
noncomputable def cmpN (v : Nat → Nat) (n : Nat) (i j : Nat) (C : Bool → Shared → Prop) (s : Shared) : Prop := i < n ∧ j < n ∧ C (decide (v i < v j)) s
noncomputable def PermOk (n : Nat) (p : Array Nat) : Prop := p.Perm (List.range n).toArray
theorem PermOk.size {n : Nat} {p : Array Nat} (h : PermOk n p) : p.size = n := by have := Array.Perm.size_eq h; simpa using this
theorem PermOk.lt {n i : Nat} {p : Array Nat} (h : PermOk n p) (hi : i < n) : p.getD i 0 < n := by
  have hs := h.size
  have hi' : i < p.size := by omega
  have hm : p[i] ∈ p.toList := by simp
  have := (Array.perm_iff_toList_perm.mp h).mem_iff.mp hm
  have e : p.getD i 0 = p[i] := by simp [Array.getD, hi']
  rw [e]; simpa using this
theorem PermOk.rev {n i j : Nat} {p : Array Nat} (h : PermOk n p) : PermOk n (kas_rev p i j) := (mirror_perm _ _ _ _).trans h
theorem PermOk.bub {n i j : Nat} {p : Array Nat} (h : PermOk n p) : PermOk n (bubble p i j) := (bubble_perm _ _ _).trans h
noncomputable def KA (v : Nat → Nat) (p : Array Nat) (i : Nat) : Nat := v (p.getD i 0)
theorem KA_congr {v : Nat → Nat} {p q : Array Nat} {i j : Nat} (h : p[i]? = q[j]?) : KA v p i = KA v q j := by
  unfold KA
  rw [Array.getD_eq_getD_getElem?, Array.getD_eq_getD_getElem?, h]
theorem KA_bub {v : Nat → Nat} {xs : Array Nat} {src d : Nat} (hs : src < xs.size) (hd : d ≤ src) (k : Nat) :
    KA v (bubble xs src d) k = if k = src - d then KA v xs src else if src - d < k ∧ k ≤ src then KA v xs (k - 1) else KA v xs k := by
  have e := getElem?_bubble hs d hd k
  by_cases h1 : k = src - d
  · rw [if_pos h1] at e ⊢; exact KA_congr e
  · rw [if_neg h1] at e ⊢
    by_cases h2 : src - d < k ∧ k ≤ src
    · rw [if_pos h2] at e ⊢; exact KA_congr e
    · rw [if_neg h2] at e ⊢; exact KA_congr e
theorem KA_rev {v : Nat → Nat} {xs : Array Nat} {i j : Nat} (hj : j ≤ xs.size) (k : Nat) :
    KA v (kas_rev xs i j) k = if i ≤ k ∧ k < j then KA v xs (i + j - 1 - k) else KA v xs k := by
  have e := getElem?_mirror_all (i := i) hj k
  by_cases h1 : i ≤ k ∧ k < j
  · rw [if_pos h1] at e ⊢; exact KA_congr e
  · rw [if_neg h1] at e ⊢; exact KA_congr e
theorem KA_rev_eq {v : Nat → Nat} {xs : Array Nat} {i j : Nat} (hj : j ≤ xs.size) (heq : ∀ k, i ≤ k → k < j → KA v xs k = KA v xs (j - 1)) (k : Nat) : KA v (kas_rev xs i j) k = KA v xs k := by
  rw [KA_rev hj]
  split
  · rw [heq _ (by omega) (by omega), heq k (by omega) (by omega)]
  · rfl
noncomputable def Rise (v : Nat → Nat) (p : Array Nat) (k : Nat) : Prop := ∀ i j, i ≤ j → j < k → KA v p i ≤ KA v p j
noncomputable def Fall (v : Nat → Nat) (p : Array Nat) (k : Nat) : Prop := ∀ i j, i ≤ j → j < k → KA v p j ≤ KA v p i
section
variable {v : Nat → Nat} {n : Nat}
theorem asc_ok {p : Array Nat} (h0 : PermOk n p) {nrem : Nat} (hn : nrem ≤ n) {Q : Nat → Shared → Prop} {s : Shared} : ∀ (f a : Nat), a + f = nrem → 1 ≤ a → Rise v p a →
    (∀ m, a ≤ m → m ≤ nrem → Rise v p m → (m = nrem ∨ KA v p m < KA v p (m - 1)) → Q m s) → (kas_asc p f a).kasWp (cmpN v n) Q s
  | 0, a, ha, _, hs, h => h a (Nat.le_refl _) (by omega) hs (.inl (by omega))
  | f + 1, a, ha, h1, hs, h => by
    refine ⟨h0.lt (by omega), h0.lt (by omega), ?_⟩
    by_cases hless : KA v p a < KA v p (a - 1)
    · have hl : v (p.getD a 0) < v (p.getD (a - 1) 0) := hless
      simp only [hl, decide_true, if_true]
      exact h a (Nat.le_refl _) (by omega) hs (.inr hless)
    · have hl : ¬ v (p.getD a 0) < v (p.getD (a - 1) 0) := hless
      simp only [hl, decide_false, Bool.false_eq_true, if_false]
      refine asc_ok h0 hn f (a + 1) (by omega) (by omega) (fun i j hij hj => ?_) fun m hm => h m (by omega)
      by_cases hjx : j < a
      · exact hs i j hij hjx
      · have hj' : j = a := by omega
        subst hj'
        by_cases hi' : i = j
        · subst hi'; exact Nat.le_refl _
        · exact Nat.le_trans (hs i (j - 1) (by omega) (by omega)) (Nat.not_lt.mp hless)
theorem tail3_ok {p : Array Nat} (h0 : PermOk n p) {m nrem : Nat} (hn : nrem ≤ n) (h1 : 1 ≤ m) (hm : m ≤ nrem) (hs : Fall v p m) {Q : Nat × Array Nat → Shared → Prop} {s : Shared}
    (h : ∀ k p', PermOk n p' → 1 ≤ k → k ≤ nrem → Rise v p' k → Q (k, p') s) : (kas_tail3 m nrem p).kasWp (cmpN v n) Q s := by
  unfold kas_tail3
  rw [KasT.kasWp_bind]
  have hsz : m ≤ p.size := by rw [h0.size]; omega
  refine asc_ok h0.rev hn (nrem - m) m (by omega) h1 (fun i j hij hj => ?_) fun k hk1 hk2 hsk _ => h k _ h0.rev (by omega) hk2 hsk
  rw [KA_rev hsz, KA_rev hsz, if_pos (by omega), if_pos (by omega)]
  exact hs _ _ (by omega) (by omega)
theorem desc_ok {nrem : Nat} (hn : nrem ≤ n) {Q : Array Nat × Nat × Nat → Shared → Prop} {s : Shared}
    (h : ∀ p m q, PermOk n p → 1 ≤ m → m ≤ nrem → Fall v p m → q + 1 ≤ m → (∀ i, m - (q + 1) ≤ i → i < m → KA v p i = KA v p (m - 1)) → Q (p, m, q) s) : ∀ (f : Nat) (p : Array Nat) (x q : Nat), PermOk n p → x + f = nrem → 1 ≤ x → Fall v p x → q + 1 ≤ x →
    (∀ i, x - (q + 1) ≤ i → i < x → KA v p i = KA v p (x - 1)) → (kas_desc f p x q).kasWp (cmpN v n) Q s
  | 0, p, x, q, h0, hx, h1, hs, hq, he => h p x q h0 h1 (by omega) hs hq he
  | f + 1, p, x, q, h0, hx, h1, hs, hq, he => by
    have hsz : x ≤ p.size := by rw [h0.size]; omega
    refine ⟨h0.lt (by omega), h0.lt (by omega), ?_⟩
    by_cases hless : KA v p x < KA v p (x - 1)
    · have hl : v (p.getD x 0) < v (p.getD (x - 1) 0) := hless
      simp only [hl, decide_true, if_true]
      have step1 : ∀ xs : Array Nat, (∀ k, KA v xs k = KA v p k) → Fall v xs (x + 1) := by
        intro xs hk i j hij hj
        rw [hk, hk]
        by_cases hjx : j < x
        · exact hs i j hij hjx
        · have hj' : j = x := by omega
          subst hj'
          by_cases hi' : i = j
          · subst hi'; exact Nat.le_refl _
          · exact Nat.le_trans (Nat.le_of_lt hless) (hs i (j - 1) (by omega) (by omega))
      by_cases hneq : q > 0
      · rw [if_pos hneq]
        exact desc_ok hn h f _ (x + 1) 0 h0.rev (by omega) (by omega) (step1 _ (KA_rev_eq hsz he)) (by omega) fun i h1 h2 => by congr 1; omega
      · rw [if_neg hneq]
        exact desc_ok hn h f _ (x + 1) 0 h0 (by omega) (by omega) (step1 _ fun _ => rfl) (by omega) fun i h1 h2 => by congr 1; omega
    · have hl : ¬ v (p.getD x 0) < v (p.getD (x - 1) 0) := hless
      simp only [hl, decide_false, Bool.false_eq_true, if_false]
      refine ⟨h0.lt (by omega), h0.lt (by omega), ?_⟩
      by_cases hlarger : KA v p (x - 1) < KA v p x
      · have hl : v (p.getD (x - 1) 0) < v (p.getD x 0) := hlarger
        simp only [hl, decide_true, if_true]
        exact h p x q h0 h1 (by omega) hs hq he
      · have hl : ¬ v (p.getD (x - 1) 0) < v (p.getD x 0) := hlarger
        simp only [hl, decide_false, Bool.false_eq_true, if_false]
        have heqx : KA v p x = KA v p (x - 1) := by omega
        refine desc_ok hn h f p (x + 1) (q + 1) h0 (by omega) (by omega) (fun i j hij hj => ?_) (by omega) fun i h1 h2 => ?_
        · by_cases hjx : j < x
          · exact hs i j hij hjx
          · have hj' : j = x := by omega
            subst hj'
            by_cases hi' : i = j
            · subst hi'; exact Nat.le_refl _
            · rw [heqx]; exact hs i (j - 1) (by omega) (by omega)
        · rw [show x + 1 - 1 = x by omega]
          by_cases hix : i = x
          · subst hix; rfl
          · rw [heqx]; exact he i (by omega) (by omega)
theorem descPart_ok {p : Array Nat} (h0 : PermOk n p) {m nrem : Nat} (hn : nrem ≤ n) (hm : m + 1 ≤ nrem) (hs : Fall v p (m + 1)) {Q : Nat × Array Nat → Shared → Prop} {s : Shared}
    (h : ∀ k p', PermOk n p' → 1 ≤ k → k ≤ nrem → Rise v p' k → Q (k, p') s) : (kas_descPart m nrem p).kasWp (cmpN v n) Q s := by
  unfold kas_descPart
  rw [KasT.kasWp_bind]
  refine desc_ok hn (fun p' x q h0' hx1 hx hs' hq he => ?_) (nrem - (m + 1)) p (m + 1) 0 h0 (by omega) (by omega) hs (by omega) fun i h1 h2 => by congr 1; omega
  have hsz : x ≤ p'.size := by rw [h0'.size]; omega
  dsimp only
  by_cases hneq : q > 0
  · rw [if_pos hneq]
    refine tail3_ok h0'.rev hn hx1 hx (fun i j hij hj => ?_) h
    rw [KA_rev_eq hsz he, KA_rev_eq hsz he]
    exact hs' i j hij hj
  · rw [if_neg hneq]
    exact tail3_ok h0' hn hx1 hx hs' h
theorem count_ok {p : Array Nat} (h0 : PermOk n p) (h1 : 1 ≤ n) {Q : Nat × Array Nat → Shared → Prop} {s : Shared}
    (h : ∀ k p', PermOk n p' → 1 ≤ k → k ≤ n → Rise v p' k → Q (k, p') s) : (kas_count n p).kasWp (cmpN v n) Q s := by
  unfold kas_count
  rw [KasT.kasWp_bind]
  refine asc_ok h0 (Nat.le_refl _) (n - 1) 1 (by omega) (Nat.le_refl _) (fun i j hij hj => Nat.le_of_eq (by rw [show i = j by omega])) fun m hm1 hm2 hsn hor => ?_
  by_cases hnn : m = n
  · rw [if_pos (by simpa using hnn)]
    exact h m p h0 hm1 hm2 hsn
  · rw [if_neg (by simpa using hnn)]
    have hlt : KA v p m < KA v p (m - 1) := hor.resolve_left hnn
    by_cases hgt : m > 1
    · rw [if_pos hgt]
      refine ⟨h0.lt (by omega), h0.lt (by omega), ?_⟩
      by_cases hrose : KA v p 0 < KA v p (m - 1)
      · have hl : v (p.getD 0 0) < v (p.getD (m - 1) 0) := hrose
        simp only [hl, decide_true, if_true]
        exact h m p h0 hm1 hm2 hsn
      · have hl : ¬ v (p.getD 0 0) < v (p.getD (m - 1) 0) := hrose
        simp only [hl, decide_false, Bool.false_eq_true, if_false]
        have hsz : m ≤ p.size := by rw [h0.size]; omega
        have hall : ∀ k, 0 ≤ k → k < m → KA v p k = KA v p (m - 1) := by
          intro k _ hk
          have a1 := hsn 0 k (by omega) hk
          have a2 := hsn k (m - 1) (by omega) (by omega)
          omega
        refine descPart_ok h0.rev (Nat.le_refl _) (by omega) (fun i j hij hj => ?_) h
        rw [KA_rev_eq hsz hall, KA_rev_eq hsz hall]
        by_cases hjn : j < m
        · rw [hall i (by omega) (by omega), hall j (by omega) hjn]; exact Nat.le_refl _
        · have hj' : j = m := by omega
          subst hj'
          by_cases hi' : i = j
          · subst hi'; exact Nat.le_refl _
          · rw [hall i (by omega) (by omega)]; exact Nat.le_of_lt hlt
    · rw [if_neg hgt]
      have hn1' : m = 1 := by omega
      subst hn1'
      refine descPart_ok h0 (Nat.le_refl _) (by omega) (fun i j hij hj => ?_) h
      by_cases hi' : i = j
      · subst hi'; exact Nat.le_refl _
      · have hi0 : i = 0 := by omega
        have hj1 : j = 1 := by omega
        subst hi0; subst hj1
        exact Nat.le_of_lt hlt
theorem place_ok {p : Array Nat} (h0 : PermOk n p) {k : Nat} (hk : k < n) (hs : Rise v p k) {Q : Nat → Shared → Prop} {s : Shared}
    (h : ∀ l, l ≤ k → (∀ i, i < l → KA v p i ≤ KA v p k) → (∀ i, l ≤ i → i < k → KA v p k < KA v p i) → Q l s) : ∀ (f l r : Nat), l ≤ r → r ≤ k → r - l ≤ f →
      (∀ i, i < l → KA v p i ≤ KA v p k) → (∀ i, r ≤ i → i < k → KA v p k < KA v p i) → (kas_place p k f l r).kasWp (cmpN v n) Q s
  | 0, l, r, hlr, hrk, hf, hlo, hhi => h l (by omega) hlo fun i h1 h2 => hhi i (by omega) h2
  | f + 1, l, r, hlr, hrk, hf, hlo, hhi => by
    unfold kas_place
    by_cases hge : l ≥ r
    · rw [if_pos hge]
      exact h l (by omega) hlo fun i h1 h2 => hhi i (by omega) h2
    · rw [if_neg hge]
      refine ⟨h0.lt hk, h0.lt (by omega), ?_⟩
      by_cases hless : KA v p k < KA v p ((l + r) / 2)
      · have hl : v (p.getD k 0) < v (p.getD ((l + r) / 2) 0) := hless
        simp only [hl, decide_true, if_true]
        exact place_ok h0 hk hs h f l ((l + r) / 2) (by omega) (by omega) (by omega) hlo fun i h1 h2 => Nat.lt_of_lt_of_le hless (hs _ _ h1 h2)
      · have hl : ¬ v (p.getD k 0) < v (p.getD ((l + r) / 2) 0) := hless
        simp only [hl, decide_false, Bool.false_eq_true, if_false]
        exact place_ok h0 hk hs h f ((l + r) / 2 + 1) r (by omega) (by omega) (by omega) (fun i h1 => Nat.le_trans (hs i ((l + r) / 2) (by omega) (by omega)) (Nat.not_lt.mp hless)) hhi
theorem bin_ok {Q : Array Nat → Shared → Prop} {s : Shared} (h : ∀ p, PermOk n p → Rise v p n → Q p s) : ∀ (f : Nat) (p : Array Nat) (k : Nat), PermOk n p → k + f = n → Rise v p k → (kas_bin f p k).kasWp (cmpN v n) Q s
  | 0, p, k, h0, hk, hs => h p h0 ((show k = n by omega) ▸ hs)
  | f + 1, p, k, h0, hk, hs => by
    show ((kas_place p k k 0 k).bind fun l => kas_bin f (bubble p k (k - l)) (k + 1)).kasWp (cmpN v n) Q s
    rw [KasT.kasWp_bind]
    refine place_ok h0 (by omega) hs (fun l hlk hlo hhi => ?_) k 0 k (by omega) (by omega) (by omega) (fun i hi => by omega) fun i h1 h2 => by omega
    refine bin_ok h f _ (k + 1) h0.bub (by omega) fun i j hij hj => ?_
    have hks : k < p.size := by rw [h0.size]; omega
    rw [KA_bub hks (by omega), KA_bub hks (by omega), show k - (k - l) = l by omega]
    repeat' split
    all_goals first
      | (exfalso; omega)
      | exact Nat.le_refl _
      | exact hlo _ (by omega)
      | exact Nat.le_of_lt (hhi _ (by omega) (by omega))
      | exact hs _ _ (by omega) (by omega)
theorem sort_ok {G : Array Nat → Shared → Prop} {s : Shared} (h1 : 1 ≤ n) (h : ∀ p, PermOk n p → Rise v p n → G p s) : (kas_sort n).kasWp (cmpN v n) G s := by
  unfold kas_sort
  rw [KasT.kasWp_bind]
  refine count_ok (Array.Perm.refl _) h1 fun k p' h0 hk1 hk hs => ?_
  dsimp only
  by_cases hlt : k < n
  · rw [if_pos hlt]
    refine bin_ok h _ p' _ h0 (by omega) ?_
    rw [show max k 1 = k by omega]; exact hs
  · rw [if_neg hlt]
    have : k = n := by omega
    subst this
    exact h p' h0 hs
theorem kasWp_of {α : Type} {cmp cmp' : Nat → Nat → (Bool → Shared → Prop) → Shared → Prop} (hc : ∀ i j C s, cmp' i j C s → cmp i j C s) (hm : ∀ i j (C C' : Bool → Shared → Prop) s, (∀ b s', C b s' → C' b s') → cmp' i j C s → cmp' i j C' s) {Q : α → Shared → Prop} : ∀ (t : KasT α) (s : Shared), t.kasWp cmp' Q s → t.kasWp cmp Q s
  | .ret _, _, h => h
  | .ask i j k, s, h => hc i j _ s (hm i j _ _ s (fun b s' h' => kasWp_of hc hm (k b) s' h') h)
/-- what the sort makes -/
theorem sort_out {p : Array Nat} (h0 : PermOk n p) (hs : Rise v p n) : (p.toList.map v).Perm ((List.range n).map v) ∧ (p.toList.map v).Pairwise (· ≤ ·) := by
  refine ⟨(Array.perm_iff_toList_perm.mp h0).map v |>.trans (by simp), ?_⟩
  rw [List.pairwise_iff_getElem]
  intro i j hi hj hij
  have hsz := h0.size
  have hi' : i < p.size := by simpa using hi
  have hj' : j < p.size := by simpa using hj
  have := hs i j (Nat.le_of_lt hij) (by omega)
  unfold KA at this
  simpa [Array.getD, hi', hj'] using this
end
end Mine
end
section
open PySem PySem.W PyProof.Rows PySem.Spec PySem.Calls
set_option maxRecDepth 100000
namespace Mine
theorem start_SO2 : True := by
  w_top off
  k_with_none
  (k_with "own:omega" => (first | with_reducible assumption | (refine' Mine.room2 ?h ?e; (case h => with_reducible assumption); (case e => decide)) | (refine' Mine.room1 ?h ?e; (case h => with_reducible assumption); (case e => decide)) | (refine' Mine.le_up ?h ?e; (case h => with_reducible assumption); (case e => decide)) | (refine' Mine.room0 ?h; (case h => with_reducible assumption)) | ((fail_if_success (fail_if_success omega (config := {}))); lia)))
  trivial
theorem kasWp_at {α : Type} {v : Nat → Nat} {n : Nat} {cmp : Nat → Nat → (Bool → Shared → Prop) → Shared → Prop} {s₀ : Shared} (hc : ∀ i j (C : Bool → Shared → Prop), i < n → j < n → C (decide (v i < v j)) s₀ → cmp i j C s₀) {Q : α → Shared → Prop} : ∀ (t : KasT α), t.kasWp (cmpN v n) Q s₀ → t.kasWp cmp Q s₀
  | .ret _, h => h
  | .ask i j k, h => hc i j _ h.1 h.2.1 (kasWp_at hc (k _) h.2.2)
section
variable {w : World} {A : Around} {E : Value → Shared → Prop} {s : Shared} {g : Heap} {L l : Addr} {m : Str → Option Value} {news rest : List (Addr × Obj)} {vs : List Value} {ks : List Nat} {c : Nat}
theorem key_lt {a b : Addr} {x₁ x₂ y₁ y₂ : Str} {t₁ t₂ u₁ u₂ : Tok} {C : Bool → Shared → Prop} (ha : s.heap.get? a = some (tupObj x₁ t₁ x₂ t₂)) (hb : s.heap.get? b = some (tupObj y₁ u₁ y₂ u₂))
    (h : C (if x₁ = y₁ then (if x₂ = y₂ then false else strLt x₂ y₂) else strLt x₁ y₁) s) : wpAny (model PG w) A (keyLt' (tuples' true) (.ref a) (.ref b)) C (fun _ _ => False) s := by
  refine kat_lt ha rfl hb rfl (kat_cons (wpAny_eqBool_str ?_))
  by_cases e1 : x₁ = y₁
  · rw [if_pos e1] at h
    simp only [e1, decide_true]
    refine kat_yes (kat_cons (wpAny_eqBool_str ?_))
    by_cases e2 : x₂ = y₂
    · rw [if_pos e2] at h
      simp only [e2, decide_true]
      exact kat_yes (kat_nil h)
    · rw [if_neg e2] at h
      simp only [e2, decide_false]
      exact kat_no (kat_one _ _ (lt_str h))
  · rw [if_neg e1] at h
    simp only [e1, decide_false]
    exact kat_no (oneLt_str h)
theorem Are.tups {h : Heap} (N : News g L h news) (hr : ∀ p ∈ rest, p ∈ news) : ∀ {vs : List Value} {ks : List Nat}, Are rest vs ks → ∃ fs, KatTups h vs fs ∧ fs.length = vs.length ∧ ∀ f ∈ fs, ∃ x t, f = .str x t
  | [], [], _ => ⟨[], trivial, rfl, fun _ h => nomatch h⟩
  | _ :: _, _ :: _, ⟨⟨a, e, _, t, u, hm⟩, r⟩ => by
    obtain ⟨fs, h1, h2, h3⟩ := Are.tups N hr r
    subst e
    refine ⟨_ :: fs, KatTups.cons (N.get (hr _ hm)) rfl rfl rfl h1, by simp [h2], fun f hf => ?_⟩
    rcases List.mem_cons.mp hf with rfl | hf
    · exact ⟨_, _, rfl⟩
    · exact h3 f hf
theorem Are.of_map {vs : List Value} {ks : List Nat} (hA : Are rest vs ks) : ∀ (p : List Nat), (∀ i ∈ p, i < ks.length) → Are rest (p.map fun i => vs.getD i Value.none) (p.map fun i => ks.getD i 0)
  | [], _ => trivial
  | i :: p, h => by
    obtain ⟨a, e, pc⟩ := hA.at (h i (.head _))
    exact ⟨⟨a, by dsimp only; rw [List.getD_eq_getElem?_getD, e]; rfl, pc⟩, Are.of_map hA p fun j hj => h j (.tail _ hj)⟩
theorem sorted_small {Q : Value → Shared → Prop} (F : Fr g L s.heap m) (N : News g L s.heap news) (hl : s.heap.IsList l vs.toArray) (h2 : vs.length < 2)
    (h : ∀ D c' h', Fr g L h' m → News g L h' ((D, listOf vs.toArray c') :: news) → (∀ q ∈ news, q.1 ≠ D) → Q (.ref D) { s with heap := h' }) :
    wpAny (model PG w) A (call (.builtin "sorted") [.ref l]) Q E s := by
  refine Calls.call_function_entry kind_sorted plain_sorted entry_sorted (args_sorted1 _) ?_
  unfold Builtin.«sorted»
  refine wpAny_bind (m := checkCount "sorted" 1 1 _) (wpAny_pure ?_)
  refine wpAny_bind (collect_list hl ?_ (by rw [sizeLine_eq]; omega))
  refine wpAny_bind (wpAny_newList ?_ (by rw [sizeLine_eq]; omega))
  generalize hH : (s.heap.push (seqObj "list" #[] 0)).update s.heap.objs.size (Obj.mapSeq (· ++ vs.toArray)) = H
  have hsz : H.objs.size = s.heap.objs.size + 1 := by rw [← hH, Heap.size_update, size_push']
  have keep : ∀ b o, s.heap.get? b = some o → H.get? b = some o := fun b o q => by
    have hlt : b < s.heap.objs.size := Heap.lt_size q
    rw [← hH, Heap.get?_update_ne _ _ _ _ (Nat.ne_of_lt hlt), Heap.get?_push_ne _ _ _ (Nat.ne_of_lt hlt)]
    exact q
  have F₁ := F.keeps keep
  have N₁ := N.grown keep
  have F₂ := F₁.push (seqObj "list" vs.toArray 0)
  have N₂ := N₁.push F₁ (seqObj "list" vs.toArray 0)
  have ap := N₁.apart
  have nD := N₂ _ (.head _)
  refine wpAny_bind (wpAny_holding (wpAny_call_entry slot_list_sort ⟨_, nD.1, rfl⟩ entry_list_sort ?body (args_list_sort _)))
  case body =>
    rw [list_sort_plain]
    refine wpAny_bind (listItems_at nD.1 rfl ?_)
    refine wpAny_bind (listUpdate_at nD.1 rfl ?_ (by rw [List.size_toArray, sizeLine_eq]; omega) (Nat.zero_le _))
    have s1 := Heap.SameBut.update (H.push (seqObj "list" vs.toArray 0)) H.objs.size (Obj.mapSeq fun _ => (#[] : Array Value))
    obtain ⟨e1, ho1⟩ : ∃ e1, ((H.push (seqObj "list" vs.toArray 0)).update H.objs.size (Obj.mapSeq fun _ => (#[] : Array Value))).get? H.objs.size = some (seqObj "list" #[] e1) := ⟨_, get?_update_seq nD.1 fun _ => #[]⟩
    have F₃ := kas_fr F₂ s1 nD.2.1 nD.2.2
    have N₃ : News g L _ news := kas_news (newsOf N₂ fun _ h => .tail _ h) s1 ap
    refine wpAny_bind (seqEpoch_at ho1 rfl ?_)
    refine wpAny_bind (wpAny_newTuple ?_ (by show vs.length ≤ _; rw [sizeLine_eq]; omega))
    refine wpAny_bind (wpAny_newList ?_ (Nat.zero_le _))
    refine wpAny_holding ?_
    dsimp only
    have hn2 : vs.toArray.size < 2 := by rw [List.size_toArray]; omega
    rw [if_pos hn2, if_pos hn2]
    refine wpAny_bind (wpAny_pure ?_)
    rw [StateT.run_pure]
    refine wpAny_bind (wpAny_pure ?_)
    dsimp only
    have ez : (vs.toArray.zip vs.toArray).map (·.2) = vs.toArray := by
      apply Array.toList_inj.mp
      simp [List.map_snd_zip]
    rw [show (arrOf (SortSt.mk' general' (vs.toArray.zip vs.toArray) #[] 7 none)) = vs.toArray.zip vs.toArray from rfl, ez]
    have ho2 := Heap.get?_push_of_some (seqObj "list" #[] 0) (Heap.get?_push_of_some (seqObj "tuple" vs.toArray 0) ho1)
    refine wpAny_bind (seqEpoch_at ho2 rfl ?_)
    refine wpAny_bind (listUpdate_at ho2 rfl ?_ (Nat.zero_le _) (by rw [List.size_toArray, sizeLine_eq]; omega))
    simp only [bne_self_eq_false, Bool.false_eq_true, if_false]
    have F₄ := (F₃.push (seqObj "tuple" vs.toArray 0)).push (seqObj "list" #[] 0)
    have N₄ := (N₃.pushKeep (seqObj "tuple" vs.toArray 0)).pushKeep (seqObj "list" #[] 0)
    have s2 := Heap.SameBut.update ((((H.push (seqObj "list" vs.toArray 0)).update H.objs.size (Obj.mapSeq fun _ => (#[] : Array Value))).push (seqObj "tuple" vs.toArray 0)).push (seqObj "list" #[] 0)) H.objs.size (Obj.mapSeq fun _ => vs.toArray)
    obtain ⟨e2, ho3⟩ := (⟨_, get?_update_seq ho2 fun _ => vs.toArray⟩ : ∃ e2, (((((H.push (seqObj "list" vs.toArray 0)).update H.objs.size (Obj.mapSeq fun _ => (#[] : Array Value))).push (seqObj "tuple" vs.toArray 0)).push (seqObj "list" #[] 0)).update H.objs.size (Obj.mapSeq fun _ => vs.toArray)).get? H.objs.size = some (seqObj "list" vs.toArray e2))
    refine wpAny_pure ⟨_, rfl, wpAny_pure ⟨_, rfl, h _ e2 _ (kas_fr F₄ s2 nD.2.1 nD.2.2) (fun p hp => ?_) ap⟩⟩
    rcases List.mem_cons.mp hp with rfl | hp
    · exact ⟨ho3, nD.2⟩
    · exact kas_news N₄ s2 ap p hp
theorem sorted_pc {Q : Value → Shared → Prop} (F : Fr g L s.heap m) (N : News g L s.heap news) (hm : (l, listOf vs.toArray c) ∈ news) (hr : ∀ p ∈ rest, p ∈ news) (hA : Are rest vs ks) (h64 : ks.length < 64)
    (h : ∀ D vs' ks' c' h', Are rest vs' ks' → ks'.Perm ks → ks'.Pairwise (· ≤ ·) → Fr g L h' m → News g L h' ((D, listOf vs'.toArray c') :: news) → (∀ q ∈ news, q.1 ≠ D) → Q (.ref D) { s with heap := h' }) :
    wpAny (model PG w) A (call (.builtin "sorted") [.ref l]) Q E s := by
  have hL : s.heap.IsList l vs.toArray := ⟨_, N.get hm, rfl, _, rfl⟩
  have hlen := hA.length
  by_cases h2 : vs.length < 2
  · refine sorted_small F N hL h2 fun D c' h' F' N' ap => h D vs ks c' h' hA (.refl _) ?_ F' N' ap
    rcases ks with _ | ⟨x, _ | ⟨y, r⟩⟩
    · exact .nil
    · exact List.pairwise_singleton _ _
    · simp at hlen; omega
  · refine kat_sorted F N hL (by omega) (by omega) fun D e1 h' F' N' lt => ?_
    obtain ⟨fs, t1, t2, t3⟩ := Are.tups (newsOf N' fun _ h => .tail _ h) hr hA
    refine kat_kind (s := { s with heap := h' }) (T := .type "str") t1 (by omega) (fun v hv => ?_) rfl ?_
    · obtain ⟨x, t, rfl⟩ := t3 v hv
      exact .now
    · show (kas_sort vs.length).kasWp (kas_ask PG w A.in1.in1 (tuples' true) vs) _ _
      refine kasWp_at (v := fun i => ks.getD i 0) (n := vs.length) (fun i j C hi hj hC => ?_) _ (sort_ok (by omega) fun p h0 hs => ?_)
      · obtain ⟨a, e, hx, t, u, ma⟩ := hA.at (i := i) (by omega)
        obtain ⟨b, e', hy, t', u', mb⟩ := hA.at (i := j) (by omega)
        unfold kas_ask
        rw [List.getD_eq_getElem?_getD, List.getD_eq_getElem?_getD, e, e']
        refine key_lt (N'.get (.tail _ (hr _ ma))) (N'.get (.tail _ (hr _ mb))) ?_
        rw [pc_lt hx hy]
        exact hC
      · obtain ⟨o1, o2⟩ := sort_out h0 hs
        refine KasFin.intro (g := fun o => (D, o) :: news) F' N' ?_ fun h'' c' F'' N'' => h D _ _ c' h'' (hA.of_map p.toList fun i hi => ?_) (o1.trans ?_) o2 F'' N'' fun q hq => Nat.ne_of_lt (lt q hq)
        · exact UpdF.head (fun p hp => Nat.ne_of_lt (lt p hp))
        · have := (Array.perm_iff_toList_perm.mp h0).mem_iff.mp hi
          simp at this; omega
        · have : (List.range vs.length).map (fun i => ks.getD i 0) = ks := by
            rw [hlen]
            apply List.ext_getElem?
            intro i
            rw [List.getElem?_map]
            by_cases hi : i < ks.length
            · rw [List.getElem?_range hi]; simp [hi]
            · rw [List.getElem?_eq_none (by simpa using Nat.le_of_not_lt hi), List.getElem?_eq_none (Nat.le_of_not_lt hi)]; rfl
          rw [this]
end
end Mine
end
section
open PySem PySem.W PyProof.Rows PySem.Spec PySem.Calls
set_option maxRecDepth 100000
namespace Mine
theorem start_EQ1 : True := by
  w_top off
  k_with_none
  (k_with "own:omega" => (first | with_reducible assumption | (refine' Mine.room2 ?h ?e; (case h => with_reducible assumption); (case e => decide)) | (refine' Mine.room1 ?h ?e; (case h => with_reducible assumption); (case e => decide)) | (refine' Mine.le_up ?h ?e; (case h => with_reducible assumption); (case e => decide)) | (refine' Mine.room0 ?h; (case h => with_reducible assumption)) | ((fail_if_success (fail_if_success omega (config := {}))); lia)))
  trivial
/-- a piece as data -/
noncomputable def pcD (k : Nat) : PyData := .tuple [.str (pcF k), .str (pcS k)]
theorem PcAt.reads {g h : Heap} {L : Addr} {news rest : List (Addr × Obj)} (N : News g L h news) (hr : ∀ p ∈ rest, p ∈ news) {a : Addr} {k : Nat} (p : PcAt rest a k) : Reads h (.ref a) (pcD k) [] := by
  obtain ⟨_, t, u, hm⟩ := p
  exact reads_tuple_at (N.get (hr _ hm)) rfl rfl (.cons (.str _ _) (.cons (.str _ _) .nil))
theorem Are.reads {g h : Heap} {L : Addr} {news rest : List (Addr × Obj)} (N : News g L h news) (hr : ∀ p ∈ rest, p ∈ news) : ∀ {vs : List Value} {ks : List Nat}, Are rest vs ks → ReadsAll h vs (ks.map pcD) []
  | [], [], _ => .nil
  | _ :: _, _ :: _, ⟨⟨a, e, p⟩, r⟩ => by subst e; exact .cons (p.reads N hr) (Are.reads N hr r)
theorem pcD_eqv (k : Nat) : PyData.eqv (pcD k) (pcD k) = true := by simp [pcD, PyData.eqv, PyData.eqvAll]
theorem pcDs_eqv : ∀ ks : List Nat, PyData.eqvAll (ks.map pcD) (ks.map pcD) = true
  | [] => rfl
  | k :: ks => by rw [List.map_cons, PyData.eqvAll, pcD_eqv, pcDs_eqv ks]; rfl
theorem pc_ok {k : Nat} (h : k ≤ BL) : PyData.strOk (pcF k) = true ∧ PyData.strOk (pcS k) = true := by
  unfold PyData.strOk pcF pcS
  by_cases h1 : k = BL
  · simp [h1]
  · by_cases h2 : k = 0
    · simp [h1, h2]
    · have hB : BL = 1114112 := rfl
      simp [h1, h2]; omega
theorem pcD_shaped {k : Nat} (h : k ≤ BL) : SeqAt.shaped (pcD k) = true := by simp [pcD, SeqAt.shaped, PyData.canLay0, PyData.canLayAll0, PyData.depth, PyData.depthAll, pc_ok h]
theorem pcDs_lay : ∀ ks : List Nat, (∀ k ∈ ks, k ≤ BL) → PyData.canLayAll0 (ks.map pcD) = true
  | [], _ => rfl
  | k :: ks, h => by simp [PyData.canLayAll0, PyData.canLay0, pcD, pcDs_lay ks fun k hk => h k (.tail _ hk), pc_ok (h k (.head _))]
theorem pcDs_depth : ∀ ks : List Nat, PyData.depthAll (ks.map pcD) ≤ 5
  | [] => by simp [PyData.depthAll]
  | k :: ks => by have := pcDs_depth ks; simp [PyData.depthAll, PyData.depth, pcD]; omega
theorem pcDs_shaped {ks : List Nat} (h : ∀ k ∈ ks, k ≤ BL) : SeqAt.shaped (.list (ks.map pcD)) = true := by
  have := pcDs_depth ks
  simp [SeqAt.shaped, PyData.canLay0, PyData.depth, pcDs_lay ks h]
  omega
/-- what a deed gives -/
inductive Ans where
  | non | refused | pc (k : Nat)
noncomputable def AnsAt (rest : List (Addr × Obj)) (v : Value) : Ans → Prop
  | .non => v = .none
  | .refused => ∃ t, v = .str (Str.ofString "refused") t
  | .pc k => ∃ a, v = .ref a ∧ PcAt rest a k
theorem AnsAt.mono {rest rest' : List (Addr × Obj)} {v : Value} {a : Ans} (h : AnsAt rest v a) (s : ∀ p ∈ rest, p ∈ rest') : AnsAt rest' v a := by
  cases a with
  | non => exact h
  | refused => exact h
  | pc k => obtain ⟨a, e, p⟩ := h; exact ⟨a, e, p.mono s⟩
noncomputable def ansD : Ans → PyData
  | .non => .none
  | .refused => .str (Str.ofString "refused")
  | .pc k => pcD k
theorem ansD_eqv (a : Ans) : PyData.eqv (ansD a) (ansD a) = true := by
  cases a with
  | non => rfl
  | refused => simp [ansD, PyData.eqv]
  | pc k => exact pcD_eqv k
theorem AnsAt.shaped {rest : List (Addr × Obj)} {v : Value} {a : Ans} (h : AnsAt rest v a) : SeqAt.shaped (ansD a) = true := by
  cases a with
  | non => rfl
  | refused => kernel_rfl
  | pc k => obtain ⟨_, _, p⟩ := h; exact pcD_shaped p.1
theorem AnsAt.reads {g h : Heap} {L : Addr} {news rest : List (Addr × Obj)} (N : News g L h news) (hr : ∀ p ∈ rest, p ∈ news) {v : Value} {a : Ans} (p : AnsAt rest v a) : Reads h v (ansD a) [] := by
  cases a with
  | non => cases p; exact .none
  | refused => obtain ⟨t, rfl⟩ := p; exact .str _ _
  | pc k => obtain ⟨a, rfl, q⟩ := p; exact q.reads N hr
section
variable {w : World} {A : Around} {E : Value → Shared → Prop} {s : Shared} {g : Heap} {L l l' : Addr} {m : Str → Option Value} {news rest rest' : List (Addr × Obj)} {vs vs' : List Value} {ks : List Nat} {c c' : Nat}
theorem ne_ans {v v' : Value} {a a' : Ans} {Q : Value → Shared → Prop} (N : News g L s.heap news) (hr : ∀ p ∈ rest, p ∈ news) (hr' : ∀ p ∈ rest', p ∈ news) (h1 : AnsAt rest v a) (h2 : AnsAt rest' v' a') (e : a = a') (hu : A.units + 64 < cLine) (h : Q (.bool false) s) :
    wpAny (model PG w) A (compareOp .NotEq v v') Q E s := by
  subst e
  exact ne_dataH (h1.reads N hr) (h2.reads N hr') h1.shaped h1.shaped hu (by rw [ansD_eqv]; exact h)
theorem ne_pcs {js : List Nat} {Q : Value → Shared → Prop} (N : News g L s.heap news) (hr : ∀ p ∈ rest, p ∈ news) (hr' : ∀ p ∈ rest', p ∈ news) (hm : (l, listOf vs.toArray c) ∈ news) (hm' : (l', listOf vs'.toArray c') ∈ news) (h1 : Are rest vs ks) (h2 : Are rest' vs' js) (e : ks = js)
    (hu : A.units + 64 < cLine) (h : Q (.bool false) s) : wpAny (model PG w) A (compareOp .NotEq (.ref l) (.ref l')) Q E s := by
  subst e
  refine ne_dataH (reads_list_at (N.get hm) rfl rfl (h1.reads N hr)) (reads_list_at (N.get hm') rfl rfl (h2.reads N hr')) (pcDs_shaped h1.le) (pcDs_shaped h1.le) hu ?_
  rw [PyData.eqv, pcDs_eqv]
  exact h
end
end Mine
end
section
open PySem PySem.W PyProof.Rows PySem.Spec PySem.Calls
set_option maxRecDepth 100000
namespace Mine
theorem start_LC1 : True := by
  w_top off
  k_with_none
  (k_with "own:omega" => (first | with_reducible assumption | (refine' Mine.room2 ?h ?e; (case h => with_reducible assumption); (case e => decide)) | (refine' Mine.room1 ?h ?e; (case h => with_reducible assumption); (case e => decide)) | (refine' Mine.le_up ?h ?e; (case h => with_reducible assumption); (case e => decide)) | (refine' Mine.room0 ?h; (case h => with_reducible assumption)) | ((fail_if_success (fail_if_success omega (config := {}))); lia)))
  trivial
open PyProof.Rows.LCg
theorem walks_seq {w : World} {A : Around} (hh : A.handled = none) (I ax : Addr) (hne : ax ≠ I) (items : Array Value) :
    Walks PG w A I [I, ax] [I] items.size (fun i v => items[i]? = some v) (fun i h => h.IsListIter I ax i ∧ SeqAt h ax items) where
  sub := fun b hb => by simp at hb; simp [hb]
  frame := fun _ _ _ st hk => ⟨st.1.at fun o e => hk I (by simp) o e, st.2.at' fun o e => hk ax (by simp) o e⟩
  item := fun i s Q E hi st hQ => by
    refine seq_next st.1 st.2 (x := items[i]) (by simp [hi]) fun h' hit' hs' => ?_
    exact hQ _ h' s.toks (by simp [hi]) ⟨hit', st.2.at' fun o e => hs'.extBut ax o hne e⟩ fun b o hb e => hs'.extBut b o (fun h => hb (by simp [h])) e
  done := fun s Q E st hQ => seq_end hh st.1 st.2 (by simp) fun h' he' => hQ h' s.toks fun b o hb e => he' b o (fun h => hb (by simp [h])) e
  self := fun _ _ _ _ st hQ => wpAny_pyIter_listiter st.1 hQ
/-- the source of a list comprehension -/
noncomputable def SrcW (w : World) (A : Around) (E : Value → Shared → Prop) (g : Heap) (L : Addr) (m : Str → Option Value) (env : Env) (elt : PySem.Expr) (x : Str) (scope : Scope) (cl : List (Str × Addr)) (Fin : Shared → List Value → List (Addr × Obj) → Prop) (xv : Value) (s₁ : Shared) : Prop :=
  wpAny (model PG w) A (pyIter xv) (fun it s₂ => ∃ (I : Addr) (fp : List Addr) (n : Nat) (P : Nat → Value → Prop) (St : Nat → Heap → Prop) (S : List (Addr × Obj) → Prop) (news : List (Addr × Obj)), it = .ref I ∧ Walks PG w A I fp [I] n P St ∧ n ≤ sizeLine ∧ (∀ i h, St i h → ∃ o, h.get? I = some o) ∧
    (∀ i h h' o nw, St i h → h.get? I = some o → h'.get? I = some o → (∀ b o, g.get? b = some o → h'.get? b = some o) → News g L h' nw → S nw → St i h') ∧ St 0 s₂.heap ∧ (∀ b ∈ fp, b < s₂.heap.objs.size) ∧
    Fr g L s₂.heap m ∧ News g L s₂.heap news ∧ L ≠ I ∧ g.get? I = none ∧ (∀ p ∈ news, p.1 ≠ I) ∧ S news ∧ CompRest PG w A g L m env elt x scope cl s₂ S P (Fin s₂) n 0 [] news) E s₁
section
variable {w : World} {A : Around} {E : Value → Shared → Prop} {s : Shared} {g : Heap} {L : Addr} {m : Str → Option Value} {env : Env} {news rest : List (Addr × Obj)}
theorem ListComp_W {elt iter : PySem.Expr} {x : Str} {px : Pos} {scope : Scope} {cl : List (Str × Addr)} {pos : Pos} {Q : Value → Shared → Prop}
    (hclos : closureFor scope env = pure cl) (hcell : ∀ y ∈ scope.names, y.2 ≠ .cell) (hkind : scope.kind = .function)
    (hnames : ∀ y ∈ scope.names, y.2 = .local → scope.names.lookup y.1 = some .local) (hx : scope.names.lookup x = some .local)
    (h : wpAny (model PG w) A (eval iter env) (SrcW w A E g L m env elt x scope cl (fun s₂ => FinE g L m s₂ Q)) E s)
    (hs : ∀ x, foldedSetIterable iter env x = pure x := by intro _; rfl) :
    wpAny (model PG w) A (eval (.ListComp elt [⟨.Name x px, iter, [], 0⟩] scope pos) env) Q E s := by
  rw [eval_ListComp]
  refine wpAny_comprehension_free (use := none) rfl hs hclos hkind hnames (wpAny_mono h (fun xv s₁ h₁ => wpAny_mono h₁ (fun it s₂ h₂ => ?_) fun _ _ e => e) fun _ _ e => e)
  obtain ⟨I, fp, n, P, St, S, news, rfl, W, hsz, hIo, hSt, hst, hfp, F, N, hIL, hI₀, off, hS, R⟩ := h₂
  refine block_U W hsz hIo hSt hcell hkind hx hst hfp F N hIL hI₀ off hS R ?_
  intro D C h tk m' ys news' F' N' o1 hn hC₀ hD₀ hCL hDL hCD offC fin
  refine ⟨m', hn, fun h'' hs'' => fin D h'' tk (F'.change hs'' hCL hC₀) (fun p hp => ?_) o1⟩
  refine ⟨hs''.extBut _ _ ?_ (N' p hp).1, (N' p hp).2⟩
  rcases List.mem_cons.mp hp with rfl | hp
  · exact Ne.symm hCD
  · exact offC p hp
theorem Assign_ListComp_W {elt iter : PySem.Expr} {x y : Str} {px py : Pos} {scope : Scope} {cl : List (Str × Addr)} {pos spos : Pos} {Q : Flow → Shared → Prop} (hLe : env.locals = L)
    (hsw : swapsWith (.ListComp elt [⟨.Name x px, iter, [], 0⟩] scope pos) (some (.Name y py)) spos.line env = pure true)
    (hclos : closureFor scope env = pure cl) (hcell : ∀ z ∈ scope.names, z.2 ≠ .cell) (hkind : scope.kind = .function)
    (hnames : ∀ z ∈ scope.names, z.2 = .local → scope.names.lookup z.1 = some .local) (hx : scope.names.lookup x = some .local)
    (hy : env.kindOf y = some .local) (hp : (env.scope.kind == .class || (env.scope.kind == .module && env.locals != env.globals)) = false)
    (h : wpAny (model PG w) A (eval iter env) (SrcW w A E g L m env elt x scope cl (fun s₂ => FinA g L m s₂ y Q)) E s)
    (hs : ∀ x, foldedSetIterable iter env x = pure x := by intro _; rfl) :
    wpAny (model PG w) A (exec (.Assign [.Name y py] (.ListComp elt [⟨.Name x px, iter, [], 0⟩] scope pos) spos) env) Q E s := by
  subst hLe
  rw [exec_Assign_Name_used _ _ _ _ hsw]
  refine wpAny_bind (wpAny_standAt (wpAny_bind ?_))
  show wpAny _ A (do let _ ← comprehension (.ListComp elt [⟨.Name x px, iter, [], 0⟩] scope pos) scope env _ (newList []) false (eval iter env) (some (assign (.Name y py) env))) _ _ s
  refine wpAny_bind (wpAny_mono (wpAny_comprehension_free (use := some (assign (.Name y py) env)) (Q := fun _ s' => Q .next s') rfl hs hclos hkind hnames
    (wpAny_mono h (fun xv s₁ h₁ => wpAny_mono h₁ (fun it s₂ h₂ => ?_) fun _ _ e => e) fun _ _ e => e)) (fun _ s' hq => wpAny_pure (wpAny_pure hq)) fun _ _ e => e)
  obtain ⟨I, fp, n, P, St, S, news, rfl, W, hsz, hIo, hSt, hst, hfp, F, N, hIL, hI₀, off, hS, R⟩ := h₂
  refine block_U W hsz hIo hSt hcell hkind hx hst hfp F N hIL hI₀ off hS R ?_
  intro D C h' tk m' ys news' F' N' o1 hn hC₀ hD₀ hCL hDL hCD offC fin
  show wpAny _ A (assign (.Name y py) env (.ref D)) _ _ _
  refine wpAny_assign_Name (wpAny_storeName_local hy F'.ns (fun h₂ hn₂ hs₂ => ?_) hp)
  have hL₀ : g.get? env.locals = none := Heap.get?_none_of_le F'.above
  have F₂ : Fr g env.locals h₂ (fun z => if z = y then some (.ref D) else m z) := ⟨hn₂, fun b o e => hs₂.extBut b o (fun q => by rw [q, hL₀] at e; cases e) (F'.keep b o e), F'.above⟩
  refine ⟨m', hn.sameBut hs₂ hCL, fun h'' hs'' => fin D h'' _ (F₂.change hs'' hCL hC₀) (fun p hp => ?_) o1⟩
  have z : h₂.get? p.1 = some p.2 := hs₂.extBut _ _ (N' p hp).2.1 (N' p hp).1
  refine ⟨hs''.extBut _ _ ?_ z, (N' p hp).2⟩
  rcases List.mem_cons.mp hp with rfl | hp
  · exact Ne.symm hCD
  · exact offC p hp
theorem SrcW.acc {elt : PySem.Expr} {x : Str} {scope : Scope} {cl : List (Str × Addr)} {Fin : Shared → List Value → List (Addr × Obj) → Prop} {row d : Addr} {vs : List Value} {n : Nat} (hh : A.handled = none) (F : Fr g L s.heap m) (X : (KW w.params).In g) (N : News g L s.heap news) (hrow : (row, accObj d vs.toArray n) ∈ news) (hl : vs.length ≤ 1000)
    (h : ∀ h', CompRest PG w A g L m env elt x scope cl { s with heap := h' } (fun nw => (row, accObj d vs.toArray n) ∈ nw) (fun i v => vs[i]? = some v) (Fin { s with heap := h' }) vs.length 0 [] news) :
    SrcW w A E g L m env elt x scope cl Fin (.ref row) s := by
  have ho := N.get hrow
  have hlt := Heap.lt_size ho
  refine acc_iter (X.keeps F.keep) ho ?_
  have W := walks_seq (w := w) hh s.heap.objs.size row (Nat.ne_of_lt hlt) vs.toArray
  have es : vs.toArray.size = vs.length := List.size_toArray ..
  have ef : (fun (i : Nat) v => vs.toArray[i]? = some v) = (fun (i : Nat) v => vs[i]? = some v) := by funext i v; simp
  rw [es, ef] at W
  refine ⟨s.heap.objs.size, _, vs.length, _, _, fun nw => (row, accObj d vs.toArray n) ∈ nw, news, rfl, W, by rw [sizeLine_eq]; omega, fun i h st => by obtain ⟨o, e, _⟩ := st.1; exact ⟨o, e⟩, ?_, ⟨⟨_, Heap.get?_push_size _ rfl, rfl, rfl⟩, ?_⟩, ?_, F.push _, N.pushKeep _, Nat.ne_of_lt F.ns.lt, next_is_new F, N.apart, hrow, h _⟩
  · intro i h₁ h₂ o nw st e e' k N' S
    refine ⟨by obtain ⟨o', q, r⟩ := st.1; rw [e] at q; cases q; exact ⟨o, e', r⟩, SeqAt.acc (N'.get S)⟩
  · exact SeqAt.acc (Heap.get?_push_of_some _ ho)
  · intro b hb
    show b < (s.heap.push _).objs.size
    rw [Heap.size_push]
    rcases List.mem_cons.mp hb with rfl | hb
    · exact Nat.lt_succ_self _
    · rw [List.mem_singleton.mp hb]; exact Nat.lt_succ_of_lt hlt
theorem SrcW.str {elt : PySem.Expr} {x : Str} {scope : Scope} {cl : List (Str × Addr)} {Fin : Shared → List Value → List (Addr × Obj) → Prop} {tx : Str} {t : Tok} (hh : A.handled = none) (F : Fr g L s.heap m) (N : News g L s.heap news) (hl : tx.cps.size ≤ 1000)
    (h : ∀ h', CompRest PG w A g L m env elt x scope cl { s with heap := h' } (fun _ => True) (SignAt tx) (Fin { s with heap := h' }) tx.cps.size 0 [] news) :
    SrcW w A E g L m env elt x scope cl Fin (.str tx t) s := by
  have go : ∀ (T : String) (o : Obj), Walks PG w A s.heap.objs.size [s.heap.objs.size] [s.heap.objs.size] tx.cps.size (SignAt tx) (fun i h => h.IsStrIter s.heap.objs.size T tx t i) → (s.heap.push o).IsStrIter s.heap.objs.size T tx t 0 →
      ∃ (I : Addr) (fp : List Addr) (n : Nat) (P : Nat → Value → Prop) (St : Nat → Heap → Prop) (S : List (Addr × Obj) → Prop) (news : List (Addr × Obj)), (Value.ref s.heap.objs.size) = .ref I ∧ Walks PG w A I fp [I] n P St ∧ n ≤ sizeLine ∧ (∀ i h, St i h → ∃ o, h.get? I = some o) ∧
    (∀ i h h' o nw, St i h → h.get? I = some o → h'.get? I = some o → (∀ b o, g.get? b = some o → h'.get? b = some o) → News g L h' nw → S nw → St i h') ∧ St 0 (s.heap.push o) ∧ (∀ b ∈ fp, b < (s.heap.push o).objs.size) ∧
    Fr g L (s.heap.push o) m ∧ News g L (s.heap.push o) news ∧ L ≠ I ∧ g.get? I = none ∧ (∀ p ∈ news, p.1 ≠ I) ∧ S news ∧ CompRest PG w A g L m env elt x scope cl { s with heap := s.heap.push o } S P (Fin { s with heap := s.heap.push o }) n 0 [] news := by
    intro T o W hst
    refine ⟨s.heap.objs.size, _, _, _, _, fun _ => True, news, rfl, W, by rw [sizeLine_eq]; omega, fun i h st => by obtain ⟨o, e, _⟩ := st; exact ⟨o, e⟩, ?_, hst, ?_, F.push _, N.pushKeep _, Nat.ne_of_lt F.ns.lt, next_is_new F, N.apart, trivial, h _⟩
    · intro i h₁ h₂ o nw st e e' k N' S
      obtain ⟨o', q, r⟩ := st
      rw [e] at q; cases q; exact ⟨o, e', r⟩
    · intro b hb
      rw [Heap.size_push, List.mem_singleton.mp hb]
      exact Nat.lt_succ_self _
  unfold SrcW
  cases ha : tx.cps.all (· < 128)
  · exact wpAny_pyIter_wide ha (go _ _ (Walks.strWide hh _ tx t) ⟨_, Heap.get?_push_size _ rfl, rfl, rfl⟩)
  · exact wpAny_pyIter_ascii ha (go _ _ (Walks.strAscii hh _ tx t) ⟨_, Heap.get?_push_size _ rfl, rfl, rfl⟩)
theorem rest_ind {elt : PySem.Expr} {x : Str} {scope : Scope} {cl : List (Str × Addr)} {S : List (Addr × Obj) → Prop} {P : Nat → Value → Prop} {Fin : List Value → List (Addr × Obj) → Prop} {n : Nat} (J : Nat → List Value → List (Addr × Obj) → Prop)
    (hend : ∀ ys news, J n ys news → Fin ys news)
    (hstep : ∀ i ys news v I oI C oC D m₂ h tk (E' : Value → Shared → Prop), i < n → J i ys news → P i v → NsObj oC m₂ → m₂ x = some v → Fr g L h m → News g L h ((I, oI) :: (C, oC) :: (D, lst ys) :: news) → Off3 I C D news → ((@Ne Nat I C) ∧ (@Ne Nat I D) ∧ (@Ne Nat C D)) →
      wpAny (model PG w) A (eval elt (compEnvC scope cl C env)) (CompEnd g L m { s with heap := h, toks := tk } I oI C oC D (lst ys) S (fun y news' => J (i + 1) (ys ++ [y]) news')) E' { s with heap := h, toks := tk }) :
    ∀ (k i : Nat) (ys : List Value) (news : List (Addr × Obj)), i + k = n → J i ys news → CompRest PG w A g L m env elt x scope cl s S P Fin k i ys news
  | 0, i, ys, news, e, hJ => hend ys news ((show i = n by omega) ▸ hJ)
  | k + 1, i, ys, news, e, hJ => fun v I oI C oC D m₂ h tk E' hP hC hx F N off ne => by
    refine wpAny_mono (hstep i ys news v I oI C oC D m₂ h tk E' (by omega) hJ hP hC hx F N off ne) (fun y s' hy => ?_) fun _ _ z => z
    obtain ⟨h', tk', news', rfl, F', N', off', hS', hr⟩ := hy
    exact ⟨h', tk', news', rfl, F', N', off', hS', rest_ind J hend hstep k (i + 1) _ _ (by omega) hr⟩
/-- each item as it is -/
theorem rest_id {x : Str} {px : Pos} {scope : Scope} {cl : List (Str × Addr)} {S : List (Addr × Obj) → Prop} {Fin : List Value → List (Addr × Obj) → Prop} {vs : List Value} (hS : S news) (hfin : Fin vs news)
    (hk : (relabel scope env).kind = .function) (hx : (relabel scope env).names.lookup x = some .local) (hd : (x == ("__debug__" : Str)) = false) :
    CompRest PG w A g L m env (.Name x px) x scope cl s S (fun i v => vs[i]? = some v) Fin vs.length 0 [] news := by
  refine rest_ind (n := vs.length) (fun i ys nw => ys = vs.take i ∧ nw = news) ?_ ?_ vs.length 0 [] news (by omega) ⟨by simp, rfl⟩
  · rintro ys nw ⟨rfl, rfl⟩
    rw [List.take_length]; exact hfin
  · rintro i ys nw v I oI C oC D m₂ h tk E' hi ⟨rfl, rfl⟩ hP hC hm F N off ne
    refine wpAny_Name (wpAny_loadName_local hk hx (hC.ns (N.get (.tail _ (.head _)))) hm ?_) hd
    refine CompEnd.intro F N nw (fun p hp => hp) off hS ⟨?_, rfl⟩
    rw [List.take_succ, hP]; rfl
end
end Mine
end
section
open PySem PySem.W PyProof.Rows PySem.Spec PySem.Calls
set_option maxRecDepth 100000
namespace Mine
theorem start_T1 : True := by
  w_top off
  k_with_none
  (k_with "own:omega" => (first | with_reducible assumption | (refine' Mine.room2 ?h ?e; (case h => with_reducible assumption); (case e => decide)) | (refine' Mine.room1 ?h ?e; (case h => with_reducible assumption); (case e => decide)) | (refine' Mine.le_up ?h ?e; (case h => with_reducible assumption); (case e => decide)) | (refine' Mine.room0 ?h; (case h => with_reducible assumption)) | ((fail_if_success (fail_if_success omega (config := {}))); lia)))
  trivial
open PyProof.Rows.LCg
theorem join2 (a b : Str) : Txt.join (Str.ofString "") [a, b] = a ++ b := by
  show Str.join (Str.ofString "") [a, b] = a ++ b
  rw [join_cons_cons, join_one]
  have : a ++ Str.ofString "" = a := by
    show Str.mk (a.cps ++ #[]) = a
    simp
  rw [this]
/-- the same, whatever else the ledger holds -/
theorem len_M {w : World} {p : Program} {loose : List Str} {mean : ExcName → Option Value} {mg mb : Str → Option Value} {dp un : Nat} {gd : Option (List Code)} {cn : Str} {cs : Scope} {a : Addr} {ccd : Value} {cl : List (Str × Addr)} {outer : List Env} {A₀ : Around} {base h₀ : Heap} {L : Addr} {m : Str → Option Value} {news : List (Addr × Obj)} {s : Shared}
    {Q E : Value → Shared → Prop} {row d : Addr} {vs : List Value} {n : Nat} {k : Int} {qs : List (Str × Str)} {hs : Int} {t₁ t₂ : Tok} {nd : Nat} {ps : Array Value}
    (B : Below A₀ base outer h₀) (F : Fr h₀ L s.heap m) (X : (KW w.params).In h₀) (N : News h₀ L s.heap news) (T : Top p loose mean mg mb h₀) (hk : cs.kind = .function)
    (hd : dp + 5 < recursionLimit) (hu : un + 60 < cLine) (G : AllBare s.gens) (hrow : (row, accObj d vs.toArray n) ∈ news) (hdi : (d, szObj hs t₁ k t₂ nd) ∈ news) (htab : (112, tabObj ps) ∈ news) (hf : Found posL ps) (hP : Pairs news vs qs)
    (hsz : ∀ q ∈ qs, q.1.length ≤ 10 ∧ q.2.length ≤ 10) (hl : qs.length ≤ 1000) (hk0 : 0 ≤ k) (hk1 : k ≤ 100000)
    (ret : ∀ s' t, Fr h₀ L s'.heap m → News h₀ L s'.heap news → AllBare s'.gens → s'.os = s.os → Q (.int (k + lens qs) t) s') :
    wpAny (model PG w) (ktrTop dp un gd cn cs L a ccd cl outer) (call (.builtin "len") [.ref row]) Q E s := by
  refine len_K (K := KW w.params) (C := 150) (f := 117) F X (acc_inst N hrow hdi) (by kernel_rfl) (by kernel_rfl) ?_
  refine len_call (un := un + 1) (rest := news) (ps := ps) B F X (fun z hz => ?_) T hk hd (by omega) G (.inr hf) (.inl hf) hrow hP hdi hsz hl hk0 hk1 fun s' ps' t F' N' G' hos _ he => ?_
  · rcases List.mem_cons.mp hz with rfl | hz
    · exact N _ htab
    · exact N _ hz
  · have hb := lens_bound qs hsz
    exact ⟨⟨by omega, by omega⟩, ret { s' with toks := s'.toks + 1 } s'.toks F' (fun z hz => N' z (.tail _ hz)) G' hos⟩
theorem str_M {w : World} {p : Program} {loose : List Str} {mean : ExcName → Option Value} {mg mb : Str → Option Value} {dp un : Nat} {gd : Option (List Code)} {cn : Str} {cs : Scope} {a : Addr} {ccd : Value} {cl : List (Str × Addr)} {outer : List Env} {A₀ : Around} {base h₀ : Heap} {L : Addr} {m : Str → Option Value} {news : List (Addr × Obj)} {s : Shared}
    {Q E : Value → Shared → Prop} {row d : Addr} {vs : List Value} {n : Nat} {qs : List (Str × Str)} {od : Obj} {ps : Array Value}
    (B : Below A₀ base outer h₀) (F : Fr h₀ L s.heap m) (X : (KW w.params).In h₀) (N : News h₀ L s.heap news) (T : Top p loose mean mg mb h₀) (hk : cs.kind = .function)
    (hd : dp + 5 < recursionLimit) (hu : un + 60 < cLine) (G : AllBare s.gens) (hrow : (row, accObj d vs.toArray n) ∈ news) (hdi : (d, od) ∈ news) (htab : (119, tabObj ps) ∈ news) (hf : Found posS ps) (hP : Pairs news vs qs)
    (hsz : ∀ q ∈ qs, q.1.length ≤ 10 ∧ q.2.length ≤ 10) (hl : qs.length ≤ 1000)
    (ret : ∀ s' t, Fr h₀ L s'.heap m → News h₀ L s'.heap news → AllBare s'.gens → s'.os = s.os → Q (.str (Txt.join "" (qs.map fun q => q.1 ++ q.2)) t) s') :
    wpAny (model PG w) (ktrTop dp un gd cn cs L a ccd cl outer) (call (.type "str") [.ref row]) Q E s := by
  refine kso_call (K := KW w.params) (C := 150) (f := 124) (by show un + 1 + 1 < cLine; omega) (X.keeps F.keep) (acc_inst N hrow hdi) (by kernel_rfl) (by kernel_rfl) ?_
  refine str_call (un := un + 2) (rest := news) (ps := ps) B F X (fun z hz => ?_) T hk hd (by omega) G (.inr hf) (.inl hf) hrow hP hsz hl fun s' ps' t F' N' G' hos _ he => ?_
  · rcases List.mem_cons.mp hz with rfl | hz
    · exact N _ htab
    · exact N _ hz
  · have e : (qs.map fun q => Txt.join "" [q.1, q.2]) = qs.map fun q => q.1 ++ q.2 := List.map_congr_left fun q _ => join2 _ _
    rw [e]
    exact ret _ _ F' (fun z hz => N' z (.tail _ hz)) G' hos
section
variable {w : World} {A : Around} {E : Value → Shared → Prop} {s : Shared} {g : Heap} {L : Addr} {m : Str → Option Value} {env : Env} {news rest : List (Addr × Obj)}
theorem restP_ind {elt : PySem.Expr} {x x₂ : Str} {scope : Scope} {cl : List (Str × Addr)} {S : List (Addr × Obj) → Prop} {P : Nat → Value → Prop} {Fin : List Value → List (Addr × Obj) → Prop} {n : Nat} (J : Nat → List Value → List (Addr × Obj) → Prop)
    (hend : ∀ ys news, J n ys news → Fin ys news)
    (hstep : ∀ i ys news v, i < n → J i ys news → P i v → ∃ (t : Addr) (ot : Obj) (v₁ v₂ : Value) (nt : Nat), v = .ref t ∧ (t, ot) ∈ news ∧ ot.cls = .type "tuple" ∧ ot.data = .seq #[v₁, v₂] nt ∧ ∀ I oI C oC D m₂ h tk (E' : Value → Shared → Prop), NsObj oC m₂ → m₂ x = some v₁ → m₂ x₂ = some v₂ → Fr g L h m → News g L h ((I, oI) :: (C, oC) :: (D, lst ys) :: news) → Off3 I C D news → ((@Ne Nat I C) ∧ (@Ne Nat I D) ∧ (@Ne Nat C D)) →
      wpAny (model PG w) A (eval elt (compEnvC scope cl C env)) (CompEnd g L m { s with heap := h, toks := tk } I oI C oC D (lst ys) S (fun y news' => J (i + 1) (ys ++ [y]) news')) E' { s with heap := h, toks := tk }) :
    ∀ (k i : Nat) (ys : List Value) (news : List (Addr × Obj)), i + k = n → J i ys news → LCp.CompRestP PG w A g L m env elt x x₂ scope cl s S P Fin k i ys news
  | 0, i, ys, news, e, hJ => hend ys news ((show i = n by omega) ▸ hJ)
  | k + 1, i, ys, news, e, hJ => fun v hP => by
    obtain ⟨t, ot, v₁, v₂, nt, e1, e2, e3, e4, e5⟩ := hstep i ys news v (by omega) hJ hP
    refine ⟨t, ot, v₁, v₂, nt, e1, e2, e3, e4, fun I oI C oC D m₂ h tk E' hC hx hy F N off ne => ?_⟩
    refine wpAny_mono (e5 I oI C oC D m₂ h tk E' hC hx hy F N off ne) (fun y s' hy => ?_) fun _ _ z => z
    obtain ⟨h', tk', news', rfl, F', N', off', hS', hr⟩ := hy
    exact ⟨h', tk', news', rfl, F', N', off', hS', restP_ind J hend hstep k (i + 1) _ _ (by omega) hr⟩
end
theorem StrsAre.snoc {vs : List Value} {ys : List Str} {y : Str} {t : Tok} (h : StrsAre vs ys) : StrsAre (vs ++ [.str y t]) (ys ++ [y]) := by
  induction h with
  | nil => exact .cons _ _ .nil
  | cons y t _ ih => exact .cons _ _ ih
end Mine
end
section
open PySem PySem.W PyProof.Rows PySem.Spec PySem.Calls
set_option maxRecDepth 100000
namespace Mine
theorem start_LC2 : True := by
  w_top off
  k_with_none
  (k_with "own:omega" => (first | with_reducible assumption | (refine' Mine.room2 ?h ?e; (case h => with_reducible assumption); (case e => decide)) | (refine' Mine.room1 ?h ?e; (case h => with_reducible assumption); (case e => decide)) | (refine' Mine.le_up ?h ?e; (case h => with_reducible assumption); (case e => decide)) | (refine' Mine.room0 ?h; (case h => with_reducible assumption)) | ((fail_if_success (fail_if_success omega (config := {}))); lia)))
  trivial
open PyProof.Rows.LCg
theorem Off1.ne {D : Addr} : ∀ {l : List (Addr × Obj)}, Off1 D l → ∀ p ∈ l, p.1 ≠ D
  | [], _, _, h => nomatch h
  | _ :: _, x, p, h => by
    rcases List.mem_cons.mp h with rfl | h
    · exact x.1
    · exact Off1.ne x.2 p h
section
variable {w : World} {A : Around} {E : Value → Shared → Prop} {s : Shared} {g : Heap} {L row d : Addr} {m : Str → Option Value} {env : Env} {news : List (Addr × Obj)} {vs : List Value} {n : Nat}
theorem Assign_acc_id {iter : PySem.Expr} {x y : Str} {px px' py : Pos} {scope : Scope} {cl : List (Str × Addr)} {pos spos : Pos} {Q : Flow → Shared → Prop} (F : Fr g L s.heap m) (X : (KW w.params).In g) (N : News g L s.heap news) (hrow : (row, accObj d vs.toArray n) ∈ news) (hl : vs.length ≤ 1000) (hh : A.handled = none)
    (hiter : ∀ (Q' : Value → Shared → Prop), Q' (.ref row) s → wpAny (model PG w) A (eval iter env) Q' E s)
    (h : ∀ D h' tk, Fr g L h' (fun z => if z = y then some (.ref D) else m z) → News g L h' ((D, listOf vs.toArray vs.length) :: news) → (∀ p ∈ news, p.1 ≠ D) → Q .next { s with heap := h', toks := tk })
    (hLe : env.locals = L)
    (hsw : swapsWith (.ListComp (.Name x px') [⟨.Name x px, iter, [], 0⟩] scope pos) (some (.Name y py)) spos.line env = pure true)
    (hclos : closureFor scope env = pure cl) (hcell : ∀ z ∈ scope.names, z.2 ≠ .cell) (hkind : scope.kind = .function)
    (hnames : ∀ z ∈ scope.names, z.2 = .local → scope.names.lookup z.1 = some .local) (hx : scope.names.lookup x = some .local)
    (hy : env.kindOf y = some .local) (hp : (env.scope.kind == .class || (env.scope.kind == .module && env.locals != env.globals)) = false)
    (hd : (x == ("__debug__" : Str)) = false) (hs : ∀ x, foldedSetIterable iter env x = pure x) :
    wpAny (model PG w) A (exec (.Assign [.Name y py] (.ListComp (.Name x px') [⟨.Name x px, iter, [], 0⟩] scope pos) spos) env) Q E s :=
  Assign_ListComp_W (g := g) (L := L) (m := m) hLe hsw hclos hcell hkind hnames hx hy hp (hiter _ (SrcW.acc hh F X N hrow hl fun h' => rest_id hrow (fun D h'' tk F' N' off => h D h'' tk F' N' (Off1.ne off)) hkind (lookup_relabel_local hx) hd)) hs
theorem ListComp_acc_id {iter : PySem.Expr} {x : Str} {px px' : Pos} {scope : Scope} {cl : List (Str × Addr)} {pos : Pos} {Q : Value → Shared → Prop} (F : Fr g L s.heap m) (X : (KW w.params).In g) (N : News g L s.heap news) (hrow : (row, accObj d vs.toArray n) ∈ news) (hl : vs.length ≤ 1000) (hh : A.handled = none)
    (hiter : ∀ (Q' : Value → Shared → Prop), Q' (.ref row) s → wpAny (model PG w) A (eval iter env) Q' E s)
    (h : ∀ D h' tk, Fr g L h' m → News g L h' ((D, listOf vs.toArray vs.length) :: news) → (∀ p ∈ news, p.1 ≠ D) → Q (.ref D) { s with heap := h', toks := tk })
    (hclos : closureFor scope env = pure cl) (hcell : ∀ z ∈ scope.names, z.2 ≠ .cell) (hkind : scope.kind = .function)
    (hnames : ∀ z ∈ scope.names, z.2 = .local → scope.names.lookup z.1 = some .local) (hx : scope.names.lookup x = some .local)
    (hd : (x == ("__debug__" : Str)) = false) (hs : ∀ x, foldedSetIterable iter env x = pure x) :
    wpAny (model PG w) A (eval (.ListComp (.Name x px') [⟨.Name x px, iter, [], 0⟩] scope pos) env) Q E s :=
  ListComp_W (g := g) (L := L) (m := m) hclos hcell hkind hnames hx (hiter _ (SrcW.acc hh F X N hrow hl fun h' => rest_id hrow (fun D h'' tk F' N' off => h D h'' tk F' N' (Off1.ne off)) hkind (lookup_relabel_local hx) hd)) hs
end
end Mine
end
section
open PySem PySem.W PyProof.Rows PySem.Spec PySem.Calls
set_option maxRecDepth 100000
namespace Mine
theorem start_T2 : True := by
  w_top off
  k_with_none
  (k_with "own:omega" => (first | with_reducible assumption | (refine' Mine.room2 ?h ?e; (case h => with_reducible assumption); (case e => decide)) | (refine' Mine.room1 ?h ?e; (case h => with_reducible assumption); (case e => decide)) | (refine' Mine.le_up ?h ?e; (case h => with_reducible assumption); (case e => decide)) | (refine' Mine.room0 ?h; (case h => with_reducible assumption)) | ((fail_if_success (fail_if_success omega (config := {}))); lia)))
  trivial
theorem sorted_uniq : ∀ {a b : List Nat}, a.Perm b → a.Pairwise (· ≤ ·) → b.Pairwise (· ≤ ·) → a = b
  | [], _, p, _, _ => p.nil_eq
  | x :: r, b, p, ha, hb => by
    cases b with
    | nil => exact absurd p.length_eq (by simp)
    | cons y t =>
      have hx : x ∈ y :: t := p.mem_iff.mp (.head _)
      have hy : y ∈ x :: r := p.mem_iff.mpr (.head _)
      have e : x = y := by
        rcases List.mem_cons.mp hx with h | h
        · exact h
        · rcases List.mem_cons.mp hy with h' | h'
          · exact h'.symm
          · have a1 := (List.pairwise_cons.mp ha).1 y h'
            have a2 := (List.pairwise_cons.mp hb).1 x h
            omega
      subst e
      rw [sorted_uniq (List.Perm.cons_inv p) (List.pairwise_cons.mp ha).2 (List.pairwise_cons.mp hb).2]
theorem sorted_eq {a b c : List Nat} (h1 : a.Perm c) (h2 : b.Perm c) (ha : a.Pairwise (· ≤ ·)) (hb : b.Pairwise (· ≤ ·)) : a = b := sorted_uniq (h1.trans h2.symm) ha hb
theorem len_R {w : World} {p : Program} {loose : List Str} {mean : ExcName → Option Value} {mg mb : Str → Option Value} {dp un : Nat} {gd : Option (List Code)} {cn : Str} {cs : Scope} {a : Addr} {ccd : Value} {cl : List (Str × Addr)} {outer : List Env} {A₀ : Around} {base h₀ : Heap} {L : Addr} {m : Str → Option Value} {news rest : List (Addr × Obj)} {s : Shared}
    {Q E : Value → Shared → Prop} {row d : Addr} {vs : List Value} {n : Nat} {k : Int} {ks : List Nat} {hs : Int} {t₁ t₂ : Tok} {nd : Nat} {ps : Array Value}
    (B : Below A₀ base outer h₀) (F : Fr h₀ L s.heap m) (X : (KW w.params).In h₀) (N : News h₀ L s.heap news) (T : Top p loose mean mg mb h₀) (hk : cs.kind = .function)
    (hd : dp + 5 < recursionLimit) (hu : un + 60 < cLine) (G : AllBare s.gens) (hrow : (row, accObj d vs.toArray n) ∈ news) (hdi : (d, szObj hs t₁ k t₂ nd) ∈ news) (htab : (112, tabObj ps) ∈ news) (hf : Found posL ps) (hr : ∀ p ∈ rest, p ∈ news) (hA : Are rest vs ks) (hpos : ∀ x ∈ ks, 0 < x)
    (hl : ks.length ≤ 1000) (hk0 : 0 ≤ k) (hk1 : k ≤ 100000)
    (ret : ∀ s' t, Fr h₀ L s'.heap m → News h₀ L s'.heap news → AllBare s'.gens → s'.os = s.os → Q (.int (k + (ks.length : Int)) t) s') :
    wpAny (model PG w) (ktrTop dp un gd cn cs L a ccd cl outer) (call (.builtin "len") [.ref row]) Q E s :=
  len_M B F X N T hk hd hu G hrow hdi htab hf (hA.pairs.mono hr) (pc_short ks) (by simpa using hl) hk0 hk1 fun s' t F' N' G' hos => by rw [lens_ones hpos]; exact ret s' t F' N' G' hos
theorem str_R {w : World} {p : Program} {loose : List Str} {mean : ExcName → Option Value} {mg mb : Str → Option Value} {dp un : Nat} {gd : Option (List Code)} {cn : Str} {cs : Scope} {a : Addr} {ccd : Value} {cl : List (Str × Addr)} {outer : List Env} {A₀ : Around} {base h₀ : Heap} {L : Addr} {m : Str → Option Value} {news rest : List (Addr × Obj)} {s : Shared}
    {Q E : Value → Shared → Prop} {row d : Addr} {vs : List Value} {n : Nat} {ks : List Nat} {od : Obj} {ps : Array Value}
    (B : Below A₀ base outer h₀) (F : Fr h₀ L s.heap m) (X : (KW w.params).In h₀) (N : News h₀ L s.heap news) (T : Top p loose mean mg mb h₀) (hk : cs.kind = .function)
    (hd : dp + 5 < recursionLimit) (hu : un + 60 < cLine) (G : AllBare s.gens) (hrow : (row, accObj d vs.toArray n) ∈ news) (hdi : (d, od) ∈ news) (htab : (119, tabObj ps) ∈ news) (hf : Found posS ps) (hr : ∀ p ∈ rest, p ∈ news) (hA : Are rest vs ks) (hl : ks.length ≤ 1000)
    (ret : ∀ s' t, Fr h₀ L s'.heap m → News h₀ L s'.heap news → AllBare s'.gens → s'.os = s.os → Q (.str (Txt.join "" (ks.map fun k => pcF k ++ pcS k)) t) s') :
    wpAny (model PG w) (ktrTop dp un gd cn cs L a ccd cl outer) (call (.type "str") [.ref row]) Q E s :=
  str_M B F X N T hk hd hu G hrow hdi htab hf (hA.pairs.mono hr) (pc_short ks) (by simpa using hl) fun s' t F' N' G' hos => by
    rw [List.map_map]
    exact ret s' t F' N' G' hos
end Mine
end
section
open PySem PySem.W PyProof.Rows PySem.Spec PySem.Calls
set_option maxRecDepth 100000
namespace Mine
theorem start_LW : True := by
  w_top off
  k_with_none
  (k_with "own:omega" => (first | with_reducible assumption | (refine' Mine.room2 ?h ?e; (case h => with_reducible assumption); (case e => decide)) | (refine' Mine.room1 ?h ?e; (case h => with_reducible assumption); (case e => decide)) | (refine' Mine.le_up ?h ?e; (case h => with_reducible assumption); (case e => decide)) | (refine' Mine.room0 ?h; (case h => with_reducible assumption)) | ((fail_if_success (fail_if_success omega (config := {}))); lia)))
  trivial
section
variable {w : World} {A : Around} {E : Value → Shared → Prop} {s : Shared} {env : Env} {h₀ : Heap} {m : Str → Option Value} {news : List (Addr × Obj)}
/-- what a turn leaves, the iterator's own object told -/
noncomputable def TurnW (h₀ : Heap) (L I : Addr) (oI : Obj) (J : Nat → Array GenState → OsState → (Str → Option Value) → List (Addr × Obj) → Prop) (Q : Flow → Shared → Prop) (i : Nat) (f : Flow) (s₃ : Shared) : Prop :=
  match f with
  | .next | .cont => ∃ m₂ news₂, Fr h₀ L s₃.heap m₂ ∧ News h₀ L s₃.heap ((I, oI) :: news₂) ∧ (∀ p ∈ news₂, p.1 ≠ I) ∧ J (i + 1) s₃.gens s₃.os m₂ news₂
  | .brk => Q .next s₃
  | .ret v => Q (.ret v) s₃
theorem TurnW.next {L I : Addr} {oI : Obj} {J : Nat → Array GenState → OsState → (Str → Option Value) → List (Addr × Obj) → Prop} {Q : Flow → Shared → Prop} {i : Nat} {s₃ : Shared} {m₂ : Str → Option Value} {all : List (Addr × Obj)} (news₂ : List (Addr × Obj)) (F : Fr h₀ L s₃.heap m₂) (N : News h₀ L s₃.heap all)
    (sub : ∀ p ∈ (I, oI) :: news₂, p ∈ all) (off : ∀ p ∈ news₂, p.1 ≠ I) (hJ : J (i + 1) s₃.gens s₃.os m₂ news₂) : TurnW h₀ L I oI J Q i .next s₃ := ⟨m₂, news₂, F, newsOf N sub, off, hJ⟩
theorem loopW {Q : Flow → Shared → Prop} {x : Str} {px : Pos} {body : List Stmt} {I L : Addr} {fp : List Addr} {n : Nat} {P : Nat → Value → Prop} {St : Nat → Heap → Prop} (S : List (Addr × Obj) → Prop) (J : Nat → Array GenState → OsState → (Str → Option Value) → List (Addr × Obj) → Prop)
    (W : Walks PG w A I fp [I] n P St) (hIo : ∀ i h, St i h → ∃ o, h.get? I = some o) (hSt : ∀ i h h' o nw, St i h → h.get? I = some o → h'.get? I = some o → News h₀ L h' nw → S nw → St i h') (hJS : ∀ i g os m₁ nw, J i g os m₁ nw → S nw)
    (hx : env.kindOf x = some .local) (hp : (env.scope.kind == .class || (env.scope.kind == .module && env.locals != env.globals)) = false)
    (hL : L ∉ fp) (hI : h₀.get? I = none) (hst : St 0 s.heap) (F : Fr h₀ L s.heap m) (N : News h₀ L s.heap news) (hoff : ∀ p ∈ news, p.1 ≠ I) (h0 : J 0 s.gens s.os m news)
    (step : ∀ i v oI s₁ m₁ news₁, i < n → P i v → Fr h₀ L s₁.heap (fun y => if y = x then some v else m₁ y) → News h₀ L s₁.heap ((I, oI) :: news₁) → (∀ p ∈ news₁, p.1 ≠ I) → J i s₁.gens s₁.os m₁ news₁ →
      wpAny (model PG w) A (execs body env) (TurnW h₀ L I oI J Q i) E s₁)
    (hQ : ∀ s' m' news', Fr h₀ L s'.heap m' → News h₀ L s'.heap news' → J n s'.gens s'.os m' news' → Q .next s')
    (hloc : env.locals = L) (hE : PassesOwn (model PG w) A env E) :
    codeAny (model PG w) A (.forLoop (.Name x px) (.ref I) body [] env) (fun r s' => match r with | .ok f => Q f s' | .error e => cameBackBy (model PG w) A env E e s') s := by
  have hIL : I ≠ L := fun e => hL (W.sub _ (by rw [e]; simp))
  refine loopS J W hx hp hL hI hst F N hoff h0 (fun i v s₁ m₁ news₁ hi hP hst₁ F₁ N₁ off₁ hJ => ?_) hQ hloc hE
  obtain ⟨oI, eI⟩ := hIo _ _ hst₁
  refine wpAny_mono (step i v oI s₁ m₁ news₁ hi hP F₁ (News.cons' N₁ eI hIL hI) off₁ hJ) (fun f s₃ h₃ => ?_) fun _ _ e => e
  have go : (∃ m₂ news₂, Fr h₀ L s₃.heap m₂ ∧ News h₀ L s₃.heap ((I, oI) :: news₂) ∧ (∀ p ∈ news₂, p.1 ≠ I) ∧ J (i + 1) s₃.gens s₃.os m₂ news₂) →
      ∃ m₂ news₂, Fr h₀ L s₃.heap m₂ ∧ News h₀ L s₃.heap news₂ ∧ (∀ p ∈ news₂, p.1 ≠ I) ∧ St (i + 1) s₃.heap ∧ J (i + 1) s₃.gens s₃.os m₂ news₂ := by
    rintro ⟨m₂, news₂, F₂, N₂, off₂, hJ₂⟩
    exact ⟨m₂, news₂, F₂, newsOf N₂ fun _ h => .tail _ h, off₂, hSt _ _ _ _ news₂ hst₁ eI (N₂.get (.head _)) (newsOf N₂ fun _ h => .tail _ h) (hJS _ _ _ _ _ hJ₂), hJ₂⟩
  cases f with
  | next => exact go h₃
  | cont => exact go h₃
  | brk => exact h₃
  | ret v => exact h₃
theorem rangeSize_ab {a b : Int} (n : Nat) (h : b - a = n ∨ (b ≤ a ∧ n = 0)) : Builtin.Range.rangeSize a b 1 = (n : Int) := by
  unfold Builtin.Range.rangeSize
  by_cases h' : a < b
  · rw [if_pos (by decide), if_pos h', Int.ediv_one]; omega
  · rw [if_pos (by decide), if_neg h']; omega
theorem small_ab {a b : Int} (ha : 0 ≤ a) (ha' : a ≤ 1000) (hb : 0 ≤ b) (hb' : b ≤ 1000) : Builtin.Range.small a b 1 = true := by
  unfold Builtin.Range.small
  rw [rangeSize_ab (b - a).toNat (by omega)]
  simp only [fitsLong (i := a) (by omega) (by omega), fitsLong (i := b) (by omega) (by omega), fitsLong (i := 1) (by omega) (by omega), fitsLong (i := ((b - a).toNat : Int)) (by omega) (by omega), fitsLong (i := b + (1 - 1)) (by omega) (by omega), Bool.true_and, Bool.and_true, if_pos (show (1 : Int) > 0 by decide), Bool.or_true]
/-- a for loop over a range by ones -/
theorem loopRange {Q : Flow → Shared → Prop} {x : Str} {px : Pos} {body : List Stmt} {L r : Addr} {a b : Int} {t u v : Tok} (n : Nat) (J : Nat → Array GenState → OsState → (Str → Option Value) → List (Addr × Obj) → Prop)
    (hr : IsRange s.heap r a b 1 t u v) (hsm : Builtin.Range.small a b 1 = true) (hn : b - a = n ∨ (b ≤ a ∧ n = 0)) (F : Fr h₀ L s.heap m) (N : News h₀ L s.heap news) (h0 : J 0 s.gens s.os m news)
    (step : ∀ i ti I oI s₁ m₁ news₁, i < n → Fr h₀ L s₁.heap (fun y => if y = x then some (.int (a + (i : Int)) ti) else m₁ y) → News h₀ L s₁.heap ((I, oI) :: news₁) → (∀ p ∈ news₁, p.1 ≠ I) → J i s₁.gens s₁.os m₁ news₁ →
      wpAny (model PG w) A (execs body env) (TurnW h₀ L I oI J Q i) E s₁)
    (hQ : ∀ s' m' news', Fr h₀ L s'.heap m' → News h₀ L s'.heap news' → J n s'.gens s'.os m' news' → Q .next s')
    (hh : A.handled = none) (hx : env.kindOf x = some .local) (hp : (env.scope.kind == .class || (env.scope.kind == .module && env.locals != env.globals)) = false)
    (hloc : env.locals = L) (hE : PassesOwn (model PG w) A env E) :
    wpAny (model PG w) A (pyIter (.ref r)) (fun it s₂ => codeAny (model PG w) A (.forLoop (.Name x px) it body [] env) (fun r s' => match r with | .ok f => Q f s' | .error e => cameBackBy (model PG w) A env E e s') s₂) E s := by
  refine wpAny_pyIter_range hr hsm ?_
  have lL := F.ns.lt
  refine loopW (fun _ => True) J (Walks.range hh s.heap.objs.size a 1 n) (fun i h st => ⟨_, st⟩) (fun i h h' o nw st e e' _ _ => ?_) (fun _ _ _ _ _ _ => trivial) hx hp (fun h => Nat.lt_irrefl _ (List.mem_singleton.mp h ▸ lL)) F.fresh ?_ (F.push _) (N.pushKeep _) N.apart h0
    (fun i v oI s₁ m₁ news₁ hi hP F₁ N₁ off hJ => ?_) hQ hloc hE
  · have st' : h.get? s.heap.objs.size = some _ := st
    show h'.get? s.heap.objs.size = some _
    rw [e', ← e]; exact st'
  · show IsRangeIter _ _ _ _ _
    have e1 : a + ((0 : Nat) : Int) * 1 = a := by omega
    have e2 : (n : Int) - ((0 : Nat) : Int) = Builtin.Range.rangeSize a b 1 := by rw [rangeSize_ab n hn]; omega
    rw [e1, e2]
    exact Heap.get?_push_size _ rfl
  · obtain ⟨ti, rfl⟩ := hP
    rw [Int.mul_one] at F₁
    exact step i ti _ oI s₁ m₁ news₁ hi F₁ N₁ off hJ
end
end Mine
end
section
open PySem PySem.W PyProof.Rows PySem.Spec PySem.Calls
set_option maxRecDepth 100000
namespace Mine
theorem start_LC3 : True := by
  w_top off
  k_with_none
  (k_with "own:omega" => (first | with_reducible assumption | (refine' Mine.room2 ?h ?e; (case h => with_reducible assumption); (case e => decide)) | (refine' Mine.room1 ?h ?e; (case h => with_reducible assumption); (case e => decide)) | (refine' Mine.le_up ?h ?e; (case h => with_reducible assumption); (case e => decide)) | (refine' Mine.room0 ?h; (case h => with_reducible assumption)) | ((fail_if_success (fail_if_success omega (config := {}))); lia)))
  trivial
open PyProof.Rows.LCg
section
variable {w : World} {A : Around} {E : Value → Shared → Prop} {s : Shared} {g : Heap} {L l : Addr} {m : Str → Option Value} {env : Env} {news rest : List (Addr × Obj)} {vs : List Value} {ks : List Nat} {c : Nat}
theorem strs_len {ys : List Value} {zs : List Str} (h : StrsAre ys zs) : ys.length = zs.length := by
  induction h with
  | nil => rfl
  | cons _ _ _ ih => simp [ih]
theorem sum_short : ∀ {zs : List Str}, (∀ z ∈ zs, z.length ≤ 10) → (zs.map (·.length)).sum ≤ 10 * zs.length
  | [], _ => by simp
  | z :: zs, hz => by
    have h1 := hz z (.head _)
    have h2 := sum_short fun z hz' => hz z (.tail _ hz')
    simp only [List.map_cons, List.sum_cons, List.length_cons]
    omega
theorem pc_len (k : Nat) : (pcF k).length ≤ 1 ∧ (pcS k).length ≤ 1 := by
  unfold pcF pcS Str.length
  by_cases hb : k = BL <;> by_cases h0 : k = 0 <;> simp [hb, h0]
theorem ListComp_cat {iter : PySem.Expr} {x x₂ : Str} {px px₂ tp p1 p2 p3 : Pos} {kt : Nat} {scope : Scope} {cl : List (Str × Addr)} {pos : Pos} {Q : Value → Shared → Prop} (F : Fr g L s.heap m) (N : News g L s.heap news) (hm : (l, listOf vs.toArray c) ∈ news) (hA : Are rest vs ks) (hr : ∀ p ∈ rest, p ∈ news) (hl : vs.length ≤ 1000) (hh : A.handled = none)
    (hiter : ∀ (Q' : Value → Shared → Prop), Q' (.ref l) s → wpAny (model PG w) A (eval iter env) Q' E s)
    (h : ∀ D ys h' tk, StrsAre ys (ks.map fun k => pcF k ++ pcS k) → Fr g L h' m → News g L h' ((D, listOf ys.toArray ys.length) :: news) → (∀ p ∈ news, p.1 ≠ D) → Q (.ref D) { s with heap := h', toks := tk })
    (hclos : closureFor scope env = pure cl) (hcell : ∀ z ∈ scope.names, z.2 ≠ .cell) (hkind : scope.kind = .function)
    (hnames : ∀ z ∈ scope.names, z.2 = .local → scope.names.lookup z.1 = some .local) (hx : scope.names.lookup x = some .local) (hx₂ : scope.names.lookup x₂ = some .local) (hxx : x ≠ x₂)
    (hd : (x == ("__debug__" : Str)) = false) (hd₂ : (x₂ == ("__debug__" : Str)) = false) (hs : ∀ x, foldedSetIterable iter env x = pure x) :
    wpAny (model PG w) A (eval (.ListComp (.BinOp (.Name x p1) .Add (.Name x₂ p2) p3) [⟨.Tuple [.Name x px, .Name x₂ px₂] kt tp, iter, [], 0⟩] scope pos) env) Q E s := by
  have hlen := hA.length
  refine LCp.ListComp_P F hclos hcell hkind hnames hx hx₂ hxx (hiter _ (LCp.SrcLP.ledger hh F N hm (by rw [List.size_toArray, sizeLine_eq]; omega) fun g' => ?_)) hs
  have es : vs.toArray.size = vs.length := List.size_toArray ..
  rw [es]
  refine restP_ind (n := vs.length) (fun i ys nw => StrsAre ys ((ks.take i).map fun k => pcF k ++ pcS k) ∧ nw = news) ?_ ?_ vs.length 0 [] news (by omega) ⟨by simpa using StrsAre.nil, rfl⟩
  · rintro ys nw ⟨hS, rfl⟩
    rw [List.take_of_length_le (by omega)] at hS
    exact fun D h' tk F' N' off => h D ys h' tk hS F' N' (Off1.ne off)
  · rintro i ys nw v hi ⟨hS, rfl⟩ hP
    obtain ⟨a, ea, hx0, t, u, ma⟩ := hA.at (i := i) (by omega)
    have ev : v = .ref a := by
      have : vs.toArray[i]? = some v := hP
      rw [List.getElem?_toArray, ea] at this
      exact (Option.some.inj this).symm
    refine ⟨a, _, .str (pcF (ks.getD i 0)) t, .str (pcS (ks.getD i 0)) u, 0, ev, hr _ ma, rfl, rfl, ?_⟩
    intro I oI C oC D m₂ h tk E' hC hm1 hm2 F' N' off ne
    have hlC := pc_len (ks.getD i 0)
    refine wpAny_BinOp (wpAny_Name (wpAny_loadName_local hkind (lookup_relabel_local hx) (hC.ns (N'.get (.tail _ (.head _)))) hm1 ?_) hd)
    refine wpAny_Name (wpAny_loadName_local hkind (lookup_relabel_local hx₂) (hC.ns (N'.get (.tail _ (.head _)))) hm2 ?_) hd₂
    refine PyProof.Rows.add_str (fun t' tk' => ?_) (by rw [sizeLine_eq]; omega)
    refine CompEnd.intro F' N' nw (fun p hp => hp) off (.inr ⟨_, hm, rfl, _, rfl⟩) ⟨?_, rfl⟩
    have e : ks.take (i + 1) = ks.take i ++ [ks.getD i 0] := by
      rw [List.take_add_one, List.getD_eq_getElem?_getD, List.getElem?_eq_getElem (by omega)]; rfl
    rw [e, List.map_append]
    exact StrsAre.snoc hS
theorem join_K {D : Addr} {ys : List Value} {zs : List Str} {x : Str} {t : Tok} {Q : Value → Shared → Prop} (N : News g L s.heap news) (hm : (D, listOf ys.toArray c) ∈ news) (hS : StrsAre ys zs) (hz : ∀ z ∈ zs, z.length ≤ 10) (hl : ys.length ≤ 1000) (hx : x.length ≤ 16)
    (h : ∀ t' k, Q (.str (Txt.join x zs) t') { s with toks := k }) : wpAny (model PG w) A (call (.builtin "str.join") [.str x t, .ref D]) Q E s := by
  have hlen := strs_len hS
  have hsum := sum_short hz
  exact join_listW (items := ys.toArray) ⟨_, N.get hm, rfl, _, rfl⟩ (by simpa using hS) hx (by omega) h
theorem cat_short (ks : List Nat) : ∀ z ∈ ks.map fun k => pcF k ++ pcS k, z.length ≤ 10 := by
  intro z hz
  obtain ⟨k, _, rfl⟩ := List.mem_map.mp hz
  have := pc_len k
  have e : (pcF k ++ pcS k).length = (pcF k).length + (pcS k).length := by
    show (Array.size ((pcF k).cps ++ (pcS k).cps)) = _
    rw [Array.size_append]; rfl
  rw [e]; omega
end
end Mine
end
section
open PySem PySem.W PyProof.Rows PySem.Spec PySem.Calls
set_option maxRecDepth 100000
namespace Mine
theorem start_D4 : True := by
  w_top off
  k_with_none
  (k_with "own:omega" => (first | with_reducible assumption | (refine' Mine.room2 ?h ?e; (case h => with_reducible assumption); (case e => decide)) | (refine' Mine.room1 ?h ?e; (case h => with_reducible assumption); (case e => decide)) | (refine' Mine.le_up ?h ?e; (case h => with_reducible assumption); (case e => decide)) | (refine' Mine.room0 ?h; (case h => with_reducible assumption)) | ((fail_if_success (fail_if_success omega (config := {}))); lia)))
  trivial
open PyProof.Rows.LCg
theorem lines_D4_0 : True := by
  (k_with "own:k_mem" => with_reducible_and_instances assumption)
  (k_with "own:steps" => repeat' (first | (k_unfold; (try dsimp only)) | ((fail_if_success (with_reducible show wpAny _ _ (exec (Stmt.For _ _ _ _ _) _) _ _ _)); (first | walk1 | (dsimp only; walk1) | fail "no step"))))
  (k_with "own:mem" => first | with_reducible assumption | exact List.mem_cons_self | (refine List.mem_cons_of_mem _ ?_; k_extra "own:mem"))
  (k_with "own:sub" => first | exact fun _ h => h | exact fun _ h => .tail _ h | exact fun _ h => .tail _ (.tail _ h) | exact fun _ h => .tail _ (.tail _ (.tail _ h)) | exact fun _ h => .tail _ (.tail _ (.tail _ (.tail _ h))) | exact fun _ h => .tail _ (.tail _ (.tail _ (.tail _ (.tail _ h)))) | exact fun _ h => .tail _ (.tail _ (.tail _ (.tail _ (.tail _ (.tail _ h))))))
  (k_with "own:idx" => first | omega | (rw [Int.fdiv_eq_ediv_of_nonneg _ (by decide)]; omega))
  (k_with "exec Assign cons ListComp" => (k_here; k_dflt (refine' Assign_acc_id ?k1 ?k2 ?k3 ?k4 ?k5 ?k6 ?k7 ?_ ?c1 ?c2 ?c3 ?c4 ?c5 ?c6 ?c7 ?c8 ?c9 ?ca ?cb; (case c1 => rfl); (case k1 => k_asm); (case k7 => (intro Q' hQ'; refine' ld ?kf ?kr hQ'; (case kf => k_asm); (case kr => rfl))); (case k2 => k_asm); (case k3 => k_asm); (case k4 => k_extra "own:mem"); (case k5 => omega); (case k6 => rfl); (case c2 => with_unfolding_all rfl); (case c3 => with_unfolding_all rfl); (case c4 => decide); (case c5 => rfl); (case c6 => decide); (case c7 => rfl); (case c8 => rfl); (case c9 => rfl); (case ca => decide); (case cb => exact fun _ => rfl); k_whole); intro pD h' tk' F' N' pDne; (try dsimp only); (try k_sweep)))
  (k_with "call builtin:sorted" => (k_here; (with_reducible show wpAny _ _ (call (Value.builtin _) [Value.ref _]) _ _ _); k_dflt (refine' sorted_pc ?k1 ?k2 ?k3 ?k4 ?k5 ?k6 ?_; (case k1 => k_asm); (case k2 => k_asm); (case k3 => k_extra "own:mem"); (case k5 => k_asm); (case k4 => k_extra "own:sub"); (case k6 => omega); k_whole); intro qD qV qK qC h' qA qP qS F' N' qne; (try dsimp only); (try k_sweep)))
  (k_with "compareOp NotEq ref ref" => (k_here; (with_reducible show wpAny _ _ (compareOp CmpOp.NotEq (Value.ref _) (Value.ref _)) _ _ _); k_dflt (refine' ne_pcs ?N ?r1 ?r2 ?m1 ?m2 ?a1 ?a2 ?e ?u ?_; (case N => k_asm); (case m1 => k_extra "own:mem"); (case m2 => k_extra "own:mem"); (case a1 => k_asm); (case a2 => k_asm); (case r1 => k_extra "own:sub"); (case r2 => k_extra "own:sub"); (case e => k_extra "own:eq"); (case u => ktr_units); k_whole)))
  (k_with "call builtin:len" => (k_here; (with_reducible show wpAny _ _ (call (Value.builtin "len") [Value.ref _]) _ _ _); (k_dflt (refine' len_R ?k1 ?k2 ?k3 ?k4 ?k5 ?k6 ?k7 ?k8 ?k9 ?ka ?kb ?kc ?kd ?ke ?kf ?kg ?kh ?ki ?kj ?_; (case k1 => k_asm); (case k2 => k_asm); (case k3 => k_asm); (case k4 => k_asm); (case k5 => k_asm); (case k6 => first | exact rfl | assumption); (case k7 => ktr_room); (case k8 => ktr_units); (case k9 => assumption); (case ka => k_extra "own:mem"); (case kb => k_extra "own:mem"); (case kc => k_extra "own:mem"); (case kd => assumption); (case kf => with_reducible assumption); (case ke => k_extra "own:sub"); (case kg => assumption); (case kh => omega); (case ki => omega); (case kj => omega); k_whole)); intro _ _ _ _ _ _))
  (k_with "call builtin:len" => (k_here; (with_reducible show wpAny _ _ (call (Value.builtin "len") [Value.ref _]) _ _ _); (k_dflt (refine' listK_len ?k3 ?k4 ?k5 ?_; (case k3 => k_asm); (case k4 => k_extra "own:mem"); (case k5 => omega); k_whole)); intro _ _))
  (k_with "getMethod ref" => (k_here; k_dflt (refine' accK_method ?k1 ?k2 ?k3 ?k4 ?k5 ?k6 ?k7 ?k8 ?k9 ?_; (case k1 => k_asm); (case k2 => k_asm); (case k3 => k_asm); (case k4 => k_extra "own:mem"); (case k5 => k_extra "own:mem"); (case k6 => k_is); (case k7 => k_is); (case k8 => first | exact .inl rfl | exact .inr rfl); (case k9 => decide); k_whole)))
  (k_with "call ref" => (k_here; (k_dflt (show wpAny _ _ (call (Value.ref 147) [Value.ref _]) _ _ _)); k_dflt (refine' count_call ?k1 ?k2 ?k3 ?k4 ?k5 ?k6 ?k7 ?k8 ?k9 ?k10 ?_; (case k1 => k_asm); (case k2 => k_asm); (case k3 => k_asm); (case k4 => k_asm); (case k5 => k_asm); (case k6 => first | exact rfl | assumption); (case k7 => ktr_room); (case k8 => ktr_units); (case k9 => k_extra "own:mem"); (case k10 => k_extra "own:mem"); k_whole); intro _ _ _ _ _; (try dsimp only); (try k_sweep)))
  (k_with "subscriptTail" => (k_here; (with_reducible show wpAny _ _ (subscriptTail _ _ (Value.ref _) (Value.int _ _)) _ _ _); (k_dflt (refine' listK_sub ?k3 ?k4 ?k5 ?k6 ?k7 ?k8 ?_ ?k9; (case k3 => k_asm); (case k4 => k_extra "own:mem"); (case k5 => k_asm); (case k6 => k_extra "own:idx"); (case k7 => k_extra "own:idx"); (case k8 => omega); (case k9 => with_unfolding_all rfl); k_whole)); intro _ _ _))
  (k_with "compareOp Lt ref" => (k_here; (k_dflt (refine' pcK_lt ?k1 ?k2 ?k3 ?k4 ?k5 ?_; (case k2 => k_asm); (case k4 => k_asm); (case k5 => k_asm); (case k3 => k_extra "own:sub"); (case k1 => ktr_units); k_whole))))
  (k_with "call type:str" => (k_here; (with_reducible show wpAny _ _ (call (Value.type "str") [Value.ref _]) _ _ _); (k_dflt (refine' str_R ?k1 ?k2 ?k3 ?k4 ?k5 ?k6 ?k7 ?k8 ?k9 ?ka ?kb ?kc ?kd ?ke ?kf ?kg ?_; (case k1 => k_asm); (case k2 => k_asm); (case k3 => k_asm); (case k4 => k_asm); (case k5 => k_asm); (case k6 => first | exact rfl | assumption); (case k7 => ktr_room); (case k8 => ktr_units); (case k9 => assumption); (case ka => k_extra "own:mem"); (case kb => k_extra "own:mem"); (case kc => k_extra "own:mem"); (case kd => assumption); (case kf => with_reducible assumption); (case ke => k_extra "own:sub"); (case kg => omega); k_whole)); intro _ _ _ _ _ _))
  (k_with "eval ListComp" => (k_here; k_dflt (refine' ListComp_cat ?k1 ?k2 ?k3 ?k4 ?k5 ?k6 ?k7 ?k8 ?_ ?c1 ?c2 ?c3 ?c4 ?c5 ?c6 ?c7 ?c8 ?c9 ?ca; (case k1 => k_asm); (case k8 => (intro Q' hQ'; refine' ld ?kf ?kr hQ'; (case kf => k_asm); (case kr => rfl))); (case k2 => k_asm); (case k3 => k_extra "own:mem"); (case k4 => k_asm); (case k5 => k_extra "own:sub"); (case k6 => omega); (case k7 => rfl); (case c1 => with_unfolding_all rfl); (case c2 => decide); (case c3 => rfl); (case c4 => decide); (case c5 => rfl); (case c6 => rfl); (case c7 => decide); (case c8 => decide); (case c9 => decide); (case ca => exact fun _ => rfl); k_whole); intro jD jY h' tk' jS F' N' jne; (try dsimp only); (try k_sweep)))
  (k_with "call builtin:str.join" => (k_here; (with_reducible show wpAny _ _ (call (Value.builtin "str.join") [Value.str _ _, Value.ref _]) _ _ _); k_dflt (refine' join_K ?k1 ?k2 ?k3 ?k4 ?k5 ?k6 ?_; (case k1 => k_asm); (case k2 => k_extra "own:mem"); (case k3 => k_asm); (case k4 => k_extra "own:short"); (case k5 => k_extra "own:jlen"); (case k6 => decide); k_whole); intro _ _))
  (k_with "own:eq" => exact sorted_eq (by with_reducible assumption) (by with_reducible assumption) (by with_reducible assumption) (by with_reducible assumption))
  (k_with "own:short" => exact cat_short _)
  (k_with "own:jlen" => (have hj9 := strs_len (by with_reducible assumption); simp only [List.length_map] at hj9; omega))
  trivial
/-- no piece is less than its parent -/
noncomputable def IsHeap (ks : List Nat) : Prop := ∀ k, 1 ≤ k → k < ks.length → ks.getD ((k - 1) / 2) 0 ≤ ks.getD k 0
set_option maxHeartbeats 2000000 in
theorem holds_call {w : World} {p : Program} {loose : List Str} {mean : ExcName → Option Value} {mg mb : Str → Option Value} {dp un : Nat} {gd : Option (List Code)} {cn : Str} {cs : Scope} {a : Addr} {ccd : Value} {cl : List (Str × Addr)} {outer : List Env} {A₀ : Around} {base h₀ : Heap} {L : Addr} {m : Str → Option Value} {rest : List (Addr × Obj)} {s : Shared}
    {Q E : Value → Shared → Prop} {row d l : Addr} {vs ws : List Value} {ks js : List Nat} {n c : Nat} {ps : Array Value}
    (B : Below A₀ base outer h₀) (F : Fr h₀ L s.heap m) (X : (KW w.params).In h₀) (N : News h₀ L s.heap ((row, accObj d vs.toArray n) :: rest)) (T : Top p loose mean mg mb h₀) (hk : cs.kind = .function)
    (hd : dp + 12 < recursionLimit) (hu : un + 200 < cLine) (G : AllBare s.gens) (R : Rest rest row d 0) (hA : Are rest vs ks) (hpos : ∀ x ∈ ks, 0 < x) (hlen : ks.length ≤ 60) (hl : (l, listOf ws.toArray c) ∈ rest) (hK : Are rest ws js) (hp : js.Perm ks) (hs : js.Pairwise (· ≤ ·)) (hh : IsHeap ks)
    (htab : (119, tabObj ps) ∈ rest) (hf : Found posS ps)
    (ret : ∀ s', Fr h₀ L s'.heap m → News h₀ L s'.heap ((row, accObj d vs.toArray n) :: rest) → AllBare s'.gens → s'.os = s.os → Q (.bool true) s') :
    wpAny (model PG w) (ktrTop dp un gd cn cs L a ccd cl outer) (call (.ref 227) [.ref row, .ref l]) Q E s := by
  obtain ⟨hs', t₁, t₂, nd, hdi⟩ := R.sz
  obtain ⟨psL, htabL, hfL⟩ := R.tab
  have hlk := hA.length
  have hlj := hK.length
  have hpl := hp.length_eq
  refine wpAny_call ?_
  k_dflt ktr_enter
  k_extra "own:steps"
  · exfalso; omega
  · exfalso; omega
  refine wpAny_For ?_
  k_extra "own:steps"
  rename IsRange _ _ _ _ _ _ _ _ => hr
  rename Fr _ _ _ _ => lF
  rename News _ _ _ _ => lN
  rename AllBare _ => lG
  rename (_ = (_ : OsState)) => hos
  dsimp only at hos lG
  refine loopRange (vs.length - 1) (fun i g os m₁ news₁ => news₁ = (qD, listOf qV.toArray qC) :: (pD, listOf vs.toArray vs.length) :: (row, accObj d vs.toArray n) :: rest ∧ AllBare g ∧ os = s.os ∧ m₁ (Str.ofString "pieces") = some (.ref pD) ∧ m₁ (Str.ofString "row") = some (.ref row)) hr ?small (by omega) lF lN ⟨rfl, lG, hos, rfl, rfl⟩ ?step ?fin rfl rfl rfl rfl (by passes_own)
  case small => exact small_ab (by omega) (by omega) (by omega) (by omega)
  case step =>
    rintro i ti I oI s₁ m₁ news₁ hi F₁ N₁ off ⟨rfl, hG, ho, hm1, hm2⟩
    replace F₁ := at2 (x1 := Str.ofString "k") (x2 := Str.ofString "pieces") F₁ (by rw [if_pos rfl]) (by rw [if_neg (by decide)]; exact hm1)
    clear lF lN
    k_extra "own:steps"
    · rename ks.getD _ 0 < ks.getD _ 0 => hlt
      exfalso
      rw [show (1 + (i : Int)).toNat = i + 1 by omega, Int.fdiv_eq_ediv_of_nonneg _ (by decide), show ((1 + (i : Int) - 1) / 2).toNat = (i + 1 - 1) / 2 by omega] at hlt
      have := hh (i + 1) (by omega) (by omega)
      omega
    · exact TurnW.next _ (by k_asm) (by k_asm) (fun _ h => h) off ⟨rfl, hG, ho, by first | rfl | exact hm1, by first | rfl | (rw [if_neg (by decide), if_neg (by decide)]; first | exact hm2 | rfl)⟩
  case fin =>
    rintro s₁ m₁ news₁ F₁ N₁ ⟨rfl, hG, ho, hm1, hm2⟩
    replace F₁ := at2 F₁ hm1 hm2
    clear lF lN
    dsimp only
    k_extra "own:steps"
    rw [beq_self_eq_true]
    rename AllBare (Shared.gens _) => lG'
    rename (Shared.os _ = Shared.os s₁) => hos'
    exact ret _ (by k_asm) (newsOf (by k_asm) fun _ h => .tail _ (.tail _ (.tail _ h))) (by k_asm) (hos'.trans ho)
end Mine
end
section
open PySem PySem.W PyProof.Rows PySem.Spec PySem.Calls
set_option maxRecDepth 100000
namespace Mine
theorem start_M2 : True := by
  w_top off
  k_with_none
  (k_with "own:omega" => (first | with_reducible assumption | (refine' Mine.room2 ?h ?e; (case h => with_reducible assumption); (case e => decide)) | (refine' Mine.room1 ?h ?e; (case h => with_reducible assumption); (case e => decide)) | (refine' Mine.le_up ?h ?e; (case h => with_reducible assumption); (case e => decide)) | (refine' Mine.room0 ?h; (case h => with_reducible assumption)) | ((fail_if_success (fail_if_success omega (config := {}))); lia)))
  trivial
section
variable {w : World} {A : Around} {E : Value → Shared → Prop} {s : Shared} {g : Heap} {L l l' : Addr} {m : Str → Option Value} {news : List (Addr × Obj)} {vs ws : List Value} {c c' : Nat}
theorem listK_add {Q : Value → Shared → Prop} (F : Fr g L s.heap m) (N : News g L s.heap news) (hm : (l, listOf vs.toArray c) ∈ news) (hm' : (l', listOf ws.toArray c') ∈ news) (hl : vs.length + ws.length ≤ 1000)
    (h : ∀ D h', Fr g L h' m → News g L h' ((D, listOf (vs ++ ws).toArray 0) :: news) → (∀ p ∈ news, p.1 ≠ D) → Q (.ref D) { s with heap := h' }) : wpAny (model PG w) A (binaryOp .Add (.ref l) (.ref l')) Q E s :=
  add_lists F N ⟨_, N.get hm, rfl, _, rfl⟩ ⟨_, N.get hm', rfl, _, rfl⟩ (fun h' F' N' => h _ h' F' N' N.apart) (by rw [sizeLine_eq]; omega)
theorem listK_truth {Q : Bool → Shared → Prop} (N : News g L s.heap news) (hm : (l, listOf vs.toArray c) ∈ news) (hl : vs.length ≤ 1000) (h : ∀ tk, Q (decide (0 < vs.length)) { s with toks := tk }) : wpAny (model PG w) A (truthy (.ref l)) Q E s := by
  refine wpAny_truthy_list (items := vs.toArray) ⟨_, N.get hm, rfl, _, rfl⟩ (by simp; omega) ?_
  have e : (!vs.toArray.isEmpty) = decide (0 < vs.length) := by
    cases vs <;> simp
  rw [e]
  exact h _
end
theorem Are.cut {rest : List (Addr × Obj)} {vs : List Value} {ks : List Nat} (h : Are rest vs ks) (lo hi : Option Int) : Are rest (Mine.cut lo hi vs) (Mine.cut lo hi ks) := by
  unfold Mine.cut
  rw [h.length]
  exact (h.drop _).take _
theorem Are.one {rest : List (Addr × Obj)} {ia : Addr} {x : Nat} (h : PcAt rest ia x) : Are rest [.ref ia] [x] := ⟨⟨ia, rfl, h⟩, trivial⟩
section
variable {w : World} {A : Around} {E : Value → Shared → Prop} {s : Shared} {g : Heap} {L l l' : Addr} {m : Str → Option Value} {news rest : List (Addr × Obj)} {vs ws : List Value} {ks js : List Nat} {c c' : Nat}
theorem addA {Q : Value → Shared → Prop} (F : Fr g L s.heap m) (N : News g L s.heap news) (hm : (l, listOf vs.toArray c) ∈ news) (hm' : (l', listOf ws.toArray c') ∈ news) (hA : Are rest vs ks) (hB : Are rest ws js) (hl : ks.length + js.length ≤ 1000)
    (h : ∀ D vs' h', Are rest vs' (ks ++ js) → vs'.length = ks.length + js.length → Fr g L h' m → News g L h' ((D, listOf vs'.toArray 0) :: news) → (∀ p ∈ news, p.1 ≠ D) → Q (.ref D) { s with heap := h' }) : wpAny (model PG w) A (binaryOp .Add (.ref l) (.ref l')) Q E s :=
  listK_add F N hm hm' (by rw [hA.length, hB.length]; exact hl) fun D h' F' N' ne => h D _ h' (hA.append hB) (by rw [List.length_append, hA.length, hB.length]) F' N' ne
theorem sliceA {value slice : PySem.Expr} {vl vu : Value} {lo hi : Option Int} {Q : Value → Shared → Prop} (F : Fr g L s.heap m) (N : News g L s.heap news) (hm : (l, listOf vs.toArray c) ∈ news) (hA : Are rest vs ks) (hl : ks.length ≤ 1000) (pl : IsPart vl lo) (pu : IsPart vu hi)
    (h : ∀ q vs' h', Are rest vs' (cut lo hi ks) → vs'.length = (cut lo hi ks).length → Fr g L h' m → News g L h' ((q, listOf vs'.toArray 0) :: news) → (∀ p ∈ news, p.1 ≠ q) → Q (.ref q) { s with heap := h' })
    (hs : subscripted slice false (.ref l) (.ref s.heap.objs.size) = operate [.ref s.heap.objs.size, .ref l] (getItem (.ref l) (.ref s.heap.objs.size)) := by with_unfolding_all rfl) :
    wpAny (model PG w) A (subscriptTail value slice (.ref l) (.ref s.heap.objs.size)) Q E { s with heap := s.heap.push { cls := .type "slice", data := .fields #[vl, vu, .none] } } :=
  listK_slice F N hm (by rw [hA.length]; exact hl) pl pu (fun q h' F' N' ne => h q _ h' (hA.cut lo hi) (hA.cut lo hi).length F' N' ne) hs
end
/-- the pair that the told functions give -/
abbrev pairObj (v v' : Value) : Obj := { cls := .type "tuple", data := .seq #[v, v'] }
/-- what a deed is told to give -/
noncomputable def tAns (z : Int) (js : List Nat) (x : Nat) : Ans :=
  if z = 0 then .non else if z = 1 then .pc (js.getD 0 0) else if z = 2 ∧ js = [] then .refused else if z = 3 ∧ (js = [] ∨ x ≤ js.getD 0 0) then .pc x else .pc (js.getD 0 0)
/-- the pieces that stay -/
noncomputable def tBag (z : Int) (js : List Nat) (x : Nat) : List Nat :=
  if z = 0 then js ++ [x] else if z = 1 then js.drop 1 else if z = 2 ∧ js = [] then [] else if z = 3 ∧ (js = [] ∨ x ≤ js.getD 0 0) then js else js.drop 1 ++ [x]
end Mine
end
section
open PySem PySem.W PyProof.Rows PySem.Spec PySem.Calls
set_option maxRecDepth 100000
namespace Mine
theorem start_D5 : True := by
  w_top off
  k_with_none
  (k_with "own:omega" => (first | with_reducible assumption | (refine' Mine.room2 ?h ?e; (case h => with_reducible assumption); (case e => decide)) | (refine' Mine.room1 ?h ?e; (case h => with_reducible assumption); (case e => decide)) | (refine' Mine.le_up ?h ?e; (case h => with_reducible assumption); (case e => decide)) | (refine' Mine.room0 ?h; (case h => with_reducible assumption)) | ((fail_if_success (fail_if_success omega (config := {}))); lia)))
  trivial
theorem cut1 (vs : List α) : cut (some 1) none vs = vs.drop 1 := by
  unfold cut
  have e : clipAt vs.length 1 = min 1 vs.length := clipAt_nat vs.length 1
  simp only [Option.elim, e]
  rw [List.take_of_length_le (by simp)]
  rcases vs with _ | ⟨v, r⟩
  · simp
  · rw [show min 1 (v :: r).length = 1 by simp only [List.length_cons]; omega]
theorem cut_len1 (vs : List α) : (cut (some 1) none vs).length = vs.length - 1 := by rw [cut1, List.length_drop]
theorem mr {tl news : List (Addr × Obj)} : ∀ p ∈ news, p ∈ tl ++ news := fun _ h => List.mem_append_right _ h
theorem nilAre (rest : List (Addr × Obj)) : Are rest [] [] := trivial
theorem lines_D5_0 : True := by
  (k_with "own:k_mem" => with_reducible_and_instances assumption)
  (k_with "own:mem" => first | with_reducible assumption | exact List.mem_cons_self | (refine List.mem_cons_of_mem _ ?_; k_extra "own:mem"))
  (k_with "own:sub" => first | exact fun _ h => h | exact fun _ h => .tail _ h | exact fun _ h => .tail _ (.tail _ h) | exact fun _ h => .tail _ (.tail _ (.tail _ h)) | exact fun _ h => .tail _ (.tail _ (.tail _ (.tail _ h))) | exact fun _ h => .tail _ (.tail _ (.tail _ (.tail _ (.tail _ h)))) | exact fun _ h => .tail _ (.tail _ (.tail _ (.tail _ (.tail _ (.tail _ h))))))
  (k_with "own:idx" => first | omega | (rw [Int.fdiv_eq_ediv_of_nonneg _ (by decide)]; omega))
  (k_with "own:len" => first | omega | (simp only [List.length_append, List.length_cons, List.length_nil] at *; omega))
  (k_with "own:len" => first | omega | (simp only [List.length_append, List.length_cons, List.length_nil, cut_len1] at *; omega))
  (k_with "own:types" => first | exact List.forall_mem_nil _ | (refine List.forall_mem_cons.mpr ⟨⟨_, rfl⟩, ?_⟩; k_extra "own:types"))
  (k_with "call builtin:sorted" => (k_here; (with_reducible show wpAny _ _ (call (Value.builtin _) [Value.ref _]) _ _ _); k_dflt (refine' sorted_pc ?k1 ?k2 ?k3 ?k4 ?k5 ?k6 ?_; (case k1 => k_asm); (case k2 => k_asm); (case k3 => k_extra "own:mem"); (case k5 => k_asm); (case k4 => k_extra "own:sub"); (case k6 => k_extra "own:len"); k_whole); intro qD qV qK qC h' qA qP qS F' N' qne; (try dsimp only); (try k_sweep)))
  (k_with "call builtin:len" => (k_here; (with_reducible show wpAny _ _ (call (Value.builtin "len") [Value.ref _]) _ _ _); (k_dflt (refine' listK_len ?k3 ?k4 ?k5 ?_; (case k3 => k_asm); (case k4 => k_extra "own:mem"); (case k5 => omega); k_whole)); intro _ _))
  (k_with "subscriptTail" => (k_here; (with_reducible show wpAny _ _ (subscriptTail _ _ (Value.ref _) (Value.int _ _)) _ _ _); (k_dflt (refine' listK_sub ?k3 ?k4 ?k5 ?k6 ?k7 ?k8 ?_ ?k9; (case k3 => k_asm); (case k4 => k_extra "own:mem"); (case k5 => k_asm); (case k6 => k_extra "own:idx"); (case k7 => k_extra "own:idx"); (case k8 => omega); (case k9 => with_unfolding_all rfl); k_whole)); intro _ _ _))
  (k_with "subscriptTail" => (k_here; (with_reducible show wpAny _ _ (subscriptTail _ _ (Value.ref _) (Value.ref _)) _ _ _); (k_dflt (refine' sliceA ?k1 ?k3 ?k4 ?ka ?k5 ?k6 ?k7 ?_ ?k8; (case k1 => k_asm); (case k3 => k_asm); (case k4 => k_extra "own:mem"); (case ka => k_asm); (case k5 => k_extra "own:len"); (case k6 => first | exact .int _ _ | exact .none); (case k7 => first | exact .int _ _ | exact .none); (case k8 => with_unfolding_all rfl); k_whole)); intro slD slV h' slA slL F' N' slne; (try k_sweep)))
  (k_with "binaryOp Add ref ref" => (k_here; (with_reducible show wpAny _ _ (binaryOp Operator.Add (Value.ref _) (Value.ref _)) _ _ _); k_dflt (refine' addA ?k1 ?k2 ?k3 ?k4 ?k5 ?k6 ?k7 ?_; (case k1 => k_asm); (case k2 => k_asm); (case k3 => k_extra "own:mem"); (case k4 => k_extra "own:mem"); (case k5 => first | with_reducible assumption | exact Are.one (by with_reducible assumption)); (case k6 => first | with_reducible assumption | exact Are.one (by with_reducible assumption)); (case k7 => k_extra "own:len"); k_whole); intro adD adV h' adA adL F' N' adne; (try dsimp only); (try k_sweep)))
  (k_with "truthy ref" => (k_here; (k_dflt (refine' listK_truth ?k1 ?k2 ?k3 ?_; (case k1 => k_asm); (case k2 => k_extra "own:mem"); (case k3 => k_extra "own:len"); k_whole)); intro _))
  (k_with "compareOp LtE ref" => (k_here; (k_dflt (refine' pcK_le ?k1 ?k2 ?k3 ?k4 ?k5 ?_; (case k2 => k_asm); (case k4 => k_asm); (case k5 => k_asm); (case k3 => k_extra "own:sub"); (case k1 => ktr_units); k_whole))))
  trivial
set_option maxHeartbeats 2000000 in
theorem told_call {w : World} {p : Program} {loose : List Str} {mean : ExcName → Option Value} {mg mb : Str → Option Value} {dp un : Nat} {gd : Option (List Code)} {cn : Str} {cs : Scope} {a : Addr} {ccd : Value} {cl : List (Str × Addr)} {outer : List Env} {A₀ : Around} {base h₀ : Heap} {L : Addr} {m : Str → Option Value} {news : List (Addr × Obj)} {s : Shared}
    {Q E : Value → Shared → Prop} {l ia : Addr} {vs : List Value} {js : List Nat} {c x : Nat} {z : Int} {t : Tok}
    (B : Below A₀ base outer h₀) (F : Fr h₀ L s.heap m) (X : (KW w.params).In h₀) (N : News h₀ L s.heap news) (T : Top p loose mean mg mb h₀) (hk : cs.kind = .function)
    (hd : dp + 12 < recursionLimit) (hu : un + 200 < cLine) (hlen : js.length ≤ 60) (hl : (l, listOf vs.toArray c) ∈ news) (hK : Are news vs js) (hi : PcAt news ia x) (hs : js.Pairwise (· ≤ ·)) (hz0 : 0 ≤ z) (hz3 : z ≤ 3)
    (ret : ∀ q v l' vs' js' c' tl h' tk', Fr h₀ L h' m → News h₀ L h' (tl ++ news) → (∀ p ∈ tl, ∃ T, p.2.cls = .type T) → (q, pairObj v (.ref l')) ∈ tl → (l', listOf vs'.toArray c') ∈ tl ++ news → AnsAt (tl ++ news) v (tAns z js x) → Are (tl ++ news) vs' js' → js'.Perm (tBag z js x) → js'.Pairwise (· ≤ ·) → Q (.ref q) { s with heap := h', toks := tk' }) :
    wpAny (model PG w) (ktrTop dp un gd cn cs L a ccd cl outer) (call (.ref 241) [.int z t, .ref l, .ref ia]) Q E s := by
  have hlk := hK.length
  refine wpAny_call ?_
  k_dflt ktr_enter
  k_steps
  all_goals (try (exfalso; omega))
  · rename z = 0 => hz
    refine ret _ _ _ _ _ _ [(_, _), (_, _), (_, _), (_, _)] _ _ (by k_asm) (by k_asm) (by k_extra "own:types") (.head _) (.tail _ (.head _)) ?_ (qA.mono mr) ?_ qS
    · rw [tAns, if_pos hz]; exact rfl
    · rw [tBag, if_pos hz]; exact qP
  · rename z = 1 => hz
    rename 0 < vs.length => hv
    rename PcAt news _ _ => hp
    refine ret _ _ _ _ _ _ [(_, _), (_, _)] _ _ (by k_asm) (by k_asm) (by k_extra "own:types") (.head _) (.tail _ (.head _)) ?_ (slA.mono mr) ?_ ?_
    · rw [tAns, if_neg (by omega), if_pos hz]; exact ⟨_, rfl, hp.mono mr⟩
    · rw [tBag, if_neg (by omega), if_pos hz, cut1]
    · rw [cut1]; exact hs.sublist (List.drop_sublist _ _)
  · rename z = 1 => hz
    rename ¬ 0 < vs.length => hv
    have hj : js = [] := List.eq_nil_of_length_eq_zero (by omega)
    refine ret _ _ _ [] [] _ [(_, _), (_, _), (_, _)] _ _ (by k_asm) (by k_asm) (by k_extra "own:types") (.head _) (.tail _ (.head _)) ?_ (nilAre _) ?_ .nil
    · rw [tAns, if_neg (by omega), if_pos hz, hj]; exact ⟨_, rfl, by decide, _, _, .tail _ (.tail _ (.head _))⟩
    · rw [tBag, if_neg (by omega), if_pos hz, hj]; exact .refl _
  · rename z = 2 => hz
    rename 0 < vs.length => hv
    rename PcAt news _ (js.getD _ 0) => hp
    have hj : js ≠ [] := by rintro rfl; simp at hlk; rw [hlk] at hv; simp at hv
    refine ret _ _ _ _ _ _ [(_, _), (_, _), (_, _), (_, _), (_, _)] _ _ (by k_asm) (by k_asm) (by k_extra "own:types") (.head _) (.tail _ (.head _)) ?_ (qA.mono mr) ?_ qS
    · rw [tAns, if_neg (by omega), if_neg (by omega), if_neg (by simp [hj]), if_neg (by omega)]; exact ⟨_, rfl, hp.mono mr⟩
    · rw [tBag, if_neg (by omega), if_neg (by omega), if_neg (by simp [hj]), if_neg (by omega), ← cut1]; exact qP
  · rename z = 2 => hz
    rename ¬ 0 < vs.length => hv
    have hj : js = [] := List.eq_nil_of_length_eq_zero (by omega)
    refine ret _ _ _ [] [] _ [(_, _), (_, _)] _ _ (by k_asm) (by k_asm) (by k_extra "own:types") (.head _) (.tail _ (.head _)) ?_ (nilAre _) ?_ .nil
    · rw [tAns, if_neg (by omega), if_neg (by omega), if_pos ⟨hz, hj⟩]; exact ⟨_, rfl⟩
    · rw [tBag, if_neg (by omega), if_neg (by omega), if_pos ⟨hz, hj⟩]
  · rename z = 3 => hz
    rename x ≤ _ => hx
    refine ret _ _ _ _ _ _ [(_, _)] _ _ (by k_asm) (by k_asm) (by k_extra "own:types") (.head _) (.tail _ hl) ?_ (hK.mono mr) ?_ hs
    · rw [tAns, if_neg (by omega), if_neg (by omega), if_neg (by omega), if_pos ⟨hz, .inr hx⟩]; exact ⟨_, rfl, hi.mono mr⟩
    · rw [tBag, if_neg (by omega), if_neg (by omega), if_neg (by omega), if_pos ⟨hz, .inr hx⟩]
  · rename z = 3 => hz
    rename ¬ x ≤ _ => hx
    rename 0 < vs.length => hv
    rename PcAt news _ (js.getD _ 0) => hp
    have hj : js ≠ [] := by rintro rfl; simp at hlk; rw [hlk] at hv; simp at hv
    have hx' : ¬ (z = 3 ∧ (js = [] ∨ x ≤ js.getD 0 0)) := by rintro ⟨_, h | h⟩; exact hj h; exact hx h
    refine ret _ _ _ _ _ _ [(_, _), (_, _), (_, _), (_, _), (_, _)] _ _ (by k_asm) (by k_asm) (by k_extra "own:types") (.head _) (.tail _ (.head _)) ?_ (qA.mono mr) ?_ qS
    · rw [tAns, if_neg (by omega), if_neg (by omega), if_neg (by omega), if_neg hx']; exact ⟨_, rfl, hp.mono mr⟩
    · rw [tBag, if_neg (by omega), if_neg (by omega), if_neg (by omega), if_neg hx', ← cut1]; exact qP
  · rename z = 3 => hz
    rename ¬ 0 < vs.length => hv
    have hj : js = [] := List.eq_nil_of_length_eq_zero (by omega)
    refine ret _ _ _ _ _ _ [(_, _)] _ _ (by k_asm) (by k_asm) (by k_extra "own:types") (.head _) (.tail _ hl) ?_ (hK.mono mr) ?_ hs
    · rw [tAns, if_neg (by omega), if_neg (by omega), if_neg (by omega), if_pos ⟨hz, .inl hj⟩]; exact ⟨_, rfl, hi.mono mr⟩
    · rw [tBag, if_neg (by omega), if_neg (by omega), if_neg (by omega), if_pos ⟨hz, .inl hj⟩]
end Mine
end
section
open PySem PySem.W PyProof.Rows PySem.Spec PySem.Calls
set_option maxRecDepth 100000
namespace Mine
theorem start_D6 : True := by
  w_top off
  k_with_none
  (k_with "own:omega" => (first | with_reducible assumption | (refine' Mine.room2 ?h ?e; (case h => with_reducible assumption); (case e => decide)) | (refine' Mine.room1 ?h ?e; (case h => with_reducible assumption); (case e => decide)) | (refine' Mine.le_up ?h ?e; (case h => with_reducible assumption); (case e => decide)) | (refine' Mine.room0 ?h; (case h => with_reducible assumption)) | ((fail_if_success (fail_if_success omega (config := {}))); lia)))
  trivial
theorem cut_le (lo hi : Option Int) (vs : List α) : (cut lo hi vs).length ≤ vs.length := by
  unfold cut
  simp only [List.length_take, List.length_drop]
  omega
/-- what a row too long to its own mind gives -/
noncomputable def bAns (z : Int) (ks : List Nat) (x : Nat) : Ans := if z = 3 ∧ ks ≠ [] ∧ x ≤ ks.getD 0 0 then .pc x else .refused
noncomputable def slide (ks : List Nat) : List Nat := slid ks.length 0 ks
/-- the pieces that it then holds -/
noncomputable def bRow (z : Int) (ks : List Nat) (x : Nat) : List Nat :=
  if z = 0 then ks ++ [x] else if z = 1 then (if 1 < ks.length then slide (cut (some (-1)) none ks ++ cut (some 1) (some (-1)) ks) else []) else if ks = [] then [] else if z = 3 ∧ x ≤ ks.getD 0 0 then ks else slide ([x] ++ ks.drop 1)
theorem lines_D6_0 : True := by
  (k_with "own:k_mem" => with_reducible_and_instances assumption)
  (k_with "own:mem" => first | with_reducible assumption | exact List.mem_cons_self | (refine List.mem_cons_of_mem _ ?_; k_extra "own:mem"))
  (k_with "own:sub" => first | exact fun _ h => h | exact fun _ h => .tail _ h | exact fun _ h => .tail _ (.tail _ h) | exact fun _ h => .tail _ (.tail _ (.tail _ h)) | exact fun _ h => .tail _ (.tail _ (.tail _ (.tail _ h))) | exact fun _ h => .tail _ (.tail _ (.tail _ (.tail _ (.tail _ h)))) | exact fun _ h => .tail _ (.tail _ (.tail _ (.tail _ (.tail _ (.tail _ h))))))
  (k_with "own:idx" => first | omega | (rw [Int.fdiv_eq_ediv_of_nonneg _ (by decide)]; omega))
  (k_with "own:len" => first | omega | (simp only [List.length_append, List.length_cons, List.length_nil] at *; omega))
  (k_with "own:len" => first | omega | (simp only [List.length_append, List.length_cons, List.length_nil, cut_len1] at *; omega))
  (k_with "own:types" => first | exact List.forall_mem_nil _ | (refine List.forall_mem_cons.mpr ⟨⟨_, rfl⟩, ?_⟩; k_extra "own:types"))
  (k_with "call builtin:len" => (k_here; (with_reducible show wpAny _ _ (call (Value.builtin "len") [Value.ref _]) _ _ _); (k_dflt (refine' listK_len ?k3 ?k4 ?k5 ?_; (case k3 => k_asm); (case k4 => k_extra "own:mem"); (case k5 => omega); k_whole)); intro _ _))
  (k_with "subscriptTail" => (k_here; (with_reducible show wpAny _ _ (subscriptTail _ _ (Value.ref _) (Value.int _ _)) _ _ _); (k_dflt (refine' listK_sub ?k3 ?k4 ?k5 ?k6 ?k7 ?k8 ?_ ?k9; (case k3 => k_asm); (case k4 => k_extra "own:mem"); (case k5 => k_asm); (case k6 => k_extra "own:idx"); (case k7 => k_extra "own:idx"); (case k8 => omega); (case k9 => with_unfolding_all rfl); k_whole)); intro _ _ _))
  (k_with "subscriptTail" => (k_here; (with_reducible show wpAny _ _ (subscriptTail _ _ (Value.ref _) (Value.ref _)) _ _ _); (k_dflt (refine' sliceA ?k1 ?k3 ?k4 ?ka ?k5 ?k6 ?k7 ?_ ?k8; (case k1 => k_asm); (case k3 => k_asm); (case k4 => k_extra "own:mem"); (case ka => k_asm); (case k5 => k_extra "own:len"); (case k6 => first | exact .int _ _ | exact .none); (case k7 => first | exact .int _ _ | exact .none); (case k8 => with_unfolding_all rfl); k_whole)); intro slD slV h' slA slL F' N' slne; (try k_sweep)))
  (k_with "binaryOp Add ref ref" => (k_here; (with_reducible show wpAny _ _ (binaryOp Operator.Add (Value.ref _) (Value.ref _)) _ _ _); k_dflt (refine' addA ?k1 ?k2 ?k3 ?k4 ?k5 ?k6 ?k7 ?_; (case k1 => k_asm); (case k2 => k_asm); (case k3 => k_extra "own:mem"); (case k4 => k_extra "own:mem"); (case k5 => first | with_reducible assumption | exact Are.one (by with_reducible assumption)); (case k6 => first | with_reducible assumption | exact Are.one (by with_reducible assumption)); (case k7 => k_extra "own:len"); k_whole); intro adD adV h' adA adL F' N' adne; (try dsimp only); (try k_sweep)))
  (k_with "truthy ref" => (k_here; (k_dflt (refine' listK_truth ?k1 ?k2 ?k3 ?_; (case k1 => k_asm); (case k2 => k_extra "own:mem"); (case k3 => k_extra "own:len"); k_whole)); intro _))
  (k_with "compareOp LtE ref" => (k_here; (k_dflt (refine' pcK_le ?k1 ?k2 ?k3 ?k4 ?k5 ?_; (case k2 => k_asm); (case k4 => k_asm); (case k5 => k_asm); (case k3 => k_extra "own:sub"); (case k1 => ktr_units); k_whole))))
  (k_with "call ref" => (k_here; (k_dflt (show wpAny _ _ (call (Value.ref 248) [Value.ref _]) _ _ _)); k_dflt (refine' slid_call ?k1 ?k2 ?k3 ?k4 ?k5 ?k6 ?k7 ?k8 ?k9 ?ka ?kb ?_; (case k1 => k_asm); (case k2 => k_asm); (case k3 => k_asm); (case k4 => k_asm); (case k5 => k_asm); (case k6 => first | exact rfl | assumption); (case k7 => ktr_room); (case k8 => ktr_units); (case k9 => k_extra "own:mem"); (case ka => (refine' Are.mono ?kas ?kar; (case kar => with_reducible assumption); (case kas => k_extra "own:sub"))); (case kb => k_extra "own:len"); k_whole); intro sdD sdV h' tk' sdA F' N' sdne; (try dsimp only); (try k_sweep)))
  trivial
set_option maxHeartbeats 2000000 in
theorem broken_call {w : World} {p : Program} {loose : List Str} {mean : ExcName → Option Value} {mg mb : Str → Option Value} {dp un : Nat} {gd : Option (List Code)} {cn : Str} {cs : Scope} {a : Addr} {ccd : Value} {cl : List (Str × Addr)} {outer : List Env} {A₀ : Around} {base h₀ : Heap} {L : Addr} {m : Str → Option Value} {news : List (Addr × Obj)} {s : Shared}
    {Q E : Value → Shared → Prop} {l ia : Addr} {vs : List Value} {ks : List Nat} {c x : Nat} {z : Int} {t : Tok}
    (B : Below A₀ base outer h₀) (F : Fr h₀ L s.heap m) (X : (KW w.params).In h₀) (N : News h₀ L s.heap news) (T : Top p loose mean mg mb h₀) (hk : cs.kind = .function)
    (hd : dp + 20 < recursionLimit) (hu : un + 300 < cLine) (hlen : ks.length ≤ 60) (hl : (l, listOf vs.toArray c) ∈ news) (hK : Are news vs ks) (hi : PcAt news ia x) (hz0 : 0 ≤ z) (hz3 : z ≤ 3)
    (ret : ∀ q v l' vs' c' tl h' tk', Fr h₀ L h' m → News h₀ L h' (tl ++ news) → (∀ p ∈ tl, ∃ T, p.2.cls = .type T) → (q, pairObj v (.ref l')) ∈ tl → (l', listOf vs'.toArray c') ∈ tl ++ news → AnsAt (tl ++ news) v (bAns z ks x) → Are (tl ++ news) vs' (bRow z ks x) → Q (.ref q) { s with heap := h', toks := tk' }) :
    wpAny (model PG w) (ktrTop dp un gd cn cs L a ccd cl outer) (call (.ref 255) [.int z t, .ref l, .ref ia]) Q E s := by
  have hlk := hK.length
  have hc1 := cut_le (some (-1)) none ks
  have hc2 := cut_le (some 1) (some (-1)) ks
  have hc3 := cut_le (some 1) none ks
  refine wpAny_call ?_
  k_dflt ktr_enter
  k_steps
  all_goals (try (exfalso; omega))
  · rename z = 0 => hz
    refine ret _ _ _ _ _ [(_, _), (_, _), (_, _)] _ _ (by k_asm) (by k_asm) (by k_extra "own:types") (.head _) (.tail _ (.head _)) ?_ ?_
    · rw [bAns, if_neg (by omega)]; exact ⟨_, rfl⟩
    · rw [bRow, if_pos hz]; exact adA.mono mr
  · rename z = 1 => hz
    rename 1 < (vs.length : Int) => hv
    refine ret _ _ _ _ _ [(_, _), (_, _), (_, _), (_, _), (_, _)] _ _ (by k_asm) (by k_asm) (by k_extra "own:types") (.head _) (.tail _ (.head _)) ?_ ?_
    · rw [bAns, if_neg (by omega)]; exact ⟨_, rfl⟩
    · rw [bRow, if_neg (by omega), if_pos hz, if_pos (by omega)]; exact sdA.mono fun _ h => .tail _ (.tail _ h)
  · rename z = 1 => hz
    rename ¬ 1 < (vs.length : Int) => hv
    refine ret _ _ _ [] _ [(_, _), (_, _)] _ _ (by k_asm) (by k_asm) (by k_extra "own:types") (.head _) (.tail _ (.head _)) ?_ ?_
    · rw [bAns, if_neg (by omega)]; exact ⟨_, rfl⟩
    · rw [bRow, if_neg (by omega), if_pos hz, if_neg (by omega)]; exact nilAre _
  · rename z = 3 => hz
    rename 0 < vs.length => hv
    rename x ≤ _ => hx
    have hj : ks ≠ [] := by rintro rfl; simp at hlk; rw [hlk] at hv; simp at hv
    refine ret _ _ _ _ _ [(_, _)] _ _ (by k_asm) (by k_asm) (by k_extra "own:types") (.head _) (.tail _ hl) ?_ ?_
    · rw [bAns, if_pos ⟨hz, hj, hx⟩]; exact ⟨_, rfl, hi.mono mr⟩
    · rw [bRow, if_neg (by omega), if_neg (by omega), if_neg hj, if_pos ⟨hz, hx⟩]; exact hK.mono mr
  · rename z = 3 => hz
    rename 0 < vs.length => hv
    rename ¬ x ≤ _ => hx
    have hj : ks ≠ [] := by rintro rfl; simp at hlk; rw [hlk] at hv; simp at hv
    have hx' : ¬ (z = 3 ∧ x ≤ ks.getD 0 0) := fun h => hx h.2
    refine ret _ _ _ _ _ [(_, _), (_, _), (_, _), (_, _), (_, _)] _ _ (by k_asm) (by k_asm) (by k_extra "own:types") (.head _) (.tail _ (.head _)) ?_ ?_
    · rw [bAns, if_neg (fun h => hx h.2.2)]; exact ⟨_, rfl⟩
    · rw [bRow, if_neg (by omega), if_neg (by omega), if_neg hj, if_neg hx', ← cut1]; exact sdA.mono fun _ h => .tail _ (.tail _ h)
  · rename 0 < vs.length => hv
    have hz : z = 2 := by omega
    have hj : ks ≠ [] := by rintro rfl; simp at hlk; rw [hlk] at hv; simp at hv
    refine ret _ _ _ _ _ [(_, _), (_, _), (_, _), (_, _), (_, _)] _ _ (by k_asm) (by k_asm) (by k_extra "own:types") (.head _) (.tail _ (.head _)) ?_ ?_
    · rw [bAns, if_neg (by omega)]; exact ⟨_, rfl⟩
    · rw [bRow, if_neg (by omega), if_neg (by omega), if_neg hj, if_neg (by omega), ← cut1]; exact sdA.mono fun _ h => .tail _ (.tail _ h)
  · rename ¬ 0 < vs.length => hv
    have hj : ks = [] := List.eq_nil_of_length_eq_zero (by omega)
    refine ret _ _ _ [] _ [(_, _), (_, _)] _ _ (by k_asm) (by k_asm) (by k_extra "own:types") (.head _) (.tail _ (.head _)) ?_ ?_
    · rw [bAns, if_neg (fun h => h.2.1 hj)]; exact ⟨_, rfl⟩
    · rw [bRow, if_neg (by omega), if_neg (by omega), if_pos hj]; exact nilAre _
end Mine
end
section
open PySem PySem.W PyProof.Rows PySem.Spec PySem.Calls
set_option maxRecDepth 100000
namespace Mine
theorem start_D7a : True := by
  w_top off
  k_with_none
  (k_with "own:omega" => (first | with_reducible assumption | (refine' Mine.room2 ?h ?e; (case h => with_reducible assumption); (case e => decide)) | (refine' Mine.room1 ?h ?e; (case h => with_reducible assumption); (case e => decide)) | (refine' Mine.le_up ?h ?e; (case h => with_reducible assumption); (case e => decide)) | (refine' Mine.room0 ?h; (case h => with_reducible assumption)) | ((fail_if_success (fail_if_success omega (config := {}))); lia)))
  trivial
/-- what a deed gives -/
noncomputable def dAns (z k : Int) (ks : List Nat) (x : Nat) : Ans :=
  if k = 0 then (if z = 0 then .non else if z = 1 then .pc (ks.getD 0 0) else if ks = [] then (if z = 2 then .refused else .pc x) else if z = 3 ∧ ¬ ks.getD 0 0 < x then .pc x else .pc (ks.getD 0 0))
  else if z = 3 ∧ ks ≠ [] ∧ ¬ ks.getD 0 0 < x then .pc x else .refused
/-- the pieces behind a deed -/
noncomputable def dRow (z k : Int) (ks : List Nat) (x : Nat) : List Nat :=
  if z = 0 then (if k = 0 then sd x 0 ks.length (ks ++ [x]) else ks ++ [x])
  else if z = 1 then (if ks.length ≤ 1 then [] else if k = 0 then su 0 (ks.dropLast.set 0 (ks.getLastD 0)) else slid (ks.length - 1) 0 (ks.dropLast.set 0 (ks.getLastD 0)))
  else if ks = [] then [] else if z = 3 ∧ ¬ ks.getD 0 0 < x then ks else if k = 0 then su 0 (ks.set 0 x) else slid ks.length 0 (ks.set 0 x)
section
variable {w : World} {p : Program} {loose : List Str} {mean : ExcName → Option Value} {mg mb : Str → Option Value} {dp un : Nat} {gd : Option (List Code)} {cn : Str} {cs : Scope} {a : Addr} {ccd : Value} {cl : List (Str × Addr)} {outer : List Env} {A₀ : Around} {base h₀ : Heap} {L : Addr} {m : Str → Option Value} {rest : List (Addr × Obj)} {s : Shared} {Q E : Value → Shared → Prop} {row d ia : Addr} {vs : List Value} {ks : List Nat} {n x : Nat} {k : Int}
theorem op0
    (B : Below A₀ base outer h₀) (F : Fr h₀ L s.heap m) (X : (KW w.params).In h₀) (N : News h₀ L s.heap ((row, accObj d vs.toArray n) :: rest)) (T : Top p loose mean mg mb h₀) (hk : cs.kind = .function)
    (hd : dp + 12 < recursionLimit) (hu : un + 120 < cLine) (G : AllBare s.gens) (R : Rest rest row d k) (hA : Are rest vs ks) (hpos : ∀ x ∈ ks, 0 < x) (hl : ks.length ≤ 900) (hi : PcAt rest ia x) (hx : 0 < x) (hkk : k = 0 ∨ ((ks.length : Int) < k ∧ k ≤ 10000))
    (ret : ∀ v vs' n' tl s', AnsAt (tl ++ rest) v (dAns 0 k ks x) → dAns 0 k ks x ≠ .refused → Are (tl ++ rest) vs' (dRow 0 k ks x) → (∀ p ∈ tl, ∃ T, p.2.cls = .type T) → Fr h₀ L s'.heap m → News h₀ L s'.heap ((row, accObj d vs'.toArray n') :: (tl ++ rest)) → AllBare s'.gens → s'.os = s.os → Q v s')
    (err : ∀ e g s' vs' n' tl, dAns 0 k ks x = .refused → Are (tl ++ rest) vs' (dRow 0 k ks x) → (∀ p ∈ tl, ∃ T, p.2.cls = .type T) → Fr h₀ L g m → g.UpToSlots s'.heap → RaisedN base (envX cn cs L a ccd cl :: outer) e (.type "IndexError") ((row, accObj d vs'.toArray n') :: (tl ++ rest)) s'.heap → AllBare s'.gens → s'.os = s.os → E (.ref e) s') :
    wpAny (model PG w) (ktrTop dp un gd cn cs L a ccd cl outer) (call (.ref 28) [.ref row, .ref ia]) Q E s := by
  have eA : dAns 0 k ks x = if k = 0 then .non else .refused := by unfold dAns; split <;> simp
  have eR : dRow 0 k ks x = if k = 0 then sd x 0 ks.length (ks ++ [x]) else ks ++ [x] := by simp [dRow]
  rcases hkk with rfl | ⟨hk1, hk2⟩
  · rw [if_pos rfl] at eA eR
    refine push_ok B F X N T hk hd hu G R hA hpos (by omega) hi hx fun vs' n' s' A' F' N' G' ho => ret _ vs' n' [] s' ?_ ?_ ?_ (List.forall_mem_nil _) F' N' G' ho
    · rw [eA]; rfl
    · rw [eA]; simp
    · rw [eR]; exact A'
  · have hk0 : ¬ k = 0 := by omega
    rw [if_neg hk0] at eA eR
    refine push_bad B F X N T hk hd hu G R hA hpos (by omega) hi hx hk1 hk2 fun e g s' vs' n' FG U RN A' G' ho => err e g s' vs' n' [] eA ?_ (List.forall_mem_nil _) FG U RN G' ho
    rw [eR]; exact A'
theorem op2
    (B : Below A₀ base outer h₀) (F : Fr h₀ L s.heap m) (X : (KW w.params).In h₀) (N : News h₀ L s.heap ((row, accObj d vs.toArray n) :: rest)) (T : Top p loose mean mg mb h₀) (hk : cs.kind = .function)
    (hd : dp + 12 < recursionLimit) (hu : un + 120 < cLine) (G : AllBare s.gens) (R : Rest rest row d k) (hA : Are rest vs ks) (hpos : ∀ x ∈ ks, 0 < x) (hl : ks.length ≤ 900) (hi : PcAt rest ia x) (hx : 0 < x) (hkk : k = 0 ∨ ((ks.length : Int) < k ∧ k ≤ 10000))
    (ret : ∀ v vs' n' tl s', AnsAt (tl ++ rest) v (dAns 2 k ks x) → dAns 2 k ks x ≠ .refused → Are (tl ++ rest) vs' (dRow 2 k ks x) → (∀ p ∈ tl, ∃ T, p.2.cls = .type T) → Fr h₀ L s'.heap m → News h₀ L s'.heap ((row, accObj d vs'.toArray n') :: (tl ++ rest)) → AllBare s'.gens → s'.os = s.os → Q v s')
    (err : ∀ e g s' vs' n' tl, dAns 2 k ks x = .refused → Are (tl ++ rest) vs' (dRow 2 k ks x) → (∀ p ∈ tl, ∃ T, p.2.cls = .type T) → Fr h₀ L g m → g.UpToSlots s'.heap → RaisedN base (envX cn cs L a ccd cl :: outer) e (.type "IndexError") ((row, accObj d vs'.toArray n') :: (tl ++ rest)) s'.heap → AllBare s'.gens → s'.os = s.os → E (.ref e) s') :
    wpAny (model PG w) (ktrTop dp un gd cn cs L a ccd cl outer) (call (.ref 42) [.ref row, .ref ia]) Q E s := by
  by_cases h0 : ks = []
  · subst h0
    refine replace_none (ks := []) B F X N T hk hd hu G hA fun e g s' vs' n' FG U RN A' G' ho => err e g s' vs' n' [] ?_ ?_ (List.forall_mem_nil _) FG U RN G' ho
    · unfold dAns; split <;> simp
    · simpa [dRow] using A'
  · have hn : 0 < ks.length := List.length_pos_iff.mpr h0
    have eA : dAns 2 k ks x = if k = 0 then .pc (ks.getD 0 0) else .refused := by unfold dAns; split <;> simp [h0]
    have eR : dRow 2 k ks x = if k = 0 then su 0 (ks.set 0 x) else slid ks.length 0 (ks.set 0 x) := by simp [dRow, h0]
    rcases hkk with rfl | ⟨hk1, hk2⟩
    · rw [if_pos rfl] at eA eR
      refine replace_ok B F X N T hk hd hu G R hA hpos (by omega) hn hi hx fun ra vs' n' s' hp A' F' N' G' ho => ret _ vs' n' [] s' ?_ ?_ ?_ (List.forall_mem_nil _) F' N' G' ho
      · rw [eA]; exact ⟨ra, rfl, hp⟩
      · rw [eA]; simp
      · rw [eR]; exact A'
    · have hk0 : ¬ k = 0 := by omega
      rw [if_neg hk0] at eA eR
      refine replace_bad B F X N T hk hd hu G R hA hpos (by omega) hi hx hn hk1 hk2 fun e g s' vs' n' FG U RN A' G' ho => err e g s' vs' n' [] eA ?_ (List.forall_mem_nil _) FG U RN G' ho
      rw [eR]; exact A'
theorem op3
    (B : Below A₀ base outer h₀) (F : Fr h₀ L s.heap m) (X : (KW w.params).In h₀) (N : News h₀ L s.heap ((row, accObj d vs.toArray n) :: rest)) (T : Top p loose mean mg mb h₀) (hk : cs.kind = .function)
    (hd : dp + 12 < recursionLimit) (hu : un + 120 < cLine) (G : AllBare s.gens) (R : Rest rest row d k) (hA : Are rest vs ks) (hpos : ∀ x ∈ ks, 0 < x) (hl : ks.length ≤ 900) (hi : PcAt rest ia x) (hx : 0 < x) (hkk : k = 0 ∨ ((ks.length : Int) < k ∧ k ≤ 10000))
    (ret : ∀ v vs' n' tl s', AnsAt (tl ++ rest) v (dAns 3 k ks x) → dAns 3 k ks x ≠ .refused → Are (tl ++ rest) vs' (dRow 3 k ks x) → (∀ p ∈ tl, ∃ T, p.2.cls = .type T) → Fr h₀ L s'.heap m → News h₀ L s'.heap ((row, accObj d vs'.toArray n') :: (tl ++ rest)) → AllBare s'.gens → s'.os = s.os → Q v s')
    (err : ∀ e g s' vs' n' tl, dAns 3 k ks x = .refused → Are (tl ++ rest) vs' (dRow 3 k ks x) → (∀ p ∈ tl, ∃ T, p.2.cls = .type T) → Fr h₀ L g m → g.UpToSlots s'.heap → RaisedN base (envX cn cs L a ccd cl :: outer) e (.type "IndexError") ((row, accObj d vs'.toArray n') :: (tl ++ rest)) s'.heap → AllBare s'.gens → s'.os = s.os → E (.ref e) s') :
    wpAny (model PG w) (ktrTop dp un gd cn cs L a ccd cl outer) (call (.ref 49) [.ref row, .ref ia]) Q E s := by
  by_cases h0 : ks = []
  · subst h0
    rcases hkk with rfl | ⟨hk1, hk2⟩
    · refine pp_empty (ks := []) B F X N T hk hd hu G R hA fun s' F' N' G' ho => ret _ vs n [] s' ?_ ?_ ?_ (List.forall_mem_nil _) F' N' G' ho
      · simp [dAns]; exact ⟨ia, rfl, hi⟩
      · simp [dAns]
      · simpa [dRow] using hA
    · simp at hk1
      refine pp_bad0 (ks := []) B F X N T hk hd hu G R hA hk1 hk2 fun e g s' vs' n' FG U RN A' G' ho => err e g s' vs' n' [] ?_ ?_ (List.forall_mem_nil _) FG U RN G' ho
      · unfold dAns; rw [if_neg (by omega)]; simp
      · simpa [dRow] using A'
  · have hn : 0 < ks.length := List.length_pos_iff.mpr h0
    by_cases hlt : ks.getD 0 0 < x
    · have eA : dAns 3 k ks x = if k = 0 then .pc (ks.getD 0 0) else .refused := by unfold dAns; split <;> simp only [h0, hlt, not_true, and_false, if_false, if_neg (show ¬ (3 : Int) = 0 by decide), if_neg (show ¬ (3 : Int) = 1 by decide)]
      have eR : dRow 3 k ks x = if k = 0 then su 0 (ks.set 0 x) else slid ks.length 0 (ks.set 0 x) := by unfold dRow; simp only [h0, hlt, not_true, and_false, if_false, if_neg (show ¬ (3 : Int) = 0 by decide), if_neg (show ¬ (3 : Int) = 1 by decide)]
      rcases hkk with rfl | ⟨hk1, hk2⟩
      · rw [if_pos rfl] at eA eR
        refine pp_less B F X N T hk hd hu G R hA hpos (by omega) hn hi hx hlt fun ra vs' n' s' hp A' F' N' G' ho => ret _ vs' n' [] s' ?_ ?_ ?_ (List.forall_mem_nil _) F' N' G' ho
        · rw [eA]; exact ⟨ra, rfl, hp⟩
        · rw [eA]; simp
        · rw [eR]; exact A'
      · have hk0 : ¬ k = 0 := by omega
        rw [if_neg hk0] at eA eR
        refine pp_bad B F X N T hk hd hu G R hA hpos (by omega) hn hi hx hlt hk1 hk2 fun e g s' vs' n' FG U RN A' G' ho => err e g s' vs' n' [] eA ?_ (List.forall_mem_nil _) FG U RN G' ho
        rw [eR]; exact A'
    · have eA : dAns 3 k ks x = .pc x := by unfold dAns; split <;> simp only [h0, hlt, not_false_eq_true, and_true, ne_eq, if_true, if_false, if_neg (show ¬ (3 : Int) = 0 by decide), if_neg (show ¬ (3 : Int) = 1 by decide)]
      have eR : dRow 3 k ks x = ks := by unfold dRow; simp only [h0, hlt, not_false_eq_true, and_true, if_true, if_false, if_neg (show ¬ (3 : Int) = 0 by decide), if_neg (show ¬ (3 : Int) = 1 by decide)]
      refine pp_keep B F X N T hk hd hu G R hA hpos (by omega) hn hi hx hlt fun s' F' N' G' ho => ret _ vs n [] s' ?_ ?_ ?_ (List.forall_mem_nil _) F' N' G' ho
      · rw [eA]; exact ⟨ia, rfl, hi⟩
      · rw [eA]; simp
      · rw [eR]; exact hA
theorem op1
    (B : Below A₀ base outer h₀) (F : Fr h₀ L s.heap m) (X : (KW w.params).In h₀) (N : News h₀ L s.heap ((row, accObj d vs.toArray n) :: rest)) (T : Top p loose mean mg mb h₀) (hk : cs.kind = .function)
    (hd : dp + 12 < recursionLimit) (hu : un + 120 < cLine) (G : AllBare s.gens) (R : Rest rest row d k) (hA : Are rest vs ks) (hpos : ∀ x ∈ ks, 0 < x) (hl : ks.length ≤ 900) (hi : PcAt rest ia x) (hx : 0 < x) (hkk : k = 0 ∨ ((ks.length : Int) < k ∧ k ≤ 10000))
    (ret : ∀ v vs' n' tl s', AnsAt (tl ++ rest) v (dAns 1 k ks x) → dAns 1 k ks x ≠ .refused → Are (tl ++ rest) vs' (dRow 1 k ks x) → (∀ p ∈ tl, ∃ T, p.2.cls = .type T) → Fr h₀ L s'.heap m → News h₀ L s'.heap ((row, accObj d vs'.toArray n') :: (tl ++ rest)) → AllBare s'.gens → s'.os = s.os → Q v s')
    (err : ∀ e g s' vs' n' tl, dAns 1 k ks x = .refused → Are (tl ++ rest) vs' (dRow 1 k ks x) → (∀ p ∈ tl, ∃ T, p.2.cls = .type T) → Fr h₀ L g m → g.UpToSlots s'.heap → RaisedN base (envX cn cs L a ccd cl :: outer) e (.type "IndexError") ((row, accObj d vs'.toArray n') :: (tl ++ rest)) s'.heap → AllBare s'.gens → s'.os = s.os → E (.ref e) s') :
    wpAny (model PG w) (ktrTop dp un gd cn cs L a ccd cl outer) (call (.ref 35) [.ref row]) Q E s := by
  by_cases h0 : ks = []
  · subst h0
    rcases hkk with rfl | ⟨hk1, hk2⟩
    · refine pop_empty (ks := []) B F X N T hk hd hu G R hA fun q t u s' R' F' N' G' ho => ret _ vs n [(q, _)] s' ?_ ?_ ?_ (List.forall_mem_cons.mpr ⟨⟨_, rfl⟩, List.forall_mem_nil _⟩) F' N' G' ho
      · simp [dAns]; exact ⟨q, rfl, by decide, t, u, .head _⟩
      · simp [dAns]
      · simpa [dRow] using hA.mono fun _ h => .tail _ h
    · simp at hk1
      refine pop_bad0 (ks := []) B F X N T hk hd hu G R hA hk1 hk2 fun q t u e g s' R' FG U RN G' ho => err e g s' vs n [(q, _)] ?_ ?_ (List.forall_mem_cons.mpr ⟨⟨_, rfl⟩, List.forall_mem_nil _⟩) FG U RN G' ho
      · unfold dAns; rw [if_neg (by omega)]; simp
      · simpa [dRow] using hA.mono fun _ h => .tail _ h
  · obtain ⟨ks₀, y, rfl⟩ : ∃ ks₀ y, ks = ks₀ ++ [y] := ⟨ks.dropLast, ks.getLast h0, (List.dropLast_concat_getLast _).symm⟩
    have hy : 0 < y := hpos y (by simp)
    have hpos' : ∀ x ∈ ks₀, 0 < x := fun x hx => hpos x (by simp [hx])
    have hl0 : ks₀.length + 1 ≤ 900 := by simpa using hl
    have eA : dAns 1 k (ks₀ ++ [y]) x = if k = 0 then .pc ((ks₀ ++ [y]).getD 0 0) else .refused := by unfold dAns; split <;> simp
    rcases ks₀ with _ | ⟨a₀, r⟩
    · have eR : dRow 1 k ([] ++ [y]) x = [] := by simp [dRow]
      rcases hkk with rfl | ⟨hk1, hk2⟩
      · rw [if_pos rfl] at eA
        refine pop_one (ks := []) B F X N T hk hd hu G R hA fun ra vs' n' s' hp A' F' N' G' ho => ret _ vs' n' [] s' ?_ ?_ ?_ (List.forall_mem_nil _) F' N' G' ho
        · rw [eA]; exact ⟨ra, rfl, hp⟩
        · rw [eA]; simp
        · rw [eR]; exact A'
      · have hk0 : ¬ k = 0 := by omega
        rw [if_neg hk0] at eA
        refine pop_bad1 (ks := []) B F X N T hk hd hu G R hA (by simp at hk1; omega) hk2 fun e g s' vs' n' FG U RN A' G' ho => err e g s' vs' n' [] eA ?_ (List.forall_mem_nil _) FG U RN G' ho
        rw [eR]; exact A'
    · have hn : 0 < (a₀ :: r).length := by simp
      have e1 : ((a₀ :: r) ++ [y]).dropLast = a₀ :: r := List.dropLast_concat
      have e2 : ((a₀ :: r) ++ [y]).getLastD 0 = y := by rw [List.getLastD_eq_getLast?, List.getLast?_concat]; rfl
      have e3 : ((a₀ :: r) ++ [y]).length - 1 = (a₀ :: r).length := by simp
      have eR : dRow 1 k ((a₀ :: r) ++ [y]) x = if k = 0 then su 0 ((a₀ :: r).set 0 y) else slid (a₀ :: r).length 0 ((a₀ :: r).set 0 y) := by
        unfold dRow
        rw [if_neg (by decide), if_pos rfl, if_neg (by simp), e1, e2, e3]
      have e4 : ((a₀ :: r) ++ [y]).getD 0 0 = (a₀ :: r).getD 0 0 := rfl
      rcases hkk with rfl | ⟨hk1, hk2⟩
      · rw [if_pos rfl] at eA eR
        refine pop_ok B F X N T hk hd hu G R hA hpos' (by omega) hy hn fun ra vs' n' s' hp A' F' N' G' ho => ret _ vs' n' [] s' ?_ ?_ ?_ (List.forall_mem_nil _) F' N' G' ho
        · rw [eA, e4]; exact ⟨ra, rfl, hp⟩
        · rw [eA]; simp
        · rw [eR]; exact A'
      · have hk0 : ¬ k = 0 := by omega
        rw [if_neg hk0] at eA eR
        refine pop_bad B F X N T hk hd hu G R hA hpos' (by omega) hy hn (by simp at hk1 ⊢; omega) hk2 fun e g s' vs' n' FG U RN A' G' ho => err e g s' vs' n' [] eA ?_ (List.forall_mem_nil _) FG U RN G' ho
        rw [eR]; exact A'
end
end Mine
end
section
open PySem PySem.W PyProof.Rows PySem.Spec PySem.Calls
set_option maxRecDepth 100000
namespace Mine
theorem start_D7 : True := by
  w_top off
  k_with_none
  (k_with "own:omega" => (first | with_reducible assumption | (refine' Mine.room2 ?h ?e; (case h => with_reducible assumption); (case e => decide)) | (refine' Mine.room1 ?h ?e; (case h => with_reducible assumption); (case e => decide)) | (refine' Mine.le_up ?h ?e; (case h => with_reducible assumption); (case e => decide)) | (refine' Mine.room0 ?h; (case h => with_reducible assumption)) | ((fail_if_success (fail_if_success omega (config := {}))); lia)))
  trivial
/-- leaving a def whose frame may have been noted by a caught error -/
noncomputable def LeaveT (h₀ : Heap) (L : Addr) (m : Str → Option Value) (g : Heap) (R : Result → Shared → Prop) (v : Value) (s' : Shared) : Prop := LeaveK h₀ L m g R v s' ∨ R (.ok (.ret v)) s'
section
variable {w : World} {A₀ A : Around} {E : Value → Shared → Prop} {s s' : Shared} {base h₀ g h : Heap} {outer : List Env} {L Ll a e : Addr} {m ml : Str → Option Value} {env : Env} {news : List (Addr × Obj)}
theorem code_defT {K : Frag} {p : Program} {loose : List Str} {mean : ExcName → Option Value} {mg mb : Str → Option Value} {R : Result → Shared → Prop} {name qual : Str} {params : Arguments} {body : List Stmt} {scope : Scope} {dV kV doc pm cdv ct oc : Value} {an od : Option Addr} {osl : Array (Option Value)} {f : Addr} {args : Args} {binds : List (Str × Value)}
    (B : Below A₀ base outer h₀) (F : Fr h₀ L s.heap m) (X₀ : K.In h₀) (N : News h₀ L s.heap news) (T : Top p loose mean mg mb h₀) (hA : A.frames = some (env :: outer)) (hf : env.frame = some L) (hke : env.scope.kind = .function)
    (ho : K.lookup f = some ⟨oc, od, .func (fnOf name qual params body scope dV kV doc pm an cdv ct), osl⟩) (hcd : codeIn K cdv qual = true) (hroom : A.depth < recursionLimit)
    (hbind : BindsTo s (fnOf name qual params body scope dV kV doc pm an cdv ct) args binds) (hloc : ∀ y ∈ binds, scope.names.lookup y.1 = some .local)
    (h : ∀ g L' h₁, Fr h₀ L g m → Fr g L' h₁ (fun y => binds.reverse.lookup y) → News g L' h₁ news → Below A base (env :: outer) g → K.In g → Top p loose mean mg mb g →
      wpAny (model PG w) (A.deeper (envOf qual scope L' f cdv)) (execs body (envOf qual scope L' f cdv))
        (fun fl s' => LeaveT h₀ L m g R (match fl with | .ret v => v | _ => .none) s')
        (fun e s' => wpAny (model PG w) (A.deeper (envOf qual scope L' f cdv)) (leaving (envOf qual scope L' f cdv) e) (fun _ s'' => R (.error e) s'') (fun e' s'' => R (.error e') s'') s')
        { s with heap := h₁, toks := s.toks + binds.length })
    (hco : scope.isCoroutine = false) (hgen : scope.isGenerator = false) (hk : scope.kind = .function)
    (hcell : ∀ x ∈ scope.names, x.2 ≠ .cell) : codeAny (model PG w) A (.call (.ref f) args) R s := by
  obtain ⟨FG, BG, st, lv⟩ := groundX (R := R) B F N hA hf hke
  refine codeAny_call_def (fd := fnX name qual params body scope [] dV kV doc pm an cdv ct) (body := body) (binds := binds) hroom ((X₀.keeps F.keep) _ _ ho) rfl (T.nolimit.keeps F.keep) (codeRec_of (X₀.keeps F.keep) hcd) rfl hbind hcell hloc (fun h₁ hns hk₁ => ?_) hco hgen hk
  exact wpAny_mono (h _ s.heap.objs.size h₁ FG ⟨hns, fun b o e => hk₁ b o (of_hideAll _ e), Nat.le_of_eq (hideAll_size _ _)⟩
    (fun p hp => ⟨hk₁ _ _ (N p hp).1, Nat.ne_of_lt (Heap.lt_size (N p hp).1), hideAll_none _ (List.mem_map_of_mem hp)⟩) BG (X₀.keeps st) (T.keeps st)) (fun fl s' hl => hl.elim (lv _ _) id) fun _ _ y => y
theorem caught_D {name : Str} {scope : Scope} {cd : Value} {b₀ : Stmt} {suite : List Stmt} {pos np : Pos} {hs : List ExceptHandler} {Q : Flow → Shared → Prop} {p : Program} {loose : List Str} {mg mb : Str → Option Value} {x : Str} {X T' : String}
    (K : Below A₀ base (env :: outer) g) (hfl : env.frame = some Ll) (FL : Fr base Ll g ml) (F : Fr g L h m) (hsm : h.UpToSlots s'.heap) (R : RaisedN base (envOf name scope L a cd :: env :: outer) e (.type X) news s'.heap)
    (T : TopRead p loose mg mb base) (hv : bootBuiltins x = some (.type T'))
    (hexc : isSubtype (.type T') (.type "BaseException") = pure true) (hnt : isSubtype (.type ((Manifest.find? T').elim "type" fun y => y.metatype)) (.type "tuple") = pure false) (hsub : isSubtype (.type X) (.type T') = pure true)
    (k : ∀ h', Fr base L h' m → Fr base Ll h' ml → News base L h' news → News base Ll h' news →
      wpAny (model PG w) ((A₀.deeper (envOf name scope L a cd)).mark (some (.ref e))) (execs (b₀ :: suite) (envOf name scope L a cd)) Q E { s' with heap := h' })
    (hfree : mg x = none) (hn : x ≠ "__name__" := by decide +kernel)
    (hk : scope.kind = .function := by rfl) (hx : (envOf name scope L a cd).kindOf x = some .globalImplicit := by rfl) (hd : (x == ("__debug__" : Str)) = false := by decide)
    (hE : PassesOwnAt (model PG w) ((A₀.deeper (envOf name scope L a cd)).mark (some (.ref e))) (A₀.deeper (envOf name scope L a cd)) (envOf name scope L a cd) E := by passes_own) :
    wpAny (model PG w) (A₀.deeper (envOf name scope L a cd)) (noteFrame (.ref e) (envOf name scope L a cd))
      (fun _ s₂ => wpAny (model PG w) (A₀.deeper (envOf name scope L a cd)) (setFlight (.ref e) none) (fun _ s₃ =>
        wpAny (model PG w) (A₀.deeper (envOf name scope L a cd)) (handleBy (.ref e) (envOf name scope L a cd) (.ExceptHandler (some (.Name x np)) none (b₀ :: suite) pos :: hs)) Q E s₃) E s₂) E s' := by
  have FB : Fr base L h m := ⟨F.ns, fun b o q => F.keep b o (K.stays b o q), Nat.le_trans FL.above (Nat.le_trans (Nat.le_of_lt FL.ns.lt) F.above)⟩
  have FLh : Fr base Ll h ml := ⟨FL.ns.at' fun o q => F.keep _ o q, fun b o q => F.keep b o (FL.keep b o q), FL.above⟩
  obtain ⟨B, a0, hB, hl, hfly⟩ := R
  have hL : B.get? L = none := by
    obtain ⟨_, ⟨L', _, hf, hn', _⟩, _⟩ := hfly.2.2.1
    obtain rfl : L = L' := Option.some.inj hf
    exact hn'
  have hLl : B.get? Ll = none := by
    obtain ⟨_, _, _, ⟨L', _, hf, hn', _⟩, _⟩ := hfly.2.2.1
    obtain rfl : Ll = L' := Option.some.inj (hfl.symm.trans hf)
    exact hn'
  refine wpAny_looks_onW (Around.frames_deeper K.stack) rfl hfly fun h₄ hheld₄ hsm₄ => ?_
  refine wpAny_landsW hheld₄ fun h₅ hheld hsm₅' => ?_
  have hsm₅ := hsm₄.trans hsm₅'
  have hheld' := flyingW_base hB hheld
  have F₅ := FB.of_stays hheld'.1 (hsm.trans hsm₅)
  obtain ⟨ob, hob, hobc⟩ := hheld'.there
  refine wpAny_handleBy_builtin (X := X) (T := T') (b := true) hexc hnt hsub (ld_builtin_at F₅ T.g hfree T.b ((T.builtins x hn).trans hv) ⟨rfl, ⟨ob, hob, hobc⟩, ?_⟩ hk hx hd)
  refine lands_againW hheld fun h₆ hfl₆ hsm₆ => ?_
  have st₆ := (flyingW_base hB hfl₆).1
  have F₆ := FB.of_stays st₆ ((hsm.trans hsm₅).trans hsm₆)
  have FL₆ := FLh.of_stays st₆ ((hsm.trans hsm₅).trans hsm₆)
  exact wpAny_passesOwnAt hE (k h₆ F₆ FL₆ (fun q hq => ⟨hfl₆.1 _ _ (hl q hq).1, (fun z => by have := (hl q hq).1; rw [z, hL] at this; cases this), (hl q hq).2⟩) fun q hq => ⟨hfl₆.1 _ _ (hl q hq).1, (fun z => by have := (hl q hq).1; rw [z, hLl] at this; cases this), (hl q hq).2⟩)
end
theorem lines_D7_0 : True := by
  (k_with "own:k_mem" => with_reducible_and_instances assumption)
  (k_with "own:mem" => first | with_reducible assumption | exact List.mem_cons_self | (refine List.mem_cons_of_mem _ ?_; k_extra "own:mem"))
  (k_with "own:sub" => first | exact fun _ h => h | exact fun _ h => .tail _ h | exact fun _ h => .tail _ (.tail _ h) | exact fun _ h => .tail _ (.tail _ (.tail _ h)) | exact fun _ h => .tail _ (.tail _ (.tail _ (.tail _ h))) | exact fun _ h => .tail _ (.tail _ (.tail _ (.tail _ (.tail _ h)))) | exact fun _ h => .tail _ (.tail _ (.tail _ (.tail _ (.tail _ (.tail _ h))))))
  (k_with "own:idx" => first | omega | (rw [Int.fdiv_eq_ediv_of_nonneg _ (by decide)]; omega))
  (k_with "own:len" => first | omega | (simp only [List.length_append, List.length_cons, List.length_nil] at *; omega))
  (k_with "call ref" => (k_here; (k_dflt (show wpAny _ _ (call (Value.ref 28) [Value.ref _, Value.ref _]) _ _ _)); k_dflt (refine' op0 ?k1 ?k2 ?k3 ?k4 ?k5 ?k6 ?k7 ?k8 ?k9 ?ka ?kb ?kc ?kd ?ke ?kf ?kg ?_ ?_; (case k1 => k_asm); (case k2 => k_asm); (case k3 => k_asm); (case k4 => k_asm); (case k5 => k_asm); (case k6 => first | exact rfl | assumption); (case k7 => ktr_room); (case k8 => ktr_units); (case k9 => assumption); (case ka => with_reducible assumption); (case kb => with_reducible assumption); (case kc => with_reducible assumption); (case kd => omega); (case ke => with_reducible assumption); (case kf => omega); (case kg => with_reducible assumption))))
  (k_with "call ref" => (k_here; (k_dflt (show wpAny _ _ (call (Value.ref 35) [Value.ref _]) _ _ _)); k_dflt (refine' op1 ?k1 ?k2 ?k3 ?k4 ?k5 ?k6 ?k7 ?k8 ?k9 ?ka ?kb ?kc ?kd ?ke ?kf ?kg ?_ ?_; (case k1 => k_asm); (case k2 => k_asm); (case k3 => k_asm); (case k4 => k_asm); (case k5 => k_asm); (case k6 => first | exact rfl | assumption); (case k7 => ktr_room); (case k8 => ktr_units); (case k9 => assumption); (case ka => with_reducible assumption); (case kb => with_reducible assumption); (case kc => with_reducible assumption); (case kd => omega); (case ke => with_reducible assumption); (case kf => omega); (case kg => with_reducible assumption))))
  (k_with "call ref" => (k_here; (k_dflt (show wpAny _ _ (call (Value.ref 42) [Value.ref _, Value.ref _]) _ _ _)); k_dflt (refine' op2 ?k1 ?k2 ?k3 ?k4 ?k5 ?k6 ?k7 ?k8 ?k9 ?ka ?kb ?kc ?kd ?ke ?kf ?kg ?_ ?_; (case k1 => k_asm); (case k2 => k_asm); (case k3 => k_asm); (case k4 => k_asm); (case k5 => k_asm); (case k6 => first | exact rfl | assumption); (case k7 => ktr_room); (case k8 => ktr_units); (case k9 => assumption); (case ka => with_reducible assumption); (case kb => with_reducible assumption); (case kc => with_reducible assumption); (case kd => omega); (case ke => with_reducible assumption); (case kf => omega); (case kg => with_reducible assumption))))
  (k_with "call ref" => (k_here; (k_dflt (show wpAny _ _ (call (Value.ref 49) [Value.ref _, Value.ref _]) _ _ _)); k_dflt (refine' op3 ?k1 ?k2 ?k3 ?k4 ?k5 ?k6 ?k7 ?k8 ?k9 ?ka ?kb ?kc ?kd ?ke ?kf ?kg ?_ ?_; (case k1 => k_asm); (case k2 => k_asm); (case k3 => k_asm); (case k4 => k_asm); (case k5 => k_asm); (case k6 => first | exact rfl | assumption); (case k7 => ktr_room); (case k8 => ktr_units); (case k9 => assumption); (case ka => with_reducible assumption); (case kb => with_reducible assumption); (case kc => with_reducible assumption); (case kd => omega); (case ke => with_reducible assumption); (case kf => omega); (case kg => with_reducible assumption))))
  trivial
set_option maxHeartbeats 2000000 in
theorem done_call {w : World} {p : Program} {loose : List Str} {mean : ExcName → Option Value} {mg mb : Str → Option Value} {dp un : Nat} {gd : Option (List Code)} {cn : Str} {cs : Scope} {a : Addr} {ccd : Value} {cl : List (Str × Addr)} {outer : List Env} {A₀ : Around} {h₀ : Heap} {L : Addr} {m : Str → Option Value} {rest : List (Addr × Obj)} {s : Shared}
    {Q E : Value → Shared → Prop} {row d ia : Addr} {vs : List Value} {ks : List Nat} {n x : Nat} {k z : Int} {t : Tok}
    (B : Below A₀ h₀ outer h₀) (F : Fr h₀ L s.heap m) (X : (KW w.params).In h₀) (N : News h₀ L s.heap ((row, accObj d vs.toArray n) :: rest)) (T : Top p loose mean mg mb h₀) (hk : cs.kind = .function)
    (hd : dp + 20 < recursionLimit) (hu : un + 300 < cLine) (G : AllBare s.gens) (R : Rest rest row d k) (hA : Are rest vs ks) (hpos : ∀ x ∈ ks, 0 < x) (hl : ks.length ≤ 900) (hi : PcAt rest ia x) (hx : 0 < x) (hkk : k = 0 ∨ ((ks.length : Int) < k ∧ k ≤ 10000)) (hz0 : 0 ≤ z) (hz3 : z ≤ 3)
    (ret : ∀ v vs' n' tl s', AnsAt (tl ++ rest) v (dAns z k ks x) → Are (tl ++ rest) vs' (dRow z k ks x) → (∀ p ∈ tl, ∃ T, p.2.cls = .type T) → Fr h₀ L s'.heap m → News h₀ L s'.heap ((row, accObj d vs'.toArray n') :: (tl ++ rest)) → AllBare s'.gens → s'.os = s.os → Q v s') :
    wpAny (model PG w) (ktrTop dp un gd cn cs L a ccd cl outer) (call (.ref 234) [.int z t, .ref row, .ref ia]) Q E s := by
  refine wpAny_call ?_
  k_dflt (refine' code_defT ?k1 ?k2 ?k3 ?k4 ?k5 ?kA ?kF ?kK ?k6 ?k7 ?k8 ?k9 ?kB ?_ ?c2 ?c3 ?c4 ?c5; (case kA => exact rfl); (case kF => exact rfl); (case kK => assumption); (case k1 => k_asm); (case k2 => k_asm); (case k3 => k_asm); (case k4 => k_asm); (case k5 => k_asm); (case k6 => k_is); (case k7 => k_is); (case k8 => ktr_room); (case k9 => exact BindsTo.of_eq rfl); (case c5 => decide); (case kB => exact locs rfl); (case c2 => exact rfl); (case c3 => exact rfl); (case c4 => exact rfl); k_whole; intro g' L' h' FG' F' N' B' X' T'; (try dsimp only); (try k_fold))
  k_steps
  · rename z = 0 => hz
    subst hz
    rename AnsAt _ _ _ => hans
    rename (_ = (_ : OsState)) => ho
    rename AllBare (Shared.gens _) => hg
    exact .inl (leaveK_ (by k_asm) (by k_asm) fun F₂ N₂ => ret _ _ _ _ _ hans (by with_reducible assumption) (by with_reducible assumption) F₂ N₂ (by with_reducible assumption) ho)
  · rename z = 0 => hz
    subst hz
    rename (_ = (_ : OsState)) => ho
    rename (_ = Ans.refused) => hans
    rename Heap.UpToSlots _ _ => hup
    rename RaisedN _ _ _ _ _ _ => hra
    rename Fr g' L' (_ : Heap) _ => hfr
    refine caught_D (T' := "IndexError") B' rfl FG' hfr hup hra (topRead_of T) PyProof.Rows.Boot.«IndexError» PySem.F.isExc_IndexError PySem.F.notTuple_IndexError (by rw [isSubtype_type]; kernel_rfl) ?_ (mg_none_of X (topRead_of T).g (by k_is))
    intro h₂ F₂ FL₂ N₂ NL₂
    k_steps
    exact .inr (ret _ _ _ _ _ (by rw [hans]; exact ⟨_, rfl⟩) (by with_reducible assumption) (by with_reducible assumption) FL₂ NL₂ (by with_reducible assumption) ho)
  · rename z = 1 => hz
    subst hz
    rename AnsAt _ _ _ => hans
    rename (_ = (_ : OsState)) => ho
    rename AllBare (Shared.gens _) => hg
    exact .inl (leaveK_ (by k_asm) (by k_asm) fun F₂ N₂ => ret _ _ _ _ _ hans (by with_reducible assumption) (by with_reducible assumption) F₂ N₂ (by with_reducible assumption) ho)
  · rename z = 1 => hz
    subst hz
    rename (_ = (_ : OsState)) => ho
    rename (_ = Ans.refused) => hans
    rename Heap.UpToSlots _ _ => hup
    rename RaisedN _ _ _ _ _ _ => hra
    rename Fr g' L' (_ : Heap) _ => hfr
    refine caught_D (T' := "IndexError") B' rfl FG' hfr hup hra (topRead_of T) PyProof.Rows.Boot.«IndexError» PySem.F.isExc_IndexError PySem.F.notTuple_IndexError (by rw [isSubtype_type]; kernel_rfl) ?_ (mg_none_of X (topRead_of T).g (by k_is))
    intro h₂ F₂ FL₂ N₂ NL₂
    k_steps
    exact .inr (ret _ _ _ _ _ (by rw [hans]; exact ⟨_, rfl⟩) (by with_reducible assumption) (by with_reducible assumption) FL₂ NL₂ (by with_reducible assumption) ho)
  · rename z = 2 => hz
    subst hz
    rename AnsAt _ _ _ => hans
    rename (_ = (_ : OsState)) => ho
    rename AllBare (Shared.gens _) => hg
    exact .inl (leaveK_ (by k_asm) (by k_asm) fun F₂ N₂ => ret _ _ _ _ _ hans (by with_reducible assumption) (by with_reducible assumption) F₂ N₂ (by with_reducible assumption) ho)
  · rename z = 2 => hz
    subst hz
    rename (_ = (_ : OsState)) => ho
    rename (_ = Ans.refused) => hans
    rename Heap.UpToSlots _ _ => hup
    rename RaisedN _ _ _ _ _ _ => hra
    rename Fr g' L' (_ : Heap) _ => hfr
    refine caught_D (T' := "IndexError") B' rfl FG' hfr hup hra (topRead_of T) PyProof.Rows.Boot.«IndexError» PySem.F.isExc_IndexError PySem.F.notTuple_IndexError (by rw [isSubtype_type]; kernel_rfl) ?_ (mg_none_of X (topRead_of T).g (by k_is))
    intro h₂ F₂ FL₂ N₂ NL₂
    k_steps
    exact .inr (ret _ _ _ _ _ (by rw [hans]; exact ⟨_, rfl⟩) (by with_reducible assumption) (by with_reducible assumption) FL₂ NL₂ (by with_reducible assumption) ho)
  · obtain rfl : z = 3 := by omega
    rename AnsAt _ _ _ => hans
    rename (_ = (_ : OsState)) => ho
    rename AllBare (Shared.gens _) => hg
    exact .inl (leaveK_ (by k_asm) (by k_asm) fun F₂ N₂ => ret _ _ _ _ _ hans (by with_reducible assumption) (by with_reducible assumption) F₂ N₂ (by with_reducible assumption) ho)
  · obtain rfl : z = 3 := by omega
    rename (_ = (_ : OsState)) => ho
    rename (_ = Ans.refused) => hans
    rename Heap.UpToSlots _ _ => hup
    rename RaisedN _ _ _ _ _ _ => hra
    rename Fr g' L' (_ : Heap) _ => hfr
    refine caught_D (T' := "IndexError") B' rfl FG' hfr hup hra (topRead_of T) PyProof.Rows.Boot.«IndexError» PySem.F.isExc_IndexError PySem.F.notTuple_IndexError (by rw [isSubtype_type]; kernel_rfl) ?_ (mg_none_of X (topRead_of T).g (by k_is))
    intro h₂ F₂ FL₂ N₂ NL₂
    k_steps
    exact .inr (ret _ _ _ _ _ (by rw [hans]; exact ⟨_, rfl⟩) (by with_reducible assumption) (by with_reducible assumption) FL₂ NL₂ (by with_reducible assumption) ho)
end Mine
end
section
open PySem PySem.W PyProof.Rows PySem.Spec PySem.Calls
set_option maxRecDepth 100000
namespace Mine
theorem start_V2 : True := by
  w_top off
  k_with_none
  (k_with "own:omega" => (first | with_reducible assumption | (refine' Mine.room2 ?h ?e; (case h => with_reducible assumption); (case e => decide)) | (refine' Mine.room1 ?h ?e; (case h => with_reducible assumption); (case e => decide)) | (refine' Mine.le_up ?h ?e; (case h => with_reducible assumption); (case e => decide)) | (refine' Mine.room0 ?h; (case h => with_reducible assumption)) | ((fail_if_success (fail_if_success omega (config := {}))); lia)))
  trivial
theorem getD_set {L : List Nat} {i : Nat} (h : i < L.length) (v j : Nat) : (L.set i v).getD j 0 = if i = j then v else L.getD j 0 := by
  rw [List.getD_eq_getElem?_getD, List.getElem?_set]
  by_cases e : i = j
  · subst e; simp [h]
  · simp [e]
/-- the places under s -/
inductive Desc (s : Nat) : Nat → Prop
  | refl : Desc s s
  | step {q p : Nat} : Desc s q → (p = 2 * q + 1 ∨ p = 2 * q + 2) → Desc s p
theorem Desc.le {s p : Nat} (h : Desc s p) : s ≤ p := by
  induction h with
  | refl => exact Nat.le_refl _
  | step _ e ih => omega
theorem Desc.up {s p : Nat} (h : Desc s p) (hne : p ≠ s) : Desc s ((p - 1) / 2) := by
  cases h with
  | refl => exact absurd rfl hne
  | @step q _ hq e => rw [show (p - 1) / 2 = q by omega]; exact hq
theorem desc0 : ∀ p, Desc 0 p := by
  intro p
  induction p using Nat.strongRecOn with
  | _ p ih =>
    rcases Nat.eq_zero_or_pos p with rfl | h
    · exact .refl
    · exact .step (ih ((p - 1) / 2) (by omega)) (by omega)
/-- order under s, but at the hole p -/
noncomputable def Rel (s : Nat) (L : List Nat) (p : Nat) : Prop := ∀ k, 1 ≤ k → k < L.length → s ≤ (k - 1) / 2 → k ≠ p → (k - 1) / 2 ≠ p → L.getD ((k - 1) / 2) 0 ≤ L.getD k 0
noncomputable def Cross (s : Nat) (L : List Nat) (p : Nat) : Prop := p ≠ s → ∀ k, 1 ≤ k → k < L.length → (k - 1) / 2 = p → L.getD ((p - 1) / 2) 0 ≤ L.getD k 0
noncomputable def Hp (s : Nat) (L : List Nat) : Prop := ∀ k, 1 ≤ k → k < L.length → s ≤ (k - 1) / 2 → L.getD ((k - 1) / 2) 0 ≤ L.getD k 0
theorem Hp.heap {L : List Nat} (h : Hp 0 L) : IsHeap L := fun k h1 h2 => h k h1 h2 (Nat.zero_le _)
theorem IsHeap.hp {L : List Nat} (h : IsHeap L) : Hp 0 L := fun k h1 h2 _ => h k h1 h2
theorem sd_hp (x s : Nat) : ∀ (p : Nat) (L : List Nat), p < L.length → Desc s p → Rel s L p → Cross s L p → (∀ k, 1 ≤ k → k < L.length → (k - 1) / 2 = p → x ≤ L.getD k 0) → Hp s (sd x s p L) := by
  intro p
  induction p using Nat.strongRecOn with
  | _ p ih =>
    intro L hp hd hr hc hx
    rw [sd]
    have fin : (s < p → ¬ x < L.getD ((p - 1) / 2) 0) → Hp s (L.set p x) := by
      intro hn k h1 h2 h3
      rw [List.length_set] at h2
      rw [getD_set hp, getD_set hp]
      by_cases e1 : p = (k - 1) / 2
      · rw [if_pos e1, if_neg (by omega)]
        exact hx k h1 h2 e1.symm
      · rw [if_neg e1]
        by_cases e2 : p = k
        · subst e2
          rw [if_pos rfl]
          exact Nat.not_lt.mp (hn (by omega))
        · rw [if_neg e2]
          exact hr k h1 h2 h3 (Ne.symm e2) (Ne.symm e1)
    by_cases hsp : s < p
    · rw [if_pos hsp]
      by_cases hlt : x < L.getD ((p - 1) / 2) 0
      · rw [if_pos hlt]
        have hup := hd.up (by omega)
        have hq := hup.le
        refine ih ((p - 1) / 2) (by omega) _ (by rw [List.length_set]; omega) hup ?_ ?_ ?_
        · intro k h1 h2 h3 h4 h5
          rw [List.length_set] at h2
          rw [getD_set hp, getD_set hp]
          by_cases e1 : p = (k - 1) / 2
          · rw [if_pos e1, if_neg (by omega)]
            exact hc (by omega) k h1 h2 e1.symm
          · rw [if_neg e1, if_neg (by rintro rfl; exact h5 rfl)]
            exact hr k h1 h2 h3 (by rintro rfl; exact h5 rfl) (Ne.symm e1)
        · intro hne k h1 h2 h3
          rw [List.length_set] at h2
          rw [getD_set hp, getD_set hp, if_neg (by omega)]
          have h6 : L.getD (((p - 1) / 2 - 1) / 2) 0 ≤ L.getD ((p - 1) / 2) 0 := hr ((p - 1) / 2) (by omega) (by omega) (hup.up hne).le (by omega) (by omega)
          by_cases e2 : p = k
          · rw [if_pos e2]; exact h6
          · rw [if_neg e2]
            have := hr k h1 h2 (by omega) (Ne.symm e2) (by omega)
            rw [h3] at this
            omega
        · intro k h1 h2 h3
          rw [List.length_set] at h2
          rw [getD_set hp]
          by_cases e2 : p = k
          · rw [if_pos e2]; omega
          · rw [if_neg e2]
            have := hr k h1 h2 (by omega) (Ne.symm e2) (by omega)
            rw [h3] at this
            omega
      · rw [if_neg hlt]; exact fin fun _ => hlt
    · rw [if_neg hsp]; exact fin fun h => absurd h hsp
theorem suGo_hp (s n : Nat) : ∀ (q p : Nat) (L : List Nat), n - p = q → L.length = n → p < n → Desc s p → Rel s L p → Cross s L p →
    (suGo n p L).1 < n ∧ (suGo n p L).2.length = n ∧ Desc s (suGo n p L).1 ∧ Rel s (suGo n p L).2 (suGo n p L).1 ∧ Cross s (suGo n p L).2 (suGo n p L).1 ∧ n ≤ 2 * (suGo n p L).1 + 1 := by
  intro q
  induction q using Nat.strongRecOn with
  | _ q ih =>
    intro p L hq hl hp hd hr hc
    rw [suGo]
    split
    · rename_i hlt
      have c1 := chd_lt n p L
      have c2 := chd_lt_len (ks := L) hlt
      have c3 : chd n p L = 2 * p + 1 ∨ chd n p L = 2 * p + 2 := by unfold chd; split <;> omega
      have c4 : ∀ k, 1 ≤ k → k < n → (k - 1) / 2 = p → L.getD (chd n p L) 0 ≤ L.getD k 0 := by
        intro k h1 h2 h3
        have hk : k = 2 * p + 1 ∨ k = 2 * p + 2 := by omega
        unfold chd
        by_cases hcc : 2 * p + 2 < n ∧ ¬ L.getD (2 * p + 1) 0 < L.getD (2 * p + 2) 0
        · rw [if_pos hcc]
          rcases hk with rfl | rfl
          · omega
          · exact Nat.le_refl _
        · rw [if_neg hcc]
          rcases hk with rfl | rfl
          · exact Nat.le_refl _
          · rcases Nat.lt_or_ge (L.getD (2 * p + 1) 0) (L.getD (2 * p + 2) 0) with h | h
            · omega
            · exact absurd ⟨h2, by omega⟩ hcc
      have hpl : p < L.length := by omega
      generalize chd n p L = c at *
      have hpc : (c - 1) / 2 = p := by omega
      have hs := hd.le
      refine ih (n - c) (by omega) c _ rfl (by rw [List.length_set]; exact hl) c2 (.step hd c3) ?_ ?_
      · intro k h1 h2 h3 h4 h5
        rw [List.length_set] at h2
        rw [getD_set hpl, getD_set hpl]
        by_cases e1 : p = (k - 1) / 2
        · rw [if_pos e1, if_neg (by omega)]
          exact c4 k h1 (by omega) e1.symm
        · rw [if_neg e1]
          by_cases e2 : p = k
          · subst e2
            rw [if_pos rfl]
            exact hc (by omega) c (by omega) (by omega) hpc
          · rw [if_neg e2]
            exact hr k h1 h2 h3 (Ne.symm e2) (Ne.symm e1)
      · intro _ k h1 h2 h3
        rw [List.length_set] at h2
        rw [hpc, getD_set hpl, getD_set hpl, if_pos rfl, if_neg (by omega)]
        have := hr k h1 h2 (by omega) (by omega) (by omega)
        rw [h3] at this
        exact this
    · exact ⟨hp, hl, hd, hr, hc, by omega⟩
theorem su_hp {p : Nat} {L : List Nat} (hp : p < L.length) (h : Hp (p + 1) L) : Hp p (su p L) := by
  have hr : Rel p L p := fun k h1 h2 h3 h4 h5 => h k h1 h2 (by omega)
  obtain ⟨a1, a2, a3, a4, a5, a6⟩ := suGo_hp p L.length _ p L rfl rfl hp .refl hr (fun h => absurd rfl h)
  unfold su
  generalize hg : suGo L.length p L = r at *
  obtain ⟨e, M⟩ := r
  dsimp only at *
  refine sd_hp _ _ _ _ (by rw [List.length_set]; omega) a3 ?_ ?_ ?_
  · intro k h1 h2 h3 h4 h5
    rw [List.length_set] at h2
    rw [getD_set (by omega), getD_set (by omega), if_neg (Ne.symm h5), if_neg (Ne.symm h4)]
    exact a4 k h1 h2 h3 h4 h5
  · intro _ k h1 h2 h3
    rw [List.length_set] at h2
    omega
  · intro k h1 h2 h3
    rw [List.length_set] at h2
    omega
theorem hfy_hp : ∀ (i : Nat) (L : List Nat), i ≤ L.length → Hp i L → Hp 0 (hfy i L)
  | 0, _, _, h => h
  | i + 1, L, hi, h => hfy_hp i (su i L) (by rw [su_length (by omega)]; omega) (su_hp (by omega) h)
/-- heapify makes a heap -/
theorem hfy_heap (L : List Nat) : IsHeap (hfy (L.length / 2) L) := (hfy_hp (L.length / 2) L (by omega) fun k h1 h2 h3 => by omega).heap
/-- a push keeps a heap -/
theorem push_heap {L : List Nat} (h : IsHeap L) (x : Nat) : IsHeap (sd x 0 L.length (L ++ [x])) := by
  refine (sd_hp x 0 L.length (L ++ [x]) (by simp) (desc0 _) ?_ ?_ ?_).heap
  · intro k h1 h2 h3 h4 h5
    have hk : k < L.length := by simp at h2; omega
    have e : ∀ i, i < L.length → (L ++ [x]).getD i 0 = L.getD i 0 := fun i hi => by simp [List.getD_eq_getElem?_getD, List.getElem?_append_left hi]
    rw [e _ (by omega), e _ hk]
    exact h k h1 hk
  · intro _ k h1 h2 h3
    simp at h2; omega
  · intro k h1 h2 h3
    simp at h2; omega
theorem push_perm (L : List Nat) (x : Nat) : (sd x 0 L.length (L ++ [x])).Perm (L ++ [x]) := by
  have := sd_perm x 0 L.length (L ++ [x]) (by simp)
  have e : (L ++ [x]).set L.length x = L ++ [x] := by simp
  rw [e] at this
  exact this
/-- another head, sifted -/
theorem head_heap {L : List Nat} (h : IsHeap L) (h0 : 0 < L.length) (x : Nat) : IsHeap (su 0 (L.set 0 x)) := by
  refine (su_hp (by simpa using h0) fun k h1 h2 h3 => ?_).heap
  rw [List.length_set] at h2
  rw [getD_set h0, getD_set h0, if_neg (by omega), if_neg (by omega)]
  exact h k h1 h2
theorem head_perm {L : List Nat} (h0 : 0 < L.length) (x : Nat) : (su 0 (L.set 0 x)).Perm (L.drop 1 ++ [x]) := by
  refine (su_perm (by simpa using h0)).trans ?_
  cases L with
  | nil => simp at h0
  | cons a r => simpa using (List.perm_append_singleton x r).symm
/-- the head is the least -/
theorem head_le {L : List Nat} (h : IsHeap L) : ∀ k, k < L.length → L.getD 0 0 ≤ L.getD k 0 := by
  intro k
  induction k using Nat.strongRecOn with
  | _ k ih =>
    intro hk
    rcases Nat.eq_zero_or_pos k with rfl | h1
    · exact Nat.le_refl _
    · exact Nat.le_trans (ih ((k - 1) / 2) (by omega) (by omega)) (h k h1 hk)
end Mine
end
section
open PySem PySem.W PyProof.Rows PySem.Spec PySem.Calls
set_option maxRecDepth 100000
namespace Mine
theorem start_V4 : True := by
  w_top off
  k_with_none
  (k_with "own:omega" => (first | with_reducible assumption | (refine' Mine.room2 ?h ?e; (case h => with_reducible assumption); (case e => decide)) | (refine' Mine.room1 ?h ?e; (case h => with_reducible assumption); (case e => decide)) | (refine' Mine.le_up ?h ?e; (case h => with_reducible assumption); (case e => decide)) | (refine' Mine.room0 ?h; (case h => with_reducible assumption)) | ((fail_if_success (fail_if_success omega (config := {}))); lia)))
  trivial
theorem head_eq {ks js : List Nat} (hp : js.Perm ks) (hs : js.Pairwise (· ≤ ·)) (hh : IsHeap ks) : js.getD 0 0 = ks.getD 0 0 := by
  cases js with
  | nil => rw [hp.nil_eq]
  | cons h r =>
    have hl := hp.length_eq
    have h0 : 0 < ks.length := by simp at hl; omega
    have e : ks.getD 0 0 = ks[0] := by simp [h0]
    have m1 : ks[0] ∈ h :: r := hp.mem_iff.mpr (List.getElem_mem _)
    have m2 : h ∈ ks := hp.mem_iff.mp (.head _)
    obtain ⟨i, hi, ei⟩ := List.getElem_of_mem m2
    have l1 := head_le hh i hi
    have ei' : ks.getD i 0 = h := by simp [hi, ei]
    rw [ei'] at l1
    have l2 : h ≤ ks.getD 0 0 := by
      rw [e]
      rcases List.mem_cons.mp m1 with h' | h'
      · omega
      · exact (List.pairwise_cons.mp hs).1 _ h'
    show h = _
    omega
theorem tail_perm {ks js : List Nat} (hp : js.Perm ks) (hs : js.Pairwise (· ≤ ·)) (hh : IsHeap ks) : (js.drop 1).Perm (ks.drop 1) := by
  have e := head_eq hp hs hh
  cases js with
  | nil => rw [← hp.nil_eq]
  | cons a r =>
    cases ks with
    | nil => simp at hp
    | cons b t =>
      have : a = b := e
      subst this
      exact List.Perm.cons_inv hp
theorem nil_iff {ks js : List Nat} (hp : js.Perm ks) : js = [] ↔ ks = [] := by
  constructor
  · rintro rfl; exact hp.nil_eq.symm
  · rintro rfl; exact hp.eq_nil
theorem told_ans {z : Int} {ks js : List Nat} {x : Nat} (hz0 : 0 ≤ z) (hz3 : z ≤ 3) (hp : js.Perm ks) (hs : js.Pairwise (· ≤ ·)) (hh : IsHeap ks) : dAns z 0 ks x = tAns z js x := by
  have e := head_eq hp hs hh
  have en := nil_iff hp
  unfold dAns tAns
  rw [if_pos rfl, e]
  by_cases z0 : z = 0
  · simp [z0]
  · by_cases z1 : z = 1
    · simp [z1]
    · rw [if_neg z0, if_neg z1, if_neg z0, if_neg z1]
      by_cases hk : ks = []
      · have hj := en.mpr hk
        by_cases z2 : z = 2
        · simp [hk, hj, z2]
        · have z3 : z = 3 := by omega
          simp [hk, hj, z3]
      · have hj : ¬ js = [] := fun h => hk (en.mp h)
        simp only [hk, hj, if_false, and_false, false_or, Nat.not_lt]
theorem told_row {z : Int} {ks js : List Nat} {x : Nat} (hz0 : 0 ≤ z) (hz3 : z ≤ 3) (hp : js.Perm ks) (hs : js.Pairwise (· ≤ ·)) (hh : IsHeap ks) : (dRow z 0 ks x).Perm (tBag z js x) ∧ IsHeap (dRow z 0 ks x) := by
  have e := head_eq hp hs hh
  have en := nil_iff hp
  have et := tail_perm hp hs hh
  have hn : IsHeap [] := fun k h1 h2 => by simp at h2
  unfold dRow tBag
  by_cases z0 : z = 0
  · rw [if_pos z0, if_pos z0, if_pos rfl]
    exact ⟨(push_perm ks x).trans (hp.symm.append_right _), push_heap hh x⟩
  · rw [if_neg z0, if_neg z0]
    by_cases z1 : z = 1
    · rw [if_pos z1, if_pos z1]
      by_cases hl : ks.length ≤ 1
      · rw [if_pos hl]
        have : js.drop 1 = [] := by rw [List.drop_eq_nil_iff, hp.length_eq]; exact hl
        rw [this]
        exact ⟨.refl _, hn⟩
      · rw [if_neg hl, if_pos rfl]
        have hne : ks ≠ [] := by rintro rfl; simp at hl
        obtain ⟨k₀, y, rfl⟩ : ∃ k₀ y, ks = k₀ ++ [y] := ⟨ks.dropLast, ks.getLast hne, (List.dropLast_concat_getLast _).symm⟩
        have e1 : (k₀ ++ [y]).dropLast = k₀ := List.dropLast_concat
        have e2 : (k₀ ++ [y]).getLastD 0 = y := by rw [List.getLastD_eq_getLast?, List.getLast?_concat]; rfl
        have hk0 : 0 < k₀.length := by simp only [List.length_append, List.length_cons, List.length_nil] at hl; omega
        rw [e1, e2]
        have hh₀ : IsHeap k₀ := fun k h1 h2 => by
          have := hh k h1 (by simp; omega)
          have ea : ∀ i, i < k₀.length → (k₀ ++ [y]).getD i 0 = k₀.getD i 0 := fun i hi => by simp [List.getD_eq_getElem?_getD, List.getElem?_append_left hi]
          rw [ea _ (by omega), ea _ h2] at this
          exact this
        refine ⟨(head_perm hk0 y).trans ?_, head_heap hh₀ hk0 y⟩
        have : (k₀ ++ [y]).drop 1 = k₀.drop 1 ++ [y] := by rw [List.drop_append_of_le_length (by omega)]
        rw [← this]
        exact et.symm
    · rw [if_neg z1, if_neg z1]
      by_cases hk : ks = []
      · have hj := en.mpr hk
        rw [if_pos hk]
        subst hj
        refine ⟨?_, hn⟩
        by_cases z2 : z = 2
        · simp [z2]
        · have z3 : z = 3 := by omega
          simp [z3]
      · have hj : ¬ js = [] := fun h => hk (en.mp h)
        have h0 : 0 < ks.length := List.length_pos_iff.mpr hk
        rw [if_neg hk, if_neg (show ¬ (z = 2 ∧ js = []) from fun h => hj h.2), e]
        by_cases h3 : z = 3 ∧ ¬ ks.getD 0 0 < x
        · rw [if_pos h3, if_pos ⟨h3.1, .inr (by omega)⟩]
          exact ⟨hp.symm, hh⟩
        · have h4 : ¬ (z = 3 ∧ (js = [] ∨ x ≤ ks.getD 0 0)) := fun hb => by
            rcases hb.2 with b | b
            · exact hj b
            · exact h3 ⟨hb.1, by omega⟩
          rw [if_neg h3, if_neg h4, if_pos rfl]
          exact ⟨(head_perm h0 x).trans (et.symm.append_right _), head_heap hh h0 x⟩
theorem broken_ans {z k : Int} {ks : List Nat} {x : Nat} (hk : k ≠ 0) : dAns z k ks x = bAns z ks x := by
  unfold dAns bAns
  rw [if_neg hk]
  simp only [Nat.not_lt]
theorem set0 {ks : List Nat} (h : ks ≠ []) (x : Nat) : ks.set 0 x = [x] ++ ks.drop 1 := by
  cases ks with
  | nil => exact absurd rfl h
  | cons a r => rfl
theorem cut_last (l : List Nat) (y : Nat) : cut (some (-1)) none (l ++ [y]) = [y] := by
  unfold cut
  have e : clipAt (l ++ [y]).length (-1) = l.length := by have := clipAt_cast (l ++ [y]).length (-1); simp at this ⊢; omega
  simp only [Option.elim, e]
  simp
theorem cut_mid (a : Nat) (r : List Nat) (y : Nat) : cut (some 1) (some (-1)) (a :: r ++ [y]) = r := by
  unfold cut
  have e1 : clipAt (a :: r ++ [y]).length (-1) = r.length + 1 := by have := clipAt_cast (a :: r ++ [y]).length (-1); simp at this ⊢; omega
  have e2 : clipAt (a :: r ++ [y]).length 1 = 1 := by have := clipAt_cast (a :: r ++ [y]).length 1; simp at this ⊢; omega
  simp only [Option.elim, e1, e2]
  simp
theorem broken_row {z k : Int} {ks : List Nat} {x : Nat} (hz0 : 0 ≤ z) (hz3 : z ≤ 3) (hk : k ≠ 0) : dRow z k ks x = bRow z ks x := by
  unfold dRow bRow
  by_cases z0 : z = 0
  · rw [if_pos z0, if_pos z0, if_neg hk]
  · rw [if_neg z0, if_neg z0]
    by_cases z1 : z = 1
    · rw [if_pos z1, if_pos z1]
      by_cases hl : ks.length ≤ 1
      · rw [if_pos hl, if_neg (by omega)]
      · rw [if_neg hl, if_neg hk, if_pos (by omega)]
        have hne : ks ≠ [] := by rintro rfl; simp at hl
        obtain ⟨k₀, y, rfl⟩ : ∃ k₀ y, ks = k₀ ++ [y] := ⟨ks.dropLast, ks.getLast hne, (List.dropLast_concat_getLast _).symm⟩
        cases k₀ with
        | nil => simp at hl
        | cons a r =>
          have e1 : (a :: r ++ [y]).dropLast = a :: r := List.dropLast_concat
          have e2 : (a :: r ++ [y]).getLastD 0 = y := by rw [List.getLastD_eq_getLast?, List.getLast?_concat]; rfl
          rw [e1, e2, cut_last, cut_mid]
          unfold slide
          simp
    · rw [if_neg z1, if_neg z1]
      by_cases hn : ks = []
      · rw [if_pos hn, if_pos hn]
      · rw [if_neg hn, if_neg hn]
        simp only [Nat.not_lt]
        by_cases h3 : z = 3 ∧ x ≤ ks.getD 0 0
        · rw [if_pos h3, if_pos h3]
        · rw [if_neg h3, if_neg h3, if_neg hk, ← set0 hn]
          unfold slide
          rw [List.length_set]
theorem tBag_len (z : Int) (js : List Nat) (x : Nat) : (tBag z js x).length ≤ js.length + 1 := by
  unfold tBag
  repeat' split
  all_goals simp
  all_goals omega
theorem tBag_pos {z : Int} {js : List Nat} {x : Nat} (h : ∀ y ∈ js, 0 < y) (hx : 0 < x) : ∀ y ∈ tBag z js x, 0 < y := by
  intro y hy
  unfold tBag at hy
  have hd : ∀ y ∈ js.drop 1, 0 < y := fun y hy => h y (List.mem_of_mem_drop hy)
  repeat' split at hy
  all_goals first
    | exact h y hy
    | exact hd y hy
    | (rcases List.mem_append.mp hy with h' | h'; (first | exact h y h' | exact hd y h'); (rw [List.mem_singleton.mp h']; exact hx))
    | (exact absurd hy (by simp))
theorem slide_len (ks : List Nat) : (slide ks).length = ks.length := slid_length _ _ 0 ks rfl
theorem slide_pos {ks : List Nat} (h : ∀ y ∈ ks, 0 < y) : ∀ y ∈ slide ks, 0 < y := slid_pos _ _ 0 ks rfl rfl h
theorem cut_mem {lo hi : Option Int} {ks : List Nat} : ∀ y ∈ cut lo hi ks, y ∈ ks := fun y hy => List.mem_of_mem_drop (List.mem_of_mem_take hy)
theorem bRow_pos {z : Int} {ks : List Nat} {x : Nat} (h : ∀ y ∈ ks, 0 < y) (hx : 0 < x) : ∀ y ∈ bRow z ks x, 0 < y := by
  have h1 : ∀ l : List Nat, (∀ y ∈ l, y ∈ ks) → ∀ y ∈ l ++ [x], 0 < y := fun l hl y hy => by
    rcases List.mem_append.mp hy with h' | h'
    · exact h y (hl y h')
    · rw [List.mem_singleton.mp h']; exact hx
  unfold bRow
  repeat' split
  · exact h1 ks fun _ h => h
  · refine slide_pos fun y hy => h y ?_
    rcases List.mem_append.mp hy with h' | h' <;> exact cut_mem y h'
  · exact fun y hy => absurd hy (by simp)
  · exact fun y hy => absurd hy (by simp)
  · exact h
  · refine slide_pos fun y hy => ?_
    rcases List.mem_append.mp hy with h' | h'
    · rw [List.mem_singleton.mp h']; exact hx
    · exact h y (List.mem_of_mem_drop h')
theorem bRow_len (z : Int) (ks : List Nat) (x : Nat) : (bRow z ks x).length ≤ 2 * ks.length + 1 := by
  have c1 := cut_le (some (-1)) none ks
  have c2 := cut_le (some 1) (some (-1)) ks
  unfold bRow
  repeat' split
  all_goals simp [slide_len]
  all_goals omega
end Mine
end
section
open PySem PySem.W PyProof.Rows PySem.Spec PySem.Calls
set_option maxRecDepth 100000
namespace Mine
theorem start_F3 : True := by
  w_top off
  k_with_none
  (k_with "own:omega" => (first | with_reducible assumption | (refine' Mine.room2 ?h ?e; (case h => with_reducible assumption); (case e => decide)) | (refine' Mine.room1 ?h ?e; (case h => with_reducible assumption); (case e => decide)) | (refine' Mine.le_up ?h ?e; (case h => with_reducible assumption); (case e => decide)) | (refine' Mine.room0 ?h; (case h => with_reducible assumption)) | ((fail_if_success (fail_if_success omega (config := {}))); lia)))
  trivial
/-- these values are triples -/
noncomputable def Trips (news : List (Addr × Obj)) : List Value → List (Value × Value × Value) → Prop
  | [], [] => True
  | v :: vs, q :: qs => (∃ a, v = .ref a ∧ (a, ({ cls := .type "tuple", data := .seq #[q.1, q.2.1, q.2.2] } : Obj)) ∈ news) ∧ Trips news vs qs
  | _, _ => False
theorem Trips.at {news : List (Addr × Obj)} : ∀ {vs : List Value} {qs : List (Value × Value × Value)} {i : Nat}, Trips news vs qs → i < vs.length → ∃ a x y z, vs[i]? = some (.ref a) ∧ qs[i]? = some (x, y, z) ∧ (a, ({ cls := .type "tuple", data := .seq #[x, y, z] } : Obj)) ∈ news
  | _ :: _, (x, y, z) :: _, 0, ⟨⟨a, e, h⟩, _⟩, _ => ⟨a, x, y, z, by rw [e]; rfl, rfl, h⟩
  | _ :: _, _ :: _, i + 1, ⟨_, r⟩, hi => by
    obtain ⟨a, x, y, z, h1, h2, h3⟩ := Trips.at r (by simpa using hi)
    exact ⟨a, x, y, z, by simpa using h1, by simpa using h2, h3⟩
section
variable {w : World} {A : Around} {E : Value → Shared → Prop} {s : Shared} {env : Env} {h₀ : Heap} {m : Str → Option Value} {news : List (Addr × Obj)}
/-- a for loop over a plain list of triples -/
theorem loop3 {Q : Flow → Shared → Prop} {xa xb xc : Str} {pa pb pc pt : Pos} {kt : Nat} {body : List Stmt} {I L l : Addr} {c : Nat} {vs : List Value} {qs : List (Value × Value × Value)} (J : Nat → Array GenState → OsState → (Str → Option Value) → List (Addr × Obj) → Prop)
    (hh : A.handled = none) (hxa : env.kindOf xa = some .local) (hxb : env.kindOf xb = some .local) (hxc : env.kindOf xc = some .local) (hp : (env.scope.kind == .class || (env.scope.kind == .module && env.locals != env.globals)) = false)
    (hIL : I ≠ L) (hI : h₀.get? I = none) (hst : s.heap.IsListIter I l 0) (F : Fr h₀ L s.heap m) (N : News h₀ L s.heap news) (hoff : ∀ p ∈ news, p.1 ≠ I) (h0 : J 0 s.gens s.os m news)
    (hJ : ∀ i g os m₁ n₁, J i g os m₁ n₁ → (l, listOf vs.toArray c) ∈ n₁ ∧ Trips n₁ vs qs)
    (step : ∀ i x y z₀ s₁ m₁ news₁, i < vs.length → qs[i]? = some (x, y, z₀) → s₁.heap.IsListIter I l (i + 1) → Fr h₀ L s₁.heap (fun z => if z = xc then some z₀ else if z = xb then some y else if z = xa then some x else m₁ z) → News h₀ L s₁.heap news₁ → (∀ p ∈ news₁, p.1 ≠ I) → J i s₁.gens s₁.os m₁ news₁ →
      wpAny (model PG w) A (execs body env) (TurnEnd h₀ L I (fun j h => h.IsListIter I l j) J Q i) E s₁)
    (hQ : ∀ s' m' news', Fr h₀ L s'.heap m' → News h₀ L s'.heap news' → J vs.length s'.gens s'.os m' news' → Q .next s')
    (hloc : env.locals = L := by rfl) (hE : PassesOwn (model PG w) A env E := by passes_own) :
    codeAny (model PG w) A (.forLoop (.Tuple [.Name xa pa, .Name xb pb, .Name xc pc] kt pt) (.ref I) body [] env) (fun r s' => match r with | .ok f => Q f s' | .error e => cameBackBy (model PG w) A env E e s') s := by
  subst hloc
  refine codeAny_forLoop_any (fun k s' => ∃ m' news' i, s'.heap.IsListIter I l i ∧ Fr h₀ env.locals s'.heap m' ∧ News h₀ env.locals s'.heap news' ∧ (∀ p ∈ news', p.1 ≠ I) ∧ J i s'.gens s'.os m' news' ∧ i ≤ vs.length ∧ k = vs.length + 1 - i) ?_ (vs.length + 1)
    ⟨m, news, 0, hst, F, N, hoff, h0, Nat.zero_le _, rfl⟩
  rintro k s' ⟨m', news', i, hst', F', N', hoff', hJ', hi, rfl⟩
  obtain ⟨hl, hP⟩ := hJ _ _ _ _ _ hJ'
  have hsq : SeqAt s'.heap l vs.toArray := ⟨_, _, N'.get hl, rfl⟩
  have keep : ∀ h₁ : Heap, (∀ b o, b ≠ I → s'.heap.get? b = some o → h₁.get? b = some o) → Fr h₀ env.locals h₁ m' ∧ News h₀ env.locals h₁ news' := fun h₁ hk₁ =>
    ⟨⟨F'.ns.at' fun o e => hk₁ _ o hIL.symm e, fun b o e => hk₁ b o (by intro q; rw [q, hI] at e; cases e) (F'.keep b o e), F'.above⟩, fun p hp => ⟨hk₁ _ _ (hoff' p hp) (N' p hp).1, (N' p hp).2⟩⟩
  by_cases hlt : i < vs.length
  · obtain ⟨a, x, y, z₀, e1, e2, e3⟩ := Trips.at hP hlt
    refine seq_next hst' hsq (by simpa using e1) fun h₁ hit₁ hs₁ => ?_
    obtain ⟨F₁, N₁⟩ := keep h₁ fun b o hb e => (hs₁.2 b hb).trans e
    refine wpAny_letOwnedTupleGo_listiter (s := { s' with heap := h₁ }) hit₁ ?_
    have ht : IsTup h₁ a #[x, y, z₀] := ⟨_, N₁.get e3, rfl, _, rfl⟩
    refine assign_Tuple_tuple (s := { s' with heap := h₁ }) hh ht rfl rfl fun h₂ he => ?_
    have F₂ := F₁.extBut he (Nat.le_refl _)
    have N₂ : News h₀ env.locals h₂ news' := fun p hp => ⟨he _ _ (Nat.ne_of_lt (Heap.lt_size (N₁ p hp).1)) (N₁ p hp).1, (N₁ p hp).2⟩
    have hit₂ : h₂.IsListIter I l (i + 1) := hit₁.at fun o e => he _ _ (Nat.ne_of_lt (Heap.lt_size e)) e
    refine assignInOrder_cons (wpAny_assign_Name (wpAny_storeName_local hxa F₂.ns (fun h₃ hn₃ hs₃ => ?_) hp))
    have F₃ := F₂.set hn₃ hs₃
    have hit₃ : h₃.IsListIter I l (i + 1) := hit₂.at fun o e => (hs₃.2 _ hIL).trans e
    refine assignInOrder_cons (wpAny_assign_Name (wpAny_storeName_local hxb F₃.ns (fun h₄ hn₄ hs₄ => ?_) hp))
    have F₄ := F₃.set hn₄ hs₄
    have hit₄ : h₄.IsListIter I l (i + 1) := hit₃.at fun o e => (hs₄.2 _ hIL).trans e
    refine assignInOrder_cons (wpAny_assign_Name (wpAny_storeName_local hxc F₄.ns (fun h₅ hn₅ hs₅ => ?_) hp))
    have F₅ := F₄.set hn₅ hs₅
    have hit₅ : h₅.IsListIter I l (i + 1) := hit₄.at fun o e => (hs₅.2 _ hIL).trans e
    refine assignInOrder_nil ?_
    refine wpAny_mono (wpAny_passesOwn hE (step i x y z₀ { s' with heap := h₅, toks := _ } m' news' hlt e2 hit₅ F₅ (((N₂.set hs₃).set hs₄).set hs₅) hoff' hJ')) (fun f s₃ h₃ => ?_) fun _ _ e => e
    cases f with
    | next => obtain ⟨m₂, news₂, F₃, N₃, ho₃, hst₃, hJ₃⟩ := h₃; exact ⟨vs.length + 1 - (i + 1), by omega, m₂, news₂, i + 1, hst₃, F₃, N₃, ho₃, hJ₃, hlt, rfl⟩
    | cont => obtain ⟨m₂, news₂, F₃, N₃, ho₃, hst₃, hJ₃⟩ := h₃; exact ⟨vs.length + 1 - (i + 1), by omega, m₂, news₂, i + 1, hst₃, F₃, N₃, ho₃, hJ₃, hlt, rfl⟩
    | brk => exact h₃
    | ret v => exact h₃
  · have hin : i = vs.length := by omega
    subst hin
    refine seq_end hh hst' hsq (by simp) fun h₁ he => wpAny_execs_nil ?_
    obtain ⟨F₁, N₁⟩ := keep h₁ fun b o hb e => he b o hb e
    exact hQ { s' with heap := h₁ } m' news' F₁ N₁ hJ'
end
end Mine
end
section
open PySem PySem.W PyProof.Rows PySem.Spec PySem.Calls
set_option maxRecDepth 100000
namespace Mine
theorem start_D8 : True := by
  w_top off
  k_with_none
  (k_with "own:omega" => (first | with_reducible assumption | (refine' Mine.room2 ?h ?e; (case h => with_reducible assumption); (case e => decide)) | (refine' Mine.room1 ?h ?e; (case h => with_reducible assumption); (case e => decide)) | (refine' Mine.le_up ?h ?e; (case h => with_reducible assumption); (case e => decide)) | (refine' Mine.room0 ?h; (case h => with_reducible assumption)) | ((fail_if_success (fail_if_success omega (config := {}))); lia)))
  trivial
section
variable {w : World} {A : Around} {E : Value → Shared → Prop} {s : Shared} {env : Env}
theorem strK_sub {value slice : PySem.Expr} {x : Str} {t : Tok} {k : Int} {u : Tok} {Q : Value → Shared → Prop} (h0 : 0 ≤ k) (hk : k < (x.cps.size : Int)) (hl : x.cps.size ≤ 1000)
    (h : ∀ t' tk, Q (.str ⟨#[x.cps.getD k.toNat 0]⟩ t') { s with toks := tk })
    (hs : subscripted slice false (.str x t) (.int k u) = operate [.str x t, .int k u] (getItem (.str x t) (.int k u)) := by with_unfolding_all rfl) :
    wpAny (model PG w) A (subscriptTail value slice (.str x t) (.int k u)) Q E s := by
  refine tail_any (typeIs_str s x t) PySem.F.slot_str_getitem.lookup (PySem.P.getItem_str (c := x.cps.getD k.toNat 0) (by simp; omega) ?_ (h _ _)) hs
  obtain ⟨j, rfl⟩ := Int.eq_ofNat_of_zero_le h0
  have hj : j < x.cps.size := by omega
  have e : seqIndex? (j : Int) x.length = some j := by
    unfold seqIndex?
    have : x.length = x.cps.size := rfl
    have e1 : (if (j : Int) < 0 then (j : Int) + (x.cps.size : Int) else (j : Int)) = j := if_neg (by omega)
    simp only [this]
    simp
    rw [e1]
    omega
  rw [e]
  simp [Array.getD, hj]
theorem ifexp_chr {test : PySem.Expr} {x y : Str} {c1 c2 : Nat} {k1 k2 : Nat} {p1 p2 pos : Pos} {Q : Value → Shared → Prop}
    (h : wpAny (model PG w) A (isTrue test env (eval test env)) (fun b s₁ => ∀ t tk, Q (.str ⟨#[if b = true then c1 else c2]⟩ t) { s₁ with toks := tk }) E s) (hx : x = ⟨#[c1]⟩) (hy : y = ⟨#[c2]⟩) :
    wpAny (model PG w) A (eval (.IfExp test (.Constant (.str x) k1 p1) (.Constant (.str y) k2 p2) pos) env) Q E s := by
  subst hx hy
  refine wpAny_IfExp (wpAny_mono h (fun b s₁ hb => ?_) fun _ _ z => z)
  cases b with
  | true => exact wpAny_Constant_str (hb _ _)
  | false => exact wpAny_Constant_str (hb _ _)
/-- a text by its codes -/
noncomputable def stOf (l : List Nat) : Str := ⟨l.toArray⟩
theorem addC {l : List Nat} {c : Nat} {t u : Tok} {Q : Value → Shared → Prop} (hl : l.length ≤ 100) (h : ∀ t' tk, Q (.str (stOf (l ++ [c])) t') { s with toks := tk }) :
    wpAny (model PG w) A (binaryOp .Add (.str (stOf l) t) (.str ⟨#[c]⟩ u)) Q E s := by
  have e : stOf l ++ (⟨#[c]⟩ : Str) = stOf (l ++ [c]) := by
    show Str.mk (l.toArray ++ #[c]) = Str.mk (l ++ [c]).toArray
    simp
  refine PyProof.Rows.add_str (fun t' tk => ?_) (by
    have h1 : (stOf l).length = l.length := by show l.toArray.size = _; simp
    have h2 : (⟨#[c]⟩ : Str).length = 1 := rfl
    rw [sizeLine_eq]; omega)
  rw [e]; exact h t' tk
end
theorem trips3 {h₀ h : Heap} {L l D1 D2 D3 : Addr} {a1 b1 c1 a2 b2 c2 a3 b3 c3 : Value} {news : List (Addr × Obj)}
    (N : News h₀ L h ((l, listOf #[.ref D1, .ref D2, .ref D3] 0) :: (D3, { cls := .type "tuple", data := .seq #[a3, b3, c3] }) :: (D2, { cls := .type "tuple", data := .seq #[a2, b2, c2] }) :: (D1, { cls := .type "tuple", data := .seq #[a1, b1, c1] }) :: news)) :
    ∃ led, News h₀ L h led ∧ (∀ p ∈ news, p ∈ led) ∧ (l, listOf [.ref D1, .ref D2, .ref D3].toArray 0) ∈ led ∧ Trips led [.ref D1, .ref D2, .ref D3] [(a1, b1, c1), (a2, b2, c2), (a3, b3, c3)] :=
  ⟨_, N, fun _ h => .tail _ (.tail _ (.tail _ (.tail _ h))), .head _, ⟨D1, rfl, .tail _ (.tail _ (.tail _ (.head _)))⟩, ⟨D2, rfl, .tail _ (.tail _ (.head _))⟩, ⟨D3, rfl, .tail _ (.head _)⟩, trivial⟩
theorem lines_D8_0 : True := by
  (k_with "own:k_mem" => with_reducible_and_instances assumption)
  (k_with "own:steps" => repeat' (first | (k_unfold; (try dsimp only)) | ((fail_if_success (with_reducible show wpAny _ _ (exec (Stmt.For _ _ _ _ _) _) _ _ _)); (first | walk1 | (dsimp only; walk1) | fail "no step"))))
  (k_with "own:mem" => first | with_reducible assumption | exact List.mem_cons_self | (refine List.mem_cons_of_mem _ ?_; k_extra "own:mem"))
  (k_with "own:sub" => first | exact fun _ h => h | exact fun _ h => .tail _ h | exact fun _ h => .tail _ (.tail _ h) | exact fun _ h => .tail _ (.tail _ (.tail _ h)) | exact fun _ h => .tail _ (.tail _ (.tail _ (.tail _ h))) | exact fun _ h => .tail _ (.tail _ (.tail _ (.tail _ (.tail _ h)))) | exact fun _ h => .tail _ (.tail _ (.tail _ (.tail _ (.tail _ (.tail _ h))))))
  (k_with "own:idx" => first | omega | (rw [Int.fdiv_eq_ediv_of_nonneg _ (by decide)]; omega))
  (k_with "own:len" => first | omega | (simp only [List.length_append, List.length_cons, List.length_nil] at *; omega))
  (k_with "subscriptTail" => (k_here; (with_reducible show wpAny _ _ (subscriptTail _ _ (Value.str _ _) (Value.int _ _)) _ _ _); (k_dflt (refine' strK_sub ?k1 ?k2 ?k3 ?_ ?k4; (case k1 => k_extra "own:si"); (case k2 => k_extra "own:si"); (case k3 => decide); (case k4 => with_unfolding_all rfl); k_whole)); intro _ _))
  (k_with "eval IfExp" => (k_here; (with_reducible show wpAny _ _ (eval (Expr.IfExp _ (Expr.Constant (Const.str _) _ _) (Expr.Constant (Const.str _) _ _) _) _) _ _ _); first | k_dflt (refine' ifexp_chr (c1 := 114) (c2 := 45) ?_ ?k1 ?k2; (case k1 => rfl); (case k2 => rfl)) | k_dflt (refine' ifexp_chr (c1 := 119) (c2 := 45) ?_ ?k1 ?k2; (case k1 => rfl); (case k2 => rfl))))
  (k_with "binaryOp Add str str" => (k_here; (with_reducible show wpAny _ _ (binaryOp Operator.Add (Value.str (stOf _) _) (Value.str _ _)) _ _ _); k_dflt (refine' addC ?k1 ?_; (case k1 => first | omega | (simp only [List.length_append, List.length_cons, List.length_nil]; omega))); intro _ _))
  (k_with "own:si" => first | omega | (simp (disch := decide) only [Int.fdiv_eq_ediv_of_nonneg, Int.fmod_eq_emod_of_nonneg]; first | omega | (show _ < ((16 : Nat) : Int); omega) | (show _ < ((4 : Nat) : Int); omega)))
  trivial
/-- three signs of a listing -/
noncomputable def lsign (z p q : Int) (L : Str) : List Nat := [if decide (4 ≤ (z.fdiv p).fmod 8) = true then 114 else 45, if decide (2 ≤ ((z.fdiv p).fmod 8).fmod 4) = true then 119 else 45, L.cps.getD (((z.fdiv p).fmod 8).fmod 2 + 2 * (z.fdiv q).fmod 2).toNat 0]
noncomputable def lst (z : Int) (i : Nat) : List Nat := [(Str.ofString "?pc?d?b?-?l?s???").cps.getD (z.fdiv 4096).toNat 0] ++ (([lsign z 64 2048 (Str.ofString "-xSs"), lsign z 8 1024 (Str.ofString "-xSs"), lsign z 1 512 (Str.ofString "-xTt")] : List (List Nat)).take i).flatten
theorem lst1 (z : Int) : lst z 1 = lst z 0 ++ lsign z 64 2048 (Str.ofString "-xSs") := by simp [lst]
theorem lst2 (z : Int) : lst z 2 = lst z 1 ++ lsign z 8 1024 (Str.ofString "-xSs") := by simp [lst]
theorem lst3 (z : Int) : lst z 3 = lst z 2 ++ lsign z 1 512 (Str.ofString "-xTt") := by simp [lst]
theorem lst_len (z : Int) (i : Nat) (h : i ≤ 3) : (lst z i).length ≤ 10 := by
  obtain rfl | rfl | rfl | rfl : i = 0 ∨ i = 1 ∨ i = 2 ∨ i = 3 := by omega
  all_goals simp [lst, lsign]
set_option maxHeartbeats 2000000 in
theorem listing_call {w : World} {p : Program} {loose : List Str} {mean : ExcName → Option Value} {mg mb : Str → Option Value} {dp un : Nat} {gd : Option (List Code)} {cn : Str} {cs : Scope} {a : Addr} {ccd : Value} {cl : List (Str × Addr)} {outer : List Env} {A₀ : Around} {base h₀ : Heap} {L : Addr} {m : Str → Option Value} {news : List (Addr × Obj)} {s : Shared}
    {Q E : Value → Shared → Prop} {z : Int} {t : Tok}
    (B : Below A₀ base outer h₀) (F : Fr h₀ L s.heap m) (X : (KW w.params).In h₀) (N : News h₀ L s.heap news) (T : Top p loose mean mg mb h₀) (hk : cs.kind = .function)
    (hd : dp + 5 < recursionLimit) (hu : un + 100 < cLine) (hz0 : 0 ≤ z) (hz1 : z < 65536)
    (ret : ∀ t' s', Fr h₀ L s'.heap m → News h₀ L s'.heap news → s'.gens = s.gens → s'.os = s.os → Q (.str (stOf (lst z 3)) t') s') :
    wpAny (model PG w) (ktrTop dp un gd cn cs L a ccd cl outer) (call (.ref 208) [.int z t]) Q E s := by
  refine wpAny_call ?_
  k_dflt ktr_enter
  k_extra "own:steps"
  refine wpAny_For ?_
  k_extra "own:steps"
  rename Fr _ _ _ _ => lF
  rename News _ _ _ _ => lN
  obtain ⟨led, N₃, hsub, hl3, ht3⟩ := trips3 lN
  refine wpAny_pyIter_list (items := _) ⟨_, N₃.get hl3, rfl, _, rfl⟩ ?_
  have lL := lF.ns.lt
  have lfr := lF.fresh
  refine loop3 (fun i g os m₁ news₁ => news₁ = led ∧ g = s.gens ∧ os = s.os ∧ ∃ S : List Nat, ∃ ts, S = lst z i ∧ S.length ≤ 10 ∧ m₁ (Str.ofString "signs") = some (.str (stOf S) ts) ∧ m₁ (Str.ofString "mode") = some (.int z t)) rfl rfl rfl rfl rfl (Nat.ne_of_gt lL) lfr ⟨_, Heap.get?_push_size _ rfl, rfl, rfl⟩ (lF.push _) (N₃.pushKeep _) N₃.apart ⟨rfl, rfl, rfl, lst z 0, _, rfl, lst_len z 0 (by omega), rfl, rfl⟩ (fun i g os m₁ n₁ h => ⟨by rw [h.1]; exact hl3, by rw [h.1]; exact ht3⟩) ?_ ?_
  · rintro i x y z₀ s₁ m₁ news₁ hi hq hst F₁ N₁ off ⟨rfl, hg, ho, S, ts, hS, hSl, hm1, hm2⟩
    obtain ⟨oI, hoI, hcI, hdI⟩ := id hst
    have N₂ := Mine.News.cons' N₁ hoI (Nat.ne_of_gt lL) lfr
    have hi' : i < 3 := hi
    clear lF lN N₁
    obtain rfl | rfl | rfl : i = 0 ∨ i = 1 ∨ i = 2 := by omega
    · obtain ⟨rfl, rfl, rfl⟩ : _ = x ∧ _ = y ∧ _ = z₀ := by simpa using hq
      replace F₁ := at5 (x1 := Str.ofString "mode") (x2 := Str.ofString "signs") (x3 := Str.ofString "place") (x4 := Str.ofString "above") (x5 := Str.ofString "last") F₁ (by rw [if_neg (by decide), if_neg (by decide), if_neg (by decide)]; exact hm2) (by rw [if_neg (by decide), if_neg (by decide), if_neg (by decide)]; exact hm1) (by rw [if_neg (by decide), if_neg (by decide), if_pos rfl]) (by rw [if_neg (by decide), if_pos rfl]) (by rw [if_pos rfl])
      k_extra "own:steps"
      rename Fr _ _ _ _ => F₃
      rename News _ _ _ _ => N₃'
      refine ⟨_, _, F₃, newsOf N₃' fun _ h => .tail _ h, off, ⟨oI, N₃'.get (.head _), hcI, hdI⟩, rfl, hg, ho, _, _, ?_, ?_, rfl, rfl⟩
      · rw [hS, lst1]; simp [lsign]
      · rw [hS]; have := lst_len z 1 (by omega); rw [lst1] at this; simpa [lsign] using this
    · obtain ⟨rfl, rfl, rfl⟩ : _ = x ∧ _ = y ∧ _ = z₀ := by simpa using hq
      replace F₁ := at5 (x1 := Str.ofString "mode") (x2 := Str.ofString "signs") (x3 := Str.ofString "place") (x4 := Str.ofString "above") (x5 := Str.ofString "last") F₁ (by rw [if_neg (by decide), if_neg (by decide), if_neg (by decide)]; exact hm2) (by rw [if_neg (by decide), if_neg (by decide), if_neg (by decide)]; exact hm1) (by rw [if_neg (by decide), if_neg (by decide), if_pos rfl]) (by rw [if_neg (by decide), if_pos rfl]) (by rw [if_pos rfl])
      k_extra "own:steps"
      rename Fr _ _ _ _ => F₃
      rename News _ _ _ _ => N₃'
      refine ⟨_, _, F₃, newsOf N₃' fun _ h => .tail _ h, off, ⟨oI, N₃'.get (.head _), hcI, hdI⟩, rfl, hg, ho, _, _, ?_, ?_, rfl, rfl⟩
      · rw [hS, lst2]; simp [lsign]
      · rw [hS]; have := lst_len z 2 (by omega); rw [lst2] at this; simpa [lsign] using this
    · obtain ⟨rfl, rfl, rfl⟩ : _ = x ∧ _ = y ∧ _ = z₀ := by simpa using hq
      replace F₁ := at5 (x1 := Str.ofString "mode") (x2 := Str.ofString "signs") (x3 := Str.ofString "place") (x4 := Str.ofString "above") (x5 := Str.ofString "last") F₁ (by rw [if_neg (by decide), if_neg (by decide), if_neg (by decide)]; exact hm2) (by rw [if_neg (by decide), if_neg (by decide), if_neg (by decide)]; exact hm1) (by rw [if_neg (by decide), if_neg (by decide), if_pos rfl]) (by rw [if_neg (by decide), if_pos rfl]) (by rw [if_pos rfl])
      k_extra "own:steps"
      rename Fr _ _ _ _ => F₃
      rename News _ _ _ _ => N₃'
      refine ⟨_, _, F₃, newsOf N₃' fun _ h => .tail _ h, off, ⟨oI, N₃'.get (.head _), hcI, hdI⟩, rfl, hg, ho, _, _, ?_, ?_, rfl, rfl⟩
      · rw [hS, lst3]; simp [lsign]
      · rw [hS]; have := lst_len z 3 (by omega); rw [lst3] at this; simpa [lsign] using this
  · rintro s₁ m₁ news₁ F₁ N₁ ⟨rfl, hg, ho, S, ts, hS, hSl, hm1, hm2⟩
    replace F₁ := at1 F₁ hm1
    clear lF lN
    dsimp only
    k_extra "own:steps"
    rename Fr h₀ _ _ _ => F₄
    rename News h₀ _ _ _ => N₄
    rw [hS]
    exact ret _ _ F₄ (newsOf N₄ hsub) hg ho
end Mine
end
section
open PySem PySem.W PyProof.Rows PySem.Spec PySem.Calls
set_option maxRecDepth 100000
namespace Mine
theorem start_EN1 : True := by
  w_top off
  k_with_none
  (k_with "own:omega" => (first | with_reducible assumption | (refine' Mine.room2 ?h ?e; (case h => with_reducible assumption); (case e => decide)) | (refine' Mine.room1 ?h ?e; (case h => with_reducible assumption); (case e => decide)) | (refine' Mine.le_up ?h ?e; (case h => with_reducible assumption); (case e => decide)) | (refine' Mine.room0 ?h; (case h => with_reducible assumption)) | ((fail_if_success (fail_if_success omega (config := {}))); lia)))
  trivial
open AutoSeq1 (wpAny_loadPart')
section
variable {w : World} {A : Around} {E : Value → Shared → Prop} {s : Shared}
theorem nextOf_tup {it t : Addr} {i : Nat} {items : Array Value} {x : Value} {Q : Value → Shared → Prop} (hit : IsTupIter s.heap it t i) (ht : IsTup s.heap t items) (hx : items[i]? = some x)
    (hQ : ∀ h', IsTupIter h' it t (i + 1) → Heap.SameBut it s.heap h' → Q x { s with heap := h' }) : wpAny (model PG w) A (Builtin.SmallTypes.nextOf (.ref it)) Q E s := by
  obtain ⟨o, ho, hc, hd⟩ := id hit
  obtain ⟨ol, hol, _, nl, hdl⟩ := ht
  unfold Builtin.SmallTypes.nextOf
  refine wpAny_bind (wpAny_callSpecial?_slot (name := Str.ofString "__next__") hit.typeIs slot_tupleiter_next (wpAny_call_entry slot_tupleiter_next hit.typeIs entry_tupleiter_next ?_ (args_tupleiter_next _)))
  show wpAny _ _ (field (.ref it) 0 >>= _) _ _ s
  refine wpAny_bind (wpAny_field ho hd (x := .ref t) rfl ?_)
  show wpAny _ _ (if (Value.ref t == Value.none) = true then _ else _) _ _ s
  rw [if_neg (show ¬ ((Value.ref t == Value.none) = true) from Bool.false_ne_true)]
  show wpAny _ _ (field (.ref it) 1 >>= _) _ _ s
  refine wpAny_bind (wpAny_field ho hd (x := .int i 0) rfl ?_)
  show wpAny _ _ (seqItems? (.ref t) >>= _) _ _ s
  refine wpAny_bind (wpAny_seqItems hol hdl ?_)
  simp only [Int.toNat_natCast, hx]
  refine wpAny_bind (wpAny_setField ho hd (by simp) (wpAny_pure ⟨x, rfl, wpAny_pure (hQ _ ?_ (Heap.SameBut.update ..))⟩))
  exact ⟨_, Heap.get?_update_self _ ho (Obj.isFreed_of_fields (Obj.data_mapFields hd _)), (Obj.cls_mapFields ..).trans hc, by rw [Obj.data_mapFields hd]; simp [rawInt]⟩
theorem nextOf_tup_end {it t : Addr} {i : Nat} {items : Array Value} {Q : Value → Shared → Prop} (hh : A.handled = none) (hit : IsTupIter s.heap it t i) (ht : IsTup s.heap t items) (hx : items[i]? = none)
    (hE : ∀ h' e, Heap.ExtBut it s.heap h' → (∃ o, h'.get? e = some o ∧ o.cls = .type "StopIteration") → E (.ref e) { s with heap := h' }) : wpAny (model PG w) A (Builtin.SmallTypes.nextOf (.ref it)) Q E s := by
  obtain ⟨o, ho, hc, hd⟩ := id hit
  obtain ⟨ol, hol, _, nl, hdl⟩ := ht
  unfold Builtin.SmallTypes.nextOf
  refine wpAny_bind (wpAny_callSpecial?_slot (name := Str.ofString "__next__") hit.typeIs slot_tupleiter_next (wpAny_call_entry slot_tupleiter_next hit.typeIs entry_tupleiter_next ?_ (args_tupleiter_next _)))
  show wpAny _ _ (field (.ref it) 0 >>= _) _ _ s
  refine wpAny_bind (wpAny_field ho hd (x := .ref t) rfl ?_)
  show wpAny _ _ (if (Value.ref t == Value.none) = true then _ else _) _ _ s
  rw [if_neg (show ¬ ((Value.ref t == Value.none) = true) from Bool.false_ne_true)]
  show wpAny _ _ (field (.ref it) 1 >>= _) _ _ s
  refine wpAny_bind (wpAny_field ho hd (x := .int i 0) rfl ?_)
  show wpAny _ _ (seqItems? (.ref t) >>= _) _ _ s
  refine wpAny_bind (wpAny_seqItems hol hdl ?_)
  simp only [Int.toNat_natCast, hx]
  refine wpAny_bind (wpAny_rule (wpAny_bind (wpAny_setField ho hd (by simp) ?_)))
  show wpAny _ _ (newExc (.type "StopIteration") [] >>= _) _ _ _
  refine wpAny_bind ?_
  simp only [newExc, newTuple]
  refine wpAny_bind (wpAny_newObj_type ?_ (by size_fits))
  refine wpAny_bind (m := firstArgMember _ _) (wpAny_of_eq (a := Value.none) (by first | rfl | (simp only [firstArgMember]; rfl)) ?_)
  refine wpAny_newObj_type ?_ (by size_fits)
  simp only [raiseNew]
  refine wpAny_bind (wpAny_handled ?_)
  first | rw [show A.in1.handled = none from hh] | rw [hh]
  refine wpAny_bind (wpAny_pure (wpAny_throw ?_))
  exact hE _ _ (((Heap.SameBut.update ..).extBut.push _).push _) ⟨_, Heap.get?_push_size _ rfl, rfl⟩
/-- the next of an enumerate whose own iterator gives x -/
theorem enum_next {e it : Addr} {i : Nat} {x old : Value} {St : Heap → Prop} {Q : Option Value → Shared → Prop} (he : IsEnum s.heap e it i old) (hne : e ≠ it)
    (hn : ∀ (A' : Around) (Q' : Value → Shared → Prop) (E' : Value → Shared → Prop), (∀ h', St h' → Heap.SameBut it s.heap h' → Q' x { s with heap := h' }) → wpAny (model PG w) A' (Builtin.SmallTypes.nextOf (.ref it)) Q' E' s)
    (hfr : ∀ h h', St h → (∀ b o, b ≠ e → h.get? b = some o → h'.get? b = some o) → St h')
    (hQ : ∀ h', IsEnumOut h' e it ((i : Int) + 1) x s.heap.objs.size → St h' → h'.get? s.heap.objs.size = some { cls := .type "tuple", data := .seq #[.int i s.toks, x] } → h'.objs.size = s.heap.objs.size + 1 →
      (∀ b o, b ≠ e → b ≠ it → s.heap.get? b = some o → h'.get? b = some o) → Q (some (.ref s.heap.objs.size)) { s with heap := h', toks := s.toks + 1 }) :
    wpAny (model PG w) A (pyNext (.ref e)) Q E s := by
  have hT : s.TypeIs (.ref e) "enumerate" := ⟨_, he, rfl⟩
  unfold pyNext
  refine wpAny_bind (wpAny_attempt (wpAny_callSpecial?_slot (name := Str.ofString "__next__") hT PySem.F.slot_enumerate_next (wpAny_call_entry PySem.F.slot_enumerate_next hT PySem.F.entry_enumerate_next ?_ (PySem.F.args_enumerate_next_1 _))))
  obtain ⟨hp, g, d, tk, os⟩ := s
  have hel : e < hp.objs.size := Heap.lt_size he
  show wpAny _ _ (field (.ref e) 2 >>= _) _ _ _
  refine wpAny_bind (wpAny_field he rfl (x := .ref it) rfl ?_)
  refine wpAny_bind (hn _ _ _ fun h₁ st₁ hs₁ => ?_)
  replace hs₁ : Heap.SameBut it hp h₁ := hs₁
  have he₁ : IsEnum h₁ e it i old := (hs₁.2 e hne).trans he
  show wpAny _ _ (field (.ref e) 3 >>= _) _ _ ⟨h₁, g, d, tk, os⟩
  refine wpAny_bind (wpAny_field he₁ rfl (x := rawInt i) rfl ?_)
  show wpAny _ _ (field (.ref e) 4 >>= _) _ _ ⟨h₁, g, d, tk, os⟩
  refine wpAny_bind (wpAny_field he₁ rfl (x := .none) rfl ?_)
  show wpAny _ _ (mkInt i >>= _) _ _ ⟨h₁, g, d, tk, os⟩
  refine wpAny_bind (wpAny_mkInt ?_)
  show wpAny _ _ (setField (.ref e) 3 (rawInt ((i : Int) + 1)) >>= _) _ _ ⟨h₁, g, d, tk + 1, os⟩
  refine wpAny_bind (wpAny_setField_rec he₁ (by simp) fun h₂ he₂ hs₂ => ?_)
  replace hs₂ : Heap.SameBut e h₁ h₂ := hs₂
  replace he₂ : IsEnum h₂ e it ((i : Int) + 1) old := he₂
  show wpAny _ _ (setField (.ref e) 4 .none >>= _) _ _ ⟨h₂, g, d, tk + 1, os⟩
  refine wpAny_bind (wpAny_setField_rec he₂ (by simp) fun h₃ he₃ hs₃ => ?_)
  replace hs₃ : Heap.SameBut e h₂ h₃ := hs₃
  replace he₃ : IsEnum h₃ e it ((i : Int) + 1) old := he₃
  have hsz : h₃.objs.size = hp.objs.size := by rw [hs₃.1, hs₂.1, hs₁.1]
  have st₃ : St h₃ := hfr _ _ st₁ fun b o hb q => hs₃.extBut b o hb (hs₂.extBut b o hb q)
  have k₃ : ∀ b o, b ≠ e → b ≠ it → hp.get? b = some o → h₃.get? b = some o := fun b o hbe hbi q => hs₃.extBut b o hbe (hs₂.extBut b o hbe (hs₁.extBut b o hbi q))
  show wpAny _ _ (newTuple [.int i tk, x] >>= _) _ _ ⟨h₃, g, d, tk + 1, os⟩
  refine wpAny_bind (wpAny_newTuple ?_)
  have he₄ : IsEnum (h₃.push { cls := .type "tuple", data := .seq #[.int i tk, x] }) e it ((i : Int) + 1) old := Heap.get?_push_of_some _ he₃
  show wpAny _ _ (Builtin.SmallTypes.ownedTupleIsFree (.ref e) >>= _) _ _ ⟨h₃.push { cls := .type "tuple", data := .seq #[.int i tk, x] }, g, d, tk + 1, os⟩
  rw [hsz]
  refine wpAny_bind ?_
  unfold Builtin.SmallTypes.ownedTupleIsFree
  refine wpAny_bind (wpAny_field he₄ rfl (x := .none) rfl (wpAny_pure ?_))
  simp only [if_true]
  refine wpAny_bind (wpAny_rule ?_)
  refine wpAny_bind (wpAny_field he₄ rfl (x := old) rfl ?_)
  refine wpAny_bind (wpAny_setField_rec he₄ (by simp) fun h₅ he₅ hs₅ => ?_)
  replace hs₅ : Heap.SameBut e (h₃.push { cls := .type "tuple", data := .seq #[.int i tk, x] }) h₅ := hs₅
  replace he₅ : IsEnum h₅ e it ((i : Int) + 1) x := he₅
  show wpAny _ _ (Builtin.SmallTypes.ownedTupleHandOut (.ref e) (.ref hp.objs.size) >>= _) _ _ ⟨h₅, g, d, tk + 1, os⟩
  refine wpAny_bind ?_
  unfold Builtin.SmallTypes.ownedTupleHandOut
  refine wpAny_bind (wpAny_setField_rec he₅ (by simp) fun h₆ he₆ hs₆ => ?_)
  replace hs₆ : Heap.SameBut e h₅ h₆ := hs₆
  replace he₆ : IsEnumOut h₆ e it ((i : Int) + 1) x hp.objs.size := he₆
  refine wpAny_setField_rec he₆ (by simp) fun h₇ he₇ hs₇ => ?_
  replace hs₇ : Heap.SameBut e h₆ h₇ := hs₇
  replace he₇ : IsEnumOut h₇ e it ((i : Int) + 1) x hp.objs.size := he₇
  have up : ∀ b o, b ≠ e → (h₃.push { cls := .type "tuple", data := .seq #[.int i tk, x] }).get? b = some o → h₇.get? b = some o := fun b o hb q => hs₇.extBut b o hb (hs₆.extBut b o hb (hs₅.extBut b o hb q))
  refine wpAny_bind (wpAny_letGo (wpAny_pure ⟨_, rfl, wpAny_pure (hQ h₇ he₇ ?_ ?_ ?_ ?_)⟩))
  · exact hfr _ _ st₃ fun b o hb q => up b o hb (Heap.get?_push_of_some _ q)
  · refine up _ _ (Nat.ne_of_gt hel) ?_
    rw [← hsz]; exact Heap.get?_push_size _ rfl
  · rw [hs₇.1, hs₆.1, hs₅.1, Heap.size_push, hsz]
  · exact fun b o hbe hbi q => up b o hbe (Heap.get?_push_of_some _ (k₃ b o hbe hbi q))
theorem enum_end {e it : Addr} {i : Nat} {old : Value} {Q : Option Value → Shared → Prop} (he : IsEnum s.heap e it i old)
    (hn : ∀ (A' : Around) (Q' : Value → Shared → Prop) (E' : Value → Shared → Prop), A'.handled = A.handled → (∀ h' x, Heap.ExtBut it s.heap h' → (∃ o, h'.get? x = some o ∧ o.cls = .type "StopIteration") → E' (.ref x) { s with heap := h' }) → wpAny (model PG w) A' (Builtin.SmallTypes.nextOf (.ref it)) Q' E' s)
    (hQ : ∀ h', Heap.ExtBut it s.heap h' → Q none { s with heap := h' }) : wpAny (model PG w) A (pyNext (.ref e)) Q E s := by
  have hT : s.TypeIs (.ref e) "enumerate" := ⟨_, he, rfl⟩
  unfold pyNext
  refine wpAny_bind (wpAny_attempt (wpAny_callSpecial?_slot (name := Str.ofString "__next__") hT PySem.F.slot_enumerate_next (wpAny_call_entry PySem.F.slot_enumerate_next hT PySem.F.entry_enumerate_next ?_ (PySem.F.args_enumerate_next_1 _))))
  show wpAny _ _ (field (.ref e) 2 >>= _) _ _ _
  refine wpAny_bind (wpAny_field he rfl (x := .ref it) rfl ?_)
  refine wpAny_bind (hn _ _ _ rfl fun h' x he' hx' => ?_)
  obtain ⟨o, ho, hc⟩ := hx'
  refine wpAny_bind (wpAny_isInstance (T := "StopIteration") (b := true) ⟨o, ho, hc⟩ isSubtype_stop ?_)
  exact wpAny_pure (hQ _ he')
theorem meets_enum_tup (l : Addr) (items : Array Value) (n : Nat) (dct : Option Addr) (sl : Array (Option Value)) :
    Meets (Builtin.«enumerate.__new__» ⟨[.type "enumerate", .ref l], []⟩) (fun _ R s => s.heap.get? l = some { cls := .type "tuple", dict := dct, data := .seq items n, slots := sl } ∧
      R (.ok (.ret (.ref (s.heap.push { cls := .type "tuple_iterator", data := .fields #[.ref l, .int 0 0] }).objs.size)))
        { s with heap := (s.heap.push { cls := .type "tuple_iterator", data := .fields #[.ref l, .int 0 0] }).push { cls := .type "enumerate", data := .fields #[.none, .bool false, .ref s.heap.objs.size, rawInt 0, .none, .none] } }) :=
  .of_wp fun prog w A R s h => by
    obtain ⟨hp, g, d, tk, os⟩ := s; obtain ⟨hl, h⟩ := h
    have hsub := sub_enumerate
    have hL : IsTup (Shared.heap ⟨hp, g, d, tk, os⟩) l items := ⟨_, hl, rfl, n, rfl⟩
    wp_walk using wpAny_loadPart' hl
    refine wpAny_stack_any fun st => wpAny_pure ?_
    split
    · rename_i c _ _ _ _ _
      cases (c == Value.type "enumerate")
      · wp_walk using wpAny_loadPart' hl, iter_tuple hL
        exact ⟨_, rfl, h⟩
      · wp_walk using wpAny_loadPart' hl, iter_tuple hL
        exact ⟨_, rfl, h⟩
    · wp_walk using wpAny_loadPart' hl, iter_tuple hL
      exact ⟨_, rfl, h⟩
theorem call_enum_tup {l : Addr} {items : Array Value} {n : Nat} {dct : Option Addr} {sl : Array (Option Value)} {Q : Value → Shared → Prop} (hl : s.heap.get? l = some { cls := .type "tuple", dict := dct, data := .seq items n, slots := sl })
    (h : ∀ h', IsEnum h' (s.heap.objs.size + 1) s.heap.objs.size 0 .none → IsTupIter h' s.heap.objs.size l 0 → (∀ b o, s.heap.get? b = some o → h'.get? b = some o) → Q (.ref (s.heap.objs.size + 1)) { s with heap := h' }) :
    wpAny (model PG w) A (call (.type "enumerate") [.ref l]) Q E s := by
  refine callType_new PySem.F.called_enumerate (by decide) (PySem.F.typeCall_enumerate_1 _) (PySem.F.newCall_enumerate_1 _) (fun obj => PySem.F.args_object_init_2 obj _) PySem.F.entry_enumerate_new (meets_enum_tup l items n dct sl) ⟨hl, ?_⟩
  have hz : (s.heap.push { cls := .type "tuple_iterator", data := .fields #[.ref l, .int 0 0] }).objs.size = s.heap.objs.size + 1 := Heap.size_push ..
  show _ ∧ _
  rw [hz]
  have he : IsEnum ((s.heap.push { cls := .type "tuple_iterator", data := .fields #[.ref l, .int 0 0] }).push { cls := .type "enumerate", data := .fields #[.none, .bool false, .ref s.heap.objs.size, rawInt 0, .none, .none] }) (s.heap.objs.size + 1) s.heap.objs.size 0 .none := by
    have := Heap.get?_push_size (s.heap.push { cls := .type "tuple_iterator", data := .fields #[.ref l, .int 0 0] }) (o := { cls := .type "enumerate", data := .fields #[.none, .bool false, .ref s.heap.objs.size, rawInt 0, .none, .none] }) rfl
    rw [hz] at this; exact this
  exact ⟨⟨_, he, rfl⟩, h _ he ⟨_, Heap.get?_push_of_some _ (Heap.get?_push_size _ rfl), rfl, rfl⟩ fun b o x => Heap.get?_push_of_some _ (Heap.get?_push_of_some _ x)⟩
end
end Mine
end
section
open PySem PySem.W PyProof.Rows PySem.Spec PySem.Calls
set_option maxRecDepth 100000
namespace Mine
theorem start_LT : True := by
  w_top off
  k_with_none
  (k_with "own:omega" => (first | with_reducible assumption | (refine' Mine.room2 ?h ?e; (case h => with_reducible assumption); (case e => decide)) | (refine' Mine.room1 ?h ?e; (case h => with_reducible assumption); (case e => decide)) | (refine' Mine.le_up ?h ?e; (case h => with_reducible assumption); (case e => decide)) | (refine' Mine.room0 ?h; (case h => with_reducible assumption)) | ((fail_if_success (fail_if_success omega (config := {}))); lia)))
  trivial
section
variable {w : World} {A : Around} {E : Value → Shared → Prop} {s : Shared} {env : Env} {h₀ : Heap} {m : Str → Option Value} {news : List (Addr × Obj)}
theorem fr_off {g h h' : Heap} {L I : Addr} {m : Str → Option Value} (F : Fr g L h m) (hk : ∀ b o, b ≠ I → h.get? b = some o → h'.get? b = some o) (hL : I ≠ L) (hI : g.get? I = none) : Fr g L h' m :=
  ⟨F.ns.at' fun o e => hk _ o hL.symm e, fun b o e => hk b o (by rintro rfl; rw [hI] at e; cases e) (F.keep b o e), F.above⟩
theorem news_off {g h h' : Heap} {L I : Addr} {news : List (Addr × Obj)} (N : News g L h news) (hk : ∀ b o, b ≠ I → h.get? b = some o → h'.get? b = some o) (off : ∀ p ∈ news, p.1 ≠ I) : News g L h' news :=
  fun p hp => ⟨hk _ _ (off p hp) (N p hp).1, (N p hp).2⟩
theorem IsTup.at {h h' : Heap} {t : Addr} {items : Array Value} (x : IsTup h t items) (k : ∀ b o, h.get? b = some o → h'.get? b = some o) : IsTup h' t items :=
  let ⟨o, ho, r⟩ := x; ⟨o, k _ _ ho, r⟩
theorem letGo_tup {elts : List PySem.Expr} {x1} {pos : Pos} {I t T : Addr} {i : Nat} {Q : Unit → Shared → Prop} (hit : IsTupIter s.heap I T i) (hQ : Q () s) :
    wpAny (model PG w) A (letOwnedTupleGo (.Tuple elts x1 pos) (.ref I) (.ref t)) Q E s := by
  obtain ⟨o, ho, hc, hd⟩ := id hit
  unfold letOwnedTupleGo
  refine wpAny_bind (wpAny_load ho ?_)
  rw [hc, hd]
  first
    | exact wpAny_pure hQ
    | (rw [if_neg (by decide)]; exact wpAny_pure hQ)
    | (simp only []; exact wpAny_pure hQ)
/-- a for loop over a tuple of pairs of the base, with an else -/
theorem loopT {Q : Flow → Shared → Prop} {xa xb : Str} {pa pb pt : Pos} {kt : Nat} {body orelse : List Stmt} {I L T : Addr} {items : Array Value} (J : Nat → Array GenState → OsState → (Str → Option Value) → List (Addr × Obj) → Prop)
    (hh : A.handled = none) (hxa : env.kindOf xa = some .local) (hxb : env.kindOf xb = some .local) (hp : (env.scope.kind == .class || (env.scope.kind == .module && env.locals != env.globals)) = false)
    (hT : IsTup h₀ T items) (hpr : ∀ (j : Nat) (v : Value), items[j]? = some v → ∃ (t : Addr) (x y : Value), v = Value.ref t ∧ IsTup h₀ t #[x, y])
    (hIL : I ≠ L) (hI : h₀.get? I = none) (hst : IsTupIter s.heap I T 0) (F : Fr h₀ L s.heap m) (N : News h₀ L s.heap news) (hoff : ∀ p ∈ news, p.1 ≠ I) (h0 : J 0 s.gens s.os m news)
    (step : ∀ (i : Nat) (t : Addr) (x y : Value) oI s₁ m₁ news₁, items[i]? = some (Value.ref t) → IsTup h₀ t #[x, y] → Fr h₀ L s₁.heap (fun z => if z = xb then some y else if z = xa then some x else m₁ z) → News h₀ L s₁.heap ((I, oI) :: news₁) → (∀ p ∈ news₁, p.1 ≠ I) → J i s₁.gens s₁.os m₁ news₁ →
      wpAny (model PG w) A (execs body env) (TurnW h₀ L I oI J Q i) E s₁)
    (hQ : ∀ s' m' news', Fr h₀ L s'.heap m' → News h₀ L s'.heap news' → J items.size s'.gens s'.os m' news' → wpAny (model PG w) A (execs orelse env) Q E s')
    (hloc : env.locals = L) (hE : PassesOwn (model PG w) A env E) :
    codeAny (model PG w) A (.forLoop (.Tuple [.Name xa pa, .Name xb pb] kt pt) (.ref I) body orelse env) (fun r s' => match r with | .ok f => Q f s' | .error e => cameBackBy (model PG w) A env E e s') s := by
  subst hloc
  refine codeAny_forLoop_any (fun k s' => ∃ m' news' i, IsTupIter s'.heap I T i ∧ Fr h₀ env.locals s'.heap m' ∧ News h₀ env.locals s'.heap news' ∧ (∀ p ∈ news', p.1 ≠ I) ∧ J i s'.gens s'.os m' news' ∧ i ≤ items.size ∧ k = items.size + 1 - i) ?_ (items.size + 1)
    ⟨m, news, 0, hst, F, N, hoff, h0, Nat.zero_le _, rfl⟩
  rintro k s' ⟨m', news', i, hst', F', N', hoff', hJ', hi, rfl⟩
  have hT' := IsTup.at hT F'.keep
  cases hv : items[i]? with
  | none =>
    have hsz : i = items.size := Nat.le_antisymm hi (by simpa using hv)
    subst hsz
    refine next_tuple_end hh hst' hT' hv fun h₁ he₁ => ?_
    exact wpAny_passesOwn hE (hQ { s' with heap := h₁ } m' news' (fr_off F' (fun b o hb e => he₁ b o hb e) hIL hI) (news_off N' (fun b o hb e => he₁ b o hb e) hoff') hJ')
  | some v =>
    have hlt : i < items.size := (Array.getElem?_eq_some_iff.mp hv).1
    obtain ⟨t, x, y, rfl, ht⟩ := hpr i v hv
    refine next_tuple_item hst' hT' hv fun h₁ hit₁ hs₁ => ?_
    have k₁ : ∀ b o, b ≠ I → s'.heap.get? b = some o → h₁.get? b = some o := fun b o hb e => (hs₁.2 b hb).trans e
    have F₁ := fr_off F' k₁ hIL hI
    have N₁ := news_off N' k₁ hoff'
    refine letGo_tup hit₁ ?_
    refine assign_Tuple_tuple (s := { s' with heap := h₁ }) hh (IsTup.at ht F₁.keep) rfl rfl fun h₂ he => ?_
    have F₂ := F₁.extBut he (Nat.le_refl _)
    have N₂ : News h₀ env.locals h₂ news' := fun p hp => ⟨he _ _ (Nat.ne_of_lt (Heap.lt_size (N₁ p hp).1)) (N₁ p hp).1, (N₁ p hp).2⟩
    have hit₂ : IsTupIter h₂ I T (i + 1) := by obtain ⟨o, ho, r⟩ := hit₁; exact ⟨o, he _ _ (Nat.ne_of_lt (Heap.lt_size ho)) ho, r⟩
    refine assignInOrder_cons (wpAny_assign_Name (wpAny_storeName_local hxa F₂.ns (fun h₃ hn₃ hs₃ => ?_) hp))
    have F₃ := F₂.set hn₃ hs₃
    refine assignInOrder_cons (wpAny_assign_Name (wpAny_storeName_local hxb F₃.ns (fun h₄ hn₄ hs₄ => ?_) hp))
    have F₄ := F₃.set hn₄ hs₄
    have hit₄ : IsTupIter h₄ I T (i + 1) := by obtain ⟨o, ho, r⟩ := hit₂; exact ⟨o, (hs₄.2 _ hIL).trans ((hs₃.2 _ hIL).trans ho), r⟩
    refine assignInOrder_nil ?_
    obtain ⟨oI, eI, rI⟩ := hit₄
    refine wpAny_mono (wpAny_passesOwn hE (step i t x y oI { s' with heap := h₄, toks := _ } m' news' hv ht F₄ (News.cons' ((N₂.set hs₃).set hs₄) eI hIL hI) hoff' hJ')) (fun f s₃ h₃ => ?_) fun _ _ e => e
    have fin : (∃ m₂ news₂, Fr h₀ env.locals s₃.heap m₂ ∧ News h₀ env.locals s₃.heap ((I, oI) :: news₂) ∧ (∀ p ∈ news₂, p.1 ≠ I) ∧ J (i + 1) s₃.gens s₃.os m₂ news₂) → ∃ n, n < items.size + 1 - i ∧ ∃ m' news' i, IsTupIter s₃.heap I T i ∧ Fr h₀ env.locals s₃.heap m' ∧ News h₀ env.locals s₃.heap news' ∧ (∀ p ∈ news', p.1 ≠ I) ∧ J i s₃.gens s₃.os m' news' ∧ i ≤ items.size ∧ n = items.size + 1 - i := by
      rintro ⟨m₂, news₂, F₂, N₂, off₂, hJ₂⟩
      exact ⟨items.size + 1 - (i + 1), by omega, m₂, news₂, i + 1, ⟨oI, N₂.get (.head _), rI⟩, F₂, newsOf N₂ fun _ h => .tail _ h, off₂, hJ₂, hlt, rfl⟩
    cases f with
    | next => exact fin h₃
    | cont => exact fin h₃
    | brk => exact h₃
    | ret v => exact h₃
/-- what a turn over an enumerate leaves -/
noncomputable def TurnE (h₀ : Heap) (L e it : Addr) (oe oi : Obj) (J : Nat → Array GenState → OsState → (Str → Option Value) → List (Addr × Obj) → Prop) (i : Nat) (f : Flow) (s₃ : Shared) : Prop :=
  f = .next ∧ ∃ m₂ news₂, Fr h₀ L s₃.heap m₂ ∧ News h₀ L s₃.heap ((e, oe) :: (it, oi) :: news₂) ∧ (∀ p ∈ news₂, p.1 ≠ e ∧ p.1 ≠ it) ∧ J (i + 1) s₃.gens s₃.os m₂ news₂
/-- a for loop over the enumerated items of a tuple of the base -/
theorem loopE {Q : Flow → Shared → Prop} {xi xv : Str} {pi pv pt : Pos} {kt : Nat} {body : List Stmt} {e it L T : Addr} {items : Array Value} (J : Nat → Array GenState → OsState → (Str → Option Value) → List (Addr × Obj) → Prop)
    (hh : A.handled = none) (hxi : env.kindOf xi = some .local) (hxv : env.kindOf xv = some .local) (hp : (env.scope.kind == .class || (env.scope.kind == .module && env.locals != env.globals)) = false)
    (hT : IsTup h₀ T items) (hne : e ≠ it) (heL : e ≠ L) (hiL : it ≠ L) (he₀ : h₀.get? e = none) (hi₀ : h₀.get? it = none) (he : IsEnum s.heap e it 0 .none) (hit : IsTupIter s.heap it T 0) (F : Fr h₀ L s.heap m) (N : News h₀ L s.heap news) (hoff : ∀ p ∈ news, p.1 ≠ e ∧ p.1 ≠ it) (h0 : J 0 s.gens s.os m news)
    (step : ∀ (i : Nat) (v : Value) (ti : Tok) oe oi s₁ m₁ news₁, items[i]? = some v → Fr h₀ L s₁.heap (fun z => if z = xv then some v else if z = xi then some (.int (i : Int) ti) else m₁ z) → News h₀ L s₁.heap ((e, oe) :: (it, oi) :: news₁) → (∀ p ∈ news₁, p.1 ≠ e ∧ p.1 ≠ it) → J i s₁.gens s₁.os m₁ news₁ →
      wpAny (model PG w) A (execs body env) (TurnE h₀ L e it oe oi J i) E s₁)
    (hQ : ∀ s' m' news', Fr h₀ L s'.heap m' → News h₀ L s'.heap news' → J items.size s'.gens s'.os m' news' → Q .next s')
    (hloc : env.locals = L) (hE : PassesOwn (model PG w) A env E) :
    codeAny (model PG w) A (.forLoop (.Tuple [.Name xi pi, .Name xv pv] kt pt) (.ref e) body [] env) (fun r s' => match r with | .ok f => Q f s' | .error e => cameBackBy (model PG w) A env E e s') s := by
  subst hloc
  refine codeAny_forLoop_any (fun k s' => ∃ m' news' i old, IsEnum s'.heap e it ((i : Nat) : Int) old ∧ IsTupIter s'.heap it T i ∧ Fr h₀ env.locals s'.heap m' ∧ News h₀ env.locals s'.heap news' ∧ (∀ p ∈ news', p.1 ≠ e ∧ p.1 ≠ it) ∧ J i s'.gens s'.os m' news' ∧ i ≤ items.size ∧ k = items.size + 1 - i) ?_ (items.size + 1)
    ⟨m, news, 0, .none, he, hit, F, N, hoff, h0, Nat.zero_le _, rfl⟩
  rintro k s' ⟨m', news', i, old, he', hit', F', N', hoff', hJ', hi, rfl⟩
  have hT' := IsTup.at hT F'.keep
  cases hv : items[i]? with
  | none =>
    have hsz : i = items.size := Nat.le_antisymm hi (by simpa using hv)
    subst hsz
    refine enum_end he' (fun A' Q' E' hA' k => nextOf_tup_end (hA'.trans hh) hit' hT' hv k) fun h₁ he₁ => wpAny_execs_nil ?_
    exact hQ { s' with heap := h₁ } m' news' (fr_off F' (fun b o hb q => he₁ b o hb q) hiL hi₀) (news_off N' (fun b o hb q => he₁ b o hb q) fun p hp => (hoff' p hp).2) hJ'
  | some v =>
    have hlt : i < items.size := (Array.getElem?_eq_some_iff.mp hv).1
    have heH : e < s'.heap.objs.size := Heap.lt_size he'
    refine enum_next (St := fun h => IsTupIter h it T (i + 1)) he' hne (fun A' Q' E' k => nextOf_tup hit' hT' hv k) (fun h h' st k => by obtain ⟨o, ho, r⟩ := st; exact ⟨o, k _ _ hne.symm ho, r⟩) fun h₁ heo hit₁ ht₁ hz₁ hk₁ => ?_
    refine wpAny_letOwnedTupleGo_enum heo fun h₂ he₂ hs₂ => ?_
    replace hs₂ : Heap.SameBut e h₁ h₂ := hs₂
    have k₂ : ∀ b o, b ≠ e → b ≠ it → s'.heap.get? b = some o → h₂.get? b = some o := fun b o hbe hbi q => hs₂.extBut b o hbe (hk₁ b o hbe hbi q)
    have ht₂ : IsTup h₂ s'.heap.objs.size #[.int i s'.toks, v] := ⟨_, (hs₂.2 _ (Nat.ne_of_gt heH)).trans ht₁, rfl, _, rfl⟩
    have hit₂ : IsTupIter h₂ it T (i + 1) := by obtain ⟨o, ho, r⟩ := hit₁; exact ⟨o, hs₂.extBut _ _ hne.symm ho, r⟩
    have F₂ : Fr h₀ env.locals h₂ m' := ⟨F'.ns.at' fun o q => k₂ _ o heL.symm hiL.symm q, fun b o q => k₂ b o (by rintro rfl; rw [he₀] at q; cases q) (by rintro rfl; rw [hi₀] at q; cases q) (F'.keep b o q), F'.above⟩
    have N₂ : News h₀ env.locals h₂ news' := fun p hp => ⟨k₂ _ _ (hoff' p hp).1 (hoff' p hp).2 (N' p hp).1, (N' p hp).2⟩
    refine assign_Tuple_tuple (s := { s' with heap := h₂, toks := s'.toks + 1 }) hh ht₂ rfl rfl fun h₃ hx₃ => ?_
    have lt₂ : ∀ b o, h₂.get? b = some o → h₃.get? b = some o := fun b o q => hx₃ b o (Nat.ne_of_lt (Heap.lt_size q)) q
    have F₃ := F₂.keeps lt₂
    have N₃ := N₂.grown lt₂
    refine assignInOrder_cons (wpAny_assign_Name (wpAny_storeName_local hxi F₃.ns (fun h₄ hn₄ hs₄ => ?_) hp))
    have F₄ := F₃.set hn₄ hs₄
    refine assignInOrder_cons (wpAny_assign_Name (wpAny_storeName_local hxv F₄.ns (fun h₅ hn₅ hs₅ => ?_) hp))
    have F₅ := F₄.set hn₅ hs₅
    refine assignInOrder_nil ?_
    have eE : h₅.get? e = some _ := (hs₅.2 _ heL).trans ((hs₄.2 _ heL).trans (lt₂ _ _ he₂))
    obtain ⟨oi, ei₂, ri⟩ := hit₂
    have eI : h₅.get? it = some oi := (hs₅.2 _ hiL).trans ((hs₄.2 _ hiL).trans (lt₂ _ _ ei₂))
    have N₅ := News.cons' (News.cons' ((N₃.set hs₄).set hs₅) eI hiL hi₀) eE heL he₀
    refine wpAny_mono (wpAny_passesOwn hE (step i v s'.toks _ oi { s' with heap := h₅, toks := _ } m' news' hv F₅ N₅ hoff' hJ')) (fun f s₃ h₃ => ?_) fun _ _ e => e
    obtain ⟨rfl, m₃, news₃, F₆, N₆, off₆, hJ₆⟩ := h₃
    exact ⟨items.size + 1 - (i + 1), by omega, m₃, news₃, i + 1, _, by have := N₆.get (.head _); exact_mod_cast this, ⟨oi, N₆.get (.tail _ (.head _)), ri⟩, F₆, newsOf N₆ fun _ h => .tail _ (.tail _ h), off₆, hJ₆, hlt, rfl⟩
end
end Mine
end
section
open PySem PySem.W PyProof.Rows PySem.Spec PySem.Calls
set_option maxRecDepth 100000
namespace Mine
theorem start_D9 : True := by
  w_top off
  k_with_none
  (k_with "own:omega" => (first | with_reducible assumption | (refine' Mine.room2 ?h ?e; (case h => with_reducible assumption); (case e => decide)) | (refine' Mine.room1 ?h ?e; (case h => with_reducible assumption); (case e => decide)) | (refine' Mine.le_up ?h ?e; (case h => with_reducible assumption); (case e => decide)) | (refine' Mine.room0 ?h; (case h => with_reducible assumption)) | ((fail_if_success (fail_if_success omega (config := {}))); lia)))
  trivial
/-- the table of stat: each row's place, its entries' places, bits and signs -/
noncomputable def ftab : List (Nat × List (Nat × Nat × Nat)) :=
  [(169, [(162, 40960, 108), (163, 49152, 115), (164, 32768, 45), (165, 24576, 98), (166, 16384, 100), (167, 8192, 99), (168, 4096, 112)]), (171, [(170, 256, 114)]), (173, [(172, 128, 119)]),
   (177, [(174, 2112, 115), (175, 2048, 83), (176, 64, 120)]), (179, [(178, 32, 114)]), (181, [(180, 16, 119)]), (185, [(182, 1032, 115), (183, 1024, 83), (184, 8, 120)]), (187, [(186, 4, 114)]), (189, [(188, 2, 119)]),
   (193, [(190, 513, 116), (191, 512, 84), (192, 1, 120)])]
noncomputable def refsEq : List Value → List Nat → Bool
  | [], [] => true
  | .ref a :: vs, b :: bs => a == b && refsEq vs bs
  | _, _ => false
theorem refsEq_of : ∀ {vs : List Value} {as : List Nat}, refsEq vs as = true → vs = as.map Value.ref
  | [], [], _ => rfl
  | .ref a :: vs, b :: bs, h => by
    simp only [refsEq, Bool.and_eq_true, beq_iff_eq] at h
    rw [List.map_cons, h.1, refsEq_of h.2]
  | [], _ :: _, h => by simp [refsEq] at h
  | .ref _ :: _, [], h => by simp [refsEq] at h
noncomputable def rowAt (K : Frag) (a : Nat) (as : List Nat) : Bool := match K.lookup a with
  | some ⟨.type "tuple", _, .seq xs _, _⟩ => refsEq xs.toList as
  | _ => false
noncomputable def pairAt (K : Frag) (a b c : Nat) : Bool := match K.lookup a with
  | some ⟨.type "tuple", _, .seq xs _, _⟩ => (match xs.toList with | [.int i _, .str y _] => i == (b : Int) && y == ⟨#[c]⟩ | _ => false)
  | _ => false
theorem rowAt_of {K : Frag} {h : Heap} (X : K.In h) {a : Nat} {as : List Nat} (e : rowAt K a as = true) : ∃ dct n sl, h.get? a = some { cls := .type "tuple", dict := dct, data := .seq (as.map Value.ref).toArray n, slots := sl } := by
  unfold rowAt at e
  split at e
  · rename_i d xs n sl hk
    have := refsEq_of e
    have e2 : xs = (as.map Value.ref).toArray := by rw [← this]
    subst e2
    exact ⟨d, n, sl, X _ _ hk⟩
  · cases e
theorem pairAt_of {K : Frag} {h : Heap} (X : K.In h) {a b c : Nat} (e : pairAt K a b c = true) : ∃ t u, IsTup h a #[.int (b : Int) t, .str ⟨#[c]⟩ u] := by
  unfold pairAt at e
  split at e
  · rename_i d xs n sl hk
    split at e
    · rename_i i t y u hx
      simp only [Bool.and_eq_true, beq_iff_eq] at e
      refine ⟨t, u, _, X _ _ hk, rfl, n, ?_⟩
      have : xs = #[.int i t, .str y u] := Array.toList_inj.mp hx
      rw [this, e.1, e.2]
    · cases e
  · cases e
noncomputable def ftOk (K : Frag) : Bool := rowAt K 194 (ftab.map (·.1)) && ftab.all fun p => rowAt K p.1 (p.2.map (·.1)) && p.2.all fun q => pairAt K q.1 q.2.1 q.2.2
theorem ft_ok (P : Params) : ftOk (KW P) = true := by kernel_rfl
theorem ft_top {P : Params} {h : Heap} (X : (KW P).In h) : ∃ dct n sl, h.get? 194 = some { cls := .type "tuple", dict := dct, data := .seq ((ftab.map (·.1)).map Value.ref).toArray n, slots := sl } := by
  have := ft_ok P
  simp only [ftOk, Bool.and_eq_true] at this
  exact rowAt_of X this.1
theorem ft_row {P : Params} {h : Heap} (X : (KW P).In h) {T : Nat} {es : List (Nat × Nat × Nat)} (hm : (T, es) ∈ ftab) : IsTup h T ((es.map (·.1)).map Value.ref).toArray ∧ ∀ q ∈ es, ∃ t u, IsTup h q.1 #[.int (q.2.1 : Int) t, .str ⟨#[q.2.2]⟩ u] := by
  have := ft_ok P
  simp only [ftOk, Bool.and_eq_true, List.all_eq_true] at this
  obtain ⟨h1, h2⟩ := this.2 _ hm
  obtain ⟨d, n, sl, e⟩ := rowAt_of X h1
  exact ⟨⟨_, e, rfl, _, rfl⟩, fun q hq => pairAt_of X (h2 q hq)⟩
theorem perm1 {g h : Heap} {L l : Addr} {news : List (Addr × Obj)} (N : News g L h ((l, listOf #[] 0) :: news)) : ∃ P : Addr, P = l ∧ News g L h ((P, listOf #[] 0) :: news) ∧ ∀ p ∈ news, p.1 ≠ P → True := ⟨l, rfl, N, fun _ _ _ => trivial⟩
theorem listK_append {w : World} {A : Around} {E : Value → Shared → Prop} {s : Shared} {g : Heap} {L l : Addr} {m : Str → Option Value} {rest : List (Addr × Obj)} {vs : List Value} {c : Nat} {x : Value} {Q : Value → Shared → Prop} (F : Fr g L s.heap m) (N : News g L s.heap ((l, listOf vs.toArray c) :: rest)) (hne : ∀ p ∈ rest, p.1 ≠ l) (hl : vs.length ≤ 1000)
    (h : ∀ c' h', Fr g L h' m → News g L h' ((l, listOf (vs ++ [x]).toArray c') :: rest) → Q .none { s with heap := h' }) : wpAny (model PG w) A (call (.builtin "list.append") [.ref l, x]) Q E s := by
  have hrow := N _ (.head _)
  refine wpAny_list_append_plain (items := vs.toArray) ⟨_, hrow.1⟩ (fun h' hp hs => ?_) (by rw [List.size_toArray, sizeLine_eq]; omega)
  obtain ⟨c', ho⟩ := hp
  rw [List.push_toArray] at ho
  refine h c' h' (F.change hs hrow.2.1 hrow.2.2) fun p hp => ?_
  rcases List.mem_cons.mp hp with rfl | hp
  · exact ⟨ho, hrow.2⟩
  · have := N p (.tail _ hp); exact ⟨(hs.2 p.1 (hne p hp)).trans this.1, this.2⟩
theorem neCons {I P : Addr} {oI : Obj} {rest : List (Addr × Obj)} (h : I ≠ P) (hr : ∀ p ∈ rest, p.1 ≠ P) : ∀ p ∈ (I, oI) :: rest, p.1 ≠ P := fun p hp => by
  rcases List.mem_cons.mp hp with rfl | hp
  · exact h
  · exact hr p hp
theorem reord3 {g h : Heap} {L : Addr} {a b x : Addr × Obj} {news : List (Addr × Obj)} (N : News g L h (a :: b :: x :: news)) : ∃ r, r = a :: b :: news ∧ News g L h (x :: r) := ⟨_, rfl, fun p hp => by
  rcases List.mem_cons.mp hp with rfl | hp
  · exact N _ (.tail _ (.tail _ (.head _)))
  · rcases List.mem_cons.mp hp with rfl | hp
    · exact N _ (.head _)
    · rcases List.mem_cons.mp hp with rfl | hp
      · exact N _ (.tail _ (.head _))
      · exact N _ (.tail _ (.tail _ (.tail _ hp)))⟩
theorem IsTup.inj {h : Heap} {t : Addr} {a b : Array Value} (x : IsTup h t a) (y : IsTup h t b) : a = b := by
  obtain ⟨o, ho, _, n, hd⟩ := x
  obtain ⟨o', ho', _, n', hd'⟩ := y
  rw [ho] at ho'; cases ho'
  rw [hd] at hd'; cases hd'
  rfl
/-- the sign that a row of the table picks -/
noncomputable def fpick (first : Bool) (z : Int) : List (Nat × Nat × Nat) → Nat
  | [] => if first = true then 63 else 45
  | q :: r => if (if first = true then z.toNat &&& 61440 = q.2.1 else z.toNat &&& q.2.1 = q.2.1) then q.2.2 else fpick first z r
theorem bitAnd_nat {z : Int} (hz : 0 ≤ z) (b : Nat) : Builtin.bitAnd z (b : Int) = ((z.toNat &&& b : Nat) : Int) := by
  unfold Builtin.bitAnd
  simp [hz]
theorem drop_cons {es : List (Nat × Nat × Nat)} {j : Nat} {q : Nat × Nat × Nat} (h : es[j]? = some q) : es.drop j = q :: es.drop (j + 1) := by
  obtain ⟨hj, e⟩ := List.getElem?_eq_some_iff.mp h
  rw [List.drop_eq_getElem_cons hj, e]
noncomputable def fsigns (z : Int) (i : Nat) : List Nat := (ftab.zipIdx.take i).map fun p => fpick (p.2 == 0) z p.1.2
theorem fsigns_succ {z : Int} {i T : Nat} {es : List (Nat × Nat × Nat)} (h : ftab[i]? = some (T, es)) : fsigns z (i + 1) = fsigns z i ++ [fpick (i == 0) z es] := by
  unfold fsigns
  have e : ftab.zipIdx[i]? = some ((T, es), i) := by rw [List.getElem?_zipIdx, h]; simp
  rw [List.take_add_one, e]
  simp
theorem strs_next {z : Int} {i T : Nat} {es : List (Nat × Nat × Nat)} {vs : List Value} {c : Nat} {u : Tok} (h : ftab[i]? = some (T, es)) (hS : StrsAre vs ((fsigns z i).map fun c => (⟨#[c]⟩ : Str))) (e : fpick (i == 0) z es = c) :
    StrsAre (vs ++ [.str ⟨#[c]⟩ u]) ((fsigns z (i + 1)).map fun c => (⟨#[c]⟩ : Str)) := by
  rw [fsigns_succ h, e, List.map_append]
  exact StrsAre.snoc hS
theorem back3 {g h : Heap} {L : Addr} {a b x y : Addr × Obj} {news : List (Addr × Obj)} (N : News g L h (x :: y :: a :: b :: news)) : News g L h (a :: b :: x :: news) := fun p hp => by
  rcases List.mem_cons.mp hp with rfl | hp
  · exact N _ (.tail _ (.tail _ (.head _)))
  · rcases List.mem_cons.mp hp with rfl | hp
    · exact N _ (.tail _ (.tail _ (.tail _ (.head _))))
    · rcases List.mem_cons.mp hp with rfl | hp
      · exact N _ (.head _)
      · exact N _ (.tail _ (.tail _ (.tail _ (.tail _ hp))))
theorem back2 {g h : Heap} {L : Addr} {a b x : Addr × Obj} {news : List (Addr × Obj)} (N : News g L h (x :: a :: b :: news)) : News g L h (a :: b :: x :: news) := fun p hp => by
  rcases List.mem_cons.mp hp with rfl | hp
  · exact N _ (.tail _ (.head _))
  · rcases List.mem_cons.mp hp with rfl | hp
    · exact N _ (.tail _ (.tail _ (.head _)))
    · rcases List.mem_cons.mp hp with rfl | hp
      · exact N _ (.head _)
      · exact N _ (.tail _ (.tail _ (.tail _ hp)))
theorem off2 {a b P : Addr} {o : Obj} {news : List (Addr × Obj)} (h : ∀ p ∈ (P, o) :: news, p.1 ≠ a ∧ p.1 ≠ b) (o' : Obj) : ∀ p ∈ (P, o') :: news, p.1 ≠ a ∧ p.1 ≠ b := fun p hp => by
  rcases List.mem_cons.mp hp with rfl | hp
  · exact h (P, o) (.head _)
  · exact h p (.tail _ hp)
theorem join_signs (l : List Nat) : Txt.join (Str.ofString "") (l.map fun c => (⟨#[c]⟩ : Str)) = stOf l := by
  have h := join_nil_signs (stOf l)
  have e : signs (stOf l) = l.map fun c => (⟨#[c]⟩ : Str) := by simp [signs, stOf]
  rw [e] at h
  rw [eq_of_beq (join_plain_closes (Str.ofString "") _), show Str.ofString "" = ⟨#[]⟩ from rfl]
  exact h
theorem ones_short (l : List Nat) : ∀ y ∈ l.map fun c => (⟨#[c]⟩ : Str), y.length ≤ 10 := by
  intro y hy
  obtain ⟨c, _, rfl⟩ := List.mem_map.mp hy
  show 1 ≤ 10
  decide
theorem lines_D9_0 : True := by
  (k_with "own:k_mem" => with_reducible_and_instances assumption)
  (k_with "own:steps" => repeat' (first | (k_unfold; (try dsimp only)) | ((fail_if_success (with_reducible show wpAny _ _ (exec (Stmt.For _ _ _ _ _) _) _ _ _)); (first | walk1 | (dsimp only; walk1) | fail "no step"))))
  (k_with "own:mem" => first | with_reducible assumption | exact List.mem_cons_self | (refine List.mem_cons_of_mem _ ?_; k_extra "own:mem"))
  (k_with "own:sub" => first | exact fun _ h => h | exact fun _ h => .tail _ h | exact fun _ h => .tail _ (.tail _ h) | exact fun _ h => .tail _ (.tail _ (.tail _ h)) | exact fun _ h => .tail _ (.tail _ (.tail _ (.tail _ h))) | exact fun _ h => .tail _ (.tail _ (.tail _ (.tail _ (.tail _ h)))) | exact fun _ h => .tail _ (.tail _ (.tail _ (.tail _ (.tail _ (.tail _ h))))))
  (k_with "own:idx" => first | omega | (rw [Int.fdiv_eq_ediv_of_nonneg _ (by decide)]; omega))
  (k_with "own:len" => first | omega | (simp only [List.length_append, List.length_cons, List.length_nil] at *; omega))
  (k_with "call builtin:str.join" => (k_here; (with_reducible show wpAny _ _ (call (Value.builtin "str.join") [Value.str _ _, Value.ref _]) _ _ _); k_dflt (refine' join_K ?k1 ?k2 ?k3 ?k4 ?k5 ?k6 ?_; (case k1 => k_asm); (case k2 => k_extra "own:mem"); (case k3 => k_asm); (case k4 => k_extra "own:short"); (case k5 => k_extra "own:jlen"); (case k6 => decide); k_whole); intro _ _))
  (k_with "own:short" => exact ones_short _)
  (k_with "own:jlen" => omega)
  trivial
set_option maxHeartbeats 1000000 in
theorem ifmt_call {w : World} {p : Program} {loose : List Str} {mean : ExcName → Option Value} {mg mb : Str → Option Value} {dp un : Nat} {gd : Option (List Code)} {cn : Str} {cs : Scope} {a : Addr} {ccd : Value} {cl : List (Str × Addr)} {outer : List Env} {A₀ : Around} {base h₀ : Heap} {L : Addr} {m : Str → Option Value} {news : List (Addr × Obj)} {s : Shared}
    {Q E : Value → Shared → Prop} {z : Int} {t : Tok}
    (B : Below A₀ base outer h₀) (F : Fr h₀ L s.heap m) (X : (KW w.params).In h₀) (N : News h₀ L s.heap news) (T : Top p loose mean mg mb h₀) (hk : cs.kind = .function)
    (hd : dp + 2 < recursionLimit) (hu : un + 20 < cLine) (hz0 : 0 ≤ z) (hz1 : z < 65536)
    (ret : ∀ t' h' tk', Fr h₀ L h' m → News h₀ L h' news → Q (.int (Builtin.bitAnd z 61440) t') { s with heap := h', toks := tk' }) :
    wpAny (model PG w) (ktrTop dp un gd cn cs L a ccd cl outer) (call (.ref 161) [.int z t]) Q E s := by
  refine wpAny_call ?_
  k_dflt ktr_enter
  k_extra "own:steps"
  exact ret _ _ _ (by k_asm) (by k_asm)
theorem lines_D9_1 : True := by
  (k_with "call ref" => (k_here; (k_dflt (show wpAny _ _ (call (Value.ref 161) [Value.int _ _]) _ _ _)); k_dflt (refine' ifmt_call ?k1 ?k2 ?k3 ?k4 ?k5 ?k6 ?k7 ?k8 ?k9 ?ka ?_; (case k1 => k_asm); (case k2 => k_asm); (case k3 => k_asm); (case k4 => k_asm); (case k5 => k_asm); (case k6 => first | exact rfl | assumption); (case k7 => ktr_room); (case k8 => ktr_units); (case k9 => omega); (case ka => omega); k_whole); intro _ _ _ _ _; (try dsimp only); (try k_sweep)))
  (k_with "call builtin:list.append" => (k_here; (with_reducible show wpAny _ _ (call (Value.builtin "list.append") [Value.ref _, Value.str _ _]) _ _ _); (k_dflt (refine' listK_append ?k1 ?k2 ?k3 ?k4 ?_; (case k1 => k_asm); (case k2 => k_asm); (case k3 => k_asm); (case k4 => omega); k_whole)); intro _ _ _ _; (try k_sweep)))
  trivial
set_option maxHeartbeats 2000000 in
theorem filemode_call {w : World} {p : Program} {loose : List Str} {mean : ExcName → Option Value} {mg mb : Str → Option Value} {dp un : Nat} {gd : Option (List Code)} {cn : Str} {cs : Scope} {a : Addr} {ccd : Value} {cl : List (Str × Addr)} {outer : List Env} {A₀ : Around} {base h₀ : Heap} {L : Addr} {m : Str → Option Value} {news : List (Addr × Obj)} {s : Shared}
    {Q E : Value → Shared → Prop} {z : Int} {t : Tok}
    (B : Below A₀ base outer h₀) (F : Fr h₀ L s.heap m) (X : (KW w.params).In h₀) (N : News h₀ L s.heap news) (T : Top p loose mean mg mb h₀) (hk : cs.kind = .function)
    (hd : dp + 8 < recursionLimit) (hu : un + 100 < cLine) (hz0 : 0 ≤ z) (hz1 : z < 65536)
    (ret : ∀ t' s', Fr h₀ L s'.heap m → News h₀ L s'.heap news → s'.gens = s.gens → s'.os = s.os → Q (.str (stOf (fsigns z 10)) t') s') :
    wpAny (model PG w) (ktrTop dp un gd cn cs L a ccd cl outer) (call (.ref 201) [.int z t]) Q E s := by
  refine wpAny_call ?_
  k_dflt ktr_enter
  k_extra "own:steps"
  refine wpAny_For ?_
  k_extra "own:steps"
  rename Fr _ _ _ _ => lF
  rename News _ _ _ _ => lN
  rename KW _ |>.In _ => lX
  obtain ⟨P, hP, lN₀, _⟩ := perm1 lN
  subst hP
  obtain ⟨dct, n0, sl, e194⟩ := ft_top lX
  have hnP : ∀ p ∈ news, p.1 ≠ P := fun p hp => Nat.ne_of_lt ((by with_reducible assumption : ∀ p ∈ news, p.1 < P) p hp)
  refine call_enum_tup (lF.keep _ _ e194) fun h₁ he₁ hit₁ k₁ => ?_
  refine wpAny_pyIter_enum he₁ ?_
  have lL := lF.ns.lt
  have lfr := lF.fresh
  have F₁ := lF.keeps k₁
  have N₁ := lN₀.grown k₁
  refine loopE (fun i g os m₁ news₁ => ∃ (vs : List Value) (c : Nat), news₁ = (P, listOf vs.toArray c) :: news ∧ StrsAre vs ((fsigns z i).map fun c => (⟨#[c]⟩ : Str)) ∧ vs.length = i ∧ g = s.gens ∧ os = s.os ∧ m₁ (Str.ofString "perm") = some (.ref P) ∧ m₁ (Str.ofString "mode") = some (.int z t)) rfl rfl rfl rfl ⟨_, e194, rfl, _, rfl⟩ (Nat.succ_ne_self _) (Nat.ne_of_gt (Nat.lt_succ_of_lt lL)) (Nat.ne_of_gt lL) (Heap.get?_none_of_le (Nat.le_trans lF.above (Nat.le_trans (Nat.le_of_lt lL) (Nat.le_succ _)))) lfr he₁ hit₁ F₁ N₁ ?off ⟨[], 0, rfl, .nil, rfl, rfl, rfl, rfl, rfl⟩ ?step ?fin rfl (by passes_own)
  case off => exact fun p hp => ⟨Nat.ne_of_lt (Nat.lt_succ_of_lt (Heap.lt_size (lN₀ p hp).1)), Nat.ne_of_lt (Heap.lt_size (lN₀ p hp).1)⟩
  case step =>
    rintro i v ti oe oi s₁ m₁ news₁ hv F₂ N₂ off ⟨vs, c, rfl, hS, hvl, hg, ho, hm1, hm2⟩
    obtain ⟨T, es, hti, rfl⟩ : ∃ T es, ftab[i]? = some (T, es) ∧ v = .ref T := by
      rw [List.getElem?_toArray, List.getElem?_map, List.getElem?_map] at hv
      cases hf : ftab[i]? with
      | none => rw [hf] at hv; cases hv
      | some p => rw [hf] at hv; exact ⟨p.1, p.2, rfl, (Option.some.inj hv).symm⟩
    have hi10 : i < 10 := by
      rcases Nat.lt_or_ge i 10 with h | h
      · exact h
      · rw [List.getElem?_eq_none h] at hti; cases hti
    obtain ⟨hrow, hent⟩ := ft_row lX (List.mem_of_getElem? hti)
    replace F₂ := at4 (x1 := Str.ofString "mode") (x2 := Str.ofString "perm") (x3 := Str.ofString "index") (x4 := Str.ofString "table") F₂ (by rw [if_neg (by decide), if_neg (by decide)]; exact hm2) (by rw [if_neg (by decide), if_neg (by decide)]; exact hm1) (by rw [if_neg (by decide), if_pos rfl]) (by rw [if_pos rfl])
    clear lF lN lN₀ N₁ F₁
    k_extra "own:steps"
    refine wpAny_For ?_
    k_extra "own:steps"
    refine iter_tuple (IsTup.at hrow F₂.keep) ?_
    obtain ⟨rest₀, hr₀, N₃⟩ := reord3 N₂
    have hne₀ : ∀ p ∈ rest₀, p.1 ≠ P := fun p hp => by
      rw [hr₀] at hp
      have := off _ (.head _)
      rcases List.mem_cons.mp hp with rfl | hp
      · exact this.1.symm
      · rcases List.mem_cons.mp hp with rfl | hp
        · exact this.2.symm
        · exact hnP p hp
    have lL₂ := F₂.ns.lt
    have lfr₂ := F₂.fresh
    have hpr : ∀ (j : Nat) (v : Value), ((es.map (·.1)).map Value.ref).toArray[j]? = some v → ∃ q, es[j]? = some q ∧ v = .ref q.1 := fun j v hj => by
      rw [List.getElem?_toArray, List.getElem?_map, List.getElem?_map] at hj
      cases hf : es[j]? with
      | none => rw [hf] at hj; cases hj
      | some p => rw [hf] at hj; exact ⟨p, rfl, (Option.some.inj hj).symm⟩
    refine loopT (fun j g os m₁ nw => nw = (P, listOf vs.toArray c) :: rest₀ ∧ fpick (i == 0) z es = fpick (i == 0) z (es.drop j) ∧ g = s.gens ∧ os = s.os ∧ m₁ (Str.ofString "perm") = some (.ref P) ∧ m₁ (Str.ofString "mode") = some (.int z t) ∧ m₁ (Str.ofString "index") = some (.int (i : Int) ti)) rfl rfl rfl rfl hrow
      (fun j v hj => by obtain ⟨q, hq, rfl⟩ := hpr j v hj; obtain ⟨t', u', h'⟩ := hent q (List.mem_of_getElem? hq); exact ⟨_, _, _, rfl, h'⟩) (Nat.ne_of_gt lL₂) lfr₂ ⟨_, Heap.get?_push_size _ rfl, rfl, rfl⟩ (F₂.push _) (N₃.pushKeep _) N₃.apart ⟨rfl, rfl, hg, ho, rfl, rfl, rfl⟩ ?_ ?_ rfl (by passes_own)
    · rintro j tj x y oI s₂ m₂ news₂ hj htj F₃ N₄ off₃ ⟨rfl, hpk, hg', ho', hm1', hm2', hm3'⟩
      obtain ⟨q, hq, e⟩ := hpr j _ hj
      cases e
      obtain ⟨tb, tc, hq'⟩ := hent q (List.mem_of_getElem? hq)
      have exy := IsTup.inj htj hq'
      obtain rfl : x = .int (q.2.1 : Int) tb := by have := congrArg (fun z => z[0]?) exy; simpa using this
      obtain rfl : y = .str ⟨#[q.2.2]⟩ tc := by have := congrArg (fun z => z[1]?) exy; simpa using this
      replace F₃ := at5 (x1 := Str.ofString "mode") (x2 := Str.ofString "perm") (x3 := Str.ofString "index") (x4 := Str.ofString "bit") (x5 := Str.ofString "char") F₃ (by rw [if_neg (by decide), if_neg (by decide)]; exact hm2') (by rw [if_neg (by decide), if_neg (by decide)]; exact hm1') (by rw [if_neg (by decide), if_neg (by decide)]; exact hm3') (by rw [if_neg (by decide), if_pos rfl]) (by rw [if_pos rfl])
      have N₅ := Mine.News.second N₄
      have hne₅ := neCons (oI := oI) (off₃ _ (.head _)).symm hne₀
      have hvl' : vs.length ≤ 1000 := by omega
      clear F₂ N₂ N₃ N₄
      k_extra "own:steps"
      · rename Builtin.bitAnd _ _ = _ => hb
        rename (i : Int) = 0 => hi0
        have hfi : (i == 0) = true := by simp; omega
        rename News _ _ _ _ => N₆
        rename Fr _ _ _ _ => F₆
        rw [show (61440 : Int) = ((61440 : Nat) : Int) from rfl, bitAnd_nat hz0] at hb
        subst hr₀
        have e : fpick (i == 0) z es = q.2.2 := by
          rw [hpk, drop_cons hq, fpick, if_pos (by rw [hfi]; simpa using Int.ofNat.inj hb)]
        refine wpAny_execs_nil ⟨rfl, _, _, F₆, back3 N₆, off2 off _, _, _, rfl, strs_next hti hS e, by simp [hvl], hg', ho', rfl, rfl⟩
      · rename ¬ Builtin.bitAnd _ _ = _ => hb
        rename (i : Int) = 0 => hi0
        have hfi : (i == 0) = true := by simp; omega
        rw [show (61440 : Int) = ((61440 : Nat) : Int) from rfl, bitAnd_nat hz0] at hb
        refine TurnW.next _ (by k_asm) (by k_asm) (fun p hp => ?_) off₃ ⟨rfl, ?_, hg', ho', rfl, rfl, rfl⟩
        · rcases List.mem_cons.mp hp with rfl | hp
          · exact .tail _ (.head _)
          · rcases List.mem_cons.mp hp with rfl | hp
            · exact .head _
            · exact .tail _ (.tail _ hp)
        · rw [hpk, drop_cons hq, fpick, if_neg (by rw [hfi]; intro h; exact hb (congrArg Int.ofNat (by simpa using h)))]
      · rename Builtin.bitAnd _ _ = _ => hb
        rename ¬ (i : Int) = 0 => hi0
        have hfi : (i == 0) = false := by simp; omega
        rename News _ _ _ _ => N₆
        rename Fr _ _ _ _ => F₆
        rw [bitAnd_nat hz0] at hb
        subst hr₀
        have e : fpick (i == 0) z es = q.2.2 := by
          rw [hpk, drop_cons hq, fpick, if_pos (by rw [hfi]; simpa using Int.ofNat.inj hb)]
        refine wpAny_execs_nil ⟨rfl, _, _, F₆, back3 N₆, off2 off _, _, _, rfl, strs_next hti hS e, by simp [hvl], hg', ho', rfl, rfl⟩
      · rename ¬ Builtin.bitAnd _ _ = _ => hb
        rename ¬ (i : Int) = 0 => hi0
        have hfi : (i == 0) = false := by simp; omega
        rw [bitAnd_nat hz0] at hb
        refine TurnW.next _ (by k_asm) (by k_asm) (fun p hp => ?_) off₃ ⟨rfl, ?_, hg', ho', rfl, rfl, rfl⟩
        · rcases List.mem_cons.mp hp with rfl | hp
          · exact .tail _ (.head _)
          · rcases List.mem_cons.mp hp with rfl | hp
            · exact .head _
            · exact .tail _ (.tail _ hp)
        · rw [hpk, drop_cons hq, fpick, if_neg (by rw [hfi]; intro h; exact hb (congrArg Int.ofNat (by simpa using h)))]
    · rintro s₂ m₂ news₂ F₃ N₄ ⟨rfl, hpk, hg', ho', hm1', hm2', hm3'⟩
      replace F₃ := at2 (x1 := Str.ofString "perm") (x2 := Str.ofString "index") F₃ hm1' hm3'
      have hvl' : vs.length ≤ 1000 := by omega
      have hsz : ((es.map (·.1)).map Value.ref).toArray.size = es.length := by simp
      rw [hsz, List.drop_length] at hpk
      clear F₂ N₂ N₃
      k_extra "own:steps"
      · rename (i : Int) = 0 => hi0
        have hfi : (i == 0) = true := by simp; omega
        rename News _ _ _ _ => N₆
        rename Fr _ _ _ _ => F₆
        subst hr₀
        have e : fpick (i == 0) z es = 63 := by rw [hpk, fpick, hfi]; rfl
        exact ⟨rfl, _, _, F₆, back2 N₆, off2 off _, _, _, rfl, strs_next hti hS e, by simp [hvl], hg', ho', by first | rfl | exact hm1', by first | rfl | exact hm2'⟩
      · rename ¬ (i : Int) = 0 => hi0
        have hfi : (i == 0) = false := by simp; omega
        rename News _ _ _ _ => N₆
        rename Fr _ _ _ _ => F₆
        subst hr₀
        have e : fpick (i == 0) z es = 45 := by rw [hpk, fpick, hfi]; rfl
        exact ⟨rfl, _, _, F₆, back2 N₆, off2 off _, _, _, rfl, strs_next hti hS e, by simp [hvl], hg', ho', by first | rfl | exact hm1', by first | rfl | exact hm2'⟩
  case fin =>
    rintro s₁ m₁ news₁ F₂ N₂ ⟨vs, c, rfl, hS, hvl, hg, ho, hm1, hm2⟩
    replace F₂ := at1 F₂ hm1
    clear lF lN lN₀ N₁ F₁
    dsimp only
    have hl10 : vs.length ≤ 1000 := by rw [hvl]; decide
    k_extra "own:steps"
    rw [join_signs]
    exact ret _ _ (by k_asm) (newsOf (by k_asm) fun _ h => .tail _ h) hg ho
end Mine
end
section
open PySem PySem.W PyProof.Rows PySem.Spec PySem.Calls
set_option maxRecDepth 100000
namespace Mine
theorem start_V3 : True := by
  w_top off
  k_with_none
  (k_with "own:omega" => (first | with_reducible assumption | (refine' Mine.room2 ?h ?e; (case h => with_reducible assumption); (case e => decide)) | (refine' Mine.room1 ?h ?e; (case h => with_reducible assumption); (case e => decide)) | (refine' Mine.le_up ?h ?e; (case h => with_reducible assumption); (case e => decide)) | (refine' Mine.room0 ?h; (case h => with_reducible assumption)) | ((fail_if_success (fail_if_success omega (config := {}))); lia)))
  trivial
theorem and_bit (n k : Nat) : n &&& 2 ^ k = if n / 2 ^ k % 2 = 1 then 2 ^ k else 0 := by
  apply Nat.eq_of_testBit_eq
  intro i
  rw [Nat.testBit_and, Nat.testBit_two_pow]
  by_cases h : n / 2 ^ k % 2 = 1
  · rw [if_pos h, Nat.testBit_two_pow]
    by_cases e : k = i
    · subst e; simp [Nat.testBit_eq_decide_div_mod_eq, h]
    · simp [e]
  · rw [if_neg h, Nat.zero_testBit]
    by_cases e : k = i
    · subst e; simp [Nat.testBit_eq_decide_div_mod_eq, h]
    · simp [e]
theorem and_two {n a b : Nat} {p q : Prop} [Decidable p] [Decidable q] (ha : n &&& a = if p then a else 0) (hb : n &&& b = if q then b else 0) : n &&& (a ||| b) = (if p then a else 0) ||| (if q then b else 0) := by
  rw [Nat.and_or_distrib_left, ha, hb]
theorem dig (s : String) (l : List Nat) (h : (Str.ofString s).cps.toList = l) (i : Nat) : (Str.ofString s).cps.getD i 0 = l.getD i 0 := by
  rw [← h, Array.getD_eq_getD_getElem?, List.getD_eq_getElem?_getD, Array.getElem?_toList]
theorem dg1 (k : Nat) : (4 ≤ (k : Int) % 8) ↔ k / 4 % 2 = 1 := by omega
theorem dg2 (k : Nat) : (2 ≤ (k : Int) % 8 % 4) ↔ k / 2 % 2 = 1 := by omega
theorem dg3 (k m : Nat) : ((k : Int) % 8 % 2 + 2 * ((m : Int) % 2)).toNat = k % 2 + 2 * (m % 2) := by omega
theorem grp1 (n : Nat) : [fpick false (n : Int) [(170, 256, 114)], fpick false (n : Int) [(172, 128, 119)], fpick false (n : Int) [(174, 2112, 115), (175, 2048, 83), (176, 64, 120)]] = lsign (n : Int) 64 2048 (Str.ofString "-xSs") := by
  have h1 : n &&& 256 = if n / 64 / 4 % 2 = 1 then 256 else 0 := by rw [Nat.div_div_eq_div_mul]; exact and_bit n 8
  have h2 : n &&& 128 = if n / 64 / 2 % 2 = 1 then 128 else 0 := by rw [Nat.div_div_eq_div_mul]; exact and_bit n 7
  have h3 : n &&& 64 = if n / 64 % 2 = 1 then 64 else 0 := and_bit n 6
  have h4 : n &&& 2048 = if n / 2048 % 2 = 1 then 2048 else 0 := and_bit n 11
  have h5 : n &&& 2112 = _ := and_two h4 h3
  have k1 : (n : Int) / 64 = ((n / 64 : Nat) : Int) := rfl
  have k2 : (n : Int) / 2048 = ((n / 2048 : Nat) : Int) := rfl
  unfold lsign
  rw [dig "-xSs" [45, 120, 83, 115] (by rfl)]
  simp only [fpick, Bool.false_eq_true, if_false, Int.toNat_natCast, h1, h2, h3, h4, h5]
  simp (disch := decide) only [Int.fdiv_eq_ediv_of_nonneg, Int.fmod_eq_emod_of_nonneg]
  rw [k1, k2, dg3]
  simp only [dg1, dg2, decide_eq_true_eq]
  have a1 := Nat.mod_two_eq_zero_or_one (n / 64 / 4)
  have a2 := Nat.mod_two_eq_zero_or_one (n / 64 / 2)
  have a3 := Nat.mod_two_eq_zero_or_one (n / 64)
  have a4 := Nat.mod_two_eq_zero_or_one (n / 2048)
  clear h1 h2 h3 h4 h5 k1 k2
  generalize n / 64 / 4 % 2 = d1 at *
  generalize n / 64 / 2 % 2 = d2 at *
  generalize n / 64 % 2 = d3 at *
  generalize n / 2048 % 2 = d4 at *
  rcases a1 with rfl | rfl <;> rcases a2 with rfl | rfl <;> rcases a3 with rfl | rfl <;> rcases a4 with rfl | rfl <;> decide
theorem grp2 (n : Nat) : [fpick false (n : Int) [(178, 32, 114)], fpick false (n : Int) [(180, 16, 119)], fpick false (n : Int) [(182, 1032, 115), (183, 1024, 83), (184, 8, 120)]] = lsign (n : Int) 8 1024 (Str.ofString "-xSs") := by
  have h1 : n &&& 32 = if n / 8 / 4 % 2 = 1 then 32 else 0 := by rw [Nat.div_div_eq_div_mul]; exact and_bit n 5
  have h2 : n &&& 16 = if n / 8 / 2 % 2 = 1 then 16 else 0 := by rw [Nat.div_div_eq_div_mul]; exact and_bit n 4
  have h3 : n &&& 8 = if n / 8 % 2 = 1 then 8 else 0 := and_bit n 3
  have h4 : n &&& 1024 = if n / 1024 % 2 = 1 then 1024 else 0 := and_bit n 10
  have h5 : n &&& 1032 = _ := and_two h4 h3
  have k1 : (n : Int) / 8 = ((n / 8 : Nat) : Int) := rfl
  have k2 : (n : Int) / 1024 = ((n / 1024 : Nat) : Int) := rfl
  unfold lsign
  rw [dig "-xSs" [45, 120, 83, 115] (by rfl)]
  simp only [fpick, Bool.false_eq_true, if_false, Int.toNat_natCast, h1, h2, h3, h4, h5]
  simp (disch := decide) only [Int.fdiv_eq_ediv_of_nonneg, Int.fmod_eq_emod_of_nonneg]
  rw [k1, k2, dg3]
  simp only [dg1, dg2, decide_eq_true_eq]
  have a1 := Nat.mod_two_eq_zero_or_one (n / 8 / 4)
  have a2 := Nat.mod_two_eq_zero_or_one (n / 8 / 2)
  have a3 := Nat.mod_two_eq_zero_or_one (n / 8)
  have a4 := Nat.mod_two_eq_zero_or_one (n / 1024)
  clear h1 h2 h3 h4 h5 k1 k2
  generalize n / 8 / 4 % 2 = d1 at *
  generalize n / 8 / 2 % 2 = d2 at *
  generalize n / 8 % 2 = d3 at *
  generalize n / 1024 % 2 = d4 at *
  rcases a1 with rfl | rfl <;> rcases a2 with rfl | rfl <;> rcases a3 with rfl | rfl <;> rcases a4 with rfl | rfl <;> decide
theorem grp3 (n : Nat) : [fpick false (n : Int) [(186, 4, 114)], fpick false (n : Int) [(188, 2, 119)], fpick false (n : Int) [(190, 513, 116), (191, 512, 84), (192, 1, 120)]] = lsign (n : Int) 1 512 (Str.ofString "-xTt") := by
  have h1 : n &&& 4 = if n / 1 / 4 % 2 = 1 then 4 else 0 := by rw [Nat.div_div_eq_div_mul]; exact and_bit n 2
  have h2 : n &&& 2 = if n / 1 / 2 % 2 = 1 then 2 else 0 := by rw [Nat.div_div_eq_div_mul]; exact and_bit n 1
  have h3 : n &&& 1 = if n / 1 % 2 = 1 then 1 else 0 := and_bit n 0
  have h4 : n &&& 512 = if n / 512 % 2 = 1 then 512 else 0 := and_bit n 9
  have h5 : n &&& 513 = _ := and_two h4 h3
  have k1 : (n : Int) / 1 = ((n / 1 : Nat) : Int) := rfl
  have k2 : (n : Int) / 512 = ((n / 512 : Nat) : Int) := rfl
  unfold lsign
  rw [dig "-xTt" [45, 120, 84, 116] (by rfl)]
  simp only [fpick, Bool.false_eq_true, if_false, Int.toNat_natCast, h1, h2, h3, h4, h5]
  simp (disch := decide) only [Int.fdiv_eq_ediv_of_nonneg, Int.fmod_eq_emod_of_nonneg]
  rw [k1, k2, dg3]
  simp only [dg1, dg2, decide_eq_true_eq]
  have a1 := Nat.mod_two_eq_zero_or_one (n / 1 / 4)
  have a2 := Nat.mod_two_eq_zero_or_one (n / 1 / 2)
  have a3 := Nat.mod_two_eq_zero_or_one (n / 1)
  have a4 := Nat.mod_two_eq_zero_or_one (n / 512)
  clear h1 h2 h3 h4 h5 k1 k2
  generalize n / 1 / 4 % 2 = d1 at *
  generalize n / 1 / 2 % 2 = d2 at *
  generalize n / 1 % 2 = d3 at *
  generalize n / 512 % 2 = d4 at *
  rcases a1 with rfl | rfl <;> rcases a2 with rfl | rfl <;> rcases a3 with rfl | rfl <;> rcases a4 with rfl | rfl <;> decide
theorem high16 : ∀ k, k < 16 → ((if k / 8 % 2 = 1 then 32768 else 0) ||| ((if k / 4 % 2 = 1 then 16384 else 0) ||| ((if k / 2 % 2 = 1 then 8192 else 0) ||| (if k % 2 = 1 then 4096 else 0)))) = k * 4096 := by decide
theorem and_high (n : Nat) (h : n < 65536) : n &&& 61440 = n / 4096 * 4096 := by
  have h1 : n &&& 32768 = if n / 4096 / 8 % 2 = 1 then 32768 else 0 := by rw [Nat.div_div_eq_div_mul]; exact and_bit n 15
  have h2 : n &&& 16384 = if n / 4096 / 4 % 2 = 1 then 16384 else 0 := by rw [Nat.div_div_eq_div_mul]; exact and_bit n 14
  have h3 : n &&& 8192 = if n / 4096 / 2 % 2 = 1 then 8192 else 0 := by rw [Nat.div_div_eq_div_mul]; exact and_bit n 13
  have h4 : n &&& 4096 = if n / 4096 % 2 = 1 then 4096 else 0 := and_bit n 12
  rw [show (61440 : Nat) = 32768 ||| (16384 ||| (8192 ||| 4096)) from rfl, Nat.and_or_distrib_left, Nat.and_or_distrib_left, Nat.and_or_distrib_left, h1, h2, h3, h4]
  exact high16 _ (Nat.div_lt_of_lt_mul h)
theorem first_sign (n : Nat) (h : n < 65536) : fpick true (n : Int) [(162, 40960, 108), (163, 49152, 115), (164, 32768, 45), (165, 24576, 98), (166, 16384, 100), (167, 8192, 99), (168, 4096, 112)] = (Str.ofString "?pc?d?b?-?l?s???").cps.getD ((n : Int).fdiv 4096).toNat 0 := by
  rw [dig "?pc?d?b?-?l?s???" [63, 112, 99, 63, 100, 63, 98, 63, 45, 63, 108, 63, 115, 63, 63, 63] (by rfl)]
  simp only [fpick, if_true, Int.toNat_natCast, and_high n h]
  rw [Int.fdiv_eq_ediv_of_nonneg _ (by decide), show ((n : Int) / 4096).toNat = n / 4096 by omega]
  have hk : n / 4096 < 16 := by omega
  generalize n / 4096 = k at *
  clear h
  revert k
  decide
/-- filemode writes what the listing tells -/
theorem signs_eq (z : Int) (h0 : 0 ≤ z) (h1 : z < 65536) : fsigns z 10 = lst z 3 := by
  obtain ⟨n, rfl⟩ := Int.eq_ofNat_of_zero_le h0
  have e0 := first_sign n (by omega)
  have e1 := grp1 n
  have e2 := grp2 n
  have e3 := grp3 n
  have el : fsigns (n : Int) 10 = fpick true (n : Int) [(162, 40960, 108), (163, 49152, 115), (164, 32768, 45), (165, 24576, 98), (166, 16384, 100), (167, 8192, 99), (168, 4096, 112)] :: ([fpick false (n : Int) [(170, 256, 114)], fpick false (n : Int) [(172, 128, 119)], fpick false (n : Int) [(174, 2112, 115), (175, 2048, 83), (176, 64, 120)]] ++ ([fpick false (n : Int) [(178, 32, 114)], fpick false (n : Int) [(180, 16, 119)], fpick false (n : Int) [(182, 1032, 115), (183, 1024, 83), (184, 8, 120)]] ++ [fpick false (n : Int) [(186, 4, 114)], fpick false (n : Int) [(188, 2, 119)], fpick false (n : Int) [(190, 513, 116), (191, 512, 84), (192, 1, 120)]])) := rfl
  have er : lst (n : Int) 3 = (Str.ofString "?pc?d?b?-?l?s???").cps.getD ((n : Int).fdiv 4096).toNat 0 :: (lsign n 64 2048 (Str.ofString "-xSs") ++ (lsign n 8 1024 (Str.ofString "-xSs") ++ lsign n 1 512 (Str.ofString "-xTt"))) := by
    rw [lst3, lst2, lst1]
    simp [lst]
  rw [el, er, e0, e1, e2, e3]
end Mine
end
section
open PySem PySem.W PyProof.Rows PySem.Spec PySem.Calls
set_option maxRecDepth 100000
namespace Mine
theorem start_ENT : True := by
  w_top off
  k_with_none
  (k_with "own:omega" => (first | with_reducible assumption | (refine' Mine.room2 ?h ?e; (case h => with_reducible assumption); (case e => decide)) | (refine' Mine.room1 ?h ?e; (case h => with_reducible assumption); (case e => decide)) | (refine' Mine.le_up ?h ?e; (case h => with_reducible assumption); (case e => decide)) | (refine' Mine.room0 ?h; (case h => with_reducible assumption)) | ((fail_if_success (fail_if_success omega (config := {}))); lia)))
  trivial
/-- the law's own record, as the head writes it out -/
noncomputable def lawRecP : {d : DefRec // ∃ q loose XP YP r kwd run, (WalkO q loose XP YP r d kwd run → PySem.Challenge.rw_oc0130_01.Holds)} := ⟨_, _, _, _, _, _, _, _, hdx⟩
noncomputable def lawBody : List Stmt := lawRecP.1.body
noncomputable def LawGoal : Prop := ∀ (w : World) (p : Program) (loose : List Str) (mean : ExcName → Option Value) (mg mb : Str → Option Value) (A₀ : Around) (h₀ : Heap) (L a : Addr) (ccd : Value) (ns : List Int) (vs : List Value) (la : Addr) (s : Shared) (Q : Flow → Shared → Prop) (E : Value → Shared → Prop),
  Below A₀ h₀ [] h₀ → Fr h₀ L s.heap (fun x => List.lookup x [(Str.ofString "script", .ref la)]) → (KW w.params).In h₀ → News h₀ L s.heap [(112, tabObj #[]), (119, tabObj #[])] → Top p loose mean mg mb h₀ → AllBare s.gens →
  h₀.IsList la vs.toArray → IntsAre vs ns → ns.length ≤ 63 →
  (∀ m' s' ps ps', Fr h₀ L s'.heap m' → News h₀ L s'.heap [(112, tabObj ps), (119, tabObj ps')] → AllBare s'.gens → s'.os = s.os → Q (Flow.ret (.bool true)) s') →
  wpAny (model PG w) (ktrTop 302 7 (some []) lawRecP.1.name lawRecP.1.scope L a ccd [] []) (execs lawBody (envX lawRecP.1.name lawRecP.1.scope L a ccd [])) Q E s
set_option maxHeartbeats 8000000 in
theorem law_enter (H : LawGoal) : PySem.Challenge.rw_oc0130_01.Holds := by
  refine hdx ?_
  w_strict (
    intro w s₀ s₁ mg mb G Y fa o pm cd doc dV kV ho hd hcd hD hmg hg args vals as hpre hlay hrd hwl hlo
    have KX := kIn_of Y
    refine Ground.open G ?_
    intro T B D TE TW
    clear hmg
    wrow_args hpre hlay hrd hwl hlo
    refine enter_call ?_
    w_top on
    w_call any ho hd hcd hD T F
    k_drop
    skip)
  rename News _ _ _ [] => N0
  rename Heap.IsList _ _ _ => hL
  rename IntsAre _ _ => hI
  rename ¬ (_ < _) => hlen
  have hT : TabsAt [(116, 112), (123, 119)] s₁.heap := List.forall_mem_cons.mpr ⟨⟨codeHd_of_K (c := 116) (P := 112) KX (by kernel_rfl), KX 112 _ (by kernel_rfl)⟩, List.forall_mem_cons.mpr ⟨⟨codeHd_of_K (c := 123) (P := 119) KX (by kernel_rfl), KX 119 _ (by kernel_rfl)⟩, fun _ h => nomatch h⟩⟩
  have N₁ := ghost_news hT F N0
  have F₁ := ghost_fr hT F
  have T₁ := ghost_top hT T
  have X₁ : (KW w.params).In (ghostOf s₁.heap [(116, 112), (123, 119)]) := fun x y e => by
    refine ghost_ne (KW_in KX x y e) ?_
    have e1 : (KW w.params).lookup 112 = none := by kernel_rfl
    have e2 : (KW w.params).lookup 119 = none := by kernel_rfl
    intro hm
    rcases List.mem_cons.mp hm with rfl | hm
    · rw [e1] at e; cases e
    · rw [List.mem_singleton.mp hm, e2] at e; cases e
  have B₁ := ghost_below hT
  have L₁ := ghost_list hT hL
  refine H w _ _ _ mg mb _ _ _ fa cd _ _ _ _ _ _ B₁ F₁ X₁ N₁ T₁ (by rw [hg]; exact fun _ h => by simp at h) L₁ hI (by omega) ?_
  intro m' s' ps ps' F₂ N₂ G₂ hos
  have n1 := (N₂ _ (.head _)).1
  have n2 := (N₂ _ (.tail _ (.head _))).1
  have t1 := KX 112 (tabObj #[]) (by kernel_rfl)
  have t2 := KX 119 (tabObj #[]) (by kernel_rfl)
  have c1 : isCodeTable s₁.heap 112 := by
    obtain ⟨o, vs, _, _, _, _, _, _, _, h1, h2, h3, h4, -⟩ := (hT _ (.head _)).1
    exact ⟨_, o, vs, h1, h2, h3, h4⟩
  have c2 : isCodeTable s₁.heap 119 := by
    obtain ⟨o, vs, _, _, _, _, _, _, _, h1, h2, h3, h4, -⟩ := (hT _ (.tail _ (.head _))).1
    exact ⟨_, o, vs, h1, h2, h3, h4⟩
  have hne : ∀ b o, s₁.heap.get? b = some o → b ≠ 112 → b ≠ 119 → s'.heap.get? b = some o := fun b o e h1 h2 => F₂.keep b o (ghost_ne e (by intro hm; rcases List.mem_cons.mp hm with h | h; exact h1 h; exact h2 (List.mem_singleton.mp h)))
  have hold : OldK s₁.heap s'.heap := by
    constructor
    · intro b o e
      by_cases h1 : b = 112
      · subst h1
        rw [t1] at e; cases e
        exact .inr (.inl ⟨c1, rfl, #[], ps, rfl, by rw [n1]; simp [tabObj]⟩)
      · by_cases h2 : b = 119
        · subst h2
          rw [t2] at e; cases e
          exact .inr (.inl ⟨c2, rfl, #[], ps', rfl, by rw [n2]; simp [tabObj]⟩)
        · exact .inl (hne b o e h1 h2)
    · intro b o e
      by_cases h1 : b = 112
      · subst h1; exact ⟨_, n1⟩
      · by_cases h2 : b = 119
        · subst h2; exact ⟨_, n2⟩
        · exact ⟨_, hne b o e h1 h2⟩
  refine ⟨.inl ⟨.bool true, .bool true, [], rfl, fun _ => rfl, ?reads, ?post, fun _ => ⟨.nil, fun _ h => nomatch h⟩⟩, hold, hos, G₂⟩
  case reads => exact ReadsW.bool _
  case post => kernel_rfl
end Mine
end
section
open PySem PySem.W PyProof.Rows PySem.Spec PySem.Calls
set_option maxRecDepth 100000
namespace Mine
theorem start_CS : True := by
  w_top off
  k_with_none
  (k_with "own:omega" => (first | with_reducible assumption | (refine' Mine.room2 ?h ?e; (case h => with_reducible assumption); (case e => decide)) | (refine' Mine.room1 ?h ?e; (case h => with_reducible assumption); (case e => decide)) | (refine' Mine.le_up ?h ?e; (case h => with_reducible assumption); (case e => decide)) | (refine' Mine.room0 ?h; (case h => with_reducible assumption)) | ((fail_if_success (fail_if_success omega (config := {}))); lia)))
  trivial
open PyProof.Rows.LCg (NsObj Off3 Off1 CompEnd CompRest)
set_option maxHeartbeats 2000000 in
theorem piece_callF {w : World} {p : Program} {loose : List Str} {mean : ExcName → Option Value} {mg mb : Str → Option Value} {dp un : Nat} {gd : Option (List Code)} {cn : Str} {cs : Scope} {a : Addr} {ccd : Value} {cl : List (Str × Addr)} {outer : List Env} {A₀ : Around} {base h₀ : Heap} {L : Addr} {m : Str → Option Value} {rest : List (Addr × Obj)} {s : Shared}
    {Q E : Value → Shared → Prop} {c : Nat} {t : Tok}
    (B : Below A₀ base outer h₀) (F : Fr h₀ L s.heap m) (X : (KW w.params).In h₀) (N : News h₀ L s.heap rest) (T : Top p loose mean mg mb h₀) (hk : cs.kind = .function)
    (hd : dp + 5 < recursionLimit) (hu : un + 50 < cLine) (hc : 0 < c) (hc' : c < BL)
    (ret : ∀ q t u h' tk', Fr h₀ L h' m → News h₀ L h' ((q, tupObj (pcF (pieceOf c)) t (pcS (pieceOf c)) u) :: rest) → (∀ p ∈ rest, p.1 ≠ q) → Q (.ref q) { s with heap := h', toks := tk' }) :
    wpAny (model PG w) (ktrTop dp un gd cn cs L a ccd cl outer) (call (.ref 215) [.str ⟨#[c]⟩ t]) Q E s := by
  refine wpAny_call ?_
  k_dflt ktr_enter
  k_steps
  · rename Fr h₀ _ _ _ => F₆
    rename News h₀ _ _ _ => N₆
    rename ((_ == Str.ofString "-") = true) => he
    rename (∀ (p : Addr × Obj), p ∈ rest → p.fst < _) => l1
    replace he := beq_iff_eq.mp he
    have e : c = 45 := (List.cons.inj (show [c] = [45] from congrArg (fun x : Str => x.cps.toList) he)).1
    have e1 : pcF (pieceOf c) = Str.ofString " " := by rw [e]; rfl
    have e2 : pcS (pieceOf c) = Str.ofString "" := by rw [e]; rfl
    rw [e1, e2] at ret
    exact ret _ _ _ _ _ F₆ N₆ fun p hp => Nat.ne_of_lt (l1 p hp)
  · rename Fr h₀ _ _ _ => F₆
    rename News h₀ _ _ _ => N₆
    rename ((_ == Str.ofString "-") = false) => he
    rename (∀ (p : Addr × Obj), p ∈ rest → p.fst < _) => l1
    have e : c ≠ 45 := by rintro rfl; exact absurd he (by decide)
    have e0 : pieceOf c = c := if_neg e
    have e1 : pcF (pieceOf c) = Str.ofString "" := by rw [e0]; unfold pcF; rw [if_neg (by omega)]; rfl
    have e2 : pcS (pieceOf c) = ⟨#[c]⟩ := by rw [e0]; unfold pcS; rw [if_neg (by omega)]
    rw [e1, e2] at ret
    exact ret _ _ _ _ _ F₆ N₆ fun p hp => Nat.ne_of_lt (l1 p hp)
theorem stOf_size (l : List Nat) : (stOf l).cps.size = l.length := by simp [stOf]
theorem sign_of {l : List Nat} {i : Nat} {v : Value} (h : SignAt (stOf l) i v) (hi : i < l.length) : ∃ u, v = .str ⟨#[l.getD i 0]⟩ u := by
  obtain ⟨c, u, e, rfl⟩ := h
  refine ⟨u, ?_⟩
  have : l[i]? = some c := by simpa [stOf] using e
  rw [List.getD_eq_getElem?_getD, this]; rfl
theorem take_snoc {l : List Nat} {i : Nat} (hi : i < l.length) : l.take (i + 1) = l.take i ++ [l.getD i 0] := by
  rw [List.take_add_one, List.getD_eq_getElem?_getD, List.getElem?_eq_getElem hi]; rfl
theorem getD_mem {l : List Nat} {i : Nat} (hi : i < l.length) : l.getD i 0 ∈ l := by
  rw [List.getD_eq_getElem?_getD, List.getElem?_eq_getElem hi]; exact List.getElem_mem hi
theorem Pairs.are {tl : List (Addr × Obj)} : ∀ {vs : List Value} {ks : List Nat}, (∀ k ∈ ks, k ≤ BL) → Pairs tl vs (ks.map fun k => (pcF k, pcS k)) → Are tl vs ks
  | [], [], _, _ => trivial
  | [], _ :: _, _, h => h
  | _ :: _, [], _, h => h
  | _ :: _, k :: ks, hb, ⟨⟨a, t, u, e, hm⟩, r⟩ => ⟨⟨a, e, hb k List.mem_cons_self, t, u, hm⟩, Pairs.are (fun k hk => hb k (List.mem_cons_of_mem _ hk)) r⟩
/-- the tuples of these pieces alone -/
theorem Are.core {rest : List (Addr × Obj)} : ∀ {vs : List Value} {ks : List Nat}, Are rest vs ks → ∃ tl : List (Addr × Obj), (∀ p ∈ tl, p ∈ rest ∧ p.2.cls = .type "tuple") ∧ Are tl vs ks
  | [], [], _ => ⟨[], fun _ h => (nomatch h), trivial⟩
  | [], _ :: _, h => h.elim
  | _ :: _, [], h => h.elim
  | _ :: _, k :: ks, ⟨⟨a, e, hb, t, u, hm⟩, r⟩ => by
    obtain ⟨tl, h1, h2⟩ := Are.core r
    refine ⟨(a, tupObj (pcF k) t (pcS k) u) :: tl, fun p hp => ?_, ⟨a, e, hb, t, u, List.mem_cons_self⟩, Are.mono (fun _ h => List.mem_cons_of_mem _ h) h2⟩
    rcases List.mem_cons.mp hp with rfl | hp
    · exact ⟨hm, rfl⟩
    · exact h1 p hp
section
variable {w : World} {A : Around} {E : Value → Shared → Prop} {s : Shared} {g : Heap} {L : Addr} {m : Str → Option Value} {env : Env} {news : List (Addr × Obj)}
theorem rest_tup {x b : Str} {p1 p2 p3 : Pos} {k0 k : Nat} {scope : Scope} {cl : List (Str × Addr)} {Fin : List Value → List (Addr × Obj) → Prop} {l : List Nat}
    (hk : (relabel scope env).kind = .function) (hx : (relabel scope env).names.lookup x = some .local) (hd : (x == ("__debug__" : Str)) = false)
    (hfin : ∀ tl ys, Pairs tl ys (l.map fun c => (b, (⟨#[c]⟩ : Str))) → (∀ p ∈ tl, p.2.cls = .type "tuple") → Fin ys (tl ++ news)) :
    CompRest PG w A g L m env (.Tuple [.Constant (.str b) k0 p1, .Name x p2] k p3) x scope cl s (fun _ => True) (SignAt (stOf l)) Fin l.length 0 [] news := by
  refine rest_ind (n := l.length) (fun i ys nw => ∃ tl, nw = tl ++ news ∧ Pairs tl ys ((l.take i).map fun c => (b, (⟨#[c]⟩ : Str))) ∧ ∀ p ∈ tl, p.2.cls = .type "tuple") ?_ ?_ l.length 0 [] news (by omega) ⟨[], rfl, trivial, fun _ h => nomatch h⟩
  · rintro ys nw ⟨tl, rfl, hP, ht⟩
    rw [List.take_length] at hP; exact hfin tl ys hP ht
  · rintro i ys nw v I oI C oC D m₂ h tk E' hi ⟨tl, rfl, hP, ht⟩ hS hC hm F N off ne
    obtain ⟨u, rfl⟩ := sign_of hS hi
    have hlt := N.apart
    refine wpAny_Tuple (wpAny_items_cons (wpAny_Constant_str (wpAny_items_cons (wpAny_Name (wpAny_loadName_local hk hx (hC.ns (N.get (.tail _ (.head _)))) hm (wpAny_items_nil ⟨by rw [sizeLine_eq]; show 2 ≤ _; omega, ?_⟩)) hd))))
    refine CompEnd.intro (F.push _) (N.push F _) ((h.objs.size, tupObj b tk ⟨#[l.getD i 0]⟩ u) :: (tl ++ news)) ?_ ⟨⟨?_, ?_, ?_⟩, off⟩ trivial ⟨(h.objs.size, tupObj b tk ⟨#[l.getD i 0]⟩ u) :: tl, rfl, ?_, ?_⟩
    · intro p hp
      rcases List.mem_cons.mp hp with rfl | hp
      · exact .tail _ (.head _)
      rcases List.mem_cons.mp hp with rfl | hp
      · exact .tail _ (.tail _ (.head _))
      rcases List.mem_cons.mp hp with rfl | hp
      · exact .tail _ (.tail _ (.tail _ (.head _)))
      rcases List.mem_cons.mp hp with rfl | hp
      · exact .head _
      · exact .tail _ (.tail _ (.tail _ (.tail _ hp)))
    · exact Ne.symm (hlt _ (.head _))
    · exact Ne.symm (hlt _ (.tail _ (.head _)))
    · exact Ne.symm (hlt _ (.tail _ (.tail _ (.head _))))
    · rw [take_snoc hi, List.map_append]
      exact Pairs.append (Pairs.mono (fun _ h => List.mem_cons_of_mem _ h) hP) ⟨⟨_, _, _, rfl, List.mem_cons_self⟩, trivial⟩
    · intro p hp
      rcases List.mem_cons.mp hp with rfl | hp
      · rfl
      · exact ht p hp
theorem rest_cat {x b : Str} {p1 p2 p3 : Pos} {k0 : Nat} {scope : Scope} {cl : List (Str × Addr)} {Fin : List Value → List (Addr × Obj) → Prop} {l : List Nat} (hb : b.length ≤ 10)
    (hk : (relabel scope env).kind = .function) (hx : (relabel scope env).names.lookup x = some .local) (hd : (x == ("__debug__" : Str)) = false)
    (hfin : ∀ ys, StrsAre ys (l.map fun c => b ++ (⟨#[c]⟩ : Str)) → Fin ys news) :
    CompRest PG w A g L m env (.BinOp (.Constant (.str b) k0 p1) .Add (.Name x p2) p3) x scope cl s (fun _ => True) (SignAt (stOf l)) Fin l.length 0 [] news := by
  refine rest_ind (n := l.length) (fun i ys nw => StrsAre ys ((l.take i).map fun c => b ++ (⟨#[c]⟩ : Str)) ∧ nw = news) ?_ ?_ l.length 0 [] news (by omega) ⟨by simpa using StrsAre.nil, rfl⟩
  · rintro ys nw ⟨hP, rfl⟩
    rw [List.take_length] at hP; exact hfin ys hP
  · rintro i ys nw v I oI C oC D m₂ h tk E' hi ⟨hP, rfl⟩ hS hC hm F N off ne
    obtain ⟨u, rfl⟩ := sign_of hS hi
    refine wpAny_BinOp (wpAny_Constant_str (wpAny_Name (wpAny_loadName_local hk hx (hC.ns (N.get (.tail _ (.head _)))) hm ?_) hd))
    refine PyProof.Rows.add_str (fun t' tk' => ?_) (by rw [sizeLine_eq]; show b.length + 1 ≤ _; omega)
    refine CompEnd.intro F N nw (fun p hp => hp) off trivial ⟨?_, rfl⟩
    rw [take_snoc hi, List.map_append]
    exact StrsAre.snoc hP
theorem rest_piece {elt : PySem.Expr} {x : Str} {scope : Scope} {cl : List (Str × Addr)} {Fin : List Value → List (Addr × Obj) → Prop} {l : List Nat} (f : Nat → Nat) (hb : ∀ c ∈ l, f c ≤ BL)
    (hstep : ∀ c u C oC m₂ h tk news' (Q' E' : Value → Shared → Prop), c ∈ l → NsObj oC m₂ → m₂ x = some (.str ⟨#[c]⟩ u) → Fr g L h m → News g L h news' → (C, oC) ∈ news' →
      (∀ q t u h' tk', Fr g L h' m → News g L h' ((q, tupObj (pcF (f c)) t (pcS (f c)) u) :: news') → (∀ p ∈ news', p.1 ≠ q) → Q' (.ref q) { s with heap := h', toks := tk' }) →
      wpAny (model PG w) A (eval elt (compEnvC scope cl C env)) Q' E' { s with heap := h, toks := tk })
    (hfin : ∀ tl ys, Are tl ys (l.map f) → (∀ p ∈ tl, p.2.cls = .type "tuple") → Fin ys (tl ++ news)) :
    CompRest PG w A g L m env elt x scope cl s (fun _ => True) (SignAt (stOf l)) Fin l.length 0 [] news := by
  refine rest_ind (n := l.length) (fun i ys nw => ∃ tl, nw = tl ++ news ∧ Are tl ys ((l.take i).map f) ∧ ∀ p ∈ tl, p.2.cls = .type "tuple") ?_ ?_ l.length 0 [] news (by omega) ⟨[], rfl, trivial, fun _ h => nomatch h⟩
  · rintro ys nw ⟨tl, rfl, hP, ht⟩
    rw [List.take_length] at hP; exact hfin tl ys hP ht
  · rintro i ys nw v I oI C oC D m₂ h tk E' hi ⟨tl, rfl, hP, ht⟩ hS hC hm F N off ne
    obtain ⟨u, rfl⟩ := sign_of hS hi
    refine hstep _ u C oC m₂ h tk _ _ E' (getD_mem hi) hC hm F N (.tail _ (.head _)) fun q t u h' tk' F' N' hlt => ?_
    refine CompEnd.intro F' N' ((q, tupObj (pcF (f (l.getD i 0))) t (pcS (f (l.getD i 0))) u) :: (tl ++ news)) ?_ ⟨⟨?_, ?_, ?_⟩, off⟩ trivial ⟨(q, tupObj (pcF (f (l.getD i 0))) t (pcS (f (l.getD i 0))) u) :: tl, rfl, ?_, ?_⟩
    · intro p hp
      rcases List.mem_cons.mp hp with rfl | hp
      · exact .tail _ (.head _)
      rcases List.mem_cons.mp hp with rfl | hp
      · exact .tail _ (.tail _ (.head _))
      rcases List.mem_cons.mp hp with rfl | hp
      · exact .tail _ (.tail _ (.tail _ (.head _)))
      rcases List.mem_cons.mp hp with rfl | hp
      · exact .head _
      · exact .tail _ (.tail _ (.tail _ (.tail _ hp)))
    · exact Ne.symm (hlt _ (.head _))
    · exact Ne.symm (hlt _ (.tail _ (.head _)))
    · exact Ne.symm (hlt _ (.tail _ (.tail _ (.head _))))
    · rw [take_snoc hi, List.map_append]
      exact Are.append (Are.mono (fun _ h => List.mem_cons_of_mem _ h) hP) ⟨⟨_, rfl, hb _ (getD_mem hi), _, _, List.mem_cons_self⟩, trivial⟩
    · intro p hp
      rcases List.mem_cons.mp hp with rfl | hp
      · rfl
      · exact ht p hp
end
section
variable {w : World} {A : Around} {E : Value → Shared → Prop} {s : Shared} {env : Env} {h₀ : Heap} {m : Str → Option Value} {news : List (Addr × Obj)}
theorem loopWC {Q : Flow → Shared → Prop} {x : Str} {px : Pos} {body : List Stmt} {I L : Addr} {fp : List Addr} {n : Nat} {P : Nat → Value → Prop} {St : Nat → Heap → Prop} (K : Obj → Prop) (hK : ∀ i h o, St i h → h.get? I = some o → K o) (S : List (Addr × Obj) → Prop) (J : Nat → Array GenState → OsState → (Str → Option Value) → List (Addr × Obj) → Prop)
    (W : Walks PG w A I fp [I] n P St) (hIo : ∀ i h, St i h → ∃ o, h.get? I = some o) (hSt : ∀ i h h' o nw, St i h → h.get? I = some o → h'.get? I = some o → News h₀ L h' nw → S nw → St i h') (hJS : ∀ i g os m₁ nw, J i g os m₁ nw → S nw)
    (hx : env.kindOf x = some .local) (hp : (env.scope.kind == .class || (env.scope.kind == .module && env.locals != env.globals)) = false)
    (hL : L ∉ fp) (hI : h₀.get? I = none) (hst : St 0 s.heap) (F : Fr h₀ L s.heap m) (N : News h₀ L s.heap news) (hoff : ∀ p ∈ news, p.1 ≠ I) (h0 : J 0 s.gens s.os m news)
    (step : ∀ i v oI s₁ m₁ news₁, i < n → P i v → K oI → Fr h₀ L s₁.heap (fun y => if y = x then some v else m₁ y) → News h₀ L s₁.heap ((I, oI) :: news₁) → (∀ p ∈ news₁, p.1 ≠ I) → J i s₁.gens s₁.os m₁ news₁ →
      wpAny (model PG w) A (execs body env) (TurnW h₀ L I oI J Q i) E s₁)
    (hQ : ∀ s' m' news', Fr h₀ L s'.heap m' → News h₀ L s'.heap news' → J n s'.gens s'.os m' news' → Q .next s')
    (hloc : env.locals = L) (hE : PassesOwn (model PG w) A env E) :
    codeAny (model PG w) A (.forLoop (.Name x px) (.ref I) body [] env) (fun r s' => match r with | .ok f => Q f s' | .error e => cameBackBy (model PG w) A env E e s') s := by
  have hIL : I ≠ L := fun e => hL (W.sub _ (by rw [e]; simp))
  refine loopS J W hx hp hL hI hst F N hoff h0 (fun i v s₁ m₁ news₁ hi hP hst₁ F₁ N₁ off₁ hJ => ?_) hQ hloc hE
  obtain ⟨oI, eI⟩ := hIo _ _ hst₁
  refine wpAny_mono (step i v oI s₁ m₁ news₁ hi hP (hK _ _ _ hst₁ eI) F₁ (News.cons' N₁ eI hIL hI) off₁ hJ) (fun f s₃ h₃ => ?_) fun _ _ e => e
  have go : (∃ m₂ news₂, Fr h₀ L s₃.heap m₂ ∧ News h₀ L s₃.heap ((I, oI) :: news₂) ∧ (∀ p ∈ news₂, p.1 ≠ I) ∧ J (i + 1) s₃.gens s₃.os m₂ news₂) →
      ∃ m₂ news₂, Fr h₀ L s₃.heap m₂ ∧ News h₀ L s₃.heap news₂ ∧ (∀ p ∈ news₂, p.1 ≠ I) ∧ St (i + 1) s₃.heap ∧ J (i + 1) s₃.gens s₃.os m₂ news₂ := by
    rintro ⟨m₂, news₂, F₂, N₂, off₂, hJ₂⟩
    exact ⟨m₂, news₂, F₂, newsOf N₂ fun _ h => .tail _ h, off₂, hSt _ _ _ _ news₂ hst₁ eI (N₂.get (.head _)) (newsOf N₂ fun _ h => .tail _ h) (hJS _ _ _ _ _ hJ₂), hJ₂⟩
  cases f with
  | next => exact go h₃
  | cont => exact go h₃
  | brk => exact h₃
  | ret v => exact h₃
theorem loopListC {Q : Flow → Shared → Prop} {x : Str} {px : Pos} {body : List Stmt} {L l : Addr} {vs : List Value} {c : Nat} (J : Nat → Array GenState → OsState → (Str → Option Value) → List (Addr × Obj) → Prop)
    (hJl : ∀ i g os m₁ nw, J i g os m₁ nw → (l, listOf vs.toArray c) ∈ nw) (F : Fr h₀ L s.heap m) (N : News h₀ L s.heap news) (h0 : J 0 s.gens s.os m news)
    (step : ∀ i v I oI s₁ m₁ news₁, i < vs.length → vs[i]? = some v → oI.cls = .type "list_iterator" → Fr h₀ L s₁.heap (fun y => if y = x then some v else m₁ y) → News h₀ L s₁.heap ((I, oI) :: news₁) → (∀ p ∈ news₁, p.1 ≠ I) → J i s₁.gens s₁.os m₁ news₁ →
      wpAny (model PG w) A (execs body env) (TurnW h₀ L I oI J Q i) E s₁)
    (hQ : ∀ s' m' news', Fr h₀ L s'.heap m' → News h₀ L s'.heap news' → J vs.length s'.gens s'.os m' news' → Q .next s')
    (hh : A.handled = none) (hx : env.kindOf x = some .local) (hp : (env.scope.kind == .class || (env.scope.kind == .module && env.locals != env.globals)) = false)
    (hloc : env.locals = L) (hE : PassesOwn (model PG w) A env E) :
    wpAny (model PG w) A (pyIter (.ref l)) (fun it s₂ => codeAny (model PG w) A (.forLoop (.Name x px) it body [] env) (fun r s' => match r with | .ok f => Q f s' | .error e => cameBackBy (model PG w) A env E e s') s₂) E s := by
  have hl := hJl _ _ _ _ _ h0
  have ho := N.get hl
  have hlt := Heap.lt_size ho
  refine wpAny_pyIter_list (items := vs.toArray) ⟨_, ho, rfl, _, rfl⟩ ?_
  have lL := F.ns.lt
  have W := walks_seq (w := w) hh s.heap.objs.size l (Nat.ne_of_lt hlt) vs.toArray
  have es : vs.toArray.size = vs.length := List.size_toArray ..
  have ef : (fun (i : Nat) v => vs.toArray[i]? = some v) = (fun (i : Nat) v => vs[i]? = some v) := by funext i v; simp
  rw [es, ef] at W
  refine loopWC (fun o => o.cls = .type "list_iterator") (fun i h o st e => by obtain ⟨o', e', hc, _⟩ := st.1; rw [e] at e'; cases e'; exact hc) (fun nw => (l, listOf vs.toArray c) ∈ nw) J W (fun i h st => by obtain ⟨o, e, _⟩ := st.1; exact ⟨o, e⟩) (fun i h h' o nw st e e' N' S => ?_) hJl hx hp ?_ F.fresh ⟨⟨_, Heap.get?_push_size _ rfl, rfl, rfl⟩, ⟨_, _, Heap.get?_push_of_some _ ho, rfl⟩⟩ (F.push _) (N.pushKeep _) N.apart h0
    (fun i v oI s₁ m₁ news₁ hi hP hK F₁ N₁ off hJ => step i v _ oI s₁ m₁ news₁ hi hP hK F₁ N₁ off hJ) hQ hloc hE
  · exact ⟨by obtain ⟨o', q, r⟩ := st.1; rw [e] at q; cases q; exact ⟨o, e', r⟩, ⟨_, _, N'.get S, rfl⟩⟩
  · intro h
    rcases List.mem_cons.mp h with e | h
    · exact Nat.lt_irrefl _ (e ▸ lL)
    · have : L = l := List.mem_singleton.mp h
      exact (N _ hl).2.1 this.symm
end
end Mine
end
section
open PySem PySem.W PyProof.Rows PySem.Spec PySem.Calls
set_option maxRecDepth 100000
namespace Mine
theorem start_LX : True := by
  w_top off
  k_with_none
  (k_with "own:omega" => (first | with_reducible assumption | (refine' Mine.room2 ?h ?e; (case h => with_reducible assumption); (case e => decide)) | (refine' Mine.room1 ?h ?e; (case h => with_reducible assumption); (case e => decide)) | (refine' Mine.le_up ?h ?e; (case h => with_reducible assumption); (case e => decide)) | (refine' Mine.room0 ?h; (case h => with_reducible assumption)) | ((fail_if_success (fail_if_success omega (config := {}))); lia)))
  trivial
theorem Rest.cons {rest : List (Addr × Obj)} {row d : Addr} {k : Int} {p : Addr × Obj} (R : Rest rest row d k) (h : p.1 ≠ row) : Rest (p :: rest) row d k :=
  ⟨fun z hz => (List.mem_cons.mp hz).elim (fun e => e ▸ h) (R.ne z), let ⟨a, b, c, e, h⟩ := R.sz; ⟨a, b, c, e, .tail _ h⟩, let ⟨ps, h, f⟩ := R.tab; ⟨ps, .tail _ h, f⟩, R.lo, R.hi⟩
theorem Rest.app {rest tl : List (Addr × Obj)} {row d : Addr} {k : Int} (R : Rest rest row d k) (h : ∀ p ∈ tl, p.1 ≠ row) : Rest (tl ++ rest) row d k :=
  ⟨fun z hz => (List.mem_append.mp hz).elim (h z) (R.ne z), let ⟨a, b, c, e, h⟩ := R.sz; ⟨a, b, c, e, List.mem_append_right _ h⟩, let ⟨ps, h, f⟩ := R.tab; ⟨ps, List.mem_append_right _ h, f⟩, R.lo, R.hi⟩
theorem acc_cls {d : Addr} {items : Array Value} {n : Nat} {o : Obj} {T : String} (h : o.cls = .type T) : o ≠ accObj d items n := fun e => by
  rw [e] at h; cases h
theorem ne_acc {g h : Heap} {L row d : Addr} {items : Array Value} {n : Nat} {news : List (Addr × Obj)} (N : News g L h news) (hr : (row, accObj d items n) ∈ news) {p : Addr × Obj} (hp : p ∈ news) {T : String} (ht : p.2.cls = .type T) : p.1 ≠ row :=
  News.twoPlaces N hp hr (acc_cls ht)
theorem swapN {g h : Heap} {L : Addr} {x : Addr × Obj} {tl rest : List (Addr × Obj)} (N : News g L h (tl ++ x :: rest)) : News g L h (x :: (tl ++ rest)) :=
  newsOf N fun p hp => by
    rcases List.mem_cons.mp hp with rfl | hp
    · exact List.mem_append_right _ List.mem_cons_self
    · rcases List.mem_append.mp hp with hp | hp
      · exact List.mem_append_left _ hp
      · exact List.mem_append_right _ (List.mem_cons_of_mem _ hp)
theorem BL_pos : 0 < BL := by decide
theorem pieceOf_pos {c : Nat} (h : 0 < c) : 0 < pieceOf c := by
  unfold pieceOf; split
  · exact BL_pos
  · exact h
theorem pieceOf_le {c : Nat} (h : c < BL) : pieceOf c ≤ BL := by
  unfold pieceOf; split
  · exact Nat.le_refl _
  · exact Nat.le_of_lt h
theorem sign_in {lz : List Nat} (hz : lz.length = 10) (z : Int) : (stOf lz).cps.getD (z.fmod 10).toNat 0 ∈ lz := by
  have h : (z.fmod 10).toNat < lz.length := by
    rw [hz, Int.fmod_eq_emod_of_nonneg _ (by decide)]
    have := Int.emod_nonneg z (b := 10) (by decide)
    have := Int.emod_lt_of_pos z (b := 10) (by decide)
    omega
  have e : (stOf lz).cps.getD (z.fmod 10).toNat 0 = lz.getD (z.fmod 10).toNat 0 := by
    simp [stOf, Array.getD, List.getD_eq_getElem?_getD, h]
  rw [e]; exact getD_mem h
theorem list_not_dict : (Value.type "list") ≠ .type "dict" := by decide
theorem tup_not_dict : (Value.type "tuple") ≠ .type "dict" := by decide
theorem Are.keep {R R' : List (Addr × Obj)} (h : ∀ p ∈ R, p.2.cls ≠ .type "dict" → p ∈ R') : ∀ {vs : List Value} {ks : List Nat}, Are R vs ks → Are R' vs ks
  | [], [], _ => trivial
  | [], _ :: _, h => h
  | _ :: _, [], h => h
  | _ :: _, _ :: _, ⟨⟨a, e, hb, t, u, hm⟩, r⟩ => ⟨⟨a, e, hb, t, u, h _ hm tup_not_dict⟩, Are.keep h r⟩
theorem mem_off {tl R : List (Addr × Obj)} {row d : Addr} {items : Array Value} {n : Nat} {p : Addr × Obj} (hp : p ∈ tl ++ (row, accObj d items n) :: R) {T : String} (ht : p.2.cls = .type T) : p ∈ tl ++ R := by
  rcases List.mem_append.mp hp with hp | hp
  · exact List.mem_append_left _ hp
  rcases List.mem_cons.mp hp with rfl | hp
  · cases ht
  · exact List.mem_append_right _ hp
theorem Are.ofTup {R R' : List (Addr × Obj)} (h : ∀ p ∈ R, p.2.cls = .type "tuple" → p ∈ R') : ∀ {vs : List Value} {ks : List Nat}, Are R vs ks → Are R' vs ks
  | [], [], _ => trivial
  | [], _ :: _, h => h
  | _ :: _, [], h => h
  | _ :: _, _ :: _, ⟨⟨a, e, hb, t, u, hm⟩, r⟩ => ⟨⟨a, e, hb, t, u, h _ hm rfl⟩, Are.ofTup h r⟩
theorem AnsAt.ofTup {R R' : List (Addr × Obj)} (h : ∀ p ∈ R, p.2.cls = .type "tuple" → p ∈ R') {v : Value} : ∀ {a : Ans}, AnsAt R v a → AnsAt R' v a
  | .non, e => e
  | .refused, e => e
  | .pc _, ⟨a, e, hb, t, u, hm⟩ => ⟨a, e, hb, t, u, h _ hm rfl⟩
theorem reset_M {w : World} {p : Program} {loose : List Str} {mean : ExcName → Option Value} {mg mb : Str → Option Value} {dp un : Nat} {gd : Option (List Code)} {cn : Str} {cs : Scope} {a : Addr} {ccd : Value} {cl : List (Str × Addr)} {outer : List Env} {A₀ : Around} {base h₀ : Heap} {L : Addr} {m : Str → Option Value} {R : List (Addr × Obj)} {s : Shared}
    {Q E : Value → Shared → Prop} {row d l : Addr} {vs ws : List Value} {n c : Nat} {k : Int}
    (B : Below A₀ base outer h₀) (F : Fr h₀ L s.heap m) (X : (KW w.params).In h₀) (N : News h₀ L s.heap ((row, accObj d vs.toArray n) :: R)) (T : Top p loose mean mg mb h₀) (hk : cs.kind = .function)
    (hd : dp + 5 < recursionLimit) (hu : un + 50 < cLine) (Rr : Rest R row d k) (hl : vs.length ≤ 1000) (hw : ws.length ≤ 1000) (hlm : (l, listOf ws.toArray c) ∈ R)
    (ret : ∀ n' R' h' tk', Fr h₀ L h' m → News h₀ L h' ((row, accObj d ws.toArray n') :: R') → Rest R' row d 0 → (∀ p ∈ R, p.2.cls ≠ .type "dict" → p ∈ R') → (∀ p ∈ R, @Ne Nat p.1 d → p ∈ R') → Q .none { s with heap := h', toks := tk' }) :
    wpAny (model PG w) (ktrTop dp un gd cn cs L a ccd cl outer) (call (.ref 132) [.ref row, .ref l]) Q E s := by
  obtain ⟨hs, t₁, t₂, nd, hdi⟩ := Rr.sz
  obtain ⟨ps, ht, hf⟩ := Rr.tab
  have hN : ∀ p ∈ R, p.2.cls ≠ .type "dict" → p ∈ R.filter (fun p => decide (@Ne Nat p.1 d)) := fun p hp hc => List.mem_filter.mpr ⟨hp, by
    have : @Ne Nat p.1 d := News.twoPlaces N (.tail _ hp) (.tail _ hdi) (fun e => hc (by rw [e]))
    simpa using this⟩
  have hrd : @Ne Nat d row := Rr.ne _ hdi
  refine reset_call (n := n) (k := k) (t₂ := t₂) (rest := R.filter (fun p => decide (@Ne Nat p.1 d))) B F X (newsOf N ?_) T hk hd hu (fun p hp => Rr.ne p (List.mem_filter.mp hp).1) (fun p hp => by simpa using (List.mem_filter.mp hp).2) hl hw (hN _ hlm list_not_dict) fun n' t' h' tk' F' N' => ret n' ((d, szObj hs t₁ 0 t' nd) :: R.filter (fun p => decide (@Ne Nat p.1 d))) h' tk' F' N' ⟨?_, ⟨_, _, _, _, .head _⟩, ⟨ps, .tail _ (hN _ ht (by simp [tabObj])), hf⟩, by omega, by omega⟩ (fun p hp hc => .tail _ (hN p hp hc)) (fun p hp hc => .tail _ (List.mem_filter.mpr ⟨hp, by simpa using hc⟩))
  · intro p hp
    rcases List.mem_cons.mp hp with rfl | hp
    · exact .head _
    rcases List.mem_cons.mp hp with rfl | hp
    · exact .tail _ hdi
    · exact .tail _ (List.mem_filter.mp hp).1
  · intro p hp
    rcases List.mem_cons.mp hp with rfl | hp
    · exact hrd
    · exact Rr.ne p (List.mem_filter.mp hp).1
section
variable {w : World} {A : Around} {E : Value → Shared → Prop} {s : Shared} {g : Heap} {L l : Addr} {news : List (Addr × Obj)}
theorem ints_at : ∀ {ws : List Value} {ns : List Int}, IntsAre ws ns → ∀ i, i < ns.length → ∃ t, ws[i]? = some (.int (ns.getD i 0) t)
  | _, _, .nil, i, h => absurd h (Nat.not_lt_zero _)
  | _, _, .cons n t r, 0, _ => ⟨t, rfl⟩
  | _, _, .cons n t r, i + 1, h => ints_at r i (Nat.lt_of_succ_lt_succ h)
theorem lastK {value slice : PySem.Expr} {ws : List Value} {ns : List Int} {c : Nat} {u : Tok} {Q : Value → Shared → Prop} (N : News g L s.heap news) (hm : (l, listOf ws.toArray c) ∈ news) (hI : IntsAre ws ns) (h0 : 0 < ns.length)
    (h : ∀ z t, Q (.int z t) s)
    (hs : subscripted slice false (.ref l) (.int (-1) u) = operate [.ref l, .int (-1) u] (getItem (.ref l) (.int (-1) u)) := by with_unfolding_all rfl) :
    wpAny (model PG w) A (subscriptTail value slice (.ref l) (.int (-1) u)) Q E s := by
  have hL : s.heap.IsList l ws.toArray := ⟨_, N.get hm, rfl, _, rfl⟩
  have hl := IntsAre.length hI
  obtain ⟨t, e⟩ := ints_at hI (ns.length - 1) (by omega)
  exact tail_any hL.typeIs slot_list_getitem.lookup (wpAny_getItem_list_neg hL (by omega) (by simp; omega) (by omega) (by rw [List.getElem?_toArray, List.size_toArray, show ((-1 : Int) + (ws.length : Int)).toNat = ns.length - 1 by omega]; exact e) (h _ t)) hs
end
end Mine
end
section
open PySem PySem.W PyProof.Rows PySem.Spec PySem.Calls
set_option maxRecDepth 100000
namespace Mine
theorem start_PL : True := by
  w_top off
  k_with_none
  (k_with "own:omega" => (first | with_reducible assumption | (refine' Mine.room2 ?h ?e; (case h => with_reducible assumption); (case e => decide)) | (refine' Mine.room1 ?h ?e; (case h => with_reducible assumption); (case e => decide)) | (refine' Mine.le_up ?h ?e; (case h => with_reducible assumption); (case e => decide)) | (refine' Mine.room0 ?h; (case h => with_reducible assumption)) | ((fail_if_success (fail_if_success omega (config := {}))); lia)))
  trivial
/-- the items pushed one behind the other -/
noncomputable def pushes (ks xs : List Nat) : List Nat := xs.foldl (fun k x => sd x 0 k.length (k ++ [x])) ks
theorem pushes_snoc (ks xs : List Nat) (x : Nat) : pushes ks (xs ++ [x]) = sd x 0 (pushes ks xs).length (pushes ks xs ++ [x]) := by
  unfold pushes; rw [List.foldl_append]; rfl
theorem pushes_heap : ∀ (xs : List Nat) {ks : List Nat}, IsHeap ks → IsHeap (pushes ks xs)
  | [], _, h => h
  | x :: xs, _, h => pushes_heap xs (push_heap h x)
theorem pushes_perm : ∀ (xs ks : List Nat), (pushes ks xs).Perm (ks ++ xs)
  | [], ks => by rw [List.append_nil]; exact List.Perm.refl _
  | x :: xs, ks => by
    refine (pushes_perm xs _).trans ?_
    have h := (push_perm ks x).append_right xs
    rwa [List.append_assoc] at h
theorem IsHeap.take {ks : List Nat} (h : IsHeap ks) (n : Nat) : IsHeap (ks.take n) := fun k h1 h2 => by
  rw [List.length_take] at h2
  have e : ∀ i, i < n → (ks.take n).getD i 0 = ks.getD i 0 := fun i hi => by
    simp [List.getD_eq_getElem?_getD, List.getElem?_take, hi]
  rw [e _ (by omega), e _ (by omega)]
  exact h k h1 (by omega)
/-- what the law's turns keep -/
structure Held (rest : List (Addr × Obj)) (row d q sl l : Addr) (vs : List Value) (ks : List Nat) (ws ss us : List Value) (js : List Nat) (c c' cl : Nat) : Prop where
  R : Rest rest row d 0
  A : Are rest vs ks
  hq : (q, listOf ws.toArray c) ∈ rest
  hs : (sl, listOf ss.toArray c') ∈ rest
  hl : (l, listOf us.toArray cl) ∈ rest
  K : Are rest us js
  tab : ∃ ps, (119, tabObj ps) ∈ rest ∧ Found posS ps
structure Good (ks js : List Nat) : Prop where
  pos : ∀ x ∈ ks, 0 < x
  perm : js.Perm ks
  sorted : js.Pairwise (· ≤ ·)
  heap : IsHeap ks
theorem Held.core {rest : List (Addr × Obj)} {row d q sl l : Addr} {vs : List Value} {ks : List Nat} {ws ss us : List Value} {js : List Nat} {c c' cl : Nat} (H : Held rest row d q sl l vs ks ws ss us js c c' cl) :
    ∃ R2, (∀ p ∈ R2, p ∈ rest ∧ p.2.cls ≠ .type "list_iterator") ∧ Held R2 row d q sl l vs ks ws ss us js c c' cl := by
  obtain ⟨⟨ne, ⟨hs, t₁, t₂, nd, hd⟩, ⟨ps, ht, hf⟩, lo, hi⟩, A, hq, hsl, hl, K, ⟨ps', ht', hf'⟩⟩ := H
  obtain ⟨tl1, h1, A1⟩ := A.core
  obtain ⟨tl2, h2, K2⟩ := K.core
  have key : ∀ p ∈ (d, szObj hs t₁ 0 t₂ nd) :: (112, tabObj ps) :: (119, tabObj ps') :: (q, listOf ws.toArray c) :: (sl, listOf ss.toArray c') :: (l, listOf us.toArray cl) :: (tl1 ++ tl2), p ∈ rest ∧ p.2.cls ≠ .type "list_iterator" := by
    intro p hp
    rcases List.mem_cons.mp hp with rfl | hp
    · exact ⟨hd, by show (Value.type "dict") ≠ _; decide⟩
    rcases List.mem_cons.mp hp with rfl | hp
    · exact ⟨ht, by simp [tabObj]⟩
    rcases List.mem_cons.mp hp with rfl | hp
    · exact ⟨ht', by simp [tabObj]⟩
    rcases List.mem_cons.mp hp with rfl | hp
    · exact ⟨hq, by show (Value.type "list") ≠ _; decide⟩
    rcases List.mem_cons.mp hp with rfl | hp
    · exact ⟨hsl, by show (Value.type "list") ≠ _; decide⟩
    rcases List.mem_cons.mp hp with rfl | hp
    · exact ⟨hl, by show (Value.type "list") ≠ _; decide⟩
    rcases List.mem_append.mp hp with hp | hp
    · exact ⟨(h1 p hp).1, by rw [(h1 p hp).2]; decide⟩
    · exact ⟨(h2 p hp).1, by rw [(h2 p hp).2]; decide⟩
  refine ⟨_, key, ⟨⟨fun p hp => ne p (key p hp).1, ⟨hs, t₁, t₂, nd, .head _⟩, ⟨ps, .tail _ (.head _), hf⟩, lo, hi⟩, A1.mono fun p hp => ?_, .tail _ (.tail _ (.tail _ (.head _))), .tail _ (.tail _ (.tail _ (.tail _ (.head _)))), .tail _ (.tail _ (.tail _ (.tail _ (.tail _ (.head _))))), K2.mono fun p hp => ?_, ⟨ps', .tail _ (.tail _ (.head _)), hf'⟩⟩⟩
  · exact .tail _ (.tail _ (.tail _ (.tail _ (.tail _ (.tail _ (List.mem_append_left _ hp))))))
  · exact .tail _ (.tail _ (.tail _ (.tail _ (.tail _ (.tail _ (List.mem_append_right _ hp))))))
theorem execs_twoW {M : PySem.Model} {Γ : _} {env : Env} {Q : Flow → Shared → Prop} {E : Value → Shared → Prop} {r : List Stmt} : ∀ (l : List Stmt) (p : _) (s : Shared),
    Sem.wp M Γ (execs l env) (fun f p' s' => match f with | .next => Sem.wp M Γ (execs r env) (fun a _ s' => Q a s') (fun e _ s' => E e s') p' s' | f => Q f s') (fun e _ s' => E e s') p s → Sem.wp M Γ (execs (l ++ r) env) (fun a _ s' => Q a s') (fun e _ s' => E e s') p s
  | [], p, s, h => h
  | st :: l, p, s, h => by
    rw [execs_cons, Sem.wp_bind'] at h
    rw [List.cons_append, execs_cons, Sem.wp_bind']
    refine Sem.wp_mono M Γ _ (fun f p' s' h' => ?_) (fun _ _ _ h' => h') _ _ h
    cases f with
    | next => exact execs_twoW l p' s' h'
    | _ => exact h'
theorem execs_two {M : PySem.Model} {A : Around} {E : Value → Shared → Prop} {env : Env} {Q : Flow → Shared → Prop} {l r : List Stmt} {s : Shared}
    (h : wpAny M A (execs l env) (fun f s' => match f with | .next => wpAny M A (execs r env) Q E s' | f => Q f s') E s) : wpAny M A (execs (l ++ r) env) Q E s := fun Γ p hΓ => by
  refine execs_twoW l p s (Sem.wp_mono M Γ _ (fun f p' s' h' => ?_) (fun _ _ _ h' => h') _ _ (h Γ p hΓ))
  cases f with
  | next => exact h' Γ p' hΓ
  | _ => exact h'
end Mine
end
section
open PySem PySem.W PyProof.Rows PySem.Spec PySem.Calls
set_option maxRecDepth 100000
namespace Mine
theorem start_LD : True := by
  w_top off
  k_with_none
  (k_with "own:omega" => (first | with_reducible assumption | (refine' Mine.room2 ?h ?e; (case h => with_reducible assumption); (case e => decide)) | (refine' Mine.room1 ?h ?e; (case h => with_reducible assumption); (case e => decide)) | (refine' Mine.le_up ?h ?e; (case h => with_reducible assumption); (case e => decide)) | (refine' Mine.room0 ?h; (case h => with_reducible assumption)) | ((fail_if_success (fail_if_success omega (config := {}))); lia)))
  trivial
theorem lines_LD_0 : True := by
  (k_with "own:k_mem" => with_reducible_and_instances assumption)
  (k_with "own:steps" => repeat' (first | (k_unfold; (try dsimp only)) | ((fail_if_success (with_reducible show wpAny _ _ (exec (Stmt.For _ _ _ _ _) _) _ _ _)); (fail_if_success (with_reducible show wpAny _ _ (call (Value.ref _) _) _ _ _)); (first | walk1 | (dsimp only; walk1) | fail "no step"))))
  (k_with "own:mem" => first | with_reducible assumption | exact List.mem_cons_self | (refine List.mem_cons_of_mem _ ?_; k_extra "own:mem"))
  (k_with "own:sub" => first | exact fun _ h => h | exact fun _ h => .tail _ h | exact fun _ h => .tail _ (.tail _ h) | exact fun _ h => .tail _ (.tail _ (.tail _ h)) | exact fun _ h => .tail _ (.tail _ (.tail _ (.tail _ h))) | exact fun _ h => .tail _ (.tail _ (.tail _ (.tail _ (.tail _ h)))) | exact fun _ h => .tail _ (.tail _ (.tail _ (.tail _ (.tail _ (.tail _ h))))))
  (k_with "own:idx" => first | omega | (rw [Int.fdiv_eq_ediv_of_nonneg _ (by decide)]; omega))
  (k_with "own:len" => first | omega | (simp only [List.length_append, List.length_cons, List.length_nil] at *; omega))
  (k_with "own:len" => first | omega | (simp only [List.length_append, List.length_cons, List.length_nil, cut_len1] at *; omega))
  (k_with "exec Assign cons ListComp" => (k_here; k_dflt (refine' Assign_acc_id ?k1 ?k2 ?k3 ?k4 ?k5 ?k6 ?k7 ?_ ?c1 ?c2 ?c3 ?c4 ?c5 ?c6 ?c7 ?c8 ?c9 ?ca ?cb; (case k1 => k_asm); (case c1 => rfl); (case k7 => (intro Q' hQ'; refine' ld ?kf ?kr hQ'; (case kf => k_asm); (case kr => rfl))); (case k2 => k_asm); (case k3 => k_asm); (case k4 => k_extra "own:mem"); (case k5 => omega); (case k6 => rfl); (case c2 => with_unfolding_all rfl); (case c3 => with_unfolding_all rfl); (case c4 => decide); (case c5 => rfl); (case c6 => decide); (case c7 => rfl); (case c8 => rfl); (case c9 => rfl); (case ca => decide); (case cb => exact fun _ => rfl); k_whole); intro pD h' tk' F' N' pDne; (try dsimp only); (try k_sweep)))
  (k_with "call builtin:len" => (k_here; (with_reducible show wpAny _ _ (call (Value.builtin "len") [Value.ref _]) _ _ _); (k_dflt (refine' len_R ?k1 ?k2 ?k3 ?k4 ?k5 ?k6 ?k7 ?k8 ?k9 ?ka ?kb ?kc ?kd ?ke ?kf ?kg ?kh ?ki ?kj ?_; (case k1 => k_asm); (case k2 => k_asm); (case k3 => k_asm); (case k4 => k_asm); (case k5 => k_asm); (case k6 => first | exact rfl | assumption); (case k7 => ktr_room); (case k8 => ktr_units); (case k9 => assumption); (case ka => k_extra "own:mem"); (case kb => k_extra "own:mem"); (case kc => k_extra "own:mem"); (case kd => assumption); (case kf => with_reducible assumption); (case ke => k_extra "own:sub"); (case kg => assumption); (case kh => omega); (case ki => omega); (case kj => omega); k_whole)); intro _ _ _ _ _ _))
  (k_with "call builtin:len" => (k_here; (with_reducible show wpAny _ _ (call (Value.builtin "len") [Value.ref _]) _ _ _); (k_dflt (refine' listK_len ?k3 ?k4 ?k5 ?_; (case k3 => k_asm); (case k4 => k_extra "own:mem"); (case k5 => omega); k_whole)); intro _ _))
  (k_with "call builtin:sorted" => (k_here; (with_reducible show wpAny _ _ (call (Value.builtin _) [Value.ref _]) _ _ _); k_dflt (refine' sorted_pc ?k1 ?k2 ?k3 ?k4 ?k5 ?k6 ?_; (case k1 => k_asm); (case k2 => k_asm); (case k3 => k_extra "own:mem"); (case k5 => k_asm); (case k4 => k_extra "own:sub"); (case k6 => k_extra "own:len"); k_whole); intro qD qV qK qC h' qA qP qS F' N' qne; (try dsimp only); (try k_sweep)))
  (k_with "compareOp NotEq ref ref" => (k_here; (with_reducible show wpAny _ _ (compareOp CmpOp.NotEq (Value.ref _) (Value.ref _)) _ _ _); k_dflt (refine' ne_pcs ?N ?r1 ?r2 ?m1 ?m2 ?a1 ?a2 ?e ?u ?_; (case N => k_asm); (case m1 => k_extra "own:mem"); (case m2 => k_extra "own:mem"); (case a1 => k_asm); (case a2 => k_asm); (case r1 => k_extra "own:sub"); (case r2 => k_extra "own:sub"); (case e => k_extra "own:eq"); (case u => ktr_units); k_whole)))
  (k_with "getMethod ref" => (k_here; k_dflt (refine' accK_method ?k1 ?k2 ?k3 ?k4 ?k5 ?k6 ?k7 ?k8 ?k9 ?_; (case k1 => k_asm); (case k2 => k_asm); (case k3 => k_asm); (case k4 => k_extra "own:mem"); (case k5 => k_extra "own:mem"); (case k6 => k_is); (case k7 => k_is); (case k8 => first | exact .inl rfl | exact .inr rfl); (case k9 => decide); k_whole)))
  (k_with "eval ListComp" => (k_here; k_dflt (refine' ListComp_acc_id ?k1 ?k2 ?k3 ?k4 ?k5 ?k6 ?k7 ?_ ?c3 ?c4 ?c5 ?c6 ?c7 ?ca ?cb; (case k1 => k_asm); (case k7 => (intro Q' hQ'; refine' ld ?kf ?kr hQ'; (case kf => k_asm); (case kr => rfl))); (case k2 => k_asm); (case k3 => k_asm); (case k4 => k_extra "own:mem"); (case k5 => omega); (case k6 => rfl); (case c3 => with_unfolding_all rfl); (case c4 => decide); (case c5 => rfl); (case c6 => decide); (case c7 => rfl); (case ca => decide); (case cb => exact fun _ => rfl); k_whole); intro pE h' tk' F' N' pEne; (try dsimp only); (try k_sweep)))
  (k_with "own:eq" => rfl)
  (k_with "own:si" => first | omega | (simp (disch := decide) only [Int.fmod_eq_emod_of_nonneg, stOf_size]; omega))
  (k_with "subscriptTail" => (k_here; (with_reducible show wpAny _ _ (subscriptTail _ _ (Value.str _ _) (Value.int _ _)) _ _ _); (k_dflt (refine' strK_sub ?k1 ?k2 ?k3 ?_ ?k4; (case k1 => k_extra "own:si"); (case k2 => k_extra "own:si"); (case k3 => (rw [stOf_size]; omega)); (case k4 => with_unfolding_all rfl); k_whole)); intro _ _))
  (k_with "subscriptTail" => (k_here; (with_reducible show wpAny _ _ (subscriptTail _ _ (Value.ref _) (Value.int _ _)) _ _ _); (k_dflt (refine' lastK ?k1 ?k2 ?k3 ?k4 ?_ ?k5; (case k1 => k_asm); (case k2 => k_extra "own:mem"); (case k3 => with_reducible assumption); (case k4 => assumption); (case k5 => with_unfolding_all rfl); k_whole)); intro _ _))
  trivial
theorem swap2 {x y : Addr × Obj} {R : List (Addr × Obj)} : ∀ p ∈ x :: y :: R, p ∈ y :: x :: R := fun p hp => by
  rcases List.mem_cons.mp hp with rfl | hp
  · exact .tail _ (.head _)
  rcases List.mem_cons.mp hp with rfl | hp
  · exact .head _
  · exact .tail _ (.tail _ hp)
set_option maxHeartbeats 4000000 in
theorem segD {w : World} {p : Program} {loose : List Str} {mean : ExcName → Option Value} {mg mb : Str → Option Value} {A₀ : Around} {h₀ : Heap} {L a : Addr} {ccd : Value} {m : Str → Option Value} {s : Shared} {Q : Flow → Shared → Prop} {rest : List (Addr × Obj)} {row d q : Addr} {vs ws : List Value} {ks : List Nat} {n c : Nat} {ns : List Int} {ps : Array Value} {lz : List Nat} {tz : Tok}
    (B : Below A₀ h₀ [] h₀) (F : Fr h₀ L s.heap m) (X : (KW w.params).In h₀) (N : News h₀ L s.heap ((row, accObj d vs.toArray n) :: rest)) (T : Top p loose mean mg mb h₀) (G : AllBare s.gens)
    (R : Rest rest row d 0) (hA : Are rest vs ks) (hpos : ∀ x ∈ ks, 0 < x) (hlen : ks.length ≤ 12) (hq : (q, listOf ws.toArray c) ∈ rest) (hI : IntsAre ws ns) (hn0 : 0 < ns.length) (hn6 : ns.length ≤ 6)
    (htab : (119, tabObj ps) ∈ rest) (hf : Found posS ps) (hz : lz.length = 10) (hzc : ∀ c ∈ lz, 0 < c ∧ c < BL)
    (hm1 : m (Str.ofString "row") = some (.ref row)) (hm2 : m (Str.ofString "numbers") = some (.ref q)) (hm3 : m (Str.ofString "two") = some (.str (stOf lz) tz))
    (ret : ∀ m' s' ps ps', Fr h₀ L s'.heap m' → News h₀ L s'.heap [(112, tabObj ps), (119, tabObj ps')] → AllBare s'.gens → s'.os = s.os → Q (Flow.ret (.bool true)) s') :
    wpAny (model PG w) (ktrTop 302 7 (some []) lawRecP.1.name lawRecP.1.scope L a ccd [] []) (execs (lawBody.drop 12) (envX lawRecP.1.name lawRecP.1.scope L a ccd [])) Q (fun _ _ => False) s := by
  have hlk := hA.length
  unfold lawBody lawRecP
  dsimp only [List.drop]
  replace F := at3 F hm1 hm2 hm3
  k_extra "own:steps"
  refine wpAny_For ?_
  k_extra "own:steps"
  rename IsRange _ _ _ _ _ _ _ _ => hr
  rename Fr _ _ _ _ => lF
  rename News _ _ _ _ => lN
  refine loopRange (L := L) 4 (fun i g os m₁ news₁ => news₁ = (pD, listOf vs.toArray vs.length) :: (row, accObj d vs.toArray n) :: rest ∧ AllBare g ∧ os = s.os ∧ m₁ (Str.ofString "pieces") = some (.ref pD) ∧ m₁ (Str.ofString "numbers") = some (.ref q) ∧ m₁ (Str.ofString "two") = some (.str (stOf lz) tz)) hr ?small (by omega) lF lN ⟨rfl, G, rfl, rfl, rfl, rfl⟩ ?step ?fin rfl rfl rfl rfl PassesOwn.never
  case small => exact small_ab (by omega) (by omega) (by omega) (by omega)
  case step =>
    rintro i ti I oI s₁ m₁ news₁ hi F₁ N₁ off ⟨rfl, hG, ho, h1, h2, h3⟩
    replace F₁ := at4 (x1 := Str.ofString "which") (x2 := Str.ofString "pieces") (x3 := Str.ofString "numbers") (x4 := Str.ofString "two") F₁ (by rw [if_pos rfl]) (by rw [if_neg (by decide)]; exact h1) (by rw [if_neg (by decide)]; exact h2) (by rw [if_neg (by decide)]; exact h3)
    clear lF lN
    rename Fr h₀ L h' _ => lF
    rename News h₀ L h' _ => lN
    clear lF lN
    k_extra "own:steps"
    rename Int => zl
    have hci := hzc _ (sign_in hz (zl + (0 + (i : Int))))
    generalize (stOf lz).cps.getD ((zl + (0 + (i : Int))).fmod 10).toNat 0 = c₁ at hci ⊢
    refine piece_callF B F₁ X N₁ T rfl (by ktr_room) (by ktr_units) hci.1 hci.2 ?_
    intro ia t₂ u₂ g₂ k₂ F₂ N₂ ne₂
    have hx := pieceOf_pos hci.1
    have hia : PcAt ((ia, tupObj (pcF (pieceOf c₁)) t₂ (pcS (pieceOf c₁)) u₂) :: (I, oI) :: (pD, listOf vs.toArray vs.length) :: (row, accObj d vs.toArray n) :: rest) ia (pieceOf c₁) := ⟨pieceOf_le hci.2, _, _, .head _⟩
    generalize pieceOf c₁ = x at hx hia N₂
    clear F₁ N₁
    k_extra "own:steps"
    rename Fr h₀ L _ _ => F₃
    rename News h₀ L _ _ => N₃
    refine filled_call B F₃ X N₃ T rfl (by ktr_room) (by ktr_units) (.tail _ (.tail _ (.head _))) (Pairs.mono (fun _ h => .tail _ (.tail _ (.tail _ (.tail _ h)))) hA.pairs) (by omega) ?_
    intro nm d' ws' n' hs' ta tb nd tl s₂ N₄ F₄ P₄ e1 e2 g4 o4
    obtain ⟨R1, N₅, hsub, Rr, A1, hnd⟩ : ∃ R1, News h₀ L s₂.heap ((nm, accObj d' ws'.toArray n') :: R1) ∧ (∀ p ∈ (ia, tupObj (pcF x) t₂ (pcS x) u₂) :: (I, oI) :: (pD, listOf vs.toArray vs.length) :: (row, accObj d vs.toArray n) :: rest, p ∈ R1) ∧ Rest R1 nm d' ((vs.length : Int) + 1) ∧ Are R1 ws' ks ∧ (∀ p ∈ (ia, tupObj (pcF x) t₂ (pcS x) u₂) :: (I, oI) :: (pD, listOf vs.toArray vs.length) :: (row, accObj d vs.toArray n) :: rest, @Ne Nat p.1 d') := by
      refine ⟨_, N₄, fun p hp => .tail _ (List.mem_append_right _ hp), ⟨?_, ⟨_, _, _, _, .head _⟩, ?_, by omega, by omega⟩, ?_, fun p hp => e2 p (List.mem_append_right _ hp)⟩
      · intro p hp
        rcases List.mem_cons.mp hp with rfl | hp
        · exact ne_acc N₄ (.head _) (.tail _ (.head _)) (T := "dict") rfl
        · exact e1 p hp
      · obtain ⟨psL, hL1, hL2⟩ := R.tab
        exact ⟨psL, .tail _ (List.mem_append_right _ (.tail _ (.tail _ (.tail _ (.tail _ hL1))))), hL2⟩
      · exact Are.mono (fun _ h => .tail _ (List.mem_append_left _ h)) (Pairs.are hA.le P₄)
    clear N₄ e1 e2 P₄ F₃ N₃
    have G₄ : AllBare s₂.gens := by rw [g4]; exact hG
    have O₄ : s₂.os = s.os := o4.trans ho
    have hv1 : Are R1 vs ks := hA.mono fun p h => hsub p (.tail _ (.tail _ (.tail _ (.tail _ h))))
    have hia1 : PcAt R1 ia x := hia.mono hsub
    k_extra "own:steps"
    rename Fr h₀ L _ _ => F₅
    rename News h₀ L _ _ => N₆
    refine broken_call B F₅ X N₆ T rfl (by ktr_room) (by ktr_units) (by omega) (.tail _ (hsub _ (.tail _ (.tail _ (.head _))))) (hv1.mono fun _ h => .tail _ h) (hia1.mono fun _ h => .tail _ h) (by omega) (by omega) ?_
    intro q2 v l2 vs2 c2 tl2 g5 k5 F₆ N₇ ty2 hq2 hl2 an2 ar2
    obtain ⟨R2, N₈, hsub2, Rr2, hq3, hl3, an3, ar3⟩ : ∃ R2, News h₀ L g5 ((nm, accObj d' ws'.toArray n') :: R2) ∧ (∀ p ∈ R1, p ∈ R2) ∧ Rest R2 nm d' ((vs.length : Int) + 1) ∧ (q2, pairObj v (.ref l2)) ∈ R2 ∧ (l2, listOf vs2.toArray c2) ∈ R2 ∧ AnsAt R2 v (bAns (0 + (i : Int)) ks x) ∧ Are R2 vs2 (bRow (0 + (i : Int)) ks x) := by
      refine ⟨tl2 ++ R1, swapN N₇, fun _ h => List.mem_append_right _ h, Rr.app ?_, List.mem_append_left _ hq2, mem_off hl2 rfl, an2.ofTup fun p h e => mem_off h e, ar2.ofTup fun p h e => mem_off h e⟩
      intro p hp
      obtain ⟨T', e⟩ := ty2 p hp
      exact ne_acc N₇ (List.mem_append_right _ (.head _)) (List.mem_append_left _ hp) e
    clear F₅ N₆ N₇ ty2 hq2 hl2 an2 ar2
    k_extra "own:steps"
    rename Fr h₀ L _ _ => F₇
    rename News h₀ L _ _ => N₉

    have hk0 : ((vs.length : Int) + 1) ≠ 0 := by omega
    refine done_call B F₇ X N₉ T rfl (by ktr_room) (by ktr_units) G₄ Rr2 (A1.mono hsub2) hpos (by omega) (hia1.mono hsub2) hx (.inr ⟨by omega, by omega⟩) (by omega) (by omega) ?_
    intro v3 vs3 n3 tl3 s3 an4 ar4 ty3 F₈ N₁₀ G₅ o5
    rw [broken_ans hk0] at an4
    rw [broken_row (by omega) (by omega) hk0] at ar4
    have O₅ : s3.os = s.os := o5.trans O₄
    obtain ⟨R3, N₁₁, hsub3, Rr3, an5, ar5⟩ : ∃ R3, News h₀ L s3.heap ((nm, accObj d' vs3.toArray n3) :: R3) ∧ (∀ p ∈ R2, p ∈ R3) ∧ Rest R3 nm d' ((vs.length : Int) + 1) ∧ AnsAt R3 v3 (bAns (0 + (i : Int)) ks x) ∧ Are R3 vs3 (bRow (0 + (i : Int)) ks x) := by
      refine ⟨tl3 ++ R2, N₁₀, fun _ h => List.mem_append_right _ h, Rr2.app ?_, an4, ar4⟩
      intro p hp
      obtain ⟨T', e⟩ := ty3 p hp
      exact ne_acc N₁₀ (.head _) (.tail _ (List.mem_append_left _ hp)) e
    have an6 := an3.ofTup fun p h _ => hsub3 p h
    have ar6 : Are R3 vs2 (bRow (0 + (i : Int)) ks x) := ar3.mono hsub3
    have hl4 := hsub3 _ hl3
    have hpD := hsub3 _ (hsub2 _ (hsub _ (.tail _ (.tail _ (.head _)))))
    have hIo := hsub3 _ (hsub2 _ (hsub _ (.tail _ (.head _))))
    have hrw := hsub3 _ (hsub2 _ (hsub _ (.tail _ (.tail _ (.tail _ (.head _))))))
    have hrs : ∀ p ∈ rest, p ∈ R3 := fun p h => hsub3 _ (hsub2 _ (hsub _ (.tail _ (.tail _ (.tail _ (.tail _ h))))))
    have hbp := bRow_pos (z := (0 + (i : Int))) hpos hx
    have hbl := bRow_len (0 + (i : Int)) ks x
    clear A1 hv1 hia1 hia Rr Rr2 F₇ N₉ N₁₀ an4 ar4 ty3 an3 ar3 hl3 hq3 hsub hsub2 hsub3 g4 o4
    obtain ⟨hs3, t31, t32, nd3, hd3⟩ := Rr3.sz
    obtain ⟨psL, htL, hfL⟩ := Rr3.tab
    have hl5 := ar5.length
    have hl6 := ar6.length
    generalize bRow (0 + (i : Int)) ks x = bs at *
    generalize bAns (0 + (i : Int)) ks x = ba at *
    k_extra "own:steps"
    refine ne_ans N₁₁ (fun _ h => .tail _ h) (fun _ h => .tail _ h) an5 an6 rfl (by ktr_units) ?_
    k_extra "own:steps"
    · exfalso; omega
    rename Fr h₀ L _ _ => F₁₂
    rename News h₀ L _ _ => N₁₂
    rename AllBare _ => G₆
    rename (Shared.os _ = Shared.os _) => o6
    have O₆ := o6.trans O₅
    refine count_call B F₁₂ X N₁₂ T rfl (by ktr_room) (by ktr_units) (.tail _ (.head _)) (.tail _ (.tail _ hd3)) ?_
    intro h7 k7 t7 F₁₃ N₁₃
    clear F₁₂ N₁₂
    k_extra "own:steps"
    · exfalso; omega
    rename Fr h₀ L _ _ => F₁₄
    rename News h₀ L _ _ => N₁₄
    replace N₁₄ := newsOf (led := (nm, accObj d' vs3.toArray n3) :: R3) N₁₄ (fun _ h => .tail _ h)
    refine reset_M B F₁₄ X N₁₄ T rfl (by ktr_room) (by ktr_units) Rr3 (by omega) (by omega) hl4 ?_
    intro n4 R4 h8 k8 F₁₅ N₁₅ Rr4 keep4 keep5
    have hl7 := keep4 _ hl4 list_not_dict
    have ar7 : Are R4 vs2 bs := ar6.keep keep4
    clear F₁₄ N₁₄
    k_extra "own:steps"
    rename Fr h₀ L _ _ => F₁₆
    rename News h₀ L _ _ => N₁₆
    refine heapify_ok B F₁₆ X N₁₆ T rfl (by ktr_room) (by ktr_units) G₆ Rr4 ar7 hbp (by omega) ?_
    intro vs5 s5 ar8 F₁₇ N₁₇ G₇ o7
    have O₇ := o7.trans O₆
    have hph := hfy_perm (bs.length / 2) bs (by omega)
    have hpl := hph.length_eq
    clear F₁₆ N₁₆
    k_extra "own:steps"
    rename Fr h₀ L _ _ => F₁₈
    rename News h₀ L _ _ => N₁₈
    refine holds_call B F₁₈ X (newsOf N₁₈ swap2) T rfl (by ktr_room) (by ktr_units) G₇ (Rr4.cons (Ne.symm (qne _ (.head _)))) (ar8.mono fun _ h => .tail _ h) (fun y hy => hbp y (hph.mem_iff.mp hy)) (by omega) (.head _) (qA.mono fun _ h => .tail _ h) (qP.trans hph.symm) qS (hfy_heap bs) (.tail _ (keep4 _ (hrs _ htab) (by simp [tabObj]))) hf ?_
    intro s6 F₁₉ N₁₉ G₈ o8
    have O₈ := o8.trans O₇
    clear F₁₈ N₁₈
    k_extra "own:steps"
    refine TurnW.next _ F₁₉ N₁₉ ?_ off ⟨rfl, G₈, O₈, rfl, rfl, rfl⟩
    have hto : ∀ p ∈ (I, oI) :: (pD, listOf vs.toArray vs.length) :: (row, accObj d vs.toArray n) :: rest, p ∈ R4 := fun p hp => keep5 p (by
      rcases List.mem_cons.mp hp with rfl | hp
      · exact hIo
      rcases List.mem_cons.mp hp with rfl | hp
      · exact hpD
      rcases List.mem_cons.mp hp with rfl | hp
      · exact hrw
      · exact hrs p hp) (hnd p (.tail _ hp))
    exact fun p hp => .tail _ (.tail _ (hto p hp))
  case fin =>
    rintro s₁ m₁ news₁ F₁ N₁ ⟨rfl, hG, ho, h1, h2, h3⟩
    obtain ⟨psL, htL, hfL⟩ := R.tab
    clear lF lN
    rename Fr h₀ L h' _ => lF
    rename News h₀ L h' _ => lN
    clear lF lN
    k_extra "own:steps"
    refine ret _ _ _ _ (by k_asm) (newsOf (led := [(112, tabObj psL), (119, tabObj ps)]) (by k_asm) ?_) hG ho
    intro p hp
    rcases List.mem_cons.mp hp with rfl | hp
    · exact .tail _ (.tail _ htL)
    · rw [List.mem_singleton.mp hp]; exact .tail _ (.tail _ htab)
end Mine
end
section
open PySem PySem.W PyProof.Rows PySem.Spec PySem.Calls
set_option maxRecDepth 100000
namespace Mine
theorem start_LE : True := by
  w_top off
  k_with_none
  (k_with "own:omega" => (first | with_reducible assumption | (refine' Mine.room2 ?h ?e; (case h => with_reducible assumption); (case e => decide)) | (refine' Mine.room1 ?h ?e; (case h => with_reducible assumption); (case e => decide)) | (refine' Mine.le_up ?h ?e; (case h => with_reducible assumption); (case e => decide)) | (refine' Mine.room0 ?h; (case h => with_reducible assumption)) | ((fail_if_success (fail_if_success omega (config := {}))); lia)))
  trivial
theorem lines_LE_0 : True := by
  (k_with "own:k_mem" => with_reducible_and_instances assumption)
  (k_with "own:steps" => repeat' (first | (k_unfold; (try dsimp only)) | ((fail_if_success (with_reducible show wpAny _ _ (exec (Stmt.For _ _ _ _ _) _) _ _ _)); (fail_if_success (with_reducible show wpAny _ _ (call (Value.ref _) _) _ _ _)); (first | walk1 | (dsimp only; walk1) | fail "no step"))))
  (k_with "own:mem" => first | with_reducible assumption | exact List.mem_cons_self | (refine List.mem_cons_of_mem _ ?_; k_extra "own:mem"))
  (k_with "own:sub" => first | exact fun _ h => h | exact fun _ h => .tail _ h | exact fun _ h => .tail _ (.tail _ h) | exact fun _ h => .tail _ (.tail _ (.tail _ h)) | exact fun _ h => .tail _ (.tail _ (.tail _ (.tail _ h))) | exact fun _ h => .tail _ (.tail _ (.tail _ (.tail _ (.tail _ h)))) | exact fun _ h => .tail _ (.tail _ (.tail _ (.tail _ (.tail _ (.tail _ h))))))
  (k_with "own:idx" => first | omega | (rw [Int.fdiv_eq_ediv_of_nonneg _ (by decide)]; omega))
  (k_with "own:len" => first | omega | (simp only [List.length_append, List.length_cons, List.length_nil] at *; omega))
  (k_with "own:len" => first | omega | (simp only [List.length_append, List.length_cons, List.length_nil, cut_len1] at *; omega))
  (k_with "exec Assign cons ListComp" => (k_here; k_dflt (refine' Assign_acc_id ?k1 ?k2 ?k3 ?k4 ?k5 ?k6 ?k7 ?_ ?c1 ?c2 ?c3 ?c4 ?c5 ?c6 ?c7 ?c8 ?c9 ?ca ?cb; (case k1 => k_asm); (case c1 => rfl); (case k7 => (intro Q' hQ'; refine' ld ?kf ?kr hQ'; (case kf => k_asm); (case kr => rfl))); (case k2 => k_asm); (case k3 => k_asm); (case k4 => k_extra "own:mem"); (case k5 => omega); (case k6 => rfl); (case c2 => with_unfolding_all rfl); (case c3 => with_unfolding_all rfl); (case c4 => decide); (case c5 => rfl); (case c6 => decide); (case c7 => rfl); (case c8 => rfl); (case c9 => rfl); (case ca => decide); (case cb => exact fun _ => rfl); k_whole); intro pD h' tk' F' N' pDne; (try dsimp only); (try k_sweep)))
  (k_with "compareOp NotEq ref ref" => (k_here; (with_reducible show wpAny _ _ (compareOp CmpOp.NotEq (Value.ref _) (Value.ref _)) _ _ _); k_dflt (refine' ne_pcs ?N ?r1 ?r2 ?m1 ?m2 ?a1 ?a2 ?e ?u ?_; (case N => k_asm); (case m1 => k_extra "own:mem"); (case m2 => k_extra "own:mem"); (case a1 => k_asm); (case a2 => k_asm); (case r1 => k_extra "own:sub"); (case r2 => k_extra "own:sub"); (case e => k_extra "own:eq"); (case u => ktr_units); k_whole)))
  (k_with "getMethod ref" => (k_here; k_dflt (refine' accK_method ?k1 ?k2 ?k3 ?k4 ?k5 ?k6 ?k7 ?k8 ?k9 ?_; (case k1 => k_asm); (case k2 => k_asm); (case k3 => k_asm); (case k4 => k_extra "own:mem"); (case k5 => k_extra "own:mem"); (case k6 => k_is); (case k7 => k_is); (case k8 => first | exact .inl rfl | exact .inr rfl); (case k9 => decide); k_whole)))
  (k_with "eval ListComp" => (k_here; k_dflt (refine' ListComp_acc_id ?k1 ?k2 ?k3 ?k4 ?k5 ?k6 ?k7 ?_ ?c3 ?c4 ?c5 ?c6 ?c7 ?ca ?cb; (case k1 => k_asm); (case k7 => (intro Q' hQ'; refine' ld ?kf ?kr hQ'; (case kf => k_asm); (case kr => rfl))); (case k2 => k_asm); (case k3 => k_asm); (case k4 => k_extra "own:mem"); (case k5 => omega); (case k6 => rfl); (case c3 => with_unfolding_all rfl); (case c4 => decide); (case c5 => rfl); (case c6 => decide); (case c7 => rfl); (case ca => decide); (case cb => exact fun _ => rfl); k_whole); intro pE h' tk' F' N' pEne; (try dsimp only); (try k_sweep)))
  (k_with "own:eq" => first | with_reducible assumption | rfl)
  (k_with "own:si" => first | omega | (simp (disch := decide) only [Int.fmod_eq_emod_of_nonneg, stOf_size]; omega))
  (k_with "subscriptTail" => (k_here; (with_reducible show wpAny _ _ (subscriptTail _ _ (Value.str _ _) (Value.int _ _)) _ _ _); (k_dflt (refine' strK_sub ?k1 ?k2 ?k3 ?_ ?k4; (case k1 => k_extra "own:si"); (case k2 => k_extra "own:si"); (case k3 => (rw [stOf_size]; omega)); (case k4 => with_unfolding_all rfl); k_whole)); intro _ _))
  (k_with "subscriptTail" => (k_here; (with_reducible show wpAny _ _ (subscriptTail _ _ (Value.ref _) (Value.ref _)) _ _ _); (k_dflt (refine' sliceA ?k1 ?k3 ?k4 ?ka ?k5 ?k6 ?k7 ?_ ?k8; (case k1 => k_asm); (case k3 => k_asm); (case k4 => k_extra "own:mem"); (case ka => k_asm); (case k5 => k_extra "own:len"); (case k6 => first | exact .int _ _ | exact .none); (case k7 => first | exact .int _ _ | exact .none); (case k8 => with_unfolding_all rfl); k_whole)); intro slD slV h' slA slL F' N' slne; (try k_sweep)))
  (k_with "subscriptTail Name Slice ref ref" => (k_here; (with_reducible show wpAny _ _ (subscriptTail _ _ (Value.ref _) (Value.ref _)) _ _ _); (k_dflt (refine' sliceA ?k1 ?k3 ?k4 ?ka ?k5 ?k6 ?k7 ?_ ?k8; (case k1 => k_asm); (case k3 => k_asm); (case k4 => k_extra "own:mem"); (case ka => k_asm); (case k5 => k_extra "own:len"); (case k6 => first | exact .int _ _ | exact .none); (case k7 => first | exact .int _ _ | exact .none); (case k8 => with_unfolding_all rfl); k_whole)); intro slD slV h' slA slL F' N' slne; (try k_sweep)))
  trivial
theorem cut_negL {α : Type} (c : Nat) (hc : 1 ≤ c) (vs : List α) : cut (some (-(c : Int))) none vs = vs.drop (vs.length - c) := by
  unfold cut
  simp only [Option.elim, clipAt_neg _ _ hc]
  rw [List.take_of_length_le (by simp)]
theorem cut_negR {α : Type} (c : Nat) (hc : 1 ≤ c) (vs : List α) : cut none (some (-(c : Int))) vs = vs.take (vs.length - c) := by
  unfold cut
  simp only [Option.elim, clipAt_neg _ _ hc, List.drop_zero, Nat.sub_zero]
theorem fresh {α : Type} {M : PySem.Model} {A : Around} {t : Sem α} {Q : α → Shared → Prop} {E : Value → Shared → Prop} {h₀ : Heap} {L : Addr} {s : Shared} {m : Str → Option Value} {news : List (Addr × Obj)} {os : OsState} (F : Fr h₀ L s.heap m) (N : News h₀ L s.heap news) (G : AllBare s.gens) (O : s.os = os)
    (h : ∀ s₂ : Shared, Fr h₀ L s₂.heap m → News h₀ L s₂.heap news → AllBare s₂.gens → s₂.os = os → wpAny M A t Q E s₂) : wpAny M A t Q E s := h s F N G O
theorem off_row {row d I : Addr} {a b : Array Value} {n n' : Nat} {R : List (Addr × Obj)} (h : ∀ p ∈ (row, accObj d a n) :: R, p.1 ≠ I) : ∀ p ∈ (row, accObj d b n') :: R, p.1 ≠ I := fun p hp => by
  rcases List.mem_cons.mp hp with rfl | hp
  · exact (show row ≠ I from h (row, accObj d a n) (.head _))
  · exact h p (.tail _ hp)
/-- what holds between the turns -/
noncomputable def JC (row d q sl : Addr) (ws ss : List Value) (c c' : Nat) (lz : List Nat) (tz : Tok) (os0 : OsState) (i : Nat) (g : Array GenState) (os : OsState) (m₁ : Str → Option Value) (nw : List (Addr × Obj)) : Prop :=
  ∃ vs ks n rest l us js cl, nw = (row, accObj d vs.toArray n) :: rest ∧ Held rest row d q sl l vs ks ws ss us js c c' cl ∧ Good ks js ∧ ks.length ≤ 6 + i ∧ AllBare g ∧ os = os0 ∧ m₁ (Str.ofString "row") = some (.ref row) ∧ m₁ (Str.ofString "numbers") = some (.ref q) ∧ m₁ (Str.ofString "two") = some (.str (stOf lz) tz) ∧ m₁ (Str.ofString "kept") = some (.ref l)
theorem turn_core {h₀ : Heap} {L I row d q sl l : Addr} {oI : Obj} {ws ss : List Value} {c c' : Nat} {lz : List Nat} {tz : Tok} {os0 : OsState} {Q : Flow → Shared → Prop} {i : Nat} {s₃ : Shared} {m₂ : Str → Option Value} {R' : List (Addr × Obj)} {vs us : List Value} {ks js : List Nat} {n cl : Nat}
    (F : Fr h₀ L s₃.heap m₂) (N : News h₀ L s₃.heap ((row, accObj d vs.toArray n) :: R')) (hI : (I, oI) ∈ R') (hc : oI.cls = .type "list_iterator") (H : Held R' row d q sl l vs ks ws ss us js c c' cl) (G : Good ks js) (hl : ks.length ≤ 6 + (i + 1)) (hg : AllBare s₃.gens) (ho : s₃.os = os0)
    (h1 : m₂ (Str.ofString "row") = some (.ref row)) (h2 : m₂ (Str.ofString "numbers") = some (.ref q)) (h3 : m₂ (Str.ofString "two") = some (.str (stOf lz) tz)) (h4 : m₂ (Str.ofString "kept") = some (.ref l)) :
    TurnW h₀ L I oI (JC row d q sl ws ss c c' lz tz os0) Q i .next s₃ := by
  obtain ⟨R2, hR, H2⟩ := H.core
  refine TurnW.next ((row, accObj d vs.toArray n) :: R2) F N ?_ ?_ ⟨vs, ks, n, R2, l, us, js, cl, rfl, H2, G, hl, hg, ho, h1, h2, h3, h4⟩
  · intro p hp
    rcases List.mem_cons.mp hp with rfl | hp
    · exact .tail _ hI
    rcases List.mem_cons.mp hp with rfl | hp
    · exact .head _
    · exact .tail _ (hR p hp).1
  · intro p hp
    rcases List.mem_cons.mp hp with rfl | hp
    · exact Ne.symm (H.R.ne _ hI)
    · exact News.twoPlaces N (.tail _ (hR p hp).1) (.tail _ hI) fun e => (hR p hp).2 (by rw [e]; exact hc)
theorem Held.up {R R' : List (Addr × Obj)} {row d q sl l : Addr} {vs : List Value} {ks : List Nat} {ws ss us : List Value} {js : List Nat} {c c' cl : Nat} (H : Held R row d q sl l vs ks ws ss us js c c' cl) (h : ∀ p ∈ R, p ∈ R') (hne : ∀ p ∈ R', p.1 ≠ row) : Held R' row d q sl l vs ks ws ss us js c c' cl :=
  ⟨⟨hne, (let ⟨a, b, e, f, g⟩ := H.R.sz; ⟨a, b, e, f, h _ g⟩), (let ⟨a, b, e⟩ := H.R.tab; ⟨a, h _ b, e⟩), H.R.lo, H.R.hi⟩, H.A.mono h, h _ H.hq, h _ H.hs, h _ H.hl, H.K.mono h, (let ⟨a, b, e⟩ := H.tab; ⟨a, h _ b, e⟩)⟩
set_option maxHeartbeats 4000000 in
theorem segC {w : World} {p : Program} {loose : List Str} {mean : ExcName → Option Value} {mg mb : Str → Option Value} {A₀ : Around} {h₀ : Heap} {L a : Addr} {ccd : Value} {m : Str → Option Value} {s : Shared} {Q : Flow → Shared → Prop} {rest : List (Addr × Obj)} {row d q l : Addr} {vs ws us : List Value} {ks js : List Nat} {n c cl : Nat} {ns : List Int} {lz : List Nat} {tz : Tok}
    (B : Below A₀ h₀ [] h₀) (F : Fr h₀ L s.heap m) (X : (KW w.params).In h₀) (N : News h₀ L s.heap ((row, accObj d vs.toArray n) :: rest)) (T : Top p loose mean mg mb h₀) (G : AllBare s.gens)
    (R : Rest rest row d 0) (hA : Are rest vs ks) (hg : Good ks js) (hlen : ks.length ≤ 6) (hq : (q, listOf ws.toArray c) ∈ rest) (hI : IntsAre ws ns) (hn0 : 0 < ns.length) (hn6 : ns.length ≤ 6)
    (hl : (l, listOf us.toArray cl) ∈ rest) (hK : Are rest us js) (htab : ∃ ps, (119, tabObj ps) ∈ rest ∧ Found posS ps) (hz : lz.length = 10) (hzc : ∀ c ∈ lz, 0 < c ∧ c < BL)
    (hm1 : m (Str.ofString "row") = some (.ref row)) (hm2 : m (Str.ofString "numbers") = some (.ref q)) (hm3 : m (Str.ofString "two") = some (.str (stOf lz) tz)) (hm4 : m (Str.ofString "kept") = some (.ref l))
    (ret : ∀ m' s' ps ps', Fr h₀ L s'.heap m' → News h₀ L s'.heap [(112, tabObj ps), (119, tabObj ps')] → AllBare s'.gens → s'.os = s.os → Q (Flow.ret (.bool true)) s') :
    wpAny (model PG w) (ktrTop 302 7 (some []) lawRecP.1.name lawRecP.1.scope L a ccd [] []) (execs (lawBody.drop 11) (envX lawRecP.1.name lawRecP.1.scope L a ccd [])) Q (fun _ _ => False) s := by
  have hlk := hA.length
  have hlw := IntsAre.length hI
  unfold lawBody lawRecP
  dsimp only [List.drop]
  replace F := at4 F hm1 hm2 hm3 hm4
  k_extra "own:steps"
  refine wpAny_For ?_
  k_extra "own:steps"
  rename Fr _ _ _ _ => lF
  rename News _ _ _ _ => lN
  rename IntsAre _ (List.drop 1 ns) => hI1
  rename Addr => sl
  rename List Value => ss
  rename _ ∧ AllLt _ _ => hlt
  replace lN := newsOf lN swap2
  have hs0 : ss.length = ns.length - 1 := by rw [IntsAre.length hI1]; simp
  have H0 : Held ((sl, W.listOf ss.toArray 0) :: rest) row d q sl l vs ks ws ss us js c 0 cl :=
    ⟨R.cons (Ne.symm (Nat.ne_of_lt hlt.1)), hA.mono fun _ h => .tail _ h, .tail _ hq, .head _, .tail _ hl, hK.mono fun _ h => .tail _ h, (let ⟨a, b, e⟩ := htab; ⟨a, .tail _ b, e⟩)⟩
  refine loopListC (l := sl) (vs := ss) (c := 0) (JC row d q sl ws ss c 0 lz tz s.os) ?hJl lF lN ⟨vs, ks, n, _, l, us, js, cl, rfl, H0, hg, by omega, G, rfl, rfl, rfl, rfl, rfl⟩ ?step ?fin rfl rfl rfl rfl PassesOwn.never
  case hJl =>
    rintro i g os m₁ nw ⟨vs, ks, n, rest, l, us, js, cl, rfl, H, _⟩
    exact .tail _ H.hs
  case fin =>
    rintro s₁ m₁ nw F₁ N₁ ⟨vs, ks, n, rest, l, us, js, cl, rfl, H, hG, hlen, hb, ho, h1, h2, h3, h4⟩
    obtain ⟨ps, ht, hf⟩ := H.tab
    show wpAny _ _ (execs _ _) _ _ _
    exact segD B F₁ X N₁ T hb H.R H.A hG.pos (by omega) H.hq hI hn0 hn6 ht hf hz hzc h1 h2 h3 fun m' s' ps ps' F' N' G' o' => ret m' s' ps ps' F' N' G' (o'.trans ho)
  case step =>
    clear lF lN H0 hA hg R hlk hq hl hK htab
    rintro i v I oI s₁ m₁ news₁ hi hv hcI F₁ N₁ off ⟨vs, ks, n, rest, l, us, js, cl, rfl, H, hG, hlen, hb, ho, h1, h2, h3, h4⟩
    obtain ⟨tv, e⟩ := ints_at hI1 i (by omega)
    rw [e] at hv
    cases hv
    generalize (List.drop 1 ns).getD i 0 = z at F₁ e
    replace F₁ := at5 (x1 := Str.ofString "n") (x2 := Str.ofString "row") (x3 := Str.ofString "numbers") (x4 := Str.ofString "two") (x5 := Str.ofString "kept") F₁ (by rw [if_pos rfl]) (by rw [if_neg (by decide)]; exact h1) (by rw [if_neg (by decide)]; exact h2) (by rw [if_neg (by decide)]; exact h3) (by rw [if_neg (by decide)]; exact h4)
    replace N₁ := newsOf N₁ swap2
    have hIr := off _ (.head _)
    have H1 : Held ((I, oI) :: rest) row d q sl l vs ks ws ss us js c 0 cl := H.up (fun _ h => .tail _ h) (fun p hp => by
      rcases List.mem_cons.mp hp with rfl | hp
      · exact Ne.symm hIr
      · exact H.R.ne p hp)
    have hIm : (I, oI) ∈ (I, oI) :: rest := .head _
    generalize (I, oI) :: rest = R₁ at N₁ H1 hIm
    clear H off e
    have hlk := H1.A.length
    have hA1 := H1.A
    have hR1 := H1.R
    have hne1 := H1.R.ne
    obtain ⟨hs, t₁, t₂, nd, hdi⟩ := H1.R.sz
    k_extra "own:steps"
    · rename Fr h₀ L _ _ => F₂
      rename News h₀ L _ _ => N₂
      have hr0 : 0 ≤ (z.fdiv 5).fmod 3 := by rw [Int.fmod_eq_emod_of_nonneg _ (by decide)]; exact Int.emod_nonneg _ (by decide)
      generalize (z.fdiv 5).fmod 3 = r at F₂ hr0 ⊢
      obtain ⟨e, hc⟩ : ∃ e : Nat, r = (e : Int) := ⟨r.toNat, by omega⟩
      subst hc
      have hc : (0 - 1 - (e : Int)) = -(((e + 1 : Nat)) : Int) := by omega
      rw [hc] at F₂ ⊢
      refine popfrom_call (c := e + 1) B F₂ X (newsOf N₂ swap2) T rfl (by ktr_room) (by ktr_units) (.tail _ hdi) (fun p hp => by
        rcases List.mem_cons.mp hp with rfl | hp
        · exact Ne.symm (pDne _ (.head _))
        · exact hne1 p hp) (by omega) rfl (by omega) ?_
      intro tl n₂ h₂ k₂ F₃ N₃
      have ea : cut none (some (-(((e + 1 : Nat)) : Int))) ks = ks.take (vs.length - (e + 1)) := by rw [hlk]; exact cut_negR _ (by omega) ks
      have eb : ks.drop (vs.length - (e + 1)) = cut (some (-(((e + 1 : Nat)) : Int))) none ks := by rw [hlk]; exact (cut_negL _ (by omega) ks).symm
      have hAa : Are R₁ (vs.take (vs.length - (e + 1))) (ks.take (vs.length - (e + 1))) := hA1.take _
      have hAb : Are R₁ (vs.drop (vs.length - (e + 1))) (ks.drop (vs.length - (e + 1))) := hA1.drop _
      have hheap : IsHeap (ks.take (vs.length - (e + 1))) := hG.heap.take _
      have hperm : ks.take (vs.length - (e + 1)) ++ ks.drop (vs.length - (e + 1)) = ks := List.take_append_drop _ _
      obtain ⟨m₃, tc, F₃, g1, g2, g3, g4, g5, g6⟩ : ∃ m₃ tc, Fr h₀ L h₂ m₃ ∧ m₃ (Str.ofString "cut") = some (.int (-(((e + 1 : Nat)) : Int)) tc) ∧ m₃ (Str.ofString "pieces") = some (.ref pD) ∧ m₃ (Str.ofString "row") = some (.ref row) ∧ m₃ (Str.ofString "numbers") = some (.ref q) ∧ m₃ (Str.ofString "two") = some (.str (stOf lz) tz) ∧ m₃ (Str.ofString "kept") = some (.ref l) := ⟨_, _, F₃, rfl, rfl, rfl, rfl, rfl, rfl⟩
      replace F₃ := at6 F₃ g1 g2 g3 g4 g5 g6
      refine fresh F₃ N₃ hb ho fun s₂ F₃ N₃ hb ho => ?_
      generalize vs.take (vs.length - (e + 1)) = va at *
      generalize vs.drop (vs.length - (e + 1)) = vb at *
      generalize ks.take (vs.length - (e + 1)) = ka at *
      generalize ks.drop (vs.length - (e + 1)) = kb at *
      replace ea := ea.symm
      have hla := hAa.length
      have hlb := hAb.length
      have hlab : ka.length + kb.length = ks.length := by rw [← hperm, List.length_append]
      clear F₂ N₂
      k_extra "own:steps"
      rename Fr h₀ L _ _ => F₄
      rename News h₀ L _ _ => N₄
      have hkk := pushes_perm kb ka
      rw [hperm] at hkk
      have hsubp : ∀ j, ∀ y ∈ pushes ka (kb.take j), 0 < y := fun j y hy => by
        have h1 := (pushes_perm (kb.take j) ka).mem_iff.mp hy
        have h2 : y ∈ ks := by
          rw [← hperm]
          rcases List.mem_append.mp h1 with h | h
          · exact List.mem_append_left _ h
          · exact List.mem_append_right _ (List.mem_of_mem_take h)
        exact hG.pos y h2
      have hlenp : ∀ j, (pushes ka (kb.take j)).length ≤ ks.length := fun j => by
        rw [(pushes_perm (kb.take j) ka).length_eq, List.length_append, List.length_take]; omega
      refine wpAny_For ?_
      k_extra "own:steps"
      rename Fr h₀ L _ _ => F₅
      rename News h₀ L _ _ => N₅
      have N₆ := newsOf (led := (row, accObj d va.toArray n₂) :: (tl, W.listOf vb.toArray 0) :: R₁) N₅ (fun p hp => by
        rcases List.mem_cons.mp hp with rfl | hp
        · exact .tail _ (.tail _ (.tail _ (.head _)))
        rcases List.mem_cons.mp hp with rfl | hp
        · exact .tail _ (.tail _ (.tail _ (.tail _ (.head _))))
        · exact .tail _ (.tail _ (.tail _ (.tail _ (.tail _ (.tail _ hp))))))
      have htr : @Ne Nat tl row := ne_acc N₆ (.head _) (p := (tl, W.listOf vb.toArray 0)) (.tail _ (.head _)) (T := "list") rfl
      clear N₅
      refine loopListC (l := tl) (vs := vb) (c := 0) (fun j g os m₁ nw => ∃ vs' n', nw = (row, accObj d vs'.toArray n') :: (tl, W.listOf vb.toArray 0) :: R₁ ∧ Are R₁ vs' (pushes ka (kb.take j)) ∧ AllBare g ∧ os = s.os ∧ m₁ (Str.ofString "row") = some (.ref row) ∧ m₁ (Str.ofString "numbers") = some (.ref q) ∧ m₁ (Str.ofString "two") = some (.str (stOf lz) tz) ∧ m₁ (Str.ofString "kept") = some (.ref l))
        ?hJl F₅ N₆ ⟨va, n₂, rfl, hAa, hb, ho, rfl, rfl, rfl, rfl⟩ ?step ?fin rfl rfl rfl rfl PassesOwn.never
      case hJl =>
        rintro i g os m₁ nw ⟨vs', n', rfl, _⟩
        exact .tail _ (.head _)
      case step =>
        rintro j v I₂ o₂ s₃ m₄ nw hj hv hc₂ F₆ N₇ off ⟨vs', n', rfl, hA', hb', ho', k1, k2, k3, k4⟩
        obtain ⟨ia, ei, hp⟩ := hAb.at (i := j) (by omega)
        rw [ei] at hv
        cases hv
        replace F₆ := at5 (x1 := Str.ofString "taken") (x2 := Str.ofString "row") (x3 := Str.ofString "numbers") (x4 := Str.ofString "two") (x5 := Str.ofString "kept") F₆ (by rw [if_pos rfl]) (by rw [if_neg (by decide)]; exact k1) (by rw [if_neg (by decide)]; exact k2) (by rw [if_neg (by decide)]; exact k3) (by rw [if_neg (by decide)]; exact k4)
        replace N₇ := newsOf N₇ swap2
        have hRt : Rest ((I₂, o₂) :: (tl, W.listOf vb.toArray 0) :: R₁) row d 0 := (hR1.cons htr).cons (Ne.symm (off _ (.head _)))
        have hx := hG.pos (kb.getD j 0) (by rw [← hperm]; exact List.mem_append_right _ (getD_mem (by omega)))
        have hl' := hlenp j
        clear F₅ N₆
        k_extra "own:steps"
        rename Fr h₀ L _ _ => F₇
        rename News h₀ L _ _ => N₈
        refine push_ok B F₇ X N₈ T rfl (by ktr_room) (by ktr_units) hb' hRt (hA'.mono fun _ h => .tail _ (.tail _ h)) (hsubp j) (by omega) (hp.mono fun _ h => .tail _ (.tail _ h)) hx ?_
        intro vs₂ n₃ s₄ A₂ F₈ N₉ G₂ o₂'
        have O₂ := o₂'.trans ho'
        clear F₇ N₈
        k_extra "own:steps"
        refine TurnW.next ((row, accObj d vs₂.toArray n₃) :: (tl, W.listOf vb.toArray 0) :: R₁) (by k_asm) N₉ swap2 (off_row off) ⟨vs₂, n₃, rfl, ?_, G₂, O₂, rfl, rfl, rfl, rfl⟩
        rw [take_snoc (by omega), pushes_snoc]
        refine A₂.ofTup fun p hp h => ?_
        rcases List.mem_cons.mp hp with rfl | hp
        · exact absurd (hc₂.symm.trans h) (by decide)
        rcases List.mem_cons.mp hp with rfl | hp
        · exact absurd (show Value.type "list" = .type "tuple" from h) (by decide)
        · exact hp
      case fin =>
        rintro s₃ m₄ nw F₆ N₇ ⟨vs', n', rfl, hA', hb', ho', k1, k2, k3, k4⟩
        rw [List.take_of_length_le (by omega)] at hA'
        have hpos' := hsubp kb.length
        have hlen' := hlenp kb.length
        rw [List.take_of_length_le (Nat.le_refl _)] at hpos' hlen'
        replace F₆ := at4 F₆ k1 k2 k3 k4
        replace N₇ := newsOf (led := (row, accObj d vs'.toArray n') :: R₁) N₇ (fun p hp => by
          rcases List.mem_cons.mp hp with rfl | hp
          · exact .head _
          · exact .tail _ (.tail _ hp))
        have hG' : Good (pushes ka kb) js := ⟨hpos', hG.perm.trans hkk.symm, hG.sorted, pushes_heap _ hheap⟩
        clear F₅ N₆
        obtain ⟨psS, htS, hfS⟩ := H1.tab
        k_extra "own:steps"
        rename Fr h₀ L _ _ => F₇
        rename News h₀ L _ _ => N₈
        refine holds_call B F₇ X N₈ T rfl (by ktr_room) (by ktr_units) hb' hR1 hA' hpos' (by omega) H1.hl H1.K hG'.perm hG'.sorted hG'.heap htS hfS ?_
        intro s₆ F₉ N₉ G₉ o₉
        have O₉ := o₉.trans ho'
        clear F₇ N₈
        k_extra "own:steps"
        exact turn_core (by k_asm) N₉ hIm hcI ⟨hR1, hA', H1.hq, H1.hs, H1.hl, H1.K, H1.tab⟩ hG' (by omega) G₉ O₉ rfl rfl rfl rfl
    · rename Fr h₀ L _ _ => F₂
      rename News h₀ L _ _ => N₂
      rename ¬(_ = _) => hn4
      have hm0 : 0 ≤ z.fmod 5 ∧ z.fmod 5 < 5 := by
        rw [Int.fmod_eq_emod_of_nonneg _ (by decide)]; exact ⟨Int.emod_nonneg _ (by decide), Int.emod_lt_of_pos _ (by decide)⟩
      have hci := hzc _ (sign_in hz (z.fdiv 5))
      generalize (stOf lz).cps.getD ((z.fdiv 5).fmod 10).toNat 0 = c₁ at hci ⊢
      refine fresh F₂ N₂ hb ho fun s₂ F₂ N₂ hb ho => ?_
      refine piece_callF B F₂ X (newsOf N₂ swap2) T rfl (by ktr_room) (by ktr_units) hci.1 hci.2 ?_
      intro ia t₃ u₃ g₃ k₃ F₃ N₃ ne₃
      have hx := pieceOf_pos hci.1
      have hia : PcAt ((ia, tupObj (pcF (pieceOf c₁)) t₃ (pcS (pieceOf c₁)) u₃) :: (pD, W.listOf vs.toArray vs.length) :: R₁) ia (pieceOf c₁) := ⟨pieceOf_le hci.2, _, _, .head _⟩
      generalize pieceOf c₁ = x at hx hia N₃
      have hir := ne₃ _ (.head _)
      replace N₃ := newsOf N₃ swap2
      have H2 := H1.up (R' := (ia, tupObj (pcF x) t₃ (pcS x) u₃) :: (pD, W.listOf vs.toArray vs.length) :: R₁) (fun _ h => .tail _ (.tail _ h)) (fun p hp => by
        rcases List.mem_cons.mp hp with rfl | hp
        · exact Ne.symm hir
        rcases List.mem_cons.mp hp with rfl | hp
        · exact Ne.symm (pDne _ (.head _))
        · exact hne1 p hp)
      have hIm2 : (I, oI) ∈ (ia, tupObj (pcF x) t₃ (pcS x) u₃) :: (pD, W.listOf vs.toArray vs.length) :: R₁ := .tail _ (.tail _ hIm)
      generalize (ia, tupObj (pcF x) t₃ (pcS x) u₃) :: (pD, W.listOf vs.toArray vs.length) :: R₁ = R₂ at N₃ H2 hIm2 hia
      clear F₂ N₂ H1 hA1 hR1 hne1 hdi hIm ne₃
      k_extra "own:steps"
      rename Fr h₀ L _ _ => F₄
      rename News h₀ L _ _ => N₄
      have hz3 : z.fmod 5 ≤ 3 := by omega
      have hj60 : js.length ≤ 60 := by rw [hG.perm.length_eq]; omega
      refine told_call B F₄ X N₄ T rfl (by ktr_room) (by ktr_units) hj60 (.tail _ H2.hl) (H2.K.mono fun _ h => .tail _ h) (hia.mono fun _ h => .tail _ h) hG.sorted hm0.1 hz3 ?_
      intro q₂ v₂ l₂ us₂ js₂ c₂ tl₂ h₅ k₅ F₅ N₅ ty₂ hq₂ hl₂ an₂ ar₂ pm₂ so₂
      obtain ⟨R3, N₆, hsub, hne3, hq3, hl3, an3, ar3⟩ : ∃ R3, News h₀ L h₅ ((row, accObj d vs.toArray n) :: R3) ∧ (∀ p ∈ R₂, p ∈ R3) ∧ (∀ p ∈ R3, p.1 ≠ row) ∧ (q₂, pairObj v₂ (.ref l₂)) ∈ R3 ∧ (l₂, W.listOf us₂.toArray c₂) ∈ R3 ∧ AnsAt R3 v₂ (tAns (z.fmod 5) js x) ∧ Are R3 us₂ js₂ := by
        refine ⟨tl₂ ++ R₂, swapN N₅, fun _ h => List.mem_append_right _ h, fun p hp => ?_, List.mem_append_left _ hq₂, mem_off hl₂ rfl, an₂.ofTup fun p h e => mem_off h e, ar₂.ofTup fun p h e => mem_off h e⟩
        rcases List.mem_append.mp hp with hp | hp
        · obtain ⟨T', e⟩ := ty₂ p hp
          exact ne_acc N₅ (List.mem_append_right _ (.head _)) (List.mem_append_left _ hp) e
        · exact H2.R.ne p hp
      have H3 := H2.up hsub hne3
      have hIm3 := hsub _ hIm2
      have hia3 := hia.mono hsub
      clear F₄ N₄ N₅ ty₂ hq₂ hl₂ an₂ ar₂ H2 hIm2 hia hsub
      k_extra "own:steps"
      rename Fr h₀ L _ _ => F₆
      rename News h₀ L _ _ => N₇
      refine done_call B F₆ X N₇ T rfl (by ktr_room) (by ktr_units) hb H3.R H3.A hG.pos (by omega) hia3 hx (.inl rfl) hm0.1 hz3 ?_
      intro v3 vs3 n3 tl3 s3 an4 ar4 ty3 F₈ N₈ G₅ o₅
      have O₅ := o₅.trans ho
      rw [told_ans hm0.1 hz3 hG.perm hG.sorted hG.heap] at an4
      have hrow := told_row (x := x) hm0.1 hz3 hG.perm hG.sorted hG.heap
      have hpos' : ∀ y ∈ dRow (z.fmod 5) 0 ks x, 0 < y := fun y hy => tBag_pos (fun y hy => hG.pos y (hG.perm.mem_iff.mp hy)) hx y (hrow.1.mem_iff.mp hy)
      have hlen' : (dRow (z.fmod 5) 0 ks x).length ≤ ks.length + 1 := by
        rw [hrow.1.length_eq]
        exact Nat.le_trans (tBag_len _ _ _) (Nat.le_of_eq (by rw [hG.perm.length_eq]))
      have hG' : Good (dRow (z.fmod 5) 0 ks x) js₂ := ⟨hpos', pm₂.trans hrow.1.symm, so₂, hrow.2⟩
      generalize dRow (z.fmod 5) 0 ks x = ks' at ar4 hG' hpos' hlen'
      have hne4 : ∀ p ∈ tl3 ++ R3, p.1 ≠ row := fun p hp => by
        rcases List.mem_append.mp hp with hp | hp
        · obtain ⟨T', e⟩ := ty3 p hp
          exact ne_acc N₈ (.head _) (.tail _ (List.mem_append_left _ hp)) e
        · exact H3.R.ne p hp
      have hsub3 : ∀ p ∈ R3, p ∈ tl3 ++ R3 := fun _ h => List.mem_append_right _ h
      have H4 := H3.up hsub3 hne4
      have an5 := an3.mono hsub3
      have ar5 := ar3.mono hsub3
      have hl5 := hsub3 _ hl3
      have hIm5 := hsub3 _ hIm3
      generalize tl3 ++ R3 = R4 at *
      clear H3 an3 ar3 hl3 hq3 hIm3 hia3 F₆ N₇ ty3
      k_extra "own:steps"
      rename Fr h₀ L _ _ => F₉
      rename News h₀ L _ _ => N₉
      refine ne_ans N₉ (fun _ h => .tail _ h) (fun _ h => .tail _ h) an4 an5 rfl (by ktr_units) ?_
      k_extra "own:steps"
      rename Fr h₀ L _ _ => F₁₀
      rename News h₀ L _ _ => N₁₀
      obtain ⟨psS, htS, hfS⟩ := H4.tab
      refine holds_call B F₁₀ X N₁₀ T rfl (by ktr_room) (by ktr_units) G₅ H4.R ar4 hpos' (by omega) hl5 ar5 hG'.perm hG'.sorted hG'.heap htS hfS ?_
      intro s₆ F₁₁ N₁₁ G₉ o₉
      have O₉ := o₉.trans O₅
      k_extra "own:steps"
      exact turn_core (by k_asm) N₁₁ hIm5 hcI ⟨H4.R, ar4, H4.hq, H4.hs, hl5, ar5, H4.tab⟩ hG' (by omega) G₉ O₉ rfl rfl rfl rfl
end Mine
end
section
open PySem PySem.W PyProof.Rows PySem.Spec PySem.Calls
set_option maxRecDepth 100000
namespace Mine
theorem start_CT : True := by
  w_top off
  k_with_none
  (k_with "own:omega" => (first | with_reducible assumption | (refine' Mine.room2 ?h ?e; (case h => with_reducible assumption); (case e => decide)) | (refine' Mine.room1 ?h ?e; (case h => with_reducible assumption); (case e => decide)) | (refine' Mine.le_up ?h ?e; (case h => with_reducible assumption); (case e => decide)) | (refine' Mine.room0 ?h; (case h => with_reducible assumption)) | ((fail_if_success (fail_if_success omega (config := {}))); lia)))
  trivial
theorem Pairs.core {rest : List (Addr × Obj)} : ∀ {vs : List Value} {qs : List (Str × Str)}, Pairs rest vs qs → ∃ tl : List (Addr × Obj), (∀ p ∈ tl, p ∈ rest ∧ p.2.cls = .type "tuple") ∧ Pairs tl vs qs
  | [], [], _ => ⟨[], fun _ h => (nomatch h), trivial⟩
  | [], _ :: _, h => h.elim
  | _ :: _, [], h => h.elim
  | _ :: _, q :: qs, ⟨⟨a, t, u, e, hm⟩, r⟩ => by
    obtain ⟨tl, h1, h2⟩ := Pairs.core r
    refine ⟨(a, tupObj q.1 t q.2 u) :: tl, fun p hp => ?_, ⟨a, t, u, e, List.mem_cons_self⟩, Pairs.mono (fun _ h => List.mem_cons_of_mem _ h) h2⟩
    rcases List.mem_cons.mp hp with rfl | hp
    · exact ⟨hm, rfl⟩
    · exact h1 p hp
theorem pieceOf_le' {c : Nat} (h : c < BL) : pieceOf c ≤ BL := by
  unfold pieceOf; split
  · exact Nat.le_refl _
  · exact Nat.le_of_lt h
section
variable {w : World} {A : Around} {E : Value → Shared → Prop} {s : Shared} {g : Heap} {L : Addr} {m : Str → Option Value} {env : Env} {news : List (Addr × Obj)}
theorem ListComp_tup {iter : PySem.Expr} {x b : Str} {px p1 p2 p3 : Pos} {k0 k : Nat} {scope : Scope} {cl : List (Str × Addr)} {pos : Pos} {l : List Nat} {Q : Value → Shared → Prop} (F : Fr g L s.heap m) (N : News g L s.heap news) (hh : A.handled = none) (hl : l.length ≤ 1000)
    (hiter : ∀ (Q' : Value → Shared → Prop), (∀ t' s', Fr g L s'.heap m → News g L s'.heap news → s'.gens = s.gens → s'.os = s.os → Q' (.str (stOf l) t') s') → wpAny (model PG w) A (eval iter env) Q' E s)
    (h : ∀ D tl ys s', Pairs tl ys (l.map fun c => (b, (⟨#[c]⟩ : Str))) → (∀ p ∈ tl, p.2.cls = .type "tuple") → Fr g L s'.heap m → News g L s'.heap ((D, listOf ys.toArray ys.length) :: (tl ++ news)) → (∀ p ∈ tl ++ news, p.1 ≠ D) → s'.gens = s.gens → s'.os = s.os → Q (.ref D) s')
    (hclos : closureFor scope env = pure cl) (hcell : ∀ z ∈ scope.names, z.2 ≠ .cell) (hkind : scope.kind = .function)
    (hnames : ∀ z ∈ scope.names, z.2 = .local → scope.names.lookup z.1 = some .local) (hx : scope.names.lookup x = some .local)
    (hd : (x == ("__debug__" : Str)) = false) (hs : ∀ x, foldedSetIterable iter env x = pure x) :
    wpAny (model PG w) A (eval (.ListComp (.Tuple [.Constant (.str b) k0 p1, .Name x p2] k p3) [⟨.Name x px, iter, [], 0⟩] scope pos) env) Q E s :=
  ListComp_W (g := g) (L := L) (m := m) hclos hcell hkind hnames hx (hiter _ fun t' s' F' N' hg ho => SrcW.str hh F' N' (by rw [stOf_size]; exact hl) fun h' => by
    rw [stOf_size]
    exact rest_tup hkind (lookup_relabel_local hx) hd fun tl ys hP ht => fun D h'' tk F'' N'' off => h D tl ys _ hP ht F'' N'' (Off1.ne off) hg ho) hs
theorem ListComp_pre {iter : PySem.Expr} {x b : Str} {px p1 p2 p3 : Pos} {k0 : Nat} {scope : Scope} {cl : List (Str × Addr)} {pos : Pos} {l : List Nat} {Q : Value → Shared → Prop} (F : Fr g L s.heap m) (N : News g L s.heap news) (hh : A.handled = none) (hl : l.length ≤ 1000) (hb : b.length ≤ 10)
    (hiter : ∀ (Q' : Value → Shared → Prop), (∀ t' s', Fr g L s'.heap m → News g L s'.heap news → s'.gens = s.gens → s'.os = s.os → Q' (.str (stOf l) t') s') → wpAny (model PG w) A (eval iter env) Q' E s)
    (h : ∀ D ys s', StrsAre ys (l.map fun c => b ++ (⟨#[c]⟩ : Str)) → Fr g L s'.heap m → News g L s'.heap ((D, listOf ys.toArray ys.length) :: news) → (∀ p ∈ news, p.1 ≠ D) → s'.gens = s.gens → s'.os = s.os → Q (.ref D) s')
    (hclos : closureFor scope env = pure cl) (hcell : ∀ z ∈ scope.names, z.2 ≠ .cell) (hkind : scope.kind = .function)
    (hnames : ∀ z ∈ scope.names, z.2 = .local → scope.names.lookup z.1 = some .local) (hx : scope.names.lookup x = some .local)
    (hd : (x == ("__debug__" : Str)) = false) (hs : ∀ x, foldedSetIterable iter env x = pure x) :
    wpAny (model PG w) A (eval (.ListComp (.BinOp (.Constant (.str b) k0 p1) .Add (.Name x p2) p3) [⟨.Name x px, iter, [], 0⟩] scope pos) env) Q E s :=
  ListComp_W (g := g) (L := L) (m := m) hclos hcell hkind hnames hx (hiter _ fun t' s' F' N' hg ho => SrcW.str hh F' N' (by rw [stOf_size]; exact hl) fun h' => by
    rw [stOf_size]
    exact rest_cat hb hkind (lookup_relabel_local hx) hd fun ys hP => fun D h'' tk F'' N'' off => h D ys _ hP F'' N'' (Off1.ne off) hg ho) hs
theorem Assign_piece {elt iter : PySem.Expr} {x y : Str} {px py : Pos} {scope : Scope} {cl : List (Str × Addr)} {pos spos : Pos} {l : List Nat} {Q : Flow → Shared → Prop} (F : Fr g L s.heap m) (N : News g L s.heap news) (hh : A.handled = none) (hl : l.length ≤ 1000) (hle : ∀ c ∈ l, c < BL)
    (hiter : ∀ (Q' : Value → Shared → Prop), (∀ t' s', Fr g L s'.heap m → News g L s'.heap news → s'.gens = s.gens → s'.os = s.os → Q' (.str (stOf l) t') s') → wpAny (model PG w) A (eval iter env) Q' E s)
    (hstep : ∀ (s₁ : Shared) c u C oC m₂ h tk news' (Q' E' : Value → Shared → Prop), c ∈ l → LCg.NsObj oC m₂ → m₂ x = some (.str ⟨#[c]⟩ u) → Fr g L h m → News g L h news' → (C, oC) ∈ news' →
      (∀ q t u h' tk', Fr g L h' m → News g L h' ((q, tupObj (pcF (pieceOf c)) t (pcS (pieceOf c)) u) :: news') → (∀ p ∈ news', p.1 ≠ q) → Q' (.ref q) { s₁ with heap := h', toks := tk' }) →
      wpAny (model PG w) A (eval elt (compEnvC scope cl C env)) Q' E' { s₁ with heap := h, toks := tk })
    (h : ∀ D tl ys s', Are tl ys (l.map pieceOf) → (∀ p ∈ tl, p.2.cls = .type "tuple") → Fr g L s'.heap (fun z => if z = y then some (.ref D) else m z) → News g L s'.heap ((D, listOf ys.toArray ys.length) :: (tl ++ news)) → (∀ p ∈ tl ++ news, p.1 ≠ D) → s'.gens = s.gens → s'.os = s.os → Q .next s')
    (hLe : env.locals = L)
    (hsw : swapsWith (.ListComp elt [⟨.Name x px, iter, [], 0⟩] scope pos) (some (.Name y py)) spos.line env = pure true)
    (hclos : closureFor scope env = pure cl) (hcell : ∀ z ∈ scope.names, z.2 ≠ .cell) (hkind : scope.kind = .function)
    (hnames : ∀ z ∈ scope.names, z.2 = .local → scope.names.lookup z.1 = some .local) (hx : scope.names.lookup x = some .local)
    (hy : env.kindOf y = some .local) (hp : (env.scope.kind == .class || (env.scope.kind == .module && env.locals != env.globals)) = false)
    (hs : ∀ x, foldedSetIterable iter env x = pure x) :
    wpAny (model PG w) A (exec (.Assign [.Name y py] (.ListComp elt [⟨.Name x px, iter, [], 0⟩] scope pos) spos) env) Q E s :=
  Assign_ListComp_W (g := g) (L := L) (m := m) hLe hsw hclos hcell hkind hnames hx hy hp (hiter _ fun t' s' F' N' hg ho => SrcW.str hh F' N' (by rw [stOf_size]; exact hl) fun h' => by
    rw [stOf_size]
    exact rest_piece pieceOf (fun c hc => pieceOf_le' (hle c hc)) (fun c u C oC m₂ h tk news' Q' E' => hstep _ c u C oC m₂ h tk news' Q' E') fun tl ys hP ht => fun D h'' tk F'' N'' off => h D tl ys _ hP ht F'' N'' (Off1.ne off) hg ho) hs
end
theorem len_0 {w : World} {p : Program} {loose : List Str} {mean : ExcName → Option Value} {mg mb : Str → Option Value} {dp un : Nat} {gd : Option (List Code)} {cn : Str} {cs : Scope} {a : Addr} {ccd : Value} {cl : List (Str × Addr)} {outer : List Env} {A₀ : Around} {base h₀ : Heap} {L : Addr} {m : Str → Option Value} {rest : List (Addr × Obj)} {s : Shared}
    {Q E : Value → Shared → Prop} {row d : Addr} {vs : List Value} {n : Nat} {qs : List (Str × Str)} {k : Int} {hs : Int} {t₁ t₂ : Tok} {nd : Nat}
    (B : Below A₀ base outer h₀) (F : Fr h₀ L s.heap m) (X : (KW w.params).In h₀) (N : News h₀ L s.heap ((112, tabObj #[]) :: rest)) (T : Top p loose mean mg mb h₀) (hk : cs.kind = .function)
    (hd : dp + 5 < recursionLimit) (hu : un + 60 < cLine) (G : AllBare s.gens) (hne : ∀ p ∈ rest, p.1 ≠ 112) (hrow : (row, accObj d vs.toArray n) ∈ rest) (hdi : (d, szObj hs t₁ k t₂ nd) ∈ rest) (hP : Pairs rest vs qs)
    (hsz : ∀ q ∈ qs, q.1.length ≤ 10 ∧ q.2.length ≤ 10) (hl : qs.length ≤ 1000) (hk0 : 0 ≤ k) (hk1 : k ≤ 100000)
    (ret : ∀ s' t ps, Fr h₀ L s'.heap m → News h₀ L s'.heap ((112, tabObj ps) :: rest) → AllBare s'.gens → s'.os = s.os → Found posL ps → Q (.int (k + lens qs) t) s') :
    wpAny (model PG w) (ktrTop dp un gd cn cs L a ccd cl outer) (call (.builtin "len") [.ref row]) Q E s := by
  refine len_K (K := KW w.params) (C := 150) (f := 117) F X (acc_inst N (.tail _ hrow) (.tail _ hdi)) (by kernel_rfl) (by kernel_rfl) ?_
  refine len_call (un := un + 1) (rest := rest) (ps := #[]) B F X N T hk hd (by omega) G (.inl rfl) (.inr hne) hrow hP hdi hsz hl hk0 hk1 fun s' ps' t F' N' G' hos hf he => ?_
  have hb := lens_bound qs hsz
  exact ⟨⟨by omega, by omega⟩, ret { s' with toks := s'.toks + 1 } s'.toks ps' F' N' G' hos hf⟩
theorem str_0 {w : World} {p : Program} {loose : List Str} {mean : ExcName → Option Value} {mg mb : Str → Option Value} {dp un : Nat} {gd : Option (List Code)} {cn : Str} {cs : Scope} {a : Addr} {ccd : Value} {cl : List (Str × Addr)} {outer : List Env} {A₀ : Around} {base h₀ : Heap} {L : Addr} {m : Str → Option Value} {rest : List (Addr × Obj)} {s : Shared}
    {Q E : Value → Shared → Prop} {row d : Addr} {vs : List Value} {n : Nat} {qs : List (Str × Str)} {od : Obj}
    (B : Below A₀ base outer h₀) (F : Fr h₀ L s.heap m) (X : (KW w.params).In h₀) (N : News h₀ L s.heap ((119, tabObj #[]) :: rest)) (T : Top p loose mean mg mb h₀) (hk : cs.kind = .function)
    (hd : dp + 5 < recursionLimit) (hu : un + 60 < cLine) (G : AllBare s.gens) (hne : ∀ p ∈ rest, p.1 ≠ 119) (hrow : (row, accObj d vs.toArray n) ∈ rest) (hdi : (d, od) ∈ rest) (hP : Pairs rest vs qs)
    (hsz : ∀ q ∈ qs, q.1.length ≤ 10 ∧ q.2.length ≤ 10) (hl : qs.length ≤ 1000)
    (ret : ∀ s' t ps, Fr h₀ L s'.heap m → News h₀ L s'.heap ((119, tabObj ps) :: rest) → AllBare s'.gens → s'.os = s.os → Found posS ps → Q (.str (Txt.join "" (qs.map fun q => q.1 ++ q.2)) t) s') :
    wpAny (model PG w) (ktrTop dp un gd cn cs L a ccd cl outer) (call (.type "str") [.ref row]) Q E s := by
  refine kso_call (K := KW w.params) (C := 150) (f := 124) (by show un + 1 + 1 < cLine; omega) (X.keeps F.keep) (acc_inst N (.tail _ hrow) (.tail _ hdi)) (by kernel_rfl) (by kernel_rfl) ?_
  refine str_call (un := un + 2) (rest := rest) (ps := #[]) B F X N T hk hd (by omega) G (.inl rfl) (.inr hne) hrow hP hsz hl fun s' ps' t F' N' G' hos hf he => ?_
  have e : (qs.map fun q => Txt.join "" [q.1, q.2]) = qs.map fun q => q.1 ++ q.2 := List.map_congr_left fun q _ => join2 _ _
  rw [e]
  exact ret _ _ ps' F' N' G' hos hf
end Mine
end
section
open PySem PySem.W PyProof.Rows PySem.Spec PySem.Calls
set_option maxRecDepth 100000
namespace Mine
theorem start_LB : True := by
  w_top off
  k_with_none
  (k_with "own:omega" => (first | with_reducible assumption | (refine' Mine.room2 ?h ?e; (case h => with_reducible assumption); (case e => decide)) | (refine' Mine.room1 ?h ?e; (case h => with_reducible assumption); (case e => decide)) | (refine' Mine.le_up ?h ?e; (case h => with_reducible assumption); (case e => decide)) | (refine' Mine.room0 ?h; (case h => with_reducible assumption)) | ((fail_if_success (fail_if_success omega (config := {}))); lia)))
  trivial
theorem lines_LB_0 : True := by
  (k_with "own:k_mem" => with_reducible_and_instances assumption)
  (k_with "own:steps" => repeat' (first | (k_unfold; (try dsimp only)) | ((fail_if_success (with_reducible show wpAny _ _ (exec (Stmt.For _ _ _ _ _) _) _ _ _)); (fail_if_success (with_reducible show wpAny _ _ (call (Value.ref _) _) _ _ _)); (fail_if_success (with_reducible show wpAny _ _ (eval (Expr.ListComp _ _ _ _) _) _ _ _)); (fail_if_success (with_reducible show wpAny _ _ (call (Value.builtin "len") [Value.ref _]) _ _ _)); (fail_if_success (with_reducible show wpAny _ _ (call (Value.type "str") [Value.ref _]) _ _ _)); (first | walk1 | (dsimp only; walk1) | fail "no step"))))
  (k_with "own:mem" => first | with_reducible assumption | exact List.mem_cons_self | (refine List.mem_cons_of_mem _ ?_; k_extra "own:mem"))
  (k_with "own:sub" => first | exact fun _ h => h | exact fun _ h => .tail _ h | exact fun _ h => .tail _ (.tail _ h) | exact fun _ h => .tail _ (.tail _ (.tail _ h)) | exact fun _ h => .tail _ (.tail _ (.tail _ (.tail _ h))) | exact fun _ h => .tail _ (.tail _ (.tail _ (.tail _ (.tail _ h)))) | exact fun _ h => .tail _ (.tail _ (.tail _ (.tail _ (.tail _ (.tail _ h))))))
  (k_with "own:idx" => first | omega | (rw [Int.fdiv_eq_ediv_of_nonneg _ (by decide)]; omega))
  (k_with "own:len" => first | omega | (simp only [List.length_append, List.length_cons, List.length_nil] at *; omega))
  (k_with "own:len" => first | omega | (simp only [List.length_append, List.length_cons, List.length_nil, cut_len1] at *; omega))
  (k_with "getMethod ref" => (k_here; k_dflt (refine' accK_method ?k1 ?k2 ?k3 ?k4 ?k5 ?k6 ?k7 ?k8 ?k9 ?_; (case k1 => k_asm); (case k2 => k_asm); (case k3 => k_asm); (case k4 => k_extra "own:mem"); (case k5 => k_extra "own:mem"); (case k6 => k_is); (case k7 => k_is); (case k8 => first | exact .inl rfl | exact .inr rfl); (case k9 => decide); k_whole)))
  (k_with "call builtin:str.join" => (k_here; (with_reducible show wpAny _ _ (call (Value.builtin "str.join") [Value.str _ _, Value.ref _]) _ _ _); k_dflt (refine' join_K ?k1 ?k2 ?k3 ?k4 ?k5 ?k6 ?_; (case k1 => k_asm); (case k2 => k_extra "own:mem"); (case k3 => k_asm); (case k4 => k_extra "own:short"); (case k5 => k_extra "own:jlen"); (case k6 => decide); k_whole); intro _ _))
  (k_with "own:eq" => first | with_reducible assumption | rfl)
  (k_with "own:short" => assumption)
  (k_with "own:jlen" => omega)
  trivial
theorem lens_tup : ∀ (l : List Nat), lens (l.map fun c => (Str.ofString " ", (⟨#[c]⟩ : Str))) = 2 * (l.length : Int)
  | [] => rfl
  | c :: l => by
    have h := lens_tup l
    unfold lens at *
    simp only [List.map_cons, List.sum_cons, List.length_cons, h]
    have e : (Str.ofString " ").length + (⟨#[c]⟩ : Str).length = 2 := rfl
    rw [e]; omega
theorem tup_short (l : List Nat) : ∀ q ∈ l.map fun c => (Str.ofString " ", (⟨#[c]⟩ : Str)), q.1.length ≤ 10 ∧ q.2.length ≤ 10 := fun q hq => by
  obtain ⟨c, _, rfl⟩ := List.mem_map.mp hq
  exact ⟨by show (Str.ofString " ").length ≤ 10; decide, by show 1 ≤ 10; decide⟩
theorem cat_short1 (l : List Nat) : ∀ z ∈ l.map fun c => Str.ofString " " ++ (⟨#[c]⟩ : Str), z.length ≤ 10 := fun q hq => by
  obtain ⟨c, _, rfl⟩ := List.mem_map.mp hq
  show (Array.size (#[32] ++ #[c])) ≤ 10
  rw [Array.size_append]; show 1 + 1 ≤ 10; decide

noncomputable def partB : List Stmt := (lawBody.drop 4).take 2
noncomputable def partC : List Stmt := (lawBody.drop 6).take 5
set_option maxHeartbeats 4000000 in
theorem segB {w : World} {p : Program} {loose : List Str} {mean : ExcName → Option Value} {mg mb : Str → Option Value} {A₀ : Around} {h₀ : Heap} {L a : Addr} {ccd : Value} {m : Str → Option Value} {s : Shared} {Q : Flow → Shared → Prop} {q : Addr} {ws : List Value} {c : Nat} {z : Int} {tm tz : Tok} {lz : List Nat}
    (B : Below A₀ h₀ [] h₀) (F : Fr h₀ L s.heap m) (X : (KW w.params).In h₀) (N : News h₀ L s.heap [(q, W.listOf ws.toArray c), (112, tabObj #[]), (119, tabObj #[])]) (T : Top p loose mean mg mb h₀) (G : AllBare s.gens)
    (hz0 : 0 ≤ z) (hz1 : z < 65536)
    (hm1 : m (Str.ofString "numbers") = some (.ref q)) (hm2 : m (Str.ofString "mode") = some (.int z tm)) (hm3 : m (Str.ofString "two") = some (.str (stOf lz) tz))
    (ret : ∀ m' s' ps ps', m' (Str.ofString "numbers") = some (.ref q) → m' (Str.ofString "mode") = some (.int z tm) → m' (Str.ofString "two") = some (.str (stOf lz) tz) → Fr h₀ L s'.heap m' → News h₀ L s'.heap [(q, W.listOf ws.toArray c), (112, tabObj ps), (119, tabObj ps')] → Found posL ps → Found posS ps' → AllBare s'.gens → s'.os = s.os → Q .next s') :
    wpAny (model PG w) (ktrTop 302 7 (some []) lawRecP.1.name lawRecP.1.scope L a ccd [] []) (execs partB (envX lawRecP.1.name lawRecP.1.scope L a ccd [])) Q (fun _ _ => False) s := by
  have hlz : (lst z 3).length = 10 := rfl
  unfold partB lawBody lawRecP
  dsimp only [List.drop, List.take]
  replace F := at3 F hm1 hm2 hm3
  k_extra "own:steps"
  refine' ListComp_tup (l := lst z 3) (by k_asm) (by k_asm) rfl (by omega) ?it ?rt ?c3 ?c4 ?c5 ?c6 ?c7 ?ca ?cb
  case c3 => with_unfolding_all rfl
  case c4 => decide
  case c5 => rfl
  case c6 => decide
  case c7 => rfl
  case ca => decide
  case cb => exact fun _ => rfl
  case it =>
    intro Q' hQ'
    k_extra "own:steps"
    refine filemode_call B F X N T rfl (by ktr_room) (by ktr_units) hz0 hz1 ?_
    intro t' s' F' N' g' o'
    rw [signs_eq z hz0 hz1]
    exact hQ' t' s' F' N' g' o'
  case rt =>
    intro D tl ys s₂ hP ht F₂ N₂ ne₂ g₂ o₂
    have hly := hP.length
    have G₂ : AllBare s₂.gens := by rw [g₂]; exact G
    have O₂ : s₂.os = s.os := o₂
    clear F N g₂ o₂
    k_extra "own:steps"
    simp only [List.length_map, hlz] at hly
    refine filled_call B F₂ X N₂ T rfl (by ktr_room) (by ktr_units) (.head _) (hP.mono fun _ h => .tail _ (List.mem_append_left _ h)) (by omega) ?_
    intro row d ws' n' hs ta tb nd tl2 s₃ N₃ F₃ P₃ e1 e2 g₃ o₃
    obtain ⟨tl3, hc3, P₄⟩ := P₃.core
    have hlw := P₄.length
    simp only [List.length_map, hlz] at hlw
    have G₃ : AllBare s₃.gens := by rw [g₃]; exact G₂
    have O₃ : s₃.os = s.os := o₃.trans O₂
    have N₄ := newsOf (led := (112, tabObj #[]) :: (119, tabObj #[]) :: (row, accObj d ws'.toArray n') :: (d, szObj hs ta 3 tb nd) :: (q, W.listOf ws.toArray c) :: tl3) N₃ (fun p hp => by
      rcases List.mem_cons.mp hp with rfl | hp
      · exact .tail _ (.tail _ (List.mem_append_right _ (.tail _ (List.mem_append_right _ (.tail _ (.head _))))))
      rcases List.mem_cons.mp hp with rfl | hp
      · exact .tail _ (.tail _ (List.mem_append_right _ (.tail _ (List.mem_append_right _ (.tail _ (.tail _ (.head _)))))))
      rcases List.mem_cons.mp hp with rfl | hp
      · exact .head _
      rcases List.mem_cons.mp hp with rfl | hp
      · exact .tail _ (.head _)
      rcases List.mem_cons.mp hp with rfl | hp
      · exact .tail _ (.tail _ (List.mem_append_right _ (.tail _ (List.mem_append_right _ (.head _)))))
      · exact .tail _ (.tail _ (List.mem_append_left _ (hc3 p hp).1)))
    have hcl : ∀ p ∈ (row, accObj d ws'.toArray n') :: (d, szObj hs ta 3 tb nd) :: (q, W.listOf ws.toArray c) :: tl3, p.2.cls ≠ .none := fun p hp => by
      rcases List.mem_cons.mp hp with rfl | hp
      · show Value.ref 150 ≠ .none; decide
      rcases List.mem_cons.mp hp with rfl | hp
      · show Value.type "dict" ≠ .none; decide
      rcases List.mem_cons.mp hp with rfl | hp
      · show Value.type "list" ≠ .none; decide
      · rw [(hc3 p hp).2]; decide
    have h112 : ∀ p ∈ (row, accObj d ws'.toArray n') :: (d, szObj hs ta 3 tb nd) :: (q, W.listOf ws.toArray c) :: tl3, @Ne Nat p.1 112 := fun p hp => News.twoPlaces N₄ (.tail _ (.tail _ hp)) (.head _) fun e => hcl p hp (by rw [e]; rfl)
    have h119 : ∀ p ∈ (row, accObj d ws'.toArray n') :: (d, szObj hs ta 3 tb nd) :: (q, W.listOf ws.toArray c) :: tl3, @Ne Nat p.1 119 := fun p hp => News.twoPlaces N₄ (.tail _ (.tail _ hp)) (.tail _ (.head _)) fun e => hcl p hp (by rw [e]; rfl)
    have P₅ : Pairs ((row, accObj d ws'.toArray n') :: (d, szObj hs ta 3 tb nd) :: (q, W.listOf ws.toArray c) :: tl3) ws' _ := P₄.mono fun _ h => .tail _ (.tail _ (.tail _ h))
    have hrow : (row, accObj d ws'.toArray n') ∈ (row, accObj d ws'.toArray n') :: (d, szObj hs ta 3 tb nd) :: (q, W.listOf ws.toArray c) :: tl3 := .head _
    have hd1 : (d, szObj hs ta 3 tb nd) ∈ (row, accObj d ws'.toArray n') :: (d, szObj hs ta 3 tb nd) :: (q, W.listOf ws.toArray c) :: tl3 := .tail _ (.head _)
    have hq1 : (q, W.listOf ws.toArray c) ∈ (row, accObj d ws'.toArray n') :: (d, szObj hs ta 3 tb nd) :: (q, W.listOf ws.toArray c) :: tl3 := .tail _ (.tail _ (.head _))
    generalize hRdef : (row, accObj d ws'.toArray n') :: (d, szObj hs ta 3 tb nd) :: (q, W.listOf ws.toArray c) :: tl3 = R at *
    clear hRdef N₃ F₂ N₂ hP ht e1 e2 P₃ hcl hc3 ne₂ g₃ o₃ P₄
    k_extra "own:steps"
    rename Fr h₀ L _ _ => F₅
    rename News h₀ L _ _ => N₅
    refine len_0 (rest := (119, tabObj #[]) :: R) B F₅ X N₅ T rfl (by ktr_room) (by ktr_units) G₃ (fun p hp => by
      rcases List.mem_cons.mp hp with rfl | hp
      · show (119 : Nat) ≠ 112; decide
      · exact h112 p hp) (.tail _ hrow) (.tail _ hd1) (P₅.mono fun _ h => .tail _ h) (tup_short _) (by rw [List.length_map]; omega) (by decide) (by decide) ?_
    intro s₄ t₄ psL F₆ N₆ G₄ o₄ hfL
    have O₄ := o₄.trans O₃
    rw [lens_tup, hlz]
    clear F₅ N₅
    k_extra "own:steps"
    refine count_call B F₆ X N₆ T rfl (by ktr_room) (by ktr_units) (.tail _ (.tail _ hrow)) (.tail _ (.tail _ hd1)) ?_
    intro h₇ k₇ t₇ F₇ N₇
    rw [hlw]
    clear F₆ N₆
    k_extra "own:steps"
    rename Fr h₀ L _ _ => F₈
    rename News h₀ L _ _ => N₈
    refine str_0 (rest := (112, tabObj psL) :: R) B F₈ X (newsOf N₈ swap2) T rfl (by ktr_room) (by ktr_units) G₄ (fun p hp => by
      rcases List.mem_cons.mp hp with rfl | hp
      · show (112 : Nat) ≠ 119; decide
      · exact h119 p hp) (.tail _ hrow) (.tail _ hd1) (P₅.mono fun _ h => .tail _ h) (tup_short _) (by rw [List.length_map]; omega) ?_
    intro s₉ t₉ psS F₉ N₉ G₉ o₉ hfS
    have O₉ := o₉.trans O₄
    clear F₈ N₈
    rw [List.map_map]
    k_extra "own:steps"
    refine' ListComp_pre (l := lst z 3) (by k_asm) (by k_asm) rfl (by omega) ?bb ?it ?rt ?c3 ?c4 ?c5 ?c6 ?c7 ?ca ?cb
    case bb => decide
    case c3 => with_unfolding_all rfl
    case c4 => decide
    case c5 => rfl
    case c6 => decide
    case c7 => rfl
    case ca => decide
    case cb => exact fun _ => rfl
    case it =>
      intro Q' hQ'
      k_extra "own:steps"
      refine listing_call B F₉ X N₉ T rfl (by ktr_room) (by ktr_units) hz0 hz1 ?_
      intro t' s' F' N' g' o'
      exact hQ' t' s' F' N' g' o'
    case rt =>
      intro D2 zs s₁₀ hS F₁₀ N₁₀ ne₁₀ g₁₀ o₁₀
      have hsh := cat_short1 (lst z 3)
      have hlz2 := strs_len hS
      rw [List.length_map, hlz] at hlz2
      have G₁₀ : AllBare s₁₀.gens := by rw [g₁₀]; exact G₉
      have O₁₀ : s₁₀.os = s.os := o₁₀.trans O₉
      clear F₉ N₉
      k_extra "own:steps"
      · rename ((_ != _) = true) => hb
        exact absurd rfl (bne_iff_ne.mp hb)
      · refine ret _ _ psL psS rfl rfl rfl F₁₀ (newsOf N₁₀ fun p hp => ?_) hfL hfS G₁₀ O₁₀
        rcases List.mem_cons.mp hp with rfl | hp
        · exact .tail _ (.tail _ (.tail _ hq1))
        rcases List.mem_cons.mp hp with rfl | hp
        · exact .tail _ (.tail _ (.head _))
        · rw [List.mem_singleton.mp hp]; exact .tail _ (.head _)
end Mine
end
section
open PySem PySem.W PyProof.Rows PySem.Spec PySem.Calls
set_option maxRecDepth 100000
namespace Mine
theorem start_LF : True := by
  w_top off
  k_with_none
  (k_with "own:omega" => (first | with_reducible assumption | (refine' Mine.room2 ?h ?e; (case h => with_reducible assumption); (case e => decide)) | (refine' Mine.room1 ?h ?e; (case h => with_reducible assumption); (case e => decide)) | (refine' Mine.le_up ?h ?e; (case h => with_reducible assumption); (case e => decide)) | (refine' Mine.room0 ?h; (case h => with_reducible assumption)) | ((fail_if_success (fail_if_success omega (config := {}))); lia)))
  trivial
theorem lines_LF_0 : True := by
  (k_with "own:k_mem" => with_reducible_and_instances assumption)
  (k_with "own:steps" => repeat' (first | (k_unfold; (try dsimp only)) | ((fail_if_success (with_reducible show wpAny _ _ (exec (Stmt.For _ _ _ _ _) _) _ _ _)); (fail_if_success (with_reducible show wpAny _ _ (call (Value.ref _) _) _ _ _)); (fail_if_success (with_reducible show wpAny _ _ (eval (Expr.ListComp _ _ _ _) _) _ _ _)); (fail_if_success (with_reducible show wpAny _ _ (exec (Stmt.Assign _ (Expr.ListComp _ _ _ _) _) _) _ _ _)); (first | walk1 | (dsimp only; walk1) | fail "no step"))))
  (k_with "own:mem" => first | with_reducible assumption | exact List.mem_cons_self | (refine List.mem_cons_of_mem _ ?_; k_extra "own:mem"))
  (k_with "own:sub" => first | exact fun _ h => h | exact fun _ h => .tail _ h | exact fun _ h => .tail _ (.tail _ h) | exact fun _ h => .tail _ (.tail _ (.tail _ h)) | exact fun _ h => .tail _ (.tail _ (.tail _ (.tail _ h))) | exact fun _ h => .tail _ (.tail _ (.tail _ (.tail _ (.tail _ h)))) | exact fun _ h => .tail _ (.tail _ (.tail _ (.tail _ (.tail _ (.tail _ h))))))
  (k_with "own:idx" => first | omega | (rw [Int.fdiv_eq_ediv_of_nonneg _ (by decide)]; omega))
  (k_with "own:len" => first | omega | (simp only [List.length_append, List.length_cons, List.length_nil] at *; omega))
  (k_with "own:len" => first | omega | (simp only [List.length_append, List.length_cons, List.length_nil, cut_len1] at *; omega))
  (k_with "getMethod ref" => (k_here; k_dflt (refine' accK_method ?k1 ?k2 ?k3 ?k4 ?k5 ?k6 ?k7 ?k8 ?k9 ?_; (case k1 => k_asm); (case k2 => k_asm); (case k3 => k_asm); (case k4 => k_extra "own:mem"); (case k5 => k_extra "own:mem"); (case k6 => k_is); (case k7 => k_is); (case k8 => first | exact .inl rfl | exact .inr rfl); (case k9 => decide); k_whole)))
  (k_with "call builtin:sorted" => (k_here; (with_reducible show wpAny _ _ (call (Value.builtin _) [Value.ref _]) _ _ _); k_dflt (refine' sorted_pc ?k1 ?k2 ?k3 ?k4 ?k5 ?k6 ?_; (case k1 => k_asm); (case k2 => k_asm); (case k3 => k_extra "own:mem"); (case k5 => k_asm); (case k4 => k_extra "own:sub"); (case k6 => k_extra "own:len"); k_whole); intro qD qV qK qC h' qA qP qS F' N' qne; (try dsimp only); (try k_sweep)))
  (k_with "own:eq" => first | with_reducible assumption | rfl)
  trivial
theorem slice_st {l : List Nat} {i : Int} (h0 : 0 ≤ i) (h1 : i ≤ (l.length : Int)) : Txt.slice (stOf l) (some i) none = stOf (l.drop i.toNat) := by
  have hs : (stOf l).length = l.length := stOf_size l
  rw [slice_from_eq (b := (l.length : Int)) h0 (by rw [hs]; exact h1) (by rw [hs])]
  unfold stOf
  rw [List.take_of_length_le (by simp; omega)]
set_option maxHeartbeats 4000000 in
theorem segB2 {w : World} {p : Program} {loose : List Str} {mean : ExcName → Option Value} {mg mb : Str → Option Value} {A₀ : Around} {h₀ : Heap} {L a : Addr} {ccd : Value} {m : Str → Option Value} {s : Shared} {Q : Flow → Shared → Prop} {q : Addr} {ws : List Value} {ns : List Int} {c : Nat} {z : Int} {tm tz : Tok} {lz : List Nat} {psL psS : Array Value}
    (B : Below A₀ h₀ [] h₀) (F : Fr h₀ L s.heap m) (X : (KW w.params).In h₀) (N : News h₀ L s.heap [(q, W.listOf ws.toArray c), (112, tabObj psL), (119, tabObj psS)]) (T : Top p loose mean mg mb h₀) (G : AllBare s.gens)
    (hfL : Found posL psL) (hfS : Found posS psS) (hI : IntsAre ws ns) (hn0 : 0 < ns.length) (hn6 : ns.length ≤ 6) (hz0 : 0 ≤ z) (hz1 : z < 65536) (hzc : ∀ c ∈ lst z 3, 0 < c ∧ c < BL)
    (hm1 : m (Str.ofString "numbers") = some (.ref q)) (hm2 : m (Str.ofString "mode") = some (.int z tm)) (hm3 : m (Str.ofString "two") = some (.str (stOf lz) tz))
    (ret : ∀ m' s' rest row d l vs ks us js n cl, Fr h₀ L s'.heap m' → News h₀ L s'.heap ((row, accObj d vs.toArray n) :: rest) → Rest rest row d 0 → Are rest vs ks → Good ks js → ks.length ≤ 6 → (q, W.listOf ws.toArray c) ∈ rest → (l, W.listOf us.toArray cl) ∈ rest → Are rest us js → (∃ ps, (119, tabObj ps) ∈ rest ∧ Found posS ps) →
      m' (Str.ofString "row") = some (.ref row) → m' (Str.ofString "numbers") = some (.ref q) → m' (Str.ofString "two") = some (.str (stOf lz) tz) → m' (Str.ofString "kept") = some (.ref l) → AllBare s'.gens → s'.os = s.os → Q .next s') :
    wpAny (model PG w) (ktrTop 302 7 (some []) lawRecP.1.name lawRecP.1.scope L a ccd [] []) (execs partC (envX lawRecP.1.name lawRecP.1.scope L a ccd [])) Q (fun _ _ => False) s := by
  have hlz : (lst z 3).length = 10 := rfl
  unfold partC lawBody lawRecP
  dsimp only [List.drop, List.take]
  replace F := at3 F hm1 hm2 hm3
  have hk0 : 0 ≤ (ns.getD 0 0).fmod 4 ∧ (ns.getD 0 0).fmod 4 < 4 := by
    rw [Int.fmod_eq_emod_of_nonneg _ (by decide)]; exact ⟨Int.emod_nonneg _ (by decide), Int.emod_lt_of_pos _ (by decide)⟩
  have hll : ((lst z 3).drop (4 + (ns.getD 0 0).fmod 4).toNat).length = 10 - (4 + (ns.getD 0 0).fmod 4).toNat := by rw [List.length_drop, hlz]
  k_extra "own:steps"
  refine' Assign_piece (l := (lst z 3).drop (4 + (ns.getD 0 0).fmod 4).toNat) (by k_asm) (by k_asm) rfl (by omega) ?hle ?it ?st ?rt rfl ?c2 ?c3 ?c4 ?c5 ?c6 ?c7 ?c8 ?c9 ?cb
  case hle => exact fun c hc => (hzc c (List.mem_of_mem_drop hc)).2
  case c2 => with_unfolding_all rfl
  case c3 => with_unfolding_all rfl
  case c4 => decide
  case c5 => rfl
  case c6 => decide
  case c7 => rfl
  case c8 => rfl
  case c9 => rfl
  case cb => exact fun _ => rfl
  case it =>
    intro Q' hQ'
    k_extra "own:steps"
    refine filemode_call B F X N T rfl (by ktr_room) (by ktr_units) hz0 hz1 ?_
    intro t' s' F' N' g' o'
    rw [signs_eq z hz0 hz1]
    k_extra "own:steps"
    rename Fr h₀ L _ _ => F₃
    rename News h₀ L _ _ => N₃
    show Q' (.str (Txt.slice (stOf (lst z 3)) (some (4 + (ns.getD 0 0).fmod 4)) none) _) _
    rw [slice_st (by omega) (by omega)]
    exact hQ' _ _ F₃ N₃ g' o'
  case st =>
    intro s₁ c u C oC m₂ h tk news' Q' E' hc hC hm F' N' hCm hq
    k_extra "own:steps"
    have hcz := hzc c (List.mem_of_mem_drop hc)
    exact piece_callF B F' X N' T rfl (by ktr_room) (by ktr_units) hcz.1 hcz.2 hq
  case rt =>
    intro D tl ys s₂ hA ht F₂ N₂ ne₂ g₂ o₂
    clear F N
    have hlk := hA.length
    rw [List.length_map, hll] at hlk
    have hpos0 : ∀ y ∈ ((lst z 3).drop (4 + (ns.getD 0 0).fmod 4).toNat).map pieceOf, 0 < y := fun y hy => by
      obtain ⟨c, hc, rfl⟩ := List.mem_map.mp hy
      exact pieceOf_pos (hzc c (List.mem_of_mem_drop hc)).1
    generalize ((lst z 3).drop (4 + (ns.getD 0 0).fmod 4).toNat).map pieceOf = ks at hA hpos0
    change Fr h₀ L _ _ at F₂
    change News h₀ L _ _ at N₂
    have G₂ : AllBare s₂.gens := by rw [g₂]; exact G
    have O₂ : s₂.os = s.os := o₂
    have hkl : ks.length = ys.length := hA.length.symm
    clear hll g₂ o₂
    k_extra "own:steps"
    rename Fr h₀ L _ _ => F₃
    rename News h₀ L _ _ => N₃
    refine filled_call B F₃ X N₃ T rfl (by ktr_room) (by ktr_units) (.head _) (hA.pairs.mono fun _ h => .tail _ (List.mem_append_left _ h)) (by omega) ?_
    intro row d ws' n' hs ta tb nd tl2 s₄ N₄ F₄ P₄ e1 e2 g₄ o₄
    obtain ⟨R1, N₅, hsub, Rr, A1⟩ : ∃ R1, News h₀ L s₄.heap ((row, accObj d ws'.toArray n') :: R1) ∧ (∀ p ∈ (D, W.listOf ys.toArray ys.length) :: (tl ++ [(q, W.listOf ws.toArray c), (112, tabObj psL), (119, tabObj psS)]), p ∈ R1) ∧ Rest R1 row d 0 ∧ Are R1 ws' ks := by
      refine ⟨_, N₄, fun p hp => .tail _ (List.mem_append_right _ hp), ⟨?_, ⟨_, _, _, _, .head _⟩, ⟨psL, .tail _ (List.mem_append_right _ (.tail _ (List.mem_append_right _ (.tail _ (.head _))))), hfL⟩, by omega, by omega⟩, ?_⟩
      · intro p hp
        rcases List.mem_cons.mp hp with rfl | hp
        · exact ne_acc N₄ (.head _) (.tail _ (.head _)) (T := "dict") rfl
        · exact e1 p hp
      · exact Are.mono (fun _ h => .tail _ (List.mem_append_left _ h)) (Pairs.are hA.le P₄)
    have A2 : Are R1 ys ks := hA.mono fun p h => hsub p (.tail _ (List.mem_append_left _ h))
    have hD := hsub _ (.head _)
    have hq1 := hsub _ (.tail _ (List.mem_append_right _ (.head _)))
    have h119 := hsub _ (.tail _ (List.mem_append_right _ (.tail _ (.tail _ (.head _)))))
    clear N₄ e1 e2 P₄ F₃ N₃ hsub hA ht ne₂
    have G₄ : AllBare s₄.gens := by rw [g₄]; exact G₂
    have O₄ : s₄.os = s.os := o₄.trans O₂
    k_extra "own:steps"
    rename Fr h₀ L _ _ => F₅
    rename News h₀ L _ _ => N₆
    refine heapify_ok B F₅ X N₆ T rfl (by ktr_room) (by ktr_units) G₄ Rr A1 hpos0 (by omega) ?_
    intro vs5 s5 A5 F₇ N₇ G₇ o7
    have O₇ := o7.trans O₄
    have hph := hfy_perm (ks.length / 2) ks (by omega)
    have hpl := hph.length_eq
    clear F₅ N₆
    k_extra "own:steps"
    rename Fr h₀ L _ _ => F₈
    rename News h₀ L _ _ => N₈
    have hG' : Good (hfy (ks.length / 2) ks) qK := ⟨fun y hy => hpos0 y (hph.mem_iff.mp hy), qP.trans hph.symm, qS, hfy_heap ks⟩
    have Rc : Rest ((qD, W.listOf qV.toArray qC) :: R1) row d 0 := Rr.cons (Ne.symm (qne _ (.head _)))
    have A6 : Are ((qD, W.listOf qV.toArray qC) :: R1) vs5 (hfy (ks.length / 2) ks) := A5.mono fun _ h => .tail _ h
    have A7 : Are ((qD, W.listOf qV.toArray qC) :: R1) qV qK := qA.mono fun _ h => .tail _ h
    refine holds_call B F₈ X (newsOf N₈ swap2) T rfl (by ktr_room) (by ktr_units) G₇ Rc A6 hG'.pos (by omega) (.head _) A7 hG'.perm hG'.sorted hG'.heap (.tail _ h119) hfS ?_
    intro s6 F₉ N₉ G₈ o8
    have O₈ := o8.trans O₇
    clear F₈ N₈
    k_extra "own:steps"
    exact ret _ _ _ row d qD _ _ _ _ _ _ (by k_asm) N₉ Rc A6 hG' (by omega) (.tail _ hq1) (.head _) A7 ⟨psS, .tail _ h119, hfS⟩ rfl rfl rfl rfl G₈ O₈
end Mine
end
section
open PySem PySem.W PyProof.Rows PySem.Spec PySem.Calls
set_option maxRecDepth 100000
namespace Mine
theorem start_LG : True := by
  w_top off
  k_with_none
  (k_with "own:omega" => (first | with_reducible assumption | (refine' Mine.room2 ?h ?e; (case h => with_reducible assumption); (case e => decide)) | (refine' Mine.room1 ?h ?e; (case h => with_reducible assumption); (case e => decide)) | (refine' Mine.le_up ?h ?e; (case h => with_reducible assumption); (case e => decide)) | (refine' Mine.room0 ?h; (case h => with_reducible assumption)) | ((fail_if_success (fail_if_success omega (config := {}))); lia)))
  trivial
theorem lines_LG_0 : True := by
  (k_with "own:k_mem" => with_reducible_and_instances assumption)
  (k_with "own:steps" => repeat' (first | (k_unfold; (try dsimp only)) | ((fail_if_success (with_reducible show wpAny _ _ (exec (Stmt.For _ _ _ _ _) _) _ _ _)); (fail_if_success (with_reducible show wpAny _ _ (call (Value.ref _) _) _ _ _)); (fail_if_success (with_reducible show wpAny _ _ (eval (Expr.ListComp _ _ _ _) _) _ _ _)); (first | walk1 | (dsimp only; walk1) | fail "no step"))))
  (k_with "own:mem" => first | with_reducible assumption | exact List.mem_cons_self | (refine List.mem_cons_of_mem _ ?_; k_extra "own:mem"))
  (k_with "own:sub" => first | exact fun _ h => h | exact fun _ h => .tail _ h | exact fun _ h => .tail _ (.tail _ h) | exact fun _ h => .tail _ (.tail _ (.tail _ h)) | exact fun _ h => .tail _ (.tail _ (.tail _ (.tail _ h))) | exact fun _ h => .tail _ (.tail _ (.tail _ (.tail _ (.tail _ h)))) | exact fun _ h => .tail _ (.tail _ (.tail _ (.tail _ (.tail _ (.tail _ h))))))
  (k_with "own:idx" => first | omega | (rw [Int.fdiv_eq_ediv_of_nonneg _ (by decide)]; omega))
  (k_with "own:len" => first | omega | (simp only [List.length_append, List.length_cons, List.length_nil] at *; omega))
  (k_with "own:len" => first | omega | (simp only [List.length_append, List.length_cons, List.length_nil, cut_len1] at *; omega))
  trivial
theorem sg16 : ∀ i, i < 16 → 0 < (Str.ofString "?pc?d?b?-?l?s???").cps.getD i 0 ∧ (Str.ofString "?pc?d?b?-?l?s???").cps.getD i 0 < BL := by decide +kernel
theorem sg4s : ∀ i, i < 4 → 0 < (Str.ofString "-xSs").cps.getD i 0 ∧ (Str.ofString "-xSs").cps.getD i 0 < BL := by decide +kernel
theorem sg4t : ∀ i, i < 4 → 0 < (Str.ofString "-xTt").cps.getD i 0 ∧ (Str.ofString "-xTt").cps.getD i 0 < BL := by decide +kernel
theorem lsign_ok (z p q : Int) (S : Str) (h : ∀ i, i < 4 → 0 < S.cps.getD i 0 ∧ S.cps.getD i 0 < BL) : ∀ c ∈ lsign z p q S, 0 < c ∧ c < BL := by
  have h2 : ∀ x : Int, 0 ≤ x.fmod 2 ∧ x.fmod 2 < 2 := fun x => by
    rw [Int.fmod_eq_emod_of_nonneg _ (by decide)]; exact ⟨Int.emod_nonneg _ (by decide), Int.emod_lt_of_pos _ (by decide)⟩
  intro c hc
  unfold lsign at hc
  rcases List.mem_cons.mp hc with rfl | hc
  · split <;> decide
  rcases List.mem_cons.mp hc with rfl | hc
  · split <;> decide
  rw [List.mem_singleton.mp hc]
  have a := h2 ((z.fdiv p).fmod 8)
  have b := h2 (z.fdiv q)
  exact h _ (by omega)
theorem lst_ok {z : Int} (h0 : 0 ≤ z) (h1 : z < 65536) : ∀ c ∈ lst z 3, 0 < c ∧ c < BL := by
  rw [lst3, lst2, lst1]
  intro c hc
  rcases List.mem_append.mp hc with hc | hc
  · rcases List.mem_append.mp hc with hc | hc
    · rcases List.mem_append.mp hc with hc | hc
      · have e : lst z 0 = [(Str.ofString "?pc?d?b?-?l?s???").cps.getD (z.fdiv 4096).toNat 0] := by simp [lst]
        rw [e] at hc
        rw [List.mem_singleton.mp hc]
        exact sg16 _ (by rw [Int.fdiv_eq_ediv_of_nonneg _ (by decide)]; omega)
      · exact lsign_ok _ _ _ _ sg4s c hc
    · exact lsign_ok _ _ _ _ sg4s c hc
  · exact lsign_ok _ _ _ _ sg4t c hc
theorem mod_in (z : Int) : 0 ≤ z.fmod 65536 ∧ z.fmod 65536 < 65536 := by
  rw [Int.fmod_eq_emod_of_nonneg _ (by decide)]
  exact ⟨Int.emod_nonneg _ (by decide), Int.emod_lt_of_pos _ (by decide)⟩
theorem drop13 {x y z : Addr × Obj} {R : List (Addr × Obj)} : ∀ p ∈ y :: R, p ∈ x :: y :: z :: R := fun p hp => by
  rcases List.mem_cons.mp hp with rfl | hp
  · exact .tail _ (.head _)
  · exact .tail _ (.tail _ (.tail _ hp))
noncomputable def partA1 : List Stmt := lawBody.take 2
noncomputable def partA2 : List Stmt := (lawBody.drop 2).take 2
set_option maxHeartbeats 4000000 in
theorem segA1 {w : World} {p : Program} {loose : List Str} {mean : ExcName → Option Value} {mg mb : Str → Option Value} {A₀ : Around} {h₀ : Heap} {L a : Addr} {ccd : Value} {s : Shared} {Q : Flow → Shared → Prop} {ns : List Int} {vs : List Value} {la : Addr}
    (B : Below A₀ h₀ [] h₀) (F : Fr h₀ L s.heap (fun x => List.lookup x [(Str.ofString "script", .ref la)])) (X : (KW w.params).In h₀) (N : News h₀ L s.heap [(112, tabObj #[]), (119, tabObj #[])]) (T : Top p loose mean mg mb h₀) (G : AllBare s.gens)
    (hL : h₀.IsList la vs.toArray) (hI : IntsAre vs ns) (hlen : ns.length ≤ 63)
    (ret : ∀ m' s' q ws c ns' z1 t1 z2 t2, IntsAre ws ns' → 0 < ns'.length → ns'.length ≤ 6 → 0 ≤ z1 → z1 < 65536 → 0 ≤ z2 → z2 < 65536 → m' (Str.ofString "numbers") = some (.ref q) → m' (Str.ofString "mode") = some (.int z1 t1) → m' (Str.ofString "other") = some (.int z2 t2) →
      Fr h₀ L s'.heap m' → News h₀ L s'.heap [(q, W.listOf ws.toArray c), (112, tabObj #[]), (119, tabObj #[])] → AllBare s'.gens → s'.os = s.os → Q .next s') :
    wpAny (model PG w) (ktrTop 302 7 (some []) lawRecP.1.name lawRecP.1.scope L a ccd [] []) (execs partA1 (envX lawRecP.1.name lawRecP.1.scope L a ccd [])) Q (fun _ _ => False) s := by
  unfold partA1 lawBody lawRecP
  dsimp only [List.take]
  k_extra "own:steps"
  · rename Fr h₀ L _ _ => F₂
    rename News h₀ L _ _ => N₂
    rename 0 < ns.length => h0
    rename IntsAre _ (List.take 6 ns) => hI6
    exact ret _ _ _ _ _ (List.take 6 ns) _ _ _ _ hI6 (by rw [List.length_take]; omega) (by rw [List.length_take]; omega) (mod_in _).1 (mod_in _).2 (mod_in _).1 (mod_in _).2 rfl rfl rfl F₂ (newsOf N₂ fun p hp => .tail _ hp) G rfl
  · rename Fr h₀ L _ _ => F₂
    rename News h₀ L _ _ => N₂
    refine' ret _ _ _ _ _ [-80, 10, 1, 47, 9, 13] _ _ _ _ ?hi (by decide) (by decide) (mod_in _).1 (mod_in _).2 (mod_in _).1 (mod_in _).2 rfl rfl rfl F₂ (newsOf N₂ drop13) G rfl
    case hi => exact .cons _ _ (.cons _ _ (.cons _ _ (.cons _ _ (.cons _ _ (.cons _ _ .nil)))))
set_option maxHeartbeats 4000000 in
theorem segA2 {w : World} {p : Program} {loose : List Str} {mean : ExcName → Option Value} {mg mb : Str → Option Value} {A₀ : Around} {h₀ : Heap} {L a : Addr} {ccd : Value} {m : Str → Option Value} {s : Shared} {Q : Flow → Shared → Prop} {q : Addr} {news : List (Addr × Obj)} {z1 z2 : Int} {t1 t2 : Tok}
    (B : Below A₀ h₀ [] h₀) (F : Fr h₀ L s.heap m) (X : (KW w.params).In h₀) (N : News h₀ L s.heap news) (T : Top p loose mean mg mb h₀) (G : AllBare s.gens)
    (h1 : 0 ≤ z1) (h2 : z1 < 65536) (h3 : 0 ≤ z2) (h4 : z2 < 65536) (hm1 : m (Str.ofString "numbers") = some (.ref q)) (hm2 : m (Str.ofString "mode") = some (.int z1 t1)) (hm3 : m (Str.ofString "other") = some (.int z2 t2))
    (ret : ∀ m' s' tz, m' (Str.ofString "numbers") = some (.ref q) → m' (Str.ofString "mode") = some (.int z1 t1) → m' (Str.ofString "two") = some (.str (stOf (lst z2 3)) tz) → Fr h₀ L s'.heap m' → News h₀ L s'.heap news → AllBare s'.gens → s'.os = s.os → Q .next s') :
    wpAny (model PG w) (ktrTop 302 7 (some []) lawRecP.1.name lawRecP.1.scope L a ccd [] []) (execs partA2 (envX lawRecP.1.name lawRecP.1.scope L a ccd [])) Q (fun _ _ => False) s := by
  unfold partA2 lawBody lawRecP
  dsimp only [List.drop, List.take]
  replace F := at3 F hm1 hm2 hm3
  k_extra "own:steps"
  refine listing_call B F X N T rfl (by ktr_room) (by ktr_units) h3 h4 ?_
  intro t3 s₃ F₃ N₃ g₃ o₃
  have G₃ : AllBare s₃.gens := by rw [g₃]; exact G
  clear F N
  k_extra "own:steps"
  rename Fr h₀ L _ _ => F₄
  rename News h₀ L _ _ => N₄
  refine filemode_call B F₄ X N₄ T rfl (by ktr_room) (by ktr_units) h1 h2 ?_
  intro t5 s₅ F₅ N₅ g₅ o₅
  have G₅ : AllBare s₅.gens := by rw [g₅]; exact G₃
  have O₅ : s₅.os = s.os := o₅.trans o₃
  rw [signs_eq z1 h1 h2]
  clear F₄ N₄
  k_extra "own:steps"
  refine listing_call B F₅ X N₅ T rfl (by ktr_room) (by ktr_units) h1 h2 ?_
  intro t6 s₆ F₆ N₆ g₆ o₆
  have G₆ : AllBare s₆.gens := by rw [g₆]; exact G₅
  have O₆ : s₆.os = s.os := o₆.trans O₅
  clear F₅ N₅
  k_extra "own:steps"
  · rename ((_ != _) = true) => hb
    exact absurd rfl (bne_iff_ne.mp hb)
  rename Fr h₀ L _ _ => F₇
  rename News h₀ L _ _ => N₇
  refine filemode_call B F₇ X N₇ T rfl (by ktr_room) (by ktr_units) h3 h4 ?_
  intro t8 s₈ F₈ N₈ g₈ o₈
  have G₈ : AllBare s₈.gens := by rw [g₈]; exact G₆
  have O₈ : s₈.os = s.os := o₈.trans O₆
  rw [signs_eq z2 h3 h4]
  clear F₇ N₇
  k_extra "own:steps"
  · rename ((_ != _) = true) => hb
    exact absurd rfl (bne_iff_ne.mp hb)
  exact ret _ _ _ rfl rfl rfl (by k_asm) (by k_asm) G₈ O₈
end Mine
end
section
open PySem PySem.W PyProof.Rows PySem.Spec PySem.Calls
set_option maxRecDepth 100000
namespace Mine
theorem start_LH : True := by
  w_top off
  k_with_none
  (k_with "own:omega" => (first | with_reducible assumption | (refine' Mine.room2 ?h ?e; (case h => with_reducible assumption); (case e => decide)) | (refine' Mine.room1 ?h ?e; (case h => with_reducible assumption); (case e => decide)) | (refine' Mine.le_up ?h ?e; (case h => with_reducible assumption); (case e => decide)) | (refine' Mine.room0 ?h; (case h => with_reducible assumption)) | ((fail_if_success (fail_if_success omega (config := {}))); lia)))
  trivial
theorem part_split (l : List Stmt) (i k : Nat) : (l.drop i).take k ++ l.drop (i + k) = l.drop i := by
  rw [← List.drop_drop, List.take_append_drop]
theorem law_parts : lawBody = partA1 ++ (partA2 ++ (partB ++ (partC ++ lawBody.drop 11))) := by
  have h1 := part_split lawBody 2 2
  have h2 := part_split lawBody 4 2
  have h3 := part_split lawBody 6 5
  unfold partA1 partA2 partB partC
  rw [h3, h2, h1, List.take_append_drop]
theorem law_walk : LawGoal := by
  intro w p loose mean mg mb A₀ h₀ L a ccd ns vs la s Q E B F X N T G hL hI hlen ret
  refine wpAny_mono (E := fun _ _ => False) (Q := Q) ?_ (fun _ _ h => h) fun _ _ h => h.elim
  rw [law_parts]
  refine execs_two (segA1 B F X N T G hL hI hlen ?_)
  intro m₁ s₁ q ws c ns' z1 t1 z2 t2 hI' hn0 hn6 hz0 hz1 hz2 hz3 a1 a2 a3 F₁ N₁ G₁ O₁
  show wpAny _ _ (execs _ _) _ _ _
  refine execs_two (segA2 B F₁ X N₁ T G₁ hz0 hz1 hz2 hz3 a1 a2 a3 ?_)
  intro m₂ s₂ tz b1 b2 b3 F₂ N₂ G₂ O₂
  show wpAny _ _ (execs _ _) _ _ _
  refine execs_two (segB B F₂ X N₂ T G₂ hz0 hz1 b1 b2 b3 ?_)
  intro m₃ s₃ ps ps' c1 c2 c3 F₃ N₃ fL fS G₃ O₃
  show wpAny _ _ (execs _ _) _ _ _
  refine execs_two (segB2 B F₃ X N₃ T G₃ fL fS hI' hn0 hn6 hz0 hz1 (lst_ok hz0 hz1) c1 c2 c3 ?_)
  intro m₄ s₄ rest row d l vs' ks us js n cl F₄ N₄ R A Gd hl hq hk K tab d1 d2 d3 d4 G₄ O₄
  show wpAny _ _ (execs _ _) _ _ _
  exact segC B F₄ X N₄ T G₄ R A Gd hl hq hI' hn0 hn6 hk K tab rfl (lst_ok hz2 hz3) d1 d2 d3 d4 fun m' s' ps ps' F' N' G' O' => ret m' s' ps ps' F' N' G' (O'.trans (O₄.trans (O₃.trans (O₂.trans O₁))))
theorem law_holds : PySem.Challenge.rw_oc0130_01.Holds := law_enter law_walk
end Mine
end
open PySem PySem.W PyProof.Rows
theorem PySem.Challenge.cw_oc0130_01_holds : PySem.Challenge.rw_oc0130_01.Holds :=
  Mine.law_holds
