import PyProof.Rows.All
import Wide.All
import OpenK.AllK
import Wide.FinOn
import PySem.Challenge.RW_nb0042_01
set_option Elab.async false
namespace Mine
noncomputable section
def num (b : Nat) (ds : List Nat) : Nat := ds.foldl (fun a d => a * b + d) 0
noncomputable def dig (b : Nat) : Nat → Nat → List Nat
  | 0, _ => []
  | n + 1, N => dig b n (N / b) ++ [N % b]

theorem num_snoc (b : Nat) (ds : List Nat) (d : Nat) : num b (ds ++ [d]) = num b ds * b + d := by
  simp [num, List.foldl_append]
theorem num_nil (b : Nat) : num b [] = 0 := rfl
theorem dig_length (b n N : Nat) : (dig b n N).length = n := by
  induction n generalizing N with
  | zero => rfl
  | succ n ih => simp [dig, ih]
theorem dig_lt {b : Nat} (hb : 0 < b) (n N : Nat) : ∀ d ∈ dig b n N, d < b := by
  induction n generalizing N with
  | zero => intro d h; cases h
  | succ n ih =>
    intro d h
    rcases List.mem_append.mp h with h | h
    · exact ih _ d h
    · rw [List.mem_singleton.mp h]; exact Nat.mod_lt _ hb
theorem num_dig {b : Nat} (hb : 0 < b) (n N : Nat) (h : N < b ^ n) : num b (dig b n N) = N := by
  induction n generalizing N with
  | zero => simp at h; simp [dig, num, h]
  | succ n ih =>
    rw [dig, num_snoc, ih]
    · rw [Nat.mul_comm]; exact Nat.div_add_mod N b
    · rw [Nat.div_lt_iff_lt_mul hb]; rwa [Nat.pow_succ] at h
theorem snoc_ind {α : Type} {P : List α → Prop} (h0 : P []) (h1 : ∀ l a, P l → P (l ++ [a])) : ∀ l, P l := by
  have : ∀ n (l : List α), l.length = n → P l := by
    intro n
    induction n with
    | zero => intro l h; rw [List.length_eq_zero_iff.mp h]; exact h0
    | succ n ih =>
      intro l h
      have hne : l ≠ [] := by intro e; subst e; simp at h
      rw [← List.dropLast_concat_getLast hne]
      exact h1 _ _ (ih _ (by rw [List.length_dropLast, h]; rfl))
  exact fun l => this _ l rfl
theorem dig_num {b : Nat} (ds : List Nat) (h : ∀ d ∈ ds, d < b) : dig b ds.length (num b ds) = ds := by
  induction ds using snoc_ind with
  | h0 => rfl
  | h1 l a ih =>
    have ha : a < b := h a (by simp)
    have hl : ∀ d ∈ l, d < b := fun d hd => h d (by simp [hd])
    rw [List.length_append, List.length_singleton, dig, num_snoc]
    have e1 : (num b l * b + a) / b = num b l := by
      rw [Nat.mul_comm, Nat.mul_add_div (by omega), Nat.div_eq_of_lt ha, Nat.add_zero]
    have e2 : (num b l * b + a) % b = a := by
      rw [Nat.mul_comm, Nat.mul_add_mod, Nat.mod_eq_of_lt ha]
    rw [e1, e2, ih hl]
theorem num_lt {b : Nat} (ds : List Nat) (h : ∀ d ∈ ds, d < b) : num b ds < b ^ ds.length := by
  induction ds using snoc_ind with
  | h0 => simp [num]
  | h1 l a ih =>
    have ha : a < b := h a (by simp)
    have hl : ∀ d ∈ l, d < b := fun d hd => h d (by simp [hd])
    have := ih hl
    rw [num_snoc, List.length_append, List.length_singleton, Nat.pow_succ]
    calc num b l * b + a < num b l * b + b := by omega
      _ = (num b l + 1) * b := by rw [Nat.add_mul, Nat.one_mul]
      _ ≤ b ^ l.length * b := Nat.mul_le_mul_right _ this

/-- sixes of bits begun by n octets -/
def sixes (n : Nat) : Nat := (8 * n + 5) / 6
/-- the figures to base 64, nought bits behind -/
noncomputable def core (os : List Nat) : List Nat := dig 64 (sixes os.length) (num 256 os * 2 ^ (6 * sixes os.length - 8 * os.length))
/-- those whose six bits are all there -/
noncomputable def full (os : List Nat) : List Nat := dig 64 (8 * os.length / 6) (num 256 os / 2 ^ (8 * os.length % 6))
def rest (os : List Nat) : Nat := num 256 os % 2 ^ (8 * os.length % 6)

theorem core_length (os : List Nat) : (core os).length = sixes os.length := dig_length _ _ _
theorem core_lt (os : List Nat) : ∀ d ∈ core os, d < 64 := dig_lt (by decide) _ _

theorem core_num (os : List Nat) (h : ∀ o ∈ os, o < 256) : num 64 (core os) = num 256 os * 2 ^ (6 * sixes os.length - 8 * os.length) := by
  refine num_dig (by decide) _ _ ?_
  have h1 := num_lt os h
  have e : 6 * sixes os.length = 8 * os.length + (6 * sixes os.length - 8 * os.length) := by unfold sixes; omega
  have e64 : (64 : Nat) ^ sixes os.length = 2 ^ (8 * os.length) * 2 ^ (6 * sixes os.length - 8 * os.length) := by
    rw [← Nat.pow_add, ← e, Nat.pow_mul]
  have e256 : (256 : Nat) ^ os.length = 2 ^ (8 * os.length) := by rw [Nat.pow_mul]
  rw [e64]
  rw [e256] at h1
  exact Nat.mul_lt_mul_of_pos_right h1 (Nat.two_pow_pos _)

/-- the octets that the figures' bits make -/
noncomputable def octs (ds : List Nat) : List Nat := dig 256 (6 * ds.length / 8) (num 64 ds / 2 ^ (6 * ds.length % 8))
theorem octs_core (os : List Nat) (h : ∀ o ∈ os, o < 256) : octs (core os) = os := by
  unfold octs
  rw [core_length, core_num os h]
  have e1 : 6 * sixes os.length / 8 = os.length := by unfold sixes; omega
  have e2 : 6 * sixes os.length % 8 = 6 * sixes os.length - 8 * os.length := by unfold sixes; omega
  rw [e1, e2, Nat.mul_div_cancel _ (Nat.two_pow_pos _)]
  exact dig_num os h

theorem core_full (os : List Nat) : core os = full os ++ (if 8 * os.length % 6 = 0 then [] else [rest os * 2 ^ (6 - 8 * os.length % 6)]) := by
  unfold core full rest sixes
  rcases (show os.length % 3 = 0 ∨ os.length % 3 = 1 ∨ os.length % 3 = 2 by omega) with h | h | h
  · have a : 8 * os.length % 6 = 0 := by omega
    have b : (8 * os.length + 5) / 6 = 8 * os.length / 6 := by omega
    have c : 6 * (8 * os.length / 6) - 8 * os.length = 0 := by omega
    rw [a, b, c]; simp
  · have a : 8 * os.length % 6 = 2 := by omega
    have b : (8 * os.length + 5) / 6 = 8 * os.length / 6 + 1 := by omega
    have c : 6 * (8 * os.length / 6 + 1) - 8 * os.length = 4 := by omega
    rw [a, b, c, dig]
    have d : num 256 os * 2 ^ 4 / 64 = num 256 os / 2 ^ 2 := by omega
    have e : num 256 os * 2 ^ 4 % 64 = num 256 os % 2 ^ 2 * 2 ^ (6 - 2) := by omega
    rw [d, e]; simp
  · have a : 8 * os.length % 6 = 4 := by omega
    have b : (8 * os.length + 5) / 6 = 8 * os.length / 6 + 1 := by omega
    have c : 6 * (8 * os.length / 6 + 1) - 8 * os.length = 2 := by omega
    rw [a, b, c, dig]
    have d : num 256 os * 2 ^ 2 / 64 = num 256 os / 2 ^ 4 := by omega
    have e : num 256 os * 2 ^ 2 % 64 = num 256 os % 2 ^ 4 * 2 ^ (6 - 4) := by omega
    rw [d, e]; simp

/-- one octet more -/
theorem full_snoc (os : List Nat) (o : Nat) (h : o < 256) :
    full (os ++ [o]) = full os ++ (if 8 * os.length % 6 = 4 then [(rest os * 256 + o) / 2 ^ 6, (rest os * 256 + o) % 2 ^ 6] else [(rest os * 256 + o) / 2 ^ (8 * os.length % 6 + 2)]) := by
  unfold full rest
  rw [List.length_append, List.length_singleton, num_snoc]
  rcases (show os.length % 3 = 0 ∨ os.length % 3 = 1 ∨ os.length % 3 = 2 by omega) with k | k | k
  · have a : 8 * os.length % 6 = 0 := by omega
    have b : 8 * (os.length + 1) / 6 = 8 * os.length / 6 + 1 := by omega
    have c : 8 * (os.length + 1) % 6 = 2 := by omega
    rw [a, b, c, dig]
    have d : (num 256 os * 256 + o) / 2 ^ 2 / 64 = num 256 os / 2 ^ 0 := by omega
    have e : (num 256 os * 256 + o) / 2 ^ 2 % 64 = (num 256 os % 2 ^ 0 * 256 + o) / 2 ^ (0 + 2) := by omega
    rw [d, e]; simp
  · have a : 8 * os.length % 6 = 2 := by omega
    have b : 8 * (os.length + 1) / 6 = 8 * os.length / 6 + 1 := by omega
    have c : 8 * (os.length + 1) % 6 = 4 := by omega
    rw [a, b, c, dig]
    have d : (num 256 os * 256 + o) / 2 ^ 4 / 64 = num 256 os / 2 ^ 2 := by omega
    have e : (num 256 os * 256 + o) / 2 ^ 4 % 64 = (num 256 os % 2 ^ 2 * 256 + o) / 2 ^ (2 + 2) := by omega
    rw [d, e]; simp
  · have a : 8 * os.length % 6 = 4 := by omega
    have b : 8 * (os.length + 1) / 6 = 8 * os.length / 6 + 2 := by omega
    have c : 8 * (os.length + 1) % 6 = 0 := by omega
    rw [a, b, c, dig, dig]
    have d : (num 256 os * 256 + o) / 2 ^ 0 / 64 / 64 = num 256 os / 2 ^ 4 := by omega
    have e : (num 256 os * 256 + o) / 2 ^ 0 / 64 % 64 = (num 256 os % 2 ^ 4 * 256 + o) / 2 ^ 6 := by omega
    have f : (num 256 os * 256 + o) / 2 ^ 0 % 64 = (num 256 os % 2 ^ 4 * 256 + o) % 2 ^ 6 := by omega
    rw [d, e, f]; simp
theorem rest_snoc (os : List Nat) (o : Nat) (h : o < 256) :
    rest (os ++ [o]) = (rest os * 256 + o) % 2 ^ (8 * (os.length + 1) % 6) := by
  unfold rest
  rw [List.length_append, List.length_singleton, num_snoc]
  rcases (show os.length % 3 = 0 ∨ os.length % 3 = 1 ∨ os.length % 3 = 2 by omega) with k | k | k
  · have a : 8 * os.length % 6 = 0 := by omega
    have c : 8 * (os.length + 1) % 6 = 2 := by omega
    rw [a, c]; omega
  · have a : 8 * os.length % 6 = 2 := by omega
    have c : 8 * (os.length + 1) % 6 = 4 := by omega
    rw [a, c]; omega
  · have a : 8 * os.length % 6 = 4 := by omega
    have c : 8 * (os.length + 1) % 6 = 0 := by omega
    rw [a, c]; omega
theorem rest_lt (os : List Nat) : rest os < 2 ^ (8 * os.length % 6) := Nat.mod_lt _ (Nat.two_pow_pos _)

def kept (ds : List Nat) : Nat := num 64 ds % 2 ^ (6 * ds.length % 8)
theorem kept_lt (ds : List Nat) : kept ds < 2 ^ (6 * ds.length % 8) := Nat.mod_lt _ (Nat.two_pow_pos _)
theorem octs_snoc (ds : List Nat) (d : Nat) (h : d < 64) :
    octs (ds ++ [d]) = octs ds ++ (if 6 * ds.length % 8 = 0 then [] else [(kept ds * 64 + d) / 2 ^ (6 * ds.length % 8 - 2)]) := by
  unfold octs kept
  rw [List.length_append, List.length_singleton, num_snoc]
  rcases (show ds.length % 4 = 0 ∨ ds.length % 4 = 1 ∨ ds.length % 4 = 2 ∨ ds.length % 4 = 3 by omega) with k | k | k | k
  · have a : 6 * ds.length % 8 = 0 := by omega
    have b : 6 * (ds.length + 1) / 8 = 6 * ds.length / 8 := by omega
    have c : 6 * (ds.length + 1) % 8 = 6 := by omega
    rw [a, b, c]
    have d : (num 64 ds * 64 + d) / 2 ^ 6 = num 64 ds / 2 ^ 0 := by omega
    rw [d]; simp
  · have a : 6 * ds.length % 8 = 6 := by omega
    have b : 6 * (ds.length + 1) / 8 = 6 * ds.length / 8 + 1 := by omega
    have c : 6 * (ds.length + 1) % 8 = 4 := by omega
    rw [a, b, c, dig]
    have e1 : (num 64 ds * 64 + d) / 2 ^ 4 / 256 = num 64 ds / 2 ^ 6 := by omega
    have e2 : (num 64 ds * 64 + d) / 2 ^ 4 % 256 = (num 64 ds % 2 ^ 6 * 64 + d) / 2 ^ (6 - 2) := by omega
    rw [e1, e2]; simp
  · have a : 6 * ds.length % 8 = 4 := by omega
    have b : 6 * (ds.length + 1) / 8 = 6 * ds.length / 8 + 1 := by omega
    have c : 6 * (ds.length + 1) % 8 = 2 := by omega
    rw [a, b, c, dig]
    have e1 : (num 64 ds * 64 + d) / 2 ^ 2 / 256 = num 64 ds / 2 ^ 4 := by omega
    have e2 : (num 64 ds * 64 + d) / 2 ^ 2 % 256 = (num 64 ds % 2 ^ 4 * 64 + d) / 2 ^ (4 - 2) := by omega
    rw [e1, e2]; simp
  · have a : 6 * ds.length % 8 = 2 := by omega
    have b : 6 * (ds.length + 1) / 8 = 6 * ds.length / 8 + 1 := by omega
    have c : 6 * (ds.length + 1) % 8 = 0 := by omega
    rw [a, b, c, dig]
    have e1 : (num 64 ds * 64 + d) / 2 ^ 0 / 256 = num 64 ds / 2 ^ 2 := by omega
    have e2 : (num 64 ds * 64 + d) / 2 ^ 0 % 256 = (num 64 ds % 2 ^ 2 * 64 + d) / 2 ^ (2 - 2) := by omega
    rw [e1, e2]; simp
theorem kept_snoc (ds : List Nat) (d : Nat) (h : d < 64) :
    kept (ds ++ [d]) = (kept ds * 64 + d) % 2 ^ (6 * (ds.length + 1) % 8) := by
  unfold kept
  rw [List.length_append, List.length_singleton, num_snoc]
  rcases (show ds.length % 4 = 0 ∨ ds.length % 4 = 1 ∨ ds.length % 4 = 2 ∨ ds.length % 4 = 3 by omega) with k | k | k | k
  · rw [show 6 * ds.length % 8 = 0 by omega, show 6 * (ds.length + 1) % 8 = 6 by omega]; omega
  · rw [show 6 * ds.length % 8 = 6 by omega, show 6 * (ds.length + 1) % 8 = 4 by omega]; omega
  · rw [show 6 * ds.length % 8 = 4 by omega, show 6 * (ds.length + 1) % 8 = 2 by omega]; omega
  · rw [show 6 * ds.length % 8 = 2 by omega, show 6 * (ds.length + 1) % 8 = 0 by omega]; omega
end
end Mine
open PySem PySem.W PyProof.Rows PySem.Calls
-- MHeadA
namespace Mine
noncomputable section
section
set_option maxRecDepth 100000
set_option maxHeartbeats 8000000
section
local macro_rules
  | `(tactic| refine $t:term) =>
    if t.raw.isOfKind ``Lean.Parser.Term.app && (t.raw[0].getId == ``PySem.W.holds_open || t.raw[0].getId == ``PySem.W.holds_openC) then
      `(tactic| ((refine ($t)) <;> exact False.elim (by assumption)))
    else Lean.Macro.throwUnsupported
theorem pre (x : False) : PySem.Challenge.rw_nb0042_01.Holds := by
  o_law
  k_head
end
end
end
end Mine
-- MHeadB0
namespace Mine
noncomputable section
section
set_option maxRecDepth 100000
set_option maxHeartbeats 8000000
theorem top_of {p : Program} {w : World} {m0 : Nat} {ann : Option Value} {env : Env} {q pos : Pos} {n1 n2 n4 N : Nat} {s0 sa s1 : Shared} {b : List Stmt} {c : Code} (hc : c = .body b env)
    (ha : topGo treeTable p w m0 ann n1 s0 (topStub p) = some (sa, ⟨denote treeTable c, c, pos, [topFrame q]⟩)) (hb : segRun treeTable p w m0 ann 1 n2 sa (blockOf b env c pos [topFrame q]) = some (.next, sa, c, pos))
    (h : topRun treeTable p w m0 ann n4 sa (restOf (b.drop 0) env c pos [topFrame q]) = some s1)
    (hN : n1 + (n2 + n4) ≤ N) : topRun treeTable p w m0 ann N s0 (topStub p) = some s1 := by
  have k2 := piece_block hb h
  rw [← hc] at k2
  have k3 := go_top ha k2
  have k4 := topRun_mono (N - (n1 + (n2 + n4))) _ _ _ _ k3
  rwa [show n1 + (n2 + n4) + (N - (n1 + (n2 + n4))) = N by omega] at k4
theorem chain {p : Program} {w : World} {m0 : Nat} {ann : Option Value} {env : Env} {q pos pm : Pos} {m N : Nat} {s sm s1 : Shared} {b : List Stmt} {c : Code} (i n j : Nat) (hj : i + n = j)
    (hs : segRun treeTable p w m0 ann 1 m s (piecesOf ((b.drop i).take n) env c pos [topFrame q]) = some (.next, sm, c, pm)) (h : topRun treeTable p w m0 ann N sm (restOf (b.drop j) env c pm [topFrame q]) = some s1) :
    topRun treeTable p w m0 ann (m + N) s (restOf (b.drop i) env c pos [topFrame q]) = some s1 := by
  subst hj
  rw [← List.drop_drop] at h
  have k1 := piece_app hs h
  rwa [List.take_append_drop] at k1
theorem left_of {p q : Program} {loose : List Str} {Xt : Shared → Bool} {α : Type} {Yf : Shared → α} {Ya : World → α} {N m0 : Nat} {ann : Option Value} (S0 : World → Shared)
    (ho : ∀ w, fencedOpening treeTable p w N = some (S0 w)) (hz : ∀ w, ((S0 w).heap.isNs mainGlobals && (S0 w).gens.size == 0, (S0 w).heap.objs.size, (S0 w).heap.nsMap mainGlobals "__annotations__") = (true, m0, ann))
    (run : ∀ w, ∃ s1, topRun treeTable p w m0 ann N (S0 w) (topStub p) = some s1 ∧ ((staticsOk (importedModules p.main.body) (S0 w).heap s1.heap && namesBound p s1.heap && gensDone s1 && laidKept (S0 w).heap s1.heap), openSeen q loose (importedModules p.main.body) Xt true s1, Yf s1) = (true, openGood q loose, Ya w)) :
    LeftO p q loose Xt Yf Ya N true := fun w => by
  obtain ⟨s1, e1, e2⟩ := run w
  obtain ⟨l1, l4⟩ := Prod.mk.inj e2
  obtain ⟨l2, l3⟩ := Prod.mk.inj l4
  obtain ⟨z1, z4⟩ := Prod.mk.inj (hz w)
  obtain ⟨z2, z3⟩ := Prod.mk.inj z4
  have t : topFrom treeTable p w N (S0 w) = some s1 := by
    unfold topFrom
    try dsimp only
    rw [z1, z2, z3, e1]
    show (match staticsOk (importedModules p.main.body) (S0 w).heap s1.heap && namesBound p s1.heap && gensDone s1 && laidKept (S0 w).heap s1.heap with | true => _ | false => _) = _
    rw [l1]
  unfold openEnds
  rw [ho w]
  show (topFrom treeTable p w N (S0 w)).map _ = _
  rw [t]
  exact congrArg some (Prod.ext l2 l3)
abbrev hP : Program := PySem.Challenge.rw_nb0042_01.row.toRowW.1
abbrev hB : List Stmt := behindTheImports hP
abbrev hEnv : Env := { scope := hP.main.scope, locals := mainNs, globals := mainNs, cells := [], code := .ref 13, frame := some 14 }
abbrev hC : Code := .body hB hEnv
abbrev hZ : Pos := { line := 0, col := 0, endLine := 0, endCol := 0 }
abbrev hPm : Pos := { line := 4, col := 0, endLine := 4, endCol := 11 }
abbrev hAnn : Option Value := some (.ref 6)
noncomputable def hS0 (w : World) : Shared := (fencedOpening treeTable hP w 35440).getD {}
noncomputable def hSa (w : World) : Shared := ((topGo treeTable hP w 11 hAnn 12 (hS0 w) (topStub hP)).map (·.1)).getD {}
noncomputable def hS1 (w : World) : Shared := ((segRun treeTable hP w 11 hAnn 1 40 (hSa w) (piecesOf (hB.take 1) hEnv hC hZ [topFrame hZ])).map (·.2.1)).getD {}
def hHex (d : Nat) : Nat := if d < 10 then 48 + d else 55 + d
def hItems : List Value := (List.range 256).map fun c => .str ⟨#[61, hHex (c / 16), hHex (c % 16)]⟩ (200 + 4 * c)
def hDict (P : Params) (o : Obj) : Obj := match o.data with
  | .dict es _ => { o with data := .dict (es.push ⟨PyData.keyHash P (Str.ofString "_QUOPRI_MAP"), .str (Str.ofString "_QUOPRI_MAP") 1221, .ref 24⟩) 11 }
  | _ => o
def hNew : List Obj := [
  { cls := .type "range", data := .fields #[.int 0 195, .int 256 194, .int 1 196] },
  { cls := .type "range_iterator", data := .fields #[.int 256 0, .int 0 0, .int 1 0] },
  { cls := .type "list", data := .seq hItems.toArray 256 },
  { cls := .type "dict", data := .dict #[] 2 },
  { cls := .type "tuple", data := .seq #[] },
  { cls := .type "StopIteration", data := .fields #[.ref 26, .none, .none, .none, .bool false, .none] }]
noncomputable def hAt3 (f : Obj → Obj) : Nat → List Obj → List Obj
  | _, [] => []
  | 0, o :: r => f o :: r
  | n + 1, o :: r => o :: hAt3 f n r
/-- the state behind the map's statement -/
noncomputable def hSm (w : World) : Shared := { hS1 w with heap := { (hS1 w).heap with objs := ⟨hAt3 (hDict w.params) 3 (hS1 w).heap.objs.toList ++ hNew⟩ }, toks := 1222 }
theorem h_open (w : World) : fencedOpening treeTable hP w 35440 = some (hS0 w) := by
  delta hS0 fencedOpening
  rewrite [PySem.W.Fast.te10274390034422433532, PySem.W.Fast.te14289696077712309145, PySem.W.Fast.te14364793385576792824]
  kernel_rfl
theorem h_z (w : World) : ((hS0 w).heap.isNs mainGlobals && (hS0 w).gens.size == 0, (hS0 w).heap.objs.size, (hS0 w).heap.nsMap mainGlobals "__annotations__") = (true, 11, hAnn) := by
  delta hS0 fencedOpening
  rewrite [PySem.W.Fast.te10274390034422433532, PySem.W.Fast.te14289696077712309145, PySem.W.Fast.te14364793385576792824]
  kernel_rfl
def hLoose : List Str := [Str.ofString "_QUOPRI_MAP", Str.ofString "_QUOPRI_HEADER_MAP", Str.ofString "_QUOPRI_BODY_MAP", Str.ofString "ascii_letters", Str.ofString "header_encode", Str.ofString "_QUOPRI_BODY_ENCODE_MAP", Str.ofString "b2a_base64", Str.ofString "b64encode"]
def hLv : List (Str × WData) := [(Str.ofString "ascii_letters", WData.str ⟨#[97, 98, 99, 100, 101, 102, 103, 104, 105, 106, 107, 108, 109, 110, 111, 112, 113, 114, 115, 116, 117, 118, 119, 120, 121, 122, 65, 66, 67, 68, 69, 70, 71, 72, 73, 74, 75, 76, 77, 78, 79, 80, 81, 82, 83, 84, 85, 86, 87, 88, 89, 90]⟩)]
noncomputable def hXt (s : Shared) : Bool := xlAt Mine.pre.view_39 hLv s && recOk (RowW.records PySem.Challenge.rw_nb0042_01.row.toRowW) s
def hAs : List Addr := [2, 3, 6, 15, 17, 18, 20, 21, 24, 29, 31, 38, 39, 41, 42, 44, 45, 47, 51, 53, 54, 56, 57, 58, 60, 61, 63, 64, 65, 66, 68, 69, 71, 72, 73, 74, 76, 77, 79, 80, 81, 83, 84, 86, 87, 88, 90, 91, 93, 94, 95, 97, 98, 100, 101, 102, 104, 105, 107, 108, 109, 111, 112, 114, 115, 116, 118, 119, 121, 122, 123, 126, 127]
noncomputable def hObs (s : Shared) : List (Option Obj) := hAs.map s.heap.get?
noncomputable def hVal (w : World) : List (Option Obj) := (Mine.pre.heap_39 w.params).map fun p => some p.2
end
end
end Mine
-- MHeadB
namespace Mine
noncomputable section
section
set_option maxRecDepth 100000
set_option maxHeartbeats 8000000
abbrev hPos1 : Pos := { line := 1, col := 0, endLine := 3, endCol := 12 }
abbrev hP8 : Pos := { line := 11, col := 0, endLine := 11, endCol := 8 }
abbrev hP9 : Pos := { line := 12, col := 9, endLine := 12, endCol := 74 }
abbrev hP10 : Pos := { line := 14, col := 0, endLine := 14, endCol := 28 }
abbrev hP11 : Pos := { line := 15, col := 9, endLine := 15, endCol := 110 }
abbrev hP13 : Pos := { line := 22, col := 0, endLine := 22, endCol := 23 }
abbrev hP14 : Pos := { line := 23, col := 9, endLine := 23, endCol := 16 }
abbrev hSt (i n : Nat) : List Stmt := (hB.drop i).take n
abbrev hTh (i n : Nat) (p : Pos) : Thread := piecesOf (hSt i n) hEnv hC p [topFrame hZ]
abbrev hV (b : Bool) (w : World) : World := w.withFollow "special-get-raises" b
abbrev hW (b c : Bool) (w : World) : World := (w.withFollow "special-get-raises" b).withFollow "comprehension-iter-twice" c
def hLNew (P : Params) (k : Nat) : List Obj := [
  { cls := .type "range", data := .fields #[.int 0 195, .int 256 194, .int 1 196] },
  { cls := .type "range_iterator", data := .fields #[.int k 0, .int (256 - k : Nat) 0, .int 1 0] },
  { cls := .type "list", data := .seq (hItems.take k).toArray k },
  { cls := .type "dict", data := .dict #[⟨PyData.keyHash P (Str.ofString "c"), .str (Str.ofString "c") 198, .int (k - 1 : Nat) (193 + 4 * k)⟩] 1 }]
/-- the state behind k turns of the comprehension -/
noncomputable def hL (w : World) (k : Nat) : Shared := { hS1 w with heap := { (hS1 w).heap with objs := ⟨(hS1 w).heap.objs.toList ++ hLNew w.params k⟩ }, toks := 197 + 4 * k }
noncomputable def hT1 (w : World) : Thread := ((segGo treeTable hP (hW false false w) 11 hAnn 1 88 (hS1 w) (hTh 1 1 hPos1)).map (·.2)).getD (topStub hP)
noncomputable def hS8 (w : World) : Shared := ((segRun treeTable hP w 11 hAnn 1 140 (hSm w) (hTh 2 7 hPm)).map (·.2.1)).getD {}
noncomputable def hR9 (w : World) : Option (Shared × Thread) := segGo treeTable hP (hV false w) 11 hAnn 1 42 (hS8 w) (hTh 9 1 hP8)
def hHeadB : List Nat := [45, 33, 42, 43, 47] ++ (List.range 26).map (97 + ·) ++ (List.range 26).map (65 + ·) ++ (List.range 10).map (48 + ·)
def hBodyB : List Nat := (List.range 29).map (32 + ·) ++ (List.range 65).map (62 + ·) ++ [9]
def hIter (l : List Nat) (tok : Nat) : Obj := { cls := .type "bytes_iterator", data := .fields #[.bytes (l.map UInt8.ofNat).toArray tok, .int 0 0] }
noncomputable def hS9a (w : World) : Shared := { hS8 w with heap := { (hS8 w).heap with objs := ⟨(hS8 w).heap.objs.toList ++ [hIter hHeadB 1240]⟩ }, toks := 1241 }
noncomputable def hT9 (w : World) : Thread := ((hR9 w).map (·.2)).getD (topStub hP)
noncomputable def hSetL (v : Value) : Nat → List Value → List Value
  | _, [] => []
  | 0, _ :: r => v :: r
  | n + 1, o :: r => o :: hSetL v n r
noncomputable def hPuts : List Nat → Nat → List Value → List Value
  | [], _, l => l
  | c :: cs, t, l => hPuts cs (t + 3) (hSetL (.str ⟨#[c]⟩ t) c l)
def hList (f : List Value → List Value) (o : Obj) : Obj := match o.data with
  | .seq a n => { o with data := .seq (f a.toList).toArray n }
  | _ => o
def hC9 (P : Params) (o : Obj) : Obj := match o.data with
  | .dict es _ => { o with data := .dict (es.push ⟨PyData.keyHash P (Str.ofString "c"), .str (Str.ofString "c") 1242, .int 57 1439⟩) 18 }
  | _ => o
def hC11 (P : Params) (o : Obj) : Obj := match o.data with
  | .dict es _ => { o with data := .dict (es.pop.push ⟨PyData.keyHash P (Str.ofString "c"), .str (Str.ofString "c") 1242, .int 9 1728⟩) 18 }
  | _ => o
def hDone (n : Nat) (o : Obj) : Obj := { o with data := .fields #[.none, .int n 0] }
def hStop (a : Addr) : List Obj := [{ cls := .type "tuple", data := .seq #[] }, { cls := .type "StopIteration", data := .fields #[.ref a, .none, .none, .none, .bool false, .none] }]
noncomputable def hS9 (w : World) : Shared := { hS9a w with heap := { (hS9a w).heap with objs := ⟨hAt3 (hDone 67) 32 (hAt3 (hList (hPuts hHeadB 1243)) 29 (hAt3 (hC9 w.params) 3 (hS9a w).heap.objs.toList)) ++ hStop 33⟩ }, toks := 1442 }
noncomputable def hS10 (w : World) : Shared := ((segRun treeTable hP w 11 hAnn 1 40 (hS9 w) (hTh 10 1 hP9)).map (·.2.1)).getD {}
noncomputable def hR11 (w : World) : Option (Shared × Thread) := segGo treeTable hP (hV false w) 11 hAnn 1 8 (hS10 w) (hTh 11 1 hP10)
noncomputable def hS11a (w : World) : Shared := { hS10 w with heap := { (hS10 w).heap with objs := ⟨(hS10 w).heap.objs.toList ++ [hIter hBodyB 1445]⟩ }, toks := 1446 }
noncomputable def hT11 (w : World) : Thread := ((hR11 w).map (·.2)).getD (topStub hP)
noncomputable def hS11 (w : World) : Shared := { hS11a w with heap := { (hS11a w).heap with objs := ⟨hAt3 (hDone 95) 35 (hAt3 (hList (hPuts hBodyB 1448)) 31 (hAt3 (hC11 w.params) 3 (hS11a w).heap.objs.toList)) ++ hStop 36⟩ }, toks := 1731 }
noncomputable def hS13 (w : World) : Shared := ((segRun treeTable hP w 11 hAnn 1 80 (hS11 w) (hTh 12 2 hP11)).map (·.2.1)).getD {}
noncomputable def hS14 (w : World) : Shared := ((segRun treeTable hP (hV false w) 11 hAnn 1 140 (hS13 w) (hTh 14 1 hP13)).map (·.2.1)).getD {}
def hX1 (n : Nat) (w : World) : Prop := segGo treeTable hP w 11 hAnn 1 n (hS1 w) (hTh 1 1 hPos1) = some (hL w 1, hT1 w)
def hX9 (w : World) : Prop := segGo treeTable hP w 11 hAnn 1 42 (hS8 w) (hTh 9 1 hP8) = some (hS9a w, hT9 w)
def hX11 (w : World) : Prop := segGo treeTable hP w 11 hAnn 1 8 (hS10 w) (hTh 11 1 hP10) = some (hS11a w, hT11 w)
def hX14 (w : World) : Prop := segRun treeTable hP w 11 hAnn 1 140 (hS13 w) (hTh 14 1 hP13) = some (.next, hS14 w, hC, hP14)
theorem h_a (w : World) : topGo treeTable hP w 11 hAnn 12 (hS0 w) (topStub hP) = some (hSa w, ⟨denote treeTable hC, hC, hZ, [topFrame hZ]⟩) := by
  delta hSa hS0 fencedOpening
  rewrite [PySem.W.Fast.te10274390034422433532, PySem.W.Fast.te14289696077712309145, PySem.W.Fast.te15667345088766844465, PySem.W.Fast.te11892475500146522536, PySem.W.Fast.te14364793385576792824]
  kernel_rfl
theorem h_b (w : World) : segRun treeTable hP w 11 hAnn 1 1 (hSa w) (blockOf hB hEnv hC hZ [topFrame hZ]) = some (.next, hSa w, hC, hZ) := by
  kernel_rfl
theorem h_0 (w : World) : segRun treeTable hP w 11 hAnn 1 40 (hSa w) (hTh 0 1 hZ) = some (.next, hS1 w, hC, hPos1) := by
  delta hS1 hSa hS0 fencedOpening
  rewrite [PySem.W.Fast.te10274390034422433532, PySem.W.Fast.te14289696077712309145, PySem.W.Fast.te15667345088766844465, PySem.W.Fast.te14374325043358763698, PySem.W.Fast.te14364793385576792824]
  kernel_rfl
theorem h_1ff (w : World) : hX1 88 (hW false false w) := by
  delta hX1 hL hT1 hS1 hSa hS0 fencedOpening
  rewrite [PySem.W.Fast.te10274390034422433532, PySem.W.Fast.te14289696077712309145, PySem.W.Fast.te15667345088766844465, PySem.W.Fast.te14374325043358763698, PySem.W.Fast.te3277212676724774461, PySem.W.Fast.te14364793385576792824]
  kernel_rfl
theorem h_1ft (w : World) : hX1 78 (hW false true w) := by
  delta hX1 hL hT1 hS1 hSa hS0 fencedOpening
  rewrite [PySem.W.Fast.te10274390034422433532, PySem.W.Fast.te14289696077712309145, PySem.W.Fast.te15667345088766844465, PySem.W.Fast.te14374325043358763698, PySem.W.Fast.te3277212676724774461, PySem.W.Fast.te14364793385576792824]
  kernel_rfl
theorem h_1tf (w : World) : hX1 88 (hW true false w) := by
  delta hX1 hL hT1 hS1 hSa hS0 fencedOpening
  rewrite [PySem.W.Fast.te10274390034422433532, PySem.W.Fast.te14289696077712309145, PySem.W.Fast.te15667345088766844465, PySem.W.Fast.te14374325043358763698, PySem.W.Fast.te3277212676724774461, PySem.W.Fast.te14364793385576792824]
  kernel_rfl
theorem h_1tt (w : World) : hX1 78 (hW true true w) := by
  delta hX1 hL hT1 hS1 hSa hS0 fencedOpening
  rewrite [PySem.W.Fast.te10274390034422433532, PySem.W.Fast.te14289696077712309145, PySem.W.Fast.te15667345088766844465, PySem.W.Fast.te14374325043358763698, PySem.W.Fast.te3277212676724774461, PySem.W.Fast.te14364793385576792824]
  kernel_rfl
theorem h_1 (w : World) : ∃ n, n ≤ 88 ∧ hX1 n w :=
  byRow2 "comprehension-iter-twice" (P := fun w => ∃ n, n ≤ 88 ∧ hX1 n w)
    (byRow2 "special-get-raises" (P := fun w => ∃ n, n ≤ 88 ∧ hX1 n (w.withFollow "comprehension-iter-twice" false)) (fun w => ⟨88, by decide, h_1ff w⟩) (fun w => ⟨88, by decide, h_1tf w⟩))
    (byRow2 "special-get-raises" (P := fun w => ∃ n, n ≤ 88 ∧ hX1 n (w.withFollow "comprehension-iter-twice" true)) (fun w => ⟨78, by decide, h_1ft w⟩) (fun w => ⟨78, by decide, h_1tt w⟩)) w
theorem h_l1 (w : World) : segGo treeTable hP w 11 hAnn 1 1887 (hL w 1) (hT1 w) = some (hL w 52, hT1 w) := by
  delta hL hT1 hS1 hSa hS0 fencedOpening
  rewrite [PySem.W.Fast.te10274390034422433532, PySem.W.Fast.te14289696077712309145, PySem.W.Fast.te15667345088766844465, PySem.W.Fast.te14374325043358763698, PySem.W.Fast.te3277212676724774461, PySem.W.Fast.te14364793385576792824]
  kernel_rfl
theorem h_l52 (w : World) : segGo treeTable hP w 11 hAnn 1 1887 (hL w 52) (hT1 w) = some (hL w 103, hT1 w) := by
  delta hL hT1 hS1 hSa hS0 fencedOpening
  rewrite [PySem.W.Fast.te10274390034422433532, PySem.W.Fast.te14289696077712309145, PySem.W.Fast.te15667345088766844465, PySem.W.Fast.te14374325043358763698, PySem.W.Fast.te3277212676724774461, PySem.W.Fast.te14364793385576792824]
  kernel_rfl
theorem h_l103 (w : World) : segGo treeTable hP w 11 hAnn 1 1887 (hL w 103) (hT1 w) = some (hL w 154, hT1 w) := by
  delta hL hT1 hS1 hSa hS0 fencedOpening
  rewrite [PySem.W.Fast.te10274390034422433532, PySem.W.Fast.te14289696077712309145, PySem.W.Fast.te15667345088766844465, PySem.W.Fast.te14374325043358763698, PySem.W.Fast.te3277212676724774461, PySem.W.Fast.te14364793385576792824]
  kernel_rfl
theorem h_l154 (w : World) : segGo treeTable hP w 11 hAnn 1 1887 (hL w 154) (hT1 w) = some (hL w 205, hT1 w) := by
  delta hL hT1 hS1 hSa hS0 fencedOpening
  rewrite [PySem.W.Fast.te10274390034422433532, PySem.W.Fast.te14289696077712309145, PySem.W.Fast.te15667345088766844465, PySem.W.Fast.te14374325043358763698, PySem.W.Fast.te3277212676724774461, PySem.W.Fast.te14364793385576792824]
  kernel_rfl
theorem h_l205 (w : World) : segGo treeTable hP w 11 hAnn 1 1887 (hL w 205) (hT1 w) = some (hL w 256, hT1 w) := by
  delta hL hT1 hS1 hSa hS0 fencedOpening
  rewrite [PySem.W.Fast.te10274390034422433532, PySem.W.Fast.te14289696077712309145, PySem.W.Fast.te15667345088766844465, PySem.W.Fast.te14374325043358763698, PySem.W.Fast.te3277212676724774461, PySem.W.Fast.te14364793385576792824]
  kernel_rfl
theorem h_l256 (w : World) : segRun treeTable hP w 11 hAnn 1 40 (hL w 256) (hT1 w) = some (.next, hSm w, hC, hPm) := by
  delta hSm hL hT1 hS1 hSa hS0 fencedOpening
  rewrite [PySem.W.Fast.te10274390034422433532, PySem.W.Fast.te14289696077712309145, PySem.W.Fast.te15667345088766844465, PySem.W.Fast.te14374325043358763698, PySem.W.Fast.te3277212676724774461, PySem.W.Fast.te14364793385576792824]
  kernel_rfl
theorem h_8 (w : World) : segRun treeTable hP w 11 hAnn 1 140 (hSm w) (hTh 2 7 hPm) = some (.next, hS8 w, hC, hP8) := by
  delta hS8 hSm hS1 hSa hS0 fencedOpening
  rewrite [PySem.W.Fast.te10274390034422433532, PySem.W.Fast.te14289696077712309145, PySem.W.Fast.te15667345088766844465, PySem.W.Fast.te14374325043358763698, PySem.W.Fast.te14364793385576792824]
  kernel_rfl
theorem h_9f (w : World) : hX9 (hV false w) := by
  delta hX9 hT9 hS9a hR9 hS8 hSm hS1 hSa hS0 fencedOpening
  rewrite [PySem.W.Fast.te10274390034422433532, PySem.W.Fast.te14289696077712309145, PySem.W.Fast.te15667345088766844465, PySem.W.Fast.te14374325043358763698, PySem.W.Fast.te3277212676724774461, PySem.W.Fast.te14364793385576792824]
  kernel_rfl
theorem h_9t (w : World) : hX9 (hV true w) := by
  delta hX9 hT9 hS9a hR9 hS8 hSm hS1 hSa hS0 fencedOpening
  rewrite [PySem.W.Fast.te10274390034422433532, PySem.W.Fast.te14289696077712309145, PySem.W.Fast.te15667345088766844465, PySem.W.Fast.te14374325043358763698, PySem.W.Fast.te3277212676724774461, PySem.W.Fast.te14364793385576792824]
  kernel_rfl
theorem h_9a (w : World) : hX9 w := byRow2 "special-get-raises" (P := hX9) h_9f h_9t w
theorem h_9b (w : World) : segRun treeTable hP w 11 hAnn 1 3100 (hS9a w) (hT9 w) = some (.next, hS9 w, hC, hP9) := by
  delta hS9 hT9 hS9a hR9 hS8 hSm hS1 hSa hS0 fencedOpening
  rewrite [PySem.W.Fast.te10274390034422433532, PySem.W.Fast.te14289696077712309145, PySem.W.Fast.te15667345088766844465, PySem.W.Fast.te14374325043358763698, PySem.W.Fast.te3277212676724774461, PySem.W.Fast.te14364793385576792824]
  kernel_rfl
theorem h_10 (w : World) : segRun treeTable hP w 11 hAnn 1 40 (hS9 w) (hTh 10 1 hP9) = some (.next, hS10 w, hC, hP10) := by
  delta hS10 hS9 hS9a hS8 hSm hS1 hSa hS0 fencedOpening
  rewrite [PySem.W.Fast.te10274390034422433532, PySem.W.Fast.te14289696077712309145, PySem.W.Fast.te15667345088766844465, PySem.W.Fast.te14374325043358763698, PySem.W.Fast.te14364793385576792824]
  kernel_rfl
theorem h_11f (w : World) : hX11 (hV false w) := by
  delta hX11 hT11 hS11a hR11 hS10 hS9 hS9a hS8 hSm hS1 hSa hS0 fencedOpening
  rewrite [PySem.W.Fast.te10274390034422433532, PySem.W.Fast.te14289696077712309145, PySem.W.Fast.te15667345088766844465, PySem.W.Fast.te14374325043358763698, PySem.W.Fast.te3277212676724774461, PySem.W.Fast.te14364793385576792824]
  kernel_rfl
theorem h_11t (w : World) : hX11 (hV true w) := by
  delta hX11 hT11 hS11a hR11 hS10 hS9 hS9a hS8 hSm hS1 hSa hS0 fencedOpening
  rewrite [PySem.W.Fast.te10274390034422433532, PySem.W.Fast.te14289696077712309145, PySem.W.Fast.te15667345088766844465, PySem.W.Fast.te14374325043358763698, PySem.W.Fast.te3277212676724774461, PySem.W.Fast.te14364793385576792824]
  kernel_rfl
theorem h_11a (w : World) : hX11 w := byRow2 "special-get-raises" (P := hX11) h_11f h_11t w
theorem h_11b (w : World) : segRun treeTable hP w 11 hAnn 1 4320 (hS11a w) (hT11 w) = some (.next, hS11 w, hC, hP11) := by
  delta hS11 hT11 hS11a hR11 hS10 hS9 hS9a hS8 hSm hS1 hSa hS0 fencedOpening
  rewrite [PySem.W.Fast.te10274390034422433532, PySem.W.Fast.te14289696077712309145, PySem.W.Fast.te15667345088766844465, PySem.W.Fast.te14374325043358763698, PySem.W.Fast.te3277212676724774461, PySem.W.Fast.te14364793385576792824]
  kernel_rfl
theorem h_13 (w : World) : segRun treeTable hP w 11 hAnn 1 80 (hS11 w) (hTh 12 2 hP11) = some (.next, hS13 w, hC, hP13) := by
  delta hS13 hS11 hS11a hS10 hS9 hS9a hS8 hSm hS1 hSa hS0 fencedOpening
  rewrite [PySem.W.Fast.te10274390034422433532, PySem.W.Fast.te14289696077712309145, PySem.W.Fast.te15667345088766844465, PySem.W.Fast.te14374325043358763698, PySem.W.Fast.te14364793385576792824]
  kernel_rfl
theorem h_14f (w : World) : hX14 (hV false w) := by
  delta hX14 hS14 hS13 hS11 hS11a hS10 hS9 hS9a hS8 hSm hS1 hSa hS0 fencedOpening
  rewrite [PySem.W.Fast.te10274390034422433532, PySem.W.Fast.te14289696077712309145, PySem.W.Fast.te15667345088766844465, PySem.W.Fast.te14374325043358763698, PySem.W.Fast.te14364793385576792824]
  kernel_rfl
theorem h_14t (w : World) : hX14 (hV true w) := by
  delta hX14 hS14 hS13 hS11 hS11a hS10 hS9 hS9a hS8 hSm hS1 hSa hS0 fencedOpening
  rewrite [PySem.W.Fast.te10274390034422433532, PySem.W.Fast.te14289696077712309145, PySem.W.Fast.te15667345088766844465, PySem.W.Fast.te14374325043358763698, PySem.W.Fast.te14364793385576792824]
  kernel_rfl
theorem h_14 (w : World) : hX14 w := byRow2 "special-get-raises" (P := hX14) h_14f h_14t w
end
end
end Mine
-- MHeadD
namespace Mine
noncomputable section
section
set_option maxRecDepth 100000
set_option maxHeartbeats 8000000
theorem h_d (w : World) : (topRun treeTable hP w 11 hAnn 700 (hS14 w) (restOf (hB.drop 15) hEnv hC hP14 [topFrame hZ])).map (fun s => ((staticsOk (importedModules hP.main.body) (hS0 w).heap s.heap && namesBound hP s.heap && gensDone s && laidKept (hS0 w).heap s.heap), openSeen Mine.pre.view_39 hLoose (importedModules hP.main.body) hXt true s, hObs s)) =
    some (true, openGood Mine.pre.view_39 hLoose, hVal w) := by
  delta hS14 hS13 hS11 hS11a hS10 hS9 hS9a hS8 hSm hS1 hSa hS0 fencedOpening
  rewrite [PySem.W.Fast.te10274390034422433532, PySem.W.Fast.te14289696077712309145, PySem.W.Fast.te15667345088766844465, PySem.W.Fast.te14374325043358763698, PySem.W.Fast.te14082659384304107361, PySem.W.Fast.te14364793385576792824, PySem.W.Fast.te4187177175401517315]
  kernel_rfl
theorem h_run (w : World) : ∃ s1, topRun treeTable hP w 11 hAnn 35440 (hS0 w) (topStub hP) = some s1 ∧ ((staticsOk (importedModules hP.main.body) (hS0 w).heap s1.heap && namesBound hP s1.heap && gensDone s1 && laidKept (hS0 w).heap s1.heap), openSeen Mine.pre.view_39 hLoose (importedModules hP.main.body) hXt true s1, hObs s1) = (true, openGood Mine.pre.view_39 hLoose, hVal w) := by
  obtain ⟨s1, e1, e2⟩ := Option.map_eq_some_iff.mp (h_d w)
  obtain ⟨n, hn, x⟩ := h_1 w
  have k11 := seg_go (h_11a w) (h_11b w)
  have k9 := seg_go (h_9a w) (h_9b w)
  have k1 := seg_go x (seg_go (h_l1 w) (seg_go (h_l52 w) (seg_go (h_l103 w) (seg_go (h_l154 w) (seg_go (h_l205 w) (h_l256 w))))))
  have r := chain 0 1 1 rfl (h_0 w) (chain 1 1 2 rfl k1 (chain 2 7 9 rfl (h_8 w) (chain 9 1 10 rfl k9 (chain 10 1 11 rfl (h_10 w) (chain 11 1 12 rfl k11 (chain 12 2 14 rfl (h_13 w) (chain 14 1 15 rfl (h_14 w) e1)))))))
  exact ⟨s1, top_of rfl (h_a w) (h_b w) r (by omega), e2⟩
theorem left : LeftO hP Mine.pre.view_39 hLoose hXt hObs hVal 35440 true := left_of hS0 h_open h_z h_run
end
end
end Mine
-- MHeadC
namespace Mine
noncomputable section
section
set_option maxRecDepth 100000
set_option maxHeartbeats 8000000
local macro_rules
  | `(tactic| refine $t:term) =>
    if t.raw.isOfKind ``Lean.Parser.Term.app && (t.raw[0].getId == ``PySem.W.holds_open || t.raw[0].getId == ``PySem.W.holds_openC) then
      let hl := Lean.mkIdent `hl
      `(tactic| (refine ($t); (case $hl:ident => exact Mine.left)))
    else Lean.Macro.throwUnsupported
open_top hd for PySem.Challenge.rw_nb0042_01
end
end
end Mine
-- MBase
namespace Mine
noncomputable section
set_option maxRecDepth 100000
set_option maxHeartbeats 8000000

/-- the one heap's objects stand in the other (a structure: so that a search among the facts does not open it) -/
structure Ups (h g : Heap) : Prop where
  out : ∀ b o, h.get? b = some o → g.get? b = some o

/-- what a def's body is walked in -/
theorem enterP {prog : Program} {w : World} {K : Frag} {p : Program} {loose : List Str} {mean : ExcName → Option Value} {mg mb : Str → Option Value}
    {dp un : Nat} {gd : Option (List Code)} {cn : Str} {cs : Scope} {a : Addr} {ccd : Value} {cl : List (Str × Addr)} {outer : List Env} {A₀ : Around} {base h₀ : Heap} {L : Addr} {m : Str → Option Value} {s : Shared} {Q E : Value → Shared → Prop}
    {name qual : Str} {params : Arguments} {body : List Stmt} {scope : Scope} {dV kV doc pm cdv ct oc : Value} {an od : Option Addr} {osl : Array (Option Value)} {f : Addr} {vs : List Value} {kw : List (Str × Value)} {binds : List (Str × Value)}
    (B : Below A₀ base outer h₀) (F : Fr h₀ L s.heap m) (X : K.In h₀) (T : Top p loose mean mg mb h₀) (hk : cs.kind = .function)
    (ho : K.lookup f = some ⟨oc, od, .func (fnOf name qual params body scope dV kV doc pm an cdv ct), osl⟩) (hcd : codeIn K cdv qual = true) (hroom : dp < recursionLimit)
    (hbind : BindsTo s (fnOf name qual params body scope dV kV doc pm an cdv ct) ⟨vs, kw⟩ binds) (hloc : ∀ y ∈ binds, scope.names.lookup y.1 = some .local)
    (hco : scope.isCoroutine = false) (hgen : scope.isGenerator = false) (hkk : scope.kind = .function) (hcell : ∀ x ∈ scope.names, x.2 ≠ .cell)
    (h : ∀ (g : Heap) (L' : Addr) (h₁ : Heap) (QK : Value → Shared → Prop), Fr g L' h₁ (fun y => binds.reverse.lookup y) → News g L' h₁ [] → Below (ktrTop dp un gd cn cs L a ccd cl outer) base (envX cn cs L a ccd cl :: outer) g → K.In g → Top p loose mean mg mb g →
      Ups s.heap g →
      (∀ v h' tk' m', Fr g L' h' m' → Q v { s with heap := h', toks := tk' } → QK v { s with heap := h', toks := tk' }) →
      wpAny (model prog w) (ktrTop (dp + 1) (un + 3) gd qual scope L' f cdv [] (envX cn cs L a ccd cl :: outer)) (execs body (envX qual scope L' f cdv []))
        (fun fl s' => QK (match fl with | .ret v => v | _ => .none) s') (fun _ _ => False) { s with heap := h₁, toks := s.toks + binds.length }) :
    wpAny (model prog w) (ktrTop dp un gd cn cs L a ccd cl outer) (call (.ref f) vs kw) Q E s := by
  refine wpAny_call ?_
  obtain ⟨FG, BG, st, lv⟩ := groundX (R := fun r s' => match r with | .ok (.ret v) => Q v s' | .ok _ => False | .error e => E e s') B F (News.nil) (A := ktrTop dp un gd cn cs L a ccd cl outer) (env := envX cn cs L a ccd cl) rfl rfl hk
  refine codeAny_call_def (fd := fnX name qual params body scope [] dV kV doc pm an cdv ct) (body := body) (binds := binds) hroom ((X.keeps F.keep) _ _ ho) rfl (T.nolimit.keeps F.keep) (codeRec_of (X.keeps F.keep) hcd) rfl hbind hcell hloc (fun h₁ hns hk₁ => ?_) hco hgen hkk
  refine wpAny_mono (h _ s.heap.objs.size h₁ (fun v s' => LeaveK h₀ L m _ (fun r s' => match r with | .ok (.ret v) => Q v s' | .ok _ => False | .error e => E e s') v s') ⟨hns, fun b o e => hk₁ b o (of_hideAll _ e), Nat.le_of_eq (hideAll_size _ _)⟩
    (fun p hp => nomatch hp) BG (X.keeps st) (T.keeps st) ⟨fun b o e => hideAll_get _ e (by simp)⟩ (fun v h' tk' m' F' q => ⟨_, m', [], F', News.nil, fun _ _ => q⟩)) (fun fl s' hl => lv _ _ hl) fun _ _ y => y.elim
section
variable {prog : Program} {w : World} {A : Around} {E : Value → Shared → Prop} {s : Shared} {Q : Value → Shared → Prop} {t u : Tok}
theorem fdiv_to {a b : Int} (c : Int) (hb : b ≠ 0) (hp : Builtin.divisionGoesByPylong a b = false) (e : a.fdiv b = c) (h : Q (.int c s.toks) { s with toks := s.toks + 1 }) :
    wpAny (model prog w) A (binaryOp .FloorDiv (.int a t) (.int b u)) Q E s := by
  subst e
  exact floordiv_int hb h (Or.inl hp)
theorem mod_to {a b : Int} (c : Int) (hb : b ≠ 0) (e : a.fmod b = c) (h : Q (.int c s.toks) { s with toks := s.toks + 1 }) :
    wpAny (model prog w) A (binaryOp .Mod (.int a t) (.int b u)) Q E s := by
  subst e
  exact mod_int' hb h
theorem add_to {a b : Int} (c : Int) (e : a + b = c) (h : Q (.int c s.toks) { s with toks := s.toks + 1 }) :
    wpAny (model prog w) A (binaryOp .Add (.int a t) (.int b u)) Q E s := by
  subst e
  exact add_int h
theorem sub_to {a b : Int} (c : Int) (e : a - b = c) (h : Q (.int c s.toks) { s with toks := s.toks + 1 }) :
    wpAny (model prog w) A (binaryOp .Sub (.int a t) (.int b u)) Q E s := by
  subst e
  exact sub_int h
theorem iadd_to {a b : Int} (c : Int) (e : a + b = c) (h : Q (.int c s.toks) { s with toks := s.toks + 1 }) :
    wpAny (model prog w) A (inplaceOp .Add (.int a t) (.int b u)) Q E s := by
  subst e
  exact iadd_int h
theorem isub_to {a b : Int} (c : Int) (e : a - b = c) (h : Q (.int c s.toks) { s with toks := s.toks + 1 }) :
    wpAny (model prog w) A (inplaceOp .Sub (.int a t) (.int b u)) Q E s := by
  subst e
  exact PySem.P.isub_int h
theorem mul_to {a b : Int} (c : Int) (hm : IntMulOk a b) (e : a * b = c) (h : Q (.int c s.toks) { s with toks := s.toks + 1 }) :
    wpAny (model prog w) A (binaryOp .Mult (.int a t) (.int b u)) Q E s := by
  subst e
  exact mul_int h hm
theorem pow_to {n : Int} (c : Int) (hn : 0 ≤ n) (hn2 : n ≤ 1000000) (e : (2 : Int) ^ n.toNat = c) (h : Q (.int c s.toks) { s with toks := s.toks + 1 }) :
    wpAny (model prog w) A (binaryOp .Pow (.int 2 t) (.int n u)) Q E s := by
  subst e
  exact pow_int_small hn hn2 (by decide) h
theorem adds_to {x y z : Str} (e : x ++ y = z) (hsz : x.length + y.length ≤ sizeLine) (h : ∀ t' k, Q (.str z t') { s with toks := k }) :
    wpAny (model prog w) A (binaryOp .Add (.str x t) (.str y u)) Q E s := by
  subst e
  exact add_str h hsz
theorem iadds_to {x y z : Str} (e : x ++ y = z) (hsz : x.length + y.length ≤ sizeLine) (h : ∀ t' k, Q (.str z t') { s with toks := k }) :
    wpAny (model prog w) A (inplaceOp .Add (.str x t) (.str y u)) Q E s := by
  subst e
  exact iadd_str h hsz
end
end
end Mine
-- MDefs
namespace Mine
noncomputable section
set_option maxRecDepth 100000

def alphaL : List Nat := [65, 66, 67, 68, 69, 70, 71, 72, 73, 74, 75, 76, 77, 78, 79, 80, 81, 82, 83, 84, 85, 86, 87, 88, 89, 90, 97, 98, 99, 100, 101, 102, 103, 104, 105, 106, 107, 108, 109, 110, 111, 112, 113, 114, 115, 116, 117, 118, 119, 120, 121, 122, 48, 49, 50, 51, 52, 53, 54, 55, 56, 57, 43, 47]
def standL : List Nat := [65, 66, 67, 68, 69, 70, 71, 72, 73, 74, 75, 76, 77, 78, 79, 80, 81, 82, 83, 84, 85, 86, 87, 88, 89, 90, 97, 98, 99, 100, 101, 102, 103, 104, 105, 106, 107, 108, 109, 110, 111, 112, 113, 114, 115, 116, 117, 118, 119, 120, 121, 122, 48, 49, 50, 51, 52, 53, 54, 55, 56, 57, 45, 33, 42, 43, 47]
/-- the sign of a figure to base 64 -/
def al (d : Nat) : Nat := alphaL.getD d 0
/-- its figure -/
def fig (c : Nat) : Nat := if c ≤ 43 then 62 else if c ≤ 47 then 63 else if c ≤ 57 then c + 4 else if c ≤ 90 then c - 65 else c - 71
/-- a text of the signs' numbers -/
def ctxt (l : List Nat) : Str := ⟨l.toArray⟩
def hexd (d : Nat) : Nat := if d < 10 then 48 + d else 55 + d
/-- an octet that stands for itself -/
def standsB (o : Nat) : Bool := (65 ≤ o && o ≤ 90) || (97 ≤ o && o ≤ 122) || (48 ≤ o && o ≤ 57) || o == 45 || o == 33 || o == 42 || o == 43 || o == 47
def qsign (o : Nat) : List Nat := if o = 32 then [95] else if standsB o = true then [o] else [61, hexd (o / 16), hexd (o % 16)]
def qtext (os : List Nat) : List Nat := os.flatMap qsign
def alphaS : Str := Str.ofString "ABCDEFGHIJKLMNOPQRSTUVWXYZabcdefghijklmnopqrstuvwxyz0123456789+/"
def standS : Str := Str.ofString "ABCDEFGHIJKLMNOPQRSTUVWXYZabcdefghijklmnopqrstuvwxyz0123456789-!*+/"

theorem alphaS_eq : alphaS = ctxt alphaL := by decide +kernel
theorem standS_eq : standS = ctxt standL := by decide +kernel
theorem stands_mem : ∀ o, o < 256 → decide (o ∈ standL) = standsB o := by decide +kernel
theorem stands_occ (o : Nat) (h : o < 256) : (!(Builtin.Str.occurrences standS ⟨#[o]⟩ 0 standS.length 1).isEmpty) = standsB o := by
  rw [StrLaws.found_one, ← stands_mem o h, standS_eq]; rfl
theorem fig_al : ∀ d, d < 64 → fig (al d) = d := by decide +kernel
theorem al_at : ∀ d, d < 64 → alphaL[d]? = some (al d) := by decide +kernel
theorem al_ne : ∀ d, d < 64 → al d ≠ 61 := by decide +kernel
theorem al_lt : ∀ d, d < 64 → al d < 128 := by decide +kernel
theorem find_al (d : Nat) (h : d < 64) : Txt.find alphaS ⟨#[al d]⟩ = (d : Int) := by
  have e : alphaS.cps.toList = alphaL := by rw [alphaS_eq]; rfl
  rcases StrLaws.occ_head alphaS ⟨#[al d]⟩ 1 (Nat.le_refl 1) with ⟨_, hn⟩ | ⟨i, r, e1, ha, hk⟩
  · exact absurd ((StrLaws.subAt_one _ _ _).mpr (by rw [e]; exact al_at d h)) (hn d)
  · have hi := (StrLaws.subAt_one _ _ _).mp ha
    rw [e] at hi
    have hlt : i < 64 := by
      have := (List.getElem?_eq_some_iff.mp hi).1
      exact this
    have : al i = al d := by rw [al_at i hlt] at hi; exact Option.some.inj hi
    have e2 : i = d := by rw [← fig_al i hlt, ← fig_al d h, this]
    unfold Txt.find
    rw [e1, e2]

theorem ctxt_length (l : List Nat) : (ctxt l).length = l.length := by simp [ctxt, Str.length]
theorem ctxt_append (l r : List Nat) : ctxt l ++ ctxt r = ctxt (l ++ r) := by
  refine Str.ext' ?_
  rw [Str.cps_append]
  simp [ctxt]
theorem ctxt_codes (l : List Nat) : KStt.codes (ctxt l) = l.map fun (c : Nat) => (c : Int) := by simp [KStt.codes, ctxt]
theorem qtext_append (a b : List Nat) : qtext (a ++ b) = qtext a ++ qtext b := by simp [qtext]
theorem qtext_one (o : Nat) : qtext [o] = qsign o := by simp [qtext]
end
end Mine
-- MRules
namespace Mine
noncomputable section
set_option maxRecDepth 100000
set_option maxHeartbeats 8000000
theorem item_ctxt {l : List Nat} {i c : Nat} (h : l[i]? = some c) : Txt.item (ctxt l) (i : Int) = ctxt [c] := by
  obtain ⟨hlt, _⟩ := List.getElem?_eq_some_iff.mp h
  unfold Txt.item Txt.charAt seqIndex?
  have e1 : ¬ ((i : Int) < 0) := by omega
  have e2 : (decide (0 ≤ (i : Int)) && decide ((i : Int) < ((ctxt l).length : Nat))) = true := by rw [ctxt_length]; simp; exact hlt
  simp only [if_neg e1, e2, if_true]
  show (⟨#[(((some ((i : Int).toNat)).bind ((ctxt l).cps[·]?)).getD 0)]⟩ : Str) = ctxt [c]
  have e3 : (ctxt l).cps[((i : Int)).toNat]? = some c := by simpa [ctxt] using h
  rw [Option.bind_some, e3]
  rfl
theorem slice_ctxt {l : List Nat} {i j : Int} {r : List Nat} (h0 : 0 ≤ i) (h1 : i ≤ j) (h2 : j ≤ l.length) (e : (l.drop i.toNat).take (j - i).toNat = r) : Txt.slice (ctxt l) (some i) (some j) = ctxt r := by
  have q := beq_iff_eq.mp (slice_closesL (x := ctxt l) h0 h1 (by rw [ctxt_length]; exact h2))
  rw [q]
  show (⟨((l.drop i.toNat).take (j - i).toNat).toArray⟩ : Str) = ctxt r
  rw [e]; rfl
section
variable {prog : Program} {w : World} {A : Around} {E : Value → Shared → Prop} {s : Shared} {value slice : Expr} {x y : Str} {t u : Tok} {h₀ : Heap} {L : Addr} {m : Str → Option Value} {Q : Value → Shared → Prop} {news : List (Addr × Obj)}
theorem item_to {i : Int} (y : Str) (e : Txt.item x i = y) (h0 : 0 ≤ i) (h2 : i < x.length) (h3 : x.length ≤ sizeLine) (h : Q (.str y s.toks) { s with toks := s.toks + 1 })
    (hs : subscripted slice false (.str x t) (.int i u) = operate [.str x t, .int i u] (getItem (.str x t) (.int i u)) := by with_unfolding_all rfl)
    (ht : ∀ r, letTemporaryGo value (.str x t) r = pure () := by intro _; with_unfolding_all rfl) :
    wpAny (model prog w) A (subscriptTail value slice (.str x t) (.int i u)) Q E s := by
  subst e
  rw [sizeLine_eq] at h3
  exact item_str (fitsSsize_of (N := 9223372036854775808) (by omega) (by omega) (Int.le_refl _)) (by omega) h2 (fun _ => h) hs ht
theorem slice_to {i j : Int} {ui uj : Tok} (y : Str) (e : Txt.slice x (some i) (some j) = y) (hF : Fr h₀ L s.heap m) (hN : News h₀ L s.heap news) (hsz : x.length ≤ sizeLine) (h : ∀ h' t' k, Fr h₀ L h' m → News h₀ L h' news → Q (.str y t') { s with heap := h', toks := k })
    (hs : subscripted slice false (.str x t) (.ref s.heap.objs.size) = operate [.ref s.heap.objs.size, .str x t] (getItem (.str x t) (.ref s.heap.objs.size)) := by with_unfolding_all rfl)
    (ht : ∀ r, letTemporaryGo value (.str x t) r = pure () := by intro _; with_unfolding_all rfl) :
    wpAny (model prog w) A (subscriptTail value slice (.str x t) (.ref s.heap.objs.size)) Q E { s with heap := s.heap.push { cls := .type "slice", data := .fields #[.int i ui, .int j uj, .none] } } := by
  subst e
  exact slice_strN_ss hF hN h hs ht hsz
theorem len_to (n : Nat) (e : x.length = n) (hn : n ≤ 16777216) (h : ∀ t k, Q (.int (n : Int) t) { s with toks := k }) : wpAny (model prog w) A (call (.builtin "len") [.str x t]) Q E s := by
  subst e
  exact P.len_str (by omega) (h _ _)
theorem eqs_to (b : Bool) (e : (x == y) = b) (h : Q (.bool b) s) : wpAny (model prog w) A (compareOp .Eq (.str x t) (.str y u)) Q E s := by
  subst e
  exact eq_str h
theorem nes_to (b : Bool) (e : (!(x == y)) = b) (h : Q (.bool b) s) : wpAny (model prog w) A (compareOp .NotEq (.str x t) (.str y u)) Q E s := by
  subst e
  exact ne_str h
end
theorem ctxt_inj {a b : List Nat} (h : ctxt a = ctxt b) : a = b := by
  have := congrArg (fun x : Str => x.cps.toList) h
  simpa [ctxt] using this
theorem ctxt_beq (a b : List Nat) : (ctxt a == ctxt b) = decide (a = b) := by
  by_cases h : a = b
  · subst h; simp
  · rw [decide_eq_false h]
    exact beq_eq_false_iff_ne.mpr fun e => h (ctxt_inj e)
theorem us_eq : Str.ofString "_" = ctxt [95] := by decide +kernel
theorem eq_eq : Str.ofString "=" = ctxt [61] := by decide +kernel
theorem subs_Name {n : Str} {pos : Pos} {x : Str} {t u : Tok} {i : Int} : subscripted (.Name n pos) false (.str x t) (.int i u) = operate [.str x t, .int i u] (getItem (.str x t) (.int i u)) := by with_unfolding_all rfl
theorem subs_BinOp {l r : Expr} {op : Operator} {pos : Pos} {x : Str} {t u : Tok} {i : Int} : subscripted (.BinOp l op r pos) false (.str x t) (.int i u) = operate [.str x t, .int i u] (getItem (.str x t) (.int i u)) := by with_unfolding_all rfl
theorem go_Name {n : Str} {pos : Pos} {x : Str} {t : Tok} : ∀ r, letTemporaryGo (.Name n pos) (.str x t) r = pure () := by intro _; with_unfolding_all rfl
theorem go_Call {f : Expr} {as : List Expr} {ks : List Keyword} {pos : Pos} {x : Str} {t : Tok} : ∀ r, letTemporaryGo (.Call f as ks pos) (.str x t) r = pure () := by intro _; with_unfolding_all rfl
end
end Mine
-- M1
namespace Mine
noncomputable section
set_option maxRecDepth 100000
set_option maxHeartbeats 8000000
section
variable {w : World} {p : Program} {loose : List Str} {mean : ExcName → Option Value} {mg mb : Str → Option Value}
    {dp un : Nat} {gd : Option (List Code)} {cn : Str} {cs : Scope} {a : Addr} {ccd : Value} {cl : List (Str × Addr)} {outer : List Env} {A₀ : Around} {base h₀ : Heap} {L : Addr} {m : Str → Option Value} {s : Shared} {Q E : Value → Shared → Prop}

theorem stands_call :
    ∀ (_ : Below A₀ base outer h₀) (_ : Fr h₀ L s.heap m) (_ : (Mine.hd.heap_39 w.params).In h₀) (_ : Top p loose mean mg mb h₀) (_ : cs.kind = .function) (_ : dp + 1 < recursionLimit) (_ : un + 8 < cLine)
    (o : Nat) (_ : o < 256) (t : Tok)
    (_ : ∀ h' tk', (∀ b o, s.heap.get? b = some o → h'.get? b = some o) → Q (.bool (standsB o)) { s with heap := h', toks := tk' }),
    wpAny (model PySem.Challenge.rw_nb0042_01.row.prog w) (ktrTop dp un gd cn cs L a ccd cl outer) (call (.ref 101) [.int (o : Int) t]) Q E s := by
  k_fill
  intro B F X T hk hd hu o ho t ret
  refine' enterP (binds := [(Str.ofString "octet", Value.int (o : Int) t)]) B F X T hk ?k6 ?k7 ?k8 ?k9 ?kB ?c2 ?c3 ?c4 ?c5 ?_
  case k6 => k_is
  case k7 => k_is
  case k8 => ktr_room
  case k9 => exact BindsTo.of_eq rfl
  case kB => exact locs rfl
  case c2 => exact rfl
  case c3 => exact rfl
  case c4 => exact rfl
  case c5 => decide
  intro g L' h₁ QK F' N' B' X' T' up hret
  clear F
  k_steps
  dsimp only
  refine hret _ _ _ _ (by assumption) ?_
  have e := stands_occ o ho
  unfold standS at e
  rw [show ((o : Int)).toNat = o from rfl, e]
  exact ret _ _ fun b o e => Fr.keep (by assumption) b o (up.out b o e)

theorem alphabet_call :
    ∀ (_ : Below A₀ base outer h₀) (_ : Fr h₀ L s.heap m) (_ : (Mine.hd.heap_39 w.params).In h₀) (_ : Top p loose mean mg mb h₀) (_ : cs.kind = .function) (_ : dp + 1 < recursionLimit) (_ : un + 8 < cLine)
    (_ : ∀ t h' tk', (∀ b o, s.heap.get? b = some o → h'.get? b = some o) → Q (.str alphaS t) { s with heap := h', toks := tk' }),
    wpAny (model PySem.Challenge.rw_nb0042_01.row.prog w) (ktrTop dp un gd cn cs L a ccd cl outer) (call (.ref 87) []) Q E s := by
  k_fill
  intro B F X T hk hd hu ret
  refine' enterP (binds := []) B F X T hk ?k6 ?k7 ?k8 ?k9 ?kB ?c2 ?c3 ?c4 ?c5 ?_
  case k6 => k_is
  case k7 => k_is
  case k8 => ktr_room
  case k9 => exact BindsTo.of_eq rfl
  case kB => exact locs rfl
  case c2 => exact rfl
  case c3 => exact rfl
  case c4 => exact rfl
  case c5 => decide
  intro g L' h₁ QK F' N' B' X' T' up hret
  clear F
  k_steps
  dsimp only
  refine hret _ _ _ _ (by assumption) ?_
  exact ret _ _ _ fun b o e => Fr.keep (by assumption) b o (up.out b o e)
end
end
end Mine
-- M2
namespace Mine
noncomputable section
set_option maxRecDepth 100000
set_option maxHeartbeats 8000000

theorem code_next {ds0 ds : List Nat} {n : Nat} {post : List Int} (h0 : ∀ d ∈ ds0, d < 64) (hc : KStt.codes (ctxt (ds0.map al)) = ds.map (fun (d : Nat) => (al d : Int)) ++ (n : Int) :: post) :
    ∃ d, d < 64 ∧ n = al d ∧ ds.length < ds0.length := by
  rw [ctxt_codes, List.map_map] at hc
  have hm : (n : Int) ∈ ds0.map ((fun (c : Nat) => (c : Int)) ∘ al) := by rw [hc]; simp
  obtain ⟨d, hd, e⟩ := List.mem_map.mp hm
  refine ⟨d, h0 d hd, ?_, ?_⟩
  · have e' : ((al d : Nat) : Int) = n := e
    exact (Int.ofNat.inj e').symm
  · have := congrArg List.length hc
    simp only [List.length_map, List.length_append, List.length_cons] at this
    omega
theorem map_al_inj {ds0 ds : List Nat} (h0 : ∀ d ∈ ds0, d < 64) (h : ∀ d ∈ ds, d < 64) (hc : KStt.codes (ctxt (ds0.map al)) = ds.map (fun (d : Nat) => (al d : Int))) : ds = ds0 := by
  rw [ctxt_codes, List.map_map] at hc
  have h1 := congrArg (List.map fun i : Int => fig i.toNat) hc
  rw [List.map_map, List.map_map] at h1
  have e0 : ∀ l : List Nat, (∀ d ∈ l, d < 64) → l.map (fun d => fig (al d)) = l := fun l hl => by
    conv => rhs; rw [← List.map_id l]
    exact List.map_congr_left fun d hd => fig_al d (hl d hd)
  have e1 : ds0.map ((fun i : Int => fig i.toNat) ∘ ((fun (c : Nat) => (c : Int)) ∘ al)) = ds0.map fun d => fig (al d) := List.map_congr_left fun d _ => rfl
  have e2 : ds.map ((fun i : Int => fig i.toNat) ∘ fun (d : Nat) => (al d : Int)) = ds.map fun d => fig (al d) := List.map_congr_left fun d _ => rfl
  rw [e1, e2, e0 _ h0, e0 _ h] at h1
  exact h1.symm

theorem toNat68 {n : Nat} (h : 2 ≤ n) : ((n : Int) + 6 - 8).toNat = n - 2 := by omega
theorem fdiv_nat (a b : Nat) : Int.fdiv (a : Int) (b : Int) = ((a / b : Nat) : Int) := by
  rw [Int.fdiv_eq_ediv_of_nonneg _ (Int.natCast_nonneg b)]; exact (Int.natCast_ediv a b).symm
theorem fmod_nat (a b : Nat) : Int.fmod (a : Int) (b : Int) = ((a % b : Nat) : Int) := by
  rw [Int.fmod_eq_emod_of_nonneg _ (Int.natCast_nonneg b)]; exact (Int.natCast_emod a b).symm
theorem pow2_cast (n : Nat) : (2 : Int) ^ n = ((2 ^ n : Nat) : Int) := by rw [Int.natCast_pow]; rfl
theorem pow2_ne (n : Nat) : (2 : Int) ^ n ≠ 0 := by rw [pow2_cast]; have := Nat.two_pow_pos n; omega
theorem qb_div {k d n : Nat} (h : 2 ≤ n) : Int.fdiv ((k : Int) * 64 + d) (2 ^ ((n : Int) + 6 - 8).toNat) = (((k * 64 + d) / 2 ^ (n - 2) : Nat) : Int) := by
  rw [toNat68 h, pow2_cast, ← fdiv_nat]; rfl
theorem qb_mod {k d n : Nat} (h : 2 ≤ n) : Int.fmod ((k : Int) * 64 + d) (2 ^ ((n : Int) + 6 - 8).toNat) = (((k * 64 + d) % 2 ^ (n - 2) : Nat) : Int) := by
  rw [toNat68 h, pow2_cast, ← fmod_nat]; rfl
theorem oct_of {ds : List Nat} {d : Nat} (hd : d < 64) (h : 2 ≤ 6 * ds.length % 8) :
    ∃ o, o = (kept ds * 64 + d) / 2 ^ (6 * ds.length % 8 - 2) ∧ o < 256 ∧ octs (ds ++ [d]) = octs ds ++ [o] := by
  refine ⟨_, rfl, ?_, ?_⟩
  · rw [Nat.div_lt_iff_lt_mul (Nat.two_pow_pos _)]
    have h1 := kept_lt ds
    have e : 256 * 2 ^ (6 * ds.length % 8 - 2) = 2 ^ (6 * ds.length % 8) * 64 := by
      have e2 : 6 * ds.length % 8 = (6 * ds.length % 8 - 2) + 2 := by omega
      conv => rhs; rw [e2, Nat.pow_add]
      omega
    rw [e]
    omega
  · rw [octs_snoc ds d hd, if_neg (by omega)]
theorem keep_of {ds : List Nat} {d : Nat} (hd : d < 64) (h : 2 ≤ 6 * ds.length % 8) :
    ∃ k, k = (kept ds * 64 + d) % 2 ^ (6 * ds.length % 8 - 2) ∧ k = kept (ds ++ [d]) := by
  refine ⟨_, rfl, ?_⟩
  rw [kept_snoc ds d hd]
  have e : 6 * (ds.length + 1) % 8 = 6 * ds.length % 8 - 2 := by omega
  rw [e]
theorem no_py {n : Int} (h0 : 0 ≤ n) (h : n < 9) {a : Int} : Builtin.divisionGoesByPylong a (2 ^ n.toNat) = false := by
  refine PyProof.noPylong_small ?_
  have : n = 0 ∨ n = 1 ∨ n = 2 ∨ n = 3 ∨ n = 4 ∨ n = 5 ∨ n = 6 ∨ n = 7 ∨ n = 8 := by omega
  rcases this with h | h | h | h | h | h | h | h | h <;> subst h <;> decide

theorem qsign_length (o : Nat) : (qsign o).length ≤ 3 := by unfold qsign; split; simp; split <;> simp
theorem qtext_length : ∀ l : List Nat, (qtext l).length ≤ 3 * l.length
  | [] => by simp [qtext]
  | o :: r => by
    have h1 := qsign_length o
    have h2 := qtext_length r
    have e : qtext (o :: r) = qsign o ++ qtext r := by simp [qtext]
    rw [e, List.length_append, List.length_cons]; omega
theorem octs_length (ds : List Nat) : (octs ds).length = 6 * ds.length / 8 := dig_length _ _ _
theorem qb_told_us {a : List Nat} {o : Nat} (h : o = 32) : ctxt (qtext a) ++ Str.ofString "_" = ctxt (qtext (a ++ [o])) := by
  subst h
  rw [qtext_append, ← ctxt_append]; rfl
theorem qb_told_st {a : List Nat} {o : Nat} (h : o ≠ 32) (hs : standsB o = true) : ctxt (qtext a) ++ ⟨#[((o : Nat) : Int).toNat]⟩ = ctxt (qtext (a ++ [o])) := by
  rw [qtext_append, ← ctxt_append, qtext_one, qsign, if_neg h, if_pos hs]; rfl
theorem qb_state {ds : List Nat} {d : Nat} {k z : Int} {x : Str} (hlt : ∀ d ∈ ds, d < 64) (hd : d < 64) (hk : k = (kept (ds ++ [d]) : Int)) (hz : z = ((6 * (ds.length + 1) % 8 : Nat) : Int)) (hx : x = ctxt (qtext (octs (ds ++ [d])))) :
    ∃ ds1 : List Nat, (∀ d ∈ ds1, d < 64) ∧ ds.map (fun (d : Nat) => (al d : Int)) ++ [((al d : Nat) : Int)] = ds1.map (fun (d : Nat) => (al d : Int)) ∧ k = (kept ds1 : Int) ∧ z = ((6 * ds1.length % 8 : Nat) : Int) ∧ x = ctxt (qtext (octs ds1)) := by
  refine ⟨ds ++ [d], fun e he => ?_, by simp, hk, by rw [hz]; simp, hx⟩
  rcases List.mem_append.mp he with h | h
  · exact hlt e h
  · rw [List.mem_singleton.mp h]; exact hd
theorem qb_keep0 {ds : List Nat} {d : Nat} (hd : d < 64) (h : 6 * ds.length % 8 = 0) : (kept ds : Int) * 64 + d = (kept (ds ++ [d]) : Int) := by
  have h1 := kept_lt ds
  rw [kept_snoc ds d hd, show 6 * (ds.length + 1) % 8 = 6 by omega]
  rw [h] at h1
  omega
theorem qb_told0 {ds : List Nat} {d : Nat} (hd : d < 64) (h : 6 * ds.length % 8 = 0) : ctxt (qtext (octs ds)) = ctxt (qtext (octs (ds ++ [d]))) := by
  rw [octs_snoc ds d hd, if_pos h, List.append_nil]
theorem qb_len {ds : List Nat} {n : Nat} {y : Str} (h : ds.length ≤ 1000) (hy : y.length ≤ n) (hn : n ≤ 1000) : (ctxt (qtext (octs ds))).length + y.length ≤ sizeLine := by
  have h1 := qtext_length (octs ds)
  rw [octs_length] at h1
  rw [ctxt_length, sizeLine_eq]
  omega

theorem item_hex : ∀ d : Nat, d < 16 → Txt.item (Str.ofString "0123456789ABCDEF") ((d : Nat) : Int) = ctxt [hexd d] := by decide +kernel
theorem qb_esc_eq {o : Nat} (h : o < 256) : Str.ofString "=" ++ Txt.item (Str.ofString "0123456789ABCDEF") (Int.fdiv (o : Int) 16) ++ Txt.item (Str.ofString "0123456789ABCDEF") (Int.fmod (o : Int) 16) = ctxt [61, hexd (o / 16), hexd (o % 16)] := by
  have e1 : Int.fdiv (o : Int) 16 = ((o / 16 : Nat) : Int) := fdiv_nat o 16
  have e2 : Int.fmod (o : Int) 16 = ((o % 16 : Nat) : Int) := fmod_nat o 16
  rw [e1, e2, item_hex _ (by omega), item_hex _ (by omega), show Str.ofString "=" = ctxt [61] from by decide +kernel, ctxt_append, ctxt_append]; rfl
theorem qb_told_esc {a : List Nat} {o : Nat} (h : o < 256) (h1 : o ≠ 32) (hs : standsB o = false) :
    ctxt (qtext a) ++ (Str.ofString "=" ++ Txt.item (Str.ofString "0123456789ABCDEF") (Int.fdiv (o : Int) 16) ++ Txt.item (Str.ofString "0123456789ABCDEF") (Int.fmod (o : Int) 16)) = ctxt (qtext (a ++ [o])) := by
  rw [qb_esc_eq h, qtext_append, ← ctxt_append, qtext_one, qsign, if_neg h1, if_neg (by rw [hs]; exact Bool.false_ne_true)]
theorem qb_len_esc {ds : List Nat} {o : Nat} (h : ds.length ≤ 1000) (ho : o < 256) : (ctxt (qtext (octs ds))).length + (Str.ofString "=" ++ Txt.item (Str.ofString "0123456789ABCDEF") (Int.fdiv (o : Int) 16) ++ Txt.item (Str.ofString "0123456789ABCDEF") (Int.fmod (o : Int) 16)).length ≤ sizeLine :=
  qb_len h (n := 3) (by rw [qb_esc_eq ho]; exact Nat.le_refl 3) (by omega)

section
local macro_rules | `(tactic| walk_at "binaryOp FloorDiv int int") => `(tactic| k_dflt k_extra "own fdiv")
local macro_rules | `(tactic| walk_at "binaryOp Mod int int") => `(tactic| k_dflt k_extra "own mod")
local macro_rules | `(tactic| walk_at "call builtin:str.find") => `(tactic| k_dflt k_extra "own find")
local macro_rules | `(tactic| walk_at "inplaceOp Add str str") => `(tactic| k_dflt k_extra "own iadds")
local macro_rules | `(tactic| walk_at "binaryOp Add str str") => `(tactic| k_dflt k_extra "own adds")
local macro_rules | `(tactic| walk_at "InvEndN") => `(tactic| k_dflt k_extra "own end")
local macro_rules | `(tactic| walk_at "call ref") => `(tactic| k_dflt k_extra "own call")
variable {w : World} {p : Program} {loose : List Str} {mean : ExcName → Option Value} {mg mb : Str → Option Value}
    {dp un : Nat} {gd : Option (List Code)} {cn : Str} {cs : Scope} {a : Addr} {ccd : Value} {cl : List (Str × Addr)} {outer : List Env} {A₀ : Around} {base h₀ : Heap} {L : Addr} {m : Str → Option Value} {s : Shared} {Q E : Value → Shared → Prop}

theorem qofb_call :
    ∀ (_ : Below A₀ base outer h₀) (_ : Fr h₀ L s.heap m) (_ : (Mine.hd.heap_39 w.params).In h₀) (_ : Top p loose mean mg mb h₀) (_ : cs.kind = .function) (_ : dp + 2 < recursionLimit) (_ : un + 16 < cLine)
    (ds0 : List Nat) (_ : ∀ d ∈ ds0, d < 64) (_ : ds0.length ≤ 1000) (t : Tok)
    (_ : ∀ t h' tk', (∀ b o, s.heap.get? b = some o → h'.get? b = some o) → Q (.str (ctxt (qtext (octs ds0))) t) { s with heap := h', toks := tk' }),
    wpAny (model PySem.Challenge.rw_nb0042_01.row.prog w) (ktrTop dp un gd cn cs L a ccd cl outer) (call (.ref 108) [.str (ctxt (ds0.map al)) t]) Q E s := by
  k_fill
  intro B F X T hk hd hu ds0 hds hlen t ret
  refine' enterP (binds := [(Str.ofString "signs", Value.str (ctxt (ds0.map al)) t)]) B F X T hk ?k6 ?k7 ?k8 ?k9 ?kB ?c2 ?c3 ?c4 ?c5 ?_
  case k6 => k_is
  case k7 => k_is
  case k8 => ktr_room
  case k9 => exact BindsTo.of_eq rfl
  case kB => exact locs rfl
  case c2 => exact rfl
  case c3 => exact rfl
  case c4 => exact rfl
  case c5 => decide
  intro g L' h₁ QK F' N' B' X' T' up hret
  clear F
  k_with_none
  k_with "own call" =>
    rename Fr _ _ _ _ => lF'
    rename News _ _ _ _ => lN'
    refine' alphabet_call ?k1 lF' ?k3 ?k4 ?k5 ?k6 ?k7 ?_
    case k1 => k_asm
    case k3 => k_asm
    case k4 => k_asm
    case k5 => rfl
    case k6 => ktr_room
    case k7 => ktr_units
    intro t9 h9 tk9 hk9
    have F9 := Fr.keeps lF' hk9
    have N9 := News.grown lN' hk9
    clear lF' lN'
    try dsimp only
  k_with "own call" =>
    rename Fr _ _ _ _ => lF'
    rename News _ _ _ _ => lN'
    refine' stands_call ?k1 lF' ?k3 ?k4 ?k5 ?k6 ?k7 o ho256 _ ?_
    case k1 => k_asm
    case k3 => k_asm
    case k4 => k_asm
    case k5 => rfl
    case k6 => ktr_room
    case k7 => ktr_units
    intro h9 tk9 hk9
    have F9 := Fr.keeps lF' hk9
    have N9 := News.grown lN' hk9
    clear lF' lN'
    try dsimp only
  k_with "own find" =>
    refine' SC.find ?_
    rw [show Txt.find alphaS ⟨#[al d]⟩ = (d : Int) from find_al d hd6]
  k_with "own fdiv" =>
    have h8 : 2 ≤ 6 * ds.length % 8 := by omega
    obtain ⟨o, ho, ho256, hoct⟩ := oct_of hd6 h8
    refine' fdiv_to (o : Int) (pow2_ne _) (no_py (by omega) (by omega)) ?_ ?_
    · rw [ho]; exact qb_div h8
  k_with "own mod" =>
    obtain ⟨k', hk1, hk2⟩ := keep_of hd6 h8
    refine' mod_to (k' : Int) (pow2_ne _) ?_ ?_
    · rw [hk1]; exact qb_mod h8
  k_with "own iadds" =>
    refine' iadds_to (z := ctxt (qtext (octs ds ++ [o]))) ?_ ?_ ?_
    · first
        | exact qb_told_us (by omega)
        | exact qb_told_st (by omega) (by assumption)
        | exact qb_told_esc ho256 (by omega) (by assumption)
    · first
        | exact qb_len_esc (by omega) ho256
        | exact qb_len (by omega) (n := 1) (by first | decide | exact Nat.le_refl 1) (by omega)
    intro _ _
  k_with "own end" =>
    rename Fr _ _ _ _ => eF
    rename News _ _ _ _ => eN
    refine kst_end (_, _, _, _, _, _) eF eN (List.forall_mem_nil _) (fun p hp => hp) rfl trivial (by kst_all) (by kst_same) ?_
    dsimp only
    refine qb_state hlt hd6 ?_ ?_ ?_
    · first
        | exact congrArg _ hk2
        | exact qb_keep0 hd6 (by omega)
    · omega
    · first
        | rw [hoct]
        | exact qb_told0 hd6 (by omega)
  k_with "pyIter str" =>
    rename Fr _ _ _ _ => lF'
    rename News _ _ _ _ => lN'
    refine' KStt.kst_text (σ := Int × Tok × Int × Tok × Str × Tok) (fun _ => []) (fun c => [(Str.ofString "kept", .int c.1 c.2.1), (Str.ofString "size", .int c.2.2.1 c.2.2.2.1), (Str.ofString "told", .str c.2.2.2.2.1 c.2.2.2.2.2)]) (fun _ => True) [Str.ofString "octet"]
      (fun pre c => ∃ ds : List Nat, (∀ d ∈ ds, d < 64) ∧ pre = ds.map (fun (d : Nat) => (al d : Int)) ∧ c.1 = (kept ds : Int) ∧ c.2.2.1 = ((6 * ds.length % 8 : Nat) : Int) ∧ c.2.2.2.2.1 = ctxt (qtext (octs ds))) (0, _, 0, _, Str.ofString "", _) rfl lF' ?kn trivial ?kk ?kp ?turn ?done
    case kn => exact News.nil
    case kk => kst_all
    case kp => exact ⟨[], by simp, rfl, rfl, rfl, rfl⟩
    case' turn =>
      rintro ⟨k1, k2, k3, k4, k5, k6⟩ pre post n t u h tk own hc hoff hF hP F9 N9
      clear lF' lN'
      dsimp only at hP
      dsimp only [kstB] at F9
      dsimp only [List.nil_append] at N9
      obtain ⟨ds, hlt, e0, e1, e2, e3⟩ := hP
      subst e0 e1 e2 e3
      obtain ⟨d, hd6, e4, hlen2⟩ := code_next hds hc
      subst e4
      clear hc
    case' done =>
      rintro ⟨k1, k2, k3, k4, k5, k6⟩ u h tk hF hP F9 N9
      clear lF' lN'
      dsimp only at hP
      dsimp only [kstB] at F9
      obtain ⟨ds, hlt, e0, e1, e2, e3⟩ := hP
      have e9 := map_al_inj hds hlt e0
      subst e9 e1 e2 e3
      clear e0
  k_steps
  dsimp only
  refine hret _ _ _ _ (by assumption) ?_
  exact ret _ _ _ fun b o e => Fr.keep (by assumption) b o (up.out b o e)
end
end
end Mine
-- M3
namespace Mine
noncomputable section
set_option maxRecDepth 100000
set_option maxHeartbeats 8000000

theorem cast_split {ns pre : List Nat} {n : Int} {post : List Int} (h : ns.map (fun (n : Nat) => (n : Int)) = pre.map (fun (n : Nat) => (n : Int)) ++ n :: post) : ∃ k : Nat, n = (k : Int) ∧ k ∈ ns := by
  have hm : n ∈ ns.map (fun (n : Nat) => (n : Int)) := by rw [h]; simp
  obtain ⟨k, hk, e⟩ := List.mem_map.mp hm
  exact ⟨k, e.symm, hk⟩
theorem cast_inj {ns pre : List Nat} (h : ns.map (fun (n : Nat) => (n : Int)) = pre.map (fun (n : Nat) => (n : Int))) : pre = ns := by
  have h1 := congrArg (List.map Int.toNat) h
  rw [List.map_map, List.map_map] at h1
  have e : ∀ l : List Nat, l.map (Int.toNat ∘ fun (n : Nat) => (n : Int)) = l := fun l => by
    conv => rhs; rw [← List.map_id l]
    exact List.map_congr_left fun d _ => rfl
  rw [e, e] at h1
  exact h1.symm
theorem num_state {b : Nat} {pre : List Nat} {k : Nat} {z : Int} (hz : z = ((num b pre * b + k : Nat) : Int)) :
    ∃ p1 : List Nat, pre.map (fun (n : Nat) => (n : Int)) ++ [(k : Int)] = p1.map (fun (n : Nat) => (n : Int)) ∧ z = ((num b p1 : Nat) : Int) :=
  ⟨pre ++ [k], by simp, by rw [num_snoc]; exact hz⟩

section
local macro_rules | `(tactic| walk_at "pyIter ref") => `(tactic| k_dflt k_extra "own iter")
local macro_rules | `(tactic| walk_at "InvEndN") => `(tactic| k_dflt k_extra "own end")
local macro_rules | `(tactic| walk_at "binaryOp Mult int int") => `(tactic| k_dflt k_extra "own mul")
local macro_rules | `(tactic| walk_at "binaryOp Add int int") => `(tactic| k_dflt k_extra "own add")
variable {w : World} {p : Program} {loose : List Str} {mean : ExcName → Option Value} {mg mb : Str → Option Value}
    {dp un : Nat} {gd : Option (List Code)} {cn : Str} {cs : Scope} {a : Addr} {ccd : Value} {cl : List (Str × Addr)} {outer : List Env} {A₀ : Around} {base h₀ : Heap} {L : Addr} {m : Str → Option Value} {s : Shared} {Q E : Value → Shared → Prop}

theorem number_call :
    ∀ (_ : Below A₀ base outer h₀) (_ : Fr h₀ L s.heap m) (_ : (Mine.hd.heap_39 w.params).In h₀) (_ : Top p loose mean mg mb h₀) (_ : cs.kind = .function) (_ : dp + 1 < recursionLimit) (_ : un + 8 < cLine)
    (l : Addr) (vs : List Value) (ns : List Nat) (b : Nat) (_ : s.heap.IsList l vs.toArray) (_ : IntsAre vs (ns.map fun (n : Nat) => (n : Int))) (_ : b < 2 ^ 60) (t : Tok)
    (_ : ∀ t h' tk', (∀ b o, s.heap.get? b = some o → h'.get? b = some o) → Q (.int ((num b ns : Nat) : Int) t) { s with heap := h', toks := tk' }),
    wpAny (model PySem.Challenge.rw_nb0042_01.row.prog w) (ktrTop dp un gd cn cs L a ccd cl outer) (call (.ref 122) [.ref l, .int (b : Int) t]) Q E s := by
  k_fill
  intro B F X T hk hd hu l vs ns b hl hi hb t ret
  refine' enterP (binds := [(Str.ofString "figures", Value.ref l), (Str.ofString "base", Value.int (b : Int) t)]) B F X T hk ?k6 ?k7 ?k8 ?k9 ?kB ?c2 ?c3 ?c4 ?c5 ?_
  case k6 => k_is
  case k7 => k_is
  case k8 => ktr_room
  case k9 => exact BindsTo.of_eq rfl
  case kB => exact locs rfl
  case c2 => exact rfl
  case c3 => exact rfl
  case c4 => exact rfl
  case c5 => decide
  intro g L' h₁ QK F' N' B' X' T' up hret
  clear F
  have hlg : g.IsList l vs.toArray := stays_list up.out hl
  k_with_none
  k_with "pyIter ref" => fail "x"
  k_with "own iter" =>
    rename IntsAre _ _ => hi
    rename Fr _ _ _ _ => lF'
    rename News _ _ _ _ => lN'
    refine' kst_list (σ := Int × Tok) (fun _ => []) (fun c => [(Str.ofString "number", .int c.1 c.2)]) (fun _ => True) []
      (fun pre c => ∃ p1 : List Nat, pre = p1.map (fun (n : Nat) => (n : Int)) ∧ c.1 = ((num b p1 : Nat) : Int)) (0, _) rfl hlg hi lF' ?kn trivial ?kk ?kp ?turn ?done
    case kn => exact News.nil
    case kk => kst_all
    case kp => exact ⟨[], rfl, rfl⟩
    case' turn =>
      rintro ⟨k1, k2⟩ pre post n t u h tk own hc hn hoff hF hP F9 N9
      clear lF' lN'
      dsimp only at hP
      dsimp only [kstB] at F9
      dsimp only [List.nil_append] at N9
      obtain ⟨p1, e0, e1⟩ := hP
      subst e0 e1
      obtain ⟨k, e2, hk2⟩ := cast_split hc
      subst e2
    case' done =>
      rintro ⟨k1, k2⟩ u h tk hF hP F9 N9
      clear lF' lN'
      dsimp only at hP
      dsimp only [kstB] at F9
      obtain ⟨p1, e0, e1⟩ := hP
      have e9 := cast_inj e0
      subst e9 e1
  k_with "own mul" =>
    refine' mul_to ((num b p1 * b : Nat) : Int) (IntMulOk.of_right (intBits_le_64 (by omega) (by omega))) (Int.natCast_mul _ _).symm ?_
  k_with "own add" =>
    refine' add_to ((num b p1 * b + k : Nat) : Int) (Int.natCast_add _ _).symm ?_
  k_with "own end" =>
    rename Fr _ _ _ _ => eF
    rename News _ _ _ _ => eN
    refine kst_end (_, _) eF eN (List.forall_mem_nil _) (fun p hp => hp) rfl trivial (by kst_all) (by kst_same) ?_
    dsimp only
    exact num_state rfl
  k_steps
  dsimp only
  refine hret _ _ _ _ (by assumption) ?_
  exact ret _ _ _ fun b o e => Fr.keep (by assumption) b o (up.out b o e)
end
end
end Mine
-- M4a
namespace Mine
noncomputable section
open PySem PySem.W PyProof.Rows PySem.Calls PySem.NumText
set_option maxRecDepth 100000
set_option maxHeartbeats 8000000

theorem parts16 : ∀ a, a < 16 → ∀ b, b < 16 → sign ([hexd a, hexd b].dropWhile blank) = (false, [hexd a, hexd b]) ∧ based 16 [hexd a, hexd b] = (16, false, [hexd a, hexd b]) ∧
    ([hexd a, hexd b].reverse.dropWhile blank).reverse = [hexd a, hexd b] ∧ digits? 16 [hexd a, hexd b] = some #[a, b] := by decide +kernel
theorem read16_eq {a b : Nat} (ha : a < 16) (hb : b < 16) : (int_private% "readNumeral") 0 16 [hexd a, hexd b] = (int_private% "Numeral.value") ((a * 16 + b : Nat) : Int) := by
  obtain ⟨e1, e2, e3, e4⟩ := parts16 a ha b hb
  rw [readNumeral_eq, e1]
  dsimp only
  rw [e2]
  dsimp only
  rw [e3, e4]
  have e : (0 * 16 + a) * 16 + b = a * 16 + b := by omega
  exact congrArg (fun n : Nat => (int_private% "Numeral.value") ((n : Nat) : Int)) e
theorem hexd_pos : ∀ d, d < 16 → hexd d ≠ 0 ∧ hexd d < 128 := by decide +kernel
theorem seen16 {a b : Nat} (ha : a < 16) (hb : b < 16) : numTextOf (ctxt [hexd a, hexd b]) = [hexd a, hexd b] ∧ numSeenOf (ctxt [hexd a, hexd b]) = [hexd a, hexd b] := by
  have h1 := hexd_pos a ha
  have h2 := hexd_pos b hb
  have e : numTextOf (ctxt [hexd a, hexd b]) = [hexd a, hexd b] := by
    unfold numTextOf
    rw [if_pos]
    · rfl
    · simp [ctxt, h1.2, h2.2]
  refine ⟨e, ?_⟩
  unfold numSeenOf
  rw [e]
  simp [h1.1, h2.1]

theorem wp_text16 {M : Model} {A : Around} {E : Value → Shared → Prop} {s : Shared} {Q : Value → Shared → Prop} {v : Value} {text : List Nat} {n : Int}
    (hs : (text.takeWhile (· != 0)).length ≤ 640) (hr : (int_private% "readNumeral") 0 16 (text.takeWhile (· != 0)) = (int_private% "Numeral.value") n)
    (ha : ((text.takeWhile (· != 0)).length == text.length) = true) (h : Q (.int n s.toks) { s with toks := s.toks + 1 }) :
    wpAny M A ((int_private% "intFromText") v text 16) Q E s := by
  obtain ⟨hp, g, d, tk, os⟩ := s
  repeat (any_goals (first
    | assumption
    | (with_reducible refine wpAny_ite_true (decide_eq_true hs) ?_)
    | (with_reducible refine wpAny_ite_true (decide_eq_true ha) ?_)
    | wp_step))
  all_goals (try rw [hr])
  all_goals (try dsimp only)
  repeat (any_goals (first
    | assumption
    | (with_reducible refine wpAny_ite_true (decide_eq_true hs) ?_)
    | (with_reducible refine wpAny_ite_true (decide_eq_true ha) ?_)
    | wp_step))

theorem gives_text16 {a b : Nat} {u u2 : Tok} (ha : a < 16) (hb : b < 16) : Gives (Builtin.«int.__new__» ⟨[.type "int", .str (ctxt [hexd a, hexd b]) u, .int 16 u2], []⟩) (.int ((a * 16 + b : Nat) : Int)) :=
  .of_wp fun M A E s Q h => by
    obtain ⟨hp, g, d, tk, os⟩ := s
    have f1 := F.conv_sub_int
    have f2 := F.madeHere_int
    have f6 : typeOf (.str (ctxt [hexd a, hexd b]) u) = pure (.type "str") := rfl
    obtain ⟨e1, e2⟩ := seen16 ha hb
    have hs : (numSeenOf (ctxt [hexd a, hexd b])).length ≤ 640 := by rw [e2]; exact Nat.le_of_ble_eq_true rfl
    have hr : (int_private% "readNumeral") 0 16 (numSeenOf (ctxt [hexd a, hexd b])) = (int_private% "Numeral.value") ((a * 16 + b : Nat) : Int) := by rw [e2]; exact read16_eq ha hb
    have hq : ((numSeenOf (ctxt [hexd a, hexd b])).length == (numTextOf (ctxt [hexd a, hexd b])).length) = true := by rw [e1, e2]; rfl
    have hk := KIN.Hid.mk (And.intro hs (And.intro hr hq))
    clear hs hr hq e1 e2 ha hb
    generalize hx : ctxt [hexd a, hexd b] = x at *
    repeat (any_goals (first
      | assumption
      | ((with_reducible show wpAny _ _ ((int_private% "intFromText") _ _ _) _ _ _); refine wp_text16 hk.out.1 hk.out.2.1 hk.out.2.2 ?_)
      | wp_step))
    all_goals exact ⟨_, rfl, h⟩
theorem typeCall_int_2 (a b : Value) : checkTypeCall "int" ⟨[a, b], []⟩ = pure () := by kernel_rfl
theorem newCall_int_2 (a b : Value) : checkBuiltinCall "int.__new__" ⟨[.type "int", a, b], []⟩ = pure () := by kernel_rfl
theorem args_init_3 (a b c : Value) : argsOk "object.__init__" ⟨[a, b, c], []⟩ := by unfold argsOk; kernel_rfl
theorem call_int16 {prog : Program} {w : World} {A : Around} {E : Value → Shared → Prop} {s : Shared} {Q : Value → Shared → Prop} {a b : Nat} {t u : Tok} (ha : a < 16) (hb : b < 16)
    (h : Q (.int ((a * 16 + b : Nat) : Int) s.toks) { s with toks := s.toks + 1 }) : wpAny (model prog w) A (call (.type "int") [.str (ctxt [hexd a, hexd b]) t, .int 16 u]) Q E s :=
  callType_new F.called_int F.newNe_int (typeCall_int_2 _ _) (newCall_int_2 _ _) (fun obj => args_init_3 obj _ _) F.entry_int_new (gives_text16 ha hb).meets (show (Made.int _).post _ s from ⟨rfl, h⟩)
end
end Mine
-- M4
namespace Mine
noncomputable section
set_option maxRecDepth 100000
set_option maxHeartbeats 8000000

/-! the reading of a q text, sign by sign -/
theorem qtext_at {row pre post : List Nat} {o c : Nat} {cs : List Nat} (e : row = pre ++ o :: post) (hq : qsign o = c :: cs) : (qtext row)[(qtext pre).length]? = some c := by
  subst e
  have e2 : qtext (pre ++ o :: post) = qtext pre ++ (c :: (cs ++ qtext post)) := by
    rw [qtext_append]
    show qtext pre ++ (qsign o ++ qtext post) = _
    rw [hq]; rfl
  rw [e2, List.getElem?_append_right (Nat.le_refl _)]
  simp
theorem qtext_lt {row pre post : List Nat} {o : Nat} (e : row = pre ++ o :: post) : (qtext row).length = (qtext pre).length + (qsign o).length + (qtext post).length ∧ 1 ≤ (qsign o).length := by
  subst e
  have e2 : qtext (pre ++ o :: post) = qtext pre ++ (qsign o ++ qtext post) := by rw [qtext_append]; rfl
  refine ⟨by rw [e2, List.length_append, List.length_append, Nat.add_assoc], ?_⟩
  unfold qsign; split
  · simp
  · split <;> simp
theorem qsign_us : qsign 32 = [95] := rfl
theorem qsign_st {o : Nat} (h : o ≠ 32) (hs : standsB o = true) : qsign o = [o] := by rw [qsign, if_neg h, if_pos hs]
theorem qsign_esc {o : Nat} (h : o ≠ 32) (hs : standsB o = false) : qsign o = [61, hexd (o / 16), hexd (o % 16)] := by rw [qsign, if_neg h, if_neg (by rw [hs]; exact Bool.false_ne_true)]
theorem stands_ne {o : Nat} (hs : standsB o = true) : o ≠ 95 ∧ o ≠ 61 := ⟨fun e => by subst e; exact absurd hs (by decide), fun e => by subst e; exact absurd hs (by decide)⟩
theorem qtext_cut {row pre post : List Nat} {o : Nat} (e : row = pre ++ o :: post) (h : o ≠ 32) (hs : standsB o = false) :
    ((qtext row).drop ((qtext pre).length + 1)).take 2 = [hexd (o / 16), hexd (o % 16)] := by
  subst e
  have e2 : qtext (pre ++ o :: post) = (qtext pre ++ [61]) ++ (hexd (o / 16) :: hexd (o % 16) :: qtext post) := by
    rw [qtext_append]
    show qtext pre ++ (qsign o ++ qtext post) = _
    rw [qsign_esc h hs]; simp
  rw [e2]
  have e3 : (qtext pre).length + 1 = (qtext pre ++ [61]).length := by simp
  rw [e3, List.drop_left]; rfl

/-! the emitting loop -/
theorem emit_start {pre : List Nat} {o : Nat} (ho : o < 256) : dig 64 (8 * pre.length / 6) (num 256 (pre ++ [o]) / 2 ^ (8 * pre.length % 6 + 8)) = full pre ∧ num 256 (pre ++ [o]) % 2 ^ (8 * pre.length % 6 + 8) = rest pre * 256 + o := by
  unfold full rest
  rw [num_snoc]
  rcases (show 8 * pre.length % 6 = 0 ∨ 8 * pre.length % 6 = 2 ∨ 8 * pre.length % 6 = 4 by omega) with h | h | h
  · rw [h]; exact ⟨by congr 1; omega, by omega⟩
  · rw [h]; exact ⟨by congr 1; omega, by omega⟩
  · rw [h]; exact ⟨by congr 1; omega, by omega⟩
theorem emit_div {N z : Nat} (h : 6 ≤ z) (hz : z ≤ 12) : (N % 2 ^ z) / 2 ^ (z - 6) = N / 2 ^ (z - 6) % 64 := by
  have : z = (z - 6) + 6 := by omega
  conv => lhs; rw [this, Nat.pow_add]
  rw [Nat.add_sub_cancel, Nat.mod_mul_right_div_self]
theorem emit_mod {N z : Nat} (h : 6 ≤ z) : (N % 2 ^ z) % 2 ^ (z - 6) = N % 2 ^ (z - 6) := Nat.mod_mod_of_dvd _ (Nat.pow_dvd_pow 2 (by omega))
theorem emit_next {N z q : Nat} (h : 6 ≤ z) : dig 64 (q + 1) (N / 2 ^ (z - 6)) = dig 64 q (N / 2 ^ z) ++ [N / 2 ^ (z - 6) % 64] := by
  rw [dig, Nat.div_div_eq_div_mul]
  have e : 2 ^ (z - 6) * 64 = 2 ^ z := by
    have : z = (z - 6) + 6 := by omega
    conv => rhs; rw [this, Nat.pow_add]
  rw [e]
theorem emit_done {pre : List Nat} {o z q : Nat} (h : 6 * q + z = 8 * (pre.length + 1)) (hz : z < 6) :
    dig 64 q (num 256 (pre ++ [o]) / 2 ^ z) = full (pre ++ [o]) ∧ num 256 (pre ++ [o]) % 2 ^ z = rest (pre ++ [o]) ∧ z = 8 * (pre.length + 1) % 6 := by
  have e1 : z = 8 * (pre.length + 1) % 6 := by omega
  have e2 : q = 8 * (pre.length + 1) / 6 := by omega
  unfold full rest
  rw [List.length_append, List.length_singleton, ← e1, ← e2]
  exact ⟨rfl, rfl, rfl⟩
theorem full_length (os : List Nat) : (full os).length = 8 * os.length / 6 := dig_length _ _ _
theorem item_alpha {d : Nat} (h : d < 64) : Txt.item alphaS (d : Int) = ctxt [al d] := by
  rw [alphaS_eq]; exact item_ctxt (al_at d h)
theorem alphaS_length : alphaS.length = 64 := by rw [alphaS_eq]; rfl
theorem alpha_in {d : Nat} (h : d < 64) : (d : Int) < (alphaS.length : Nat) := by rw [alphaS_length]; omega
theorem alpha_fits : alphaS.length ≤ sizeLine := by rw [alphaS_length, sizeLine_eq]; omega

theorem mul_eqs {k : Nat} : Txt.mul (Str.ofString "=") (k : Int) = ctxt (List.replicate k 61) := by
  refine Str.ext' (Array.toList_inj.mp ?_)
  rw [eq_eq]
  exact (mul_one_list 61 (k : Int)).trans (by simp [ctxt])
theorem muls_to {prog : Program} {w : World} {A : Around} {E : Value → Shared → Prop} {s : Shared} {Q : Value → Shared → Prop} {t u : Tok} {k : Nat} (hk : k ≤ 4) (h : ∀ t' tk, Q (.str (ctxt (List.replicate k 61)) t') { s with toks := tk }) :
    wpAny (model prog w) A (binaryOp .Mult (.str (Str.ofString "=") t) (.int (k : Int) u)) Q E s := by
  rw [← mul_eqs] at h
  exact SB.mul (mulOk_of 16 1048576 (by decide) (by omega) (by omega) (by decide) (by decide)) h
theorem kinds3 {row pre post : List Nat} {o : Nat} (erow : row = pre ++ o :: post) :
    (Txt.item (ctxt (qtext row)) ((qtext pre).length : Int) = ctxt [95] ∧ (qsign o).length = 1 ∧ o = 32) ∨
    (Txt.item (ctxt (qtext row)) ((qtext pre).length : Int) = ctxt [o] ∧ (qsign o).length = 1 ∧ o ≠ 95 ∧ o ≠ 61) ∨
    (Txt.item (ctxt (qtext row)) ((qtext pre).length : Int) = ctxt [61] ∧ (qsign o).length = 3 ∧ Txt.slice (ctxt (qtext row)) (some ((qtext pre).length + 1)) (some ((qtext pre).length + 3)) = ctxt [hexd (o / 16), hexd (o % 16)]) := by
  obtain ⟨hl, _⟩ := qtext_lt erow
  by_cases h : o = 32
  · have hq : qsign o = [95] := by rw [h]; rfl
    exact .inl ⟨item_ctxt (qtext_at erow hq), by rw [hq]; rfl, h⟩
  · cases hs : standsB o
    · have hq := qsign_esc h hs
      refine .inr (.inr ⟨item_ctxt (qtext_at erow hq), by rw [hq]; rfl, slice_ctxt (by omega) (by omega) ?_ ?_⟩)
      · rw [hl, hq]; simp; omega
      · have e1 : (((qtext pre).length : Int) + 1).toNat = (qtext pre).length + 1 := by omega
        have e2 : (((qtext pre).length : Int) + 3 - (((qtext pre).length : Int) + 1)).toNat = 2 := by omega
        rw [e1, e2]
        exact qtext_cut erow h hs
    · have hq := qsign_st h hs
      exact .inr (.inl ⟨item_ctxt (qtext_at erow hq), by rw [hq]; rfl, stands_ne hs⟩)
theorem qlen_snoc (pre : List Nat) (o : Nat) : (qtext (pre ++ [o])).length = (qtext pre).length + (qsign o).length := by rw [qtext_append, qtext_one, List.length_append]
theorem told_next {N z q : Nat} (h : 6 ≤ z) : ctxt ((dig 64 q (N / 2 ^ z)).map al) ++ ctxt [al (N / 2 ^ (z - 6) % 64)] = ctxt ((dig 64 (q + 1) (N / 2 ^ (z - 6))).map al) := by
  rw [emit_next h, List.map_append, ctxt_append]; rfl
theorem told_len {N q : Nat} {y : Str} (h : q ≤ 3000) (hy : y.length ≤ 10) : (ctxt ((dig 64 q N).map al)).length + y.length ≤ sizeLine := by
  rw [ctxt_length, List.length_map, dig_length, sizeLine_eq]; omega
theorem last_told {row : List Nat} (h : 8 * row.length % 6 ≠ 0) : ctxt ((full row).map al) ++ ctxt [al (rest row * 2 ^ (6 - 8 * row.length % 6))] = ctxt ((core row).map al) := by
  rw [core_full, if_neg h, List.map_append, ctxt_append]; rfl
theorem last_lt {row : List Nat} (h : 8 * row.length % 6 ≠ 0) : rest row * 2 ^ (6 - 8 * row.length % 6) < 64 := by
  have h1 := rest_lt row
  rcases (show 8 * row.length % 6 = 2 ∨ 8 * row.length % 6 = 4 by omega) with e | e <;> rw [e] at h1 ⊢ <;> omega
theorem core_zero {row : List Nat} (h : 8 * row.length % 6 = 0) : ctxt ((full row).map al) = ctxt ((core row).map al) := by
  rw [core_full, if_pos h, List.append_nil]
theorem pad_mod (n : Nat) : Int.fmod (-(n : Int)) 4 = (((4 - n % 4) % 4 : Nat) : Int) := by
  rw [Int.fmod_eq_emod_of_nonneg _ (by omega)]; omega

theorem rest_small (row : List Nat) : rest row < 16 := by
  have h := rest_lt row
  rcases (show 8 * row.length % 6 = 0 ∨ 8 * row.length % 6 = 2 ∨ 8 * row.length % 6 = 4 by omega) with e | e | e <;> rw [e] at h <;> omega
theorem last_mul {k n : Nat} : (k : Int) * 2 ^ (6 - ((8 * n % 6 : Nat) : Int)).toNat = ((k * 2 ^ (6 - 8 * n % 6) : Nat) : Int) := by
  have e : (6 - ((8 * n % 6 : Nat) : Int)).toNat = 6 - 8 * n % 6 := by omega
  rw [e, Int.natCast_mul, pow2_cast]

section
local macro_rules | `(tactic| walk_at "callWith ref") => `(tactic| k_dflt k_extra "own cw")
local macro_rules | `(tactic| walk_at "And") => `(tactic| k_dflt k_extra "own and")
local macro_rules | `(tactic| walk_at "call builtin:len") => `(tactic| k_dflt k_extra "own len")
local macro_rules | `(tactic| walk_at "binaryOp Mult str int") => `(tactic| k_dflt k_extra "own muls")
local macro_rules | `(tactic| walk_at "binaryOp Mult int int") => `(tactic| k_dflt k_extra "own mul")
local macro_rules | `(tactic| walk_at "exec While Compare cons nil") => `(tactic| k_dflt k_extra "own while")
local macro_rules | `(tactic| walk_at "KswEnd") => `(tactic| k_dflt k_extra "own end")
local macro_rules | `(tactic| walk_at "subscriptTail") => `(tactic| k_dflt k_extra "own item")
local macro_rules | `(tactic| walk_at "subscriptTail Name Name str int") => `(tactic| k_dflt k_extra "own item")
local macro_rules | `(tactic| walk_at "subscriptTail Call") => `(tactic| k_dflt k_extra "own item")
local macro_rules | `(tactic| walk_at "subscriptTail Name Slice str ref") => `(tactic| k_dflt k_extra "own item")
local macro_rules | `(tactic| walk_at "compareOp Eq str str") => `(tactic| k_dflt k_extra "own eqs")
local macro_rules | `(tactic| walk_at "call type:int") => `(tactic| k_dflt k_extra "own int")
local macro_rules | `(tactic| walk_at "call builtin:ord") => `(tactic| k_dflt k_extra "own ord")
local macro_rules | `(tactic| walk_at "binaryOp FloorDiv int int") => `(tactic| k_dflt k_extra "own fdiv")
local macro_rules | `(tactic| walk_at "binaryOp Mod int int") => `(tactic| k_dflt k_extra "own mod")
local macro_rules | `(tactic| walk_at "binaryOp Add int int") => `(tactic| k_dflt k_extra "own add")
local macro_rules | `(tactic| walk_at "inplaceOp Add int int") => `(tactic| k_dflt k_extra "own iadd")
local macro_rules | `(tactic| walk_at "inplaceOp Sub int int") => `(tactic| k_dflt k_extra "own isub")
local macro_rules | `(tactic| walk_at "inplaceOp Add str str") => `(tactic| k_dflt k_extra "own iadds")
local macro_rules | `(tactic| walk_at "binaryOp Add str str") => `(tactic| k_dflt k_extra "own adds")
local macro_rules | `(tactic| walk_at "call ref") => `(tactic| k_dflt k_extra "own call")
variable {w : World} {p : Program} {loose : List Str} {mean : ExcName → Option Value} {mg mb : Str → Option Value}
    {dp un : Nat} {gd : Option (List Code)} {cn : Str} {cs : Scope} {a : Addr} {ccd : Value} {cl : List (Str × Addr)} {outer : List Env} {A₀ : Around} {base h₀ : Heap} {L : Addr} {m : Str → Option Value} {s : Shared} {Q E : Value → Shared → Prop}

theorem bofq_call :
    ∀ (_ : Below A₀ base outer h₀) (_ : Fr h₀ L s.heap m) (_ : (Mine.hd.heap_39 w.params).In h₀) (_ : Top p loose mean mg mb h₀) (_ : cs.kind = .function) (_ : dp + 2 < recursionLimit) (_ : un + 16 < cLine)
    (row : List Nat) (_ : ∀ o ∈ row, o < 256) (_ : row.length ≤ 1000) (t : Tok)
    (_ : ∀ t h' tk', (∀ b o, s.heap.get? b = some o → h'.get? b = some o) → Q (.str (ctxt ((core row).map al ++ List.replicate ((4 - sixes row.length % 4) % 4) 61)) t) { s with heap := h', toks := tk' }),
    wpAny (model PySem.Challenge.rw_nb0042_01.row.prog w) (ktrTop dp un gd cn cs L a ccd cl outer) (call (.ref 115) [.str (ctxt (qtext row)) t]) Q E s := by
  k_fill
  intro B F X T hk hd hu row hrow hlen t ret
  refine' enterP (binds := [(Str.ofString "text", Value.str (ctxt (qtext row)) t)]) B F X T hk ?k6 ?k7 ?k8 ?k9 ?kB ?c2 ?c3 ?c4 ?c5 ?_
  case k6 => k_is
  case k7 => k_is
  case k8 => ktr_room
  case k9 => exact BindsTo.of_eq rfl
  case kB => exact locs rfl
  case c2 => exact rfl
  case c3 => exact rfl
  case c4 => exact rfl
  case c5 => decide
  intro g L' h₁ QK F' N' B' X' T' up hret
  clear F
  have hTl : (ctxt (qtext row)).length = (qtext row).length := ctxt_length _
  have hTm : (qtext row).length ≤ 3 * row.length := qtext_length row
  have hTs : (ctxt (qtext row)).length ≤ sizeLine := by rw [sizeLine_eq]; omega
  k_with_none
  k_with "own cw" =>
    rename Fr _ _ _ _ => lF'
    refine' callWith_K0 (Frag.In.keeps X' (Fr.keep lF')) ?k2 ?_
    case k2 => k_is
  k_with "own call" =>
    rename Fr _ _ _ _ => lF'
    rename News _ _ _ _ => lN'
    refine' alphabet_call ?k1 lF' ?k3 ?k4 ?k5 ?k6 ?k7 ?_
    case k1 => k_asm
    case k3 => k_asm
    case k4 => k_asm
    case k5 => rfl
    case k6 => ktr_room
    case k7 => ktr_units
    intro t9 h9 tk9 hk9
    have F9 := Fr.keeps lF' hk9
    have N9 := News.grown lN' hk9
    clear lF' lN'
    try dsimp only
  k_with "own while" =>
    with_reducible show wpAny _ _ (exec (Stmt.While (Expr.Compare (Expr.Name (Str.ofString "place") _) _ _ _) _ _ _) _) _ _ _
    rename Fr _ _ _ _ => lF'
    rename News _ _ _ _ => lN'
    refine' ksw_while (σ := Int × Tok × Int × Tok × Int × Tok × Str × Tok) (fun _ => []) (fun c => [(Str.ofString "kept", .int c.1 c.2.1), (Str.ofString "size", .int c.2.2.1 c.2.2.2.1), (Str.ofString "place", .int c.2.2.2.2.1 c.2.2.2.2.2.1), (Str.ofString "told", .str c.2.2.2.2.2.2.1 c.2.2.2.2.2.2.2)]) (fun _ => True) [Str.ofString "octet"]
      (fun c => ∃ pre post : List Nat, row = pre ++ post ∧ c.1 = (rest pre : Int) ∧ c.2.2.1 = ((8 * pre.length % 6 : Nat) : Int) ∧ c.2.2.2.2.1 = ((qtext pre).length : Int) ∧ c.2.2.2.2.2.2.1 = ctxt ((full pre).map al))
      (fun c => (qtext row).length - c.2.2.2.2.1.toNat) (0, _, 0, _, 0, _, Str.ofString "", _) lF' ?kn trivial ?kk ?kp ?turn
    case kn => exact News.nil
    case kk => kst_all
    case kp => exact ⟨[], row, rfl, rfl, rfl, rfl, rfl⟩
    case' turn =>
      rintro ⟨k1, k2, k3, k4, k5, k6, k7, k8⟩ u h tk hF hP F9 N9
      clear lF' lN'
      dsimp only at hP
      dsimp only [kstB] at F9
      obtain ⟨pre, post, erow, e1, e2, e3, e4⟩ := hP
      subst e1 e2 e3 e4
      rcases post with _ | ⟨o, post⟩
      case' nil =>
        have erow2 : row = pre := by rw [erow, List.append_nil]
        subst erow2
        have hrs := rest_small row
      case' cons =>
        have ho : o < 256 := hrow o (by rw [erow]; simp)
        have hplen : pre.length + 1 ≤ row.length := by rw [erow]; simp
        obtain ⟨hl1, hl2⟩ := qtext_lt erow
        have hplt : ((qtext pre).length : Int) < ((ctxt (qtext row)).length : Nat) := by rw [hTl]; omega
        have hql := qlen_snoc pre o
        rcases kinds3 erow with ⟨hit, hqs, hk3⟩ | ⟨hit, hqs, hk3⟩ | ⟨hit, hqs, hk3⟩
  k_with "own while" =>
    with_reducible show wpAny _ _ (exec (Stmt.While (Expr.Compare (Expr.Name (Str.ofString "size") _) _ _ _) _ _ _) _) _ _ _
    rename Fr _ _ _ _ => lF'
    rename News _ _ _ _ => lN'
    refine' ksw_while (σ := Int × Tok × Int × Tok × Str × Tok) (fun _ => []) (fun c => [(Str.ofString "kept", .int c.1 c.2.1), (Str.ofString "size", .int c.2.2.1 c.2.2.2.1), (Str.ofString "told", .str c.2.2.2.2.1 c.2.2.2.2.2)]) (fun _ => True) []
      (fun c => ∃ q z : Nat, 6 * q + z = 8 * (pre.length + 1) ∧ z ≤ 12 ∧ c.1 = ((num 256 (pre ++ [o]) % 2 ^ z : Nat) : Int) ∧ c.2.2.1 = (z : Int) ∧ c.2.2.2.2.1 = ctxt ((dig 64 q (num 256 (pre ++ [o]) / 2 ^ z)).map al))
      (fun c => c.2.2.1.toNat) (_, _, _, _, _, _) lF' ?kn trivial ?kk ?kp ?_
    case kn => exact News.nil
    case kk => kst_all
    case kp => exact ⟨8 * pre.length / 6, 8 * pre.length % 6 + 8, by omega, by omega, by rw [(emit_start ho).2], rfl, by rw [(emit_start ho).1]⟩
    rintro ⟨k1, k2, k3, k4, k5, k6⟩ u9 h tk hF hP F9 N9
    clear lF' lN'
    dsimp only at hP
    dsimp only [kstB] at F9
    obtain ⟨q, z, hqz, hz, e1, e2, e3⟩ := hP
    subst e1 e2 e3
  k_with "own item" =>
    refine' item_to _ hit (Int.natCast_nonneg _) hplt hTs ?_ subs_Name go_Name
  k_with "own item" =>
    with_reducible show wpAny _ _ (subscriptTail _ _ (Value.str _ _) (Value.ref _)) _ _ _
    rename Fr _ _ _ _ => lF'
    rename News _ _ _ _ => lN'
    refine' slice_to (s := ⟨_, _, _, _, _⟩) _ hk3 lF' lN' hTs ?_
    clear lF' lN'
    intro h9 t9 tk9 F9 N9
  k_with "own item" =>
    guard_hyp hdg
    refine' item_to _ (item_alpha hdg) (Int.natCast_nonneg _) (alpha_in hdg) alpha_fits ?_ subs_BinOp go_Call
  k_with "own eqs" =>
    first
      | (refine' eqs_to true (by rw [us_eq, ctxt_beq]; decide) ?_)
      | (refine' eqs_to true (by rw [eq_eq, ctxt_beq]; decide) ?_)
      | (refine' eqs_to false (by rw [us_eq, ctxt_beq]; first | decide | exact decide_eq_false (fun e => hk3.1 (List.cons.inj e).1)) ?_)
      | (refine' eqs_to false (by rw [eq_eq, ctxt_beq]; first | decide | exact decide_eq_false (fun e => hk3.2 (List.cons.inj e).1)) ?_)
  k_with "own int" =>
    refine' call_int16 (a := o / 16) (b := o % 16) (by omega) (by omega) ?_
  k_with "own ord" =>
    refine' P.ord_of_char ?_
  k_with "own add" =>
    with_reducible show wpAny _ _ (binaryOp _ (Value.int (_ * 256) _) _) _ _ _
    refine' add_to ((rest pre * 256 + o : Nat) : Int) (by omega) ?_
  k_with "own iadd" =>
    with_reducible show wpAny _ _ (inplaceOp _ _ (Value.int 8 _)) _ _ _
    refine' iadd_to ((8 * pre.length % 6 + 8 : Nat) : Int) (by omega) ?_
  k_with "own isub" =>
    have h6 : 6 ≤ z := by omega
    refine' isub_to ((z - 6 : Nat) : Int) (by omega) ?_
  k_with "own fdiv" =>
    have hdg : num 256 (pre ++ [o]) / 2 ^ (z - 6) % 64 < 64 := Nat.mod_lt _ (by decide)
    refine' fdiv_to ((num 256 (pre ++ [o]) / 2 ^ (z - 6) % 64 : Nat) : Int) (pow2_ne _) (no_py (by omega) (by omega)) ?_ ?_
    · rw [Int.toNat_natCast, pow2_cast, fdiv_nat, emit_div h6 hz]
  k_with "own mod" =>
    refine' mod_to ((num 256 (pre ++ [o]) % 2 ^ (z - 6) : Nat) : Int) (pow2_ne _) ?_ ?_
    · rw [Int.toNat_natCast, pow2_cast, fmod_nat, emit_mod h6]
  k_with "own iadds" =>
    refine' iadds_to (told_next h6) (told_len (by omega) (by rw [ctxt_length]; exact Nat.le_of_ble_eq_true rfl)) ?_
    intro _ _
  k_with "own end" =>
    guard_hyp h6
    rename Fr _ _ _ _ => eF
    rename News _ _ _ _ => eN
    refine ksw_end (_, _, _, _, _, _) eF eN (List.forall_mem_nil _) trivial (by kst_all) (by ksw_same) ⟨q + 1, z - 6, by omega, by omega, rfl, rfl, rfl⟩ ?_
    dsimp only
    rw [Int.toNat_natCast, Int.toNat_natCast]
    exact Nat.sub_lt (by omega) (by decide)
  k_with "own end" =>
    fail_if_success guard_hyp h6
    have hd9 := emit_done (o := o) hqz (by omega)
    rename Fr _ _ _ _ => eF
    rename News _ _ _ _ => eN
    refine ksw_end (_, _, _, _, _, _, _, _) eF eN (List.forall_mem_nil _) trivial (by kst_all) (by ksw_same) ⟨pre ++ [o], post, ?_, ?_, ?_, ?_, ?_⟩ ?_
    · rw [erow]; simp
    · dsimp only; rw [hd9.2.1]
    · dsimp only; rw [hd9.2.2, List.length_append]; rfl
    · dsimp only; omega
    · dsimp only; rw [hd9.1]
    · dsimp only; omega
  k_with "own mul" =>
    guard_hyp hrs
    have hr0 : 8 * row.length % 6 ≠ 0 := by omega
    have hdg := last_lt hr0
    refine' mul_to ((rest row * 2 ^ (6 - 8 * row.length % 6) : Nat) : Int) (IntMulOk.of_left (intBits_le_64 (by omega) (by omega))) last_mul ?_
  k_with "own iadds" =>
    guard_hyp hrs
    refine' iadds_to (last_told hr0) (told_len (by omega) (by rw [ctxt_length]; exact Nat.le_of_ble_eq_true rfl)) ?_
    intro _ _
  k_with "own len" =>
    guard_hyp hr0
    refine' len_to (sixes row.length) (by rw [ctxt_length, List.length_map, core_length]) (by unfold sixes; omega) ?_
    intro _ _
  k_with "own len" =>
    guard_hyp hrs
    fail_if_success guard_hyp hr0
    with_reducible show wpAny _ _ (call _ [Value.str (ctxt (List.map _ _)) _]) _ _ _
    have hr1 : 8 * row.length % 6 = 0 := by omega
    rw [core_zero hr1]
    refine' len_to (sixes row.length) (by rw [ctxt_length, List.length_map, core_length]) (by unfold sixes; omega) ?_
    intro _ _
  k_with "own mod" =>
    guard_hyp hrs
    refine' mod_to (((4 - sixes row.length % 4) % 4 : Nat) : Int) (by decide) (pad_mod _) ?_
  k_with "own muls" =>
    refine' muls_to (k := (4 - sixes row.length % 4) % 4) (by omega) ?_
    intro _ _
  k_with "own adds" =>
    guard_hyp hrs
    refine' adds_to (z := ctxt ((core row).map al ++ List.replicate ((4 - sixes row.length % 4) % 4) 61)) ?_ ?_ ?_
    · first
        | exact ctxt_append _ _
        | (rw [core_zero (by omega)]; exact ctxt_append _ _)
    · rw [ctxt_length, ctxt_length, List.length_map, List.length_replicate, sizeLine_eq]
      first
        | (rw [core_length]; unfold sixes; omega)
        | (rw [full_length]; omega)
    intro _ _
  k_steps
  all_goals dsimp only
  all_goals (refine hret _ _ _ _ (by assumption) ?_)
  all_goals (exact ret _ _ _ fun b o e => Fr.keep (by assumption) b o (up.out b o e))
end
end
end Mine
-- M5a
namespace Mine
noncomputable section
open PySem PySem.W PyProof.Rows PySem.Calls PySem.Builtin PySem.Builtin.Str
set_option maxRecDepth 100000
set_option maxHeartbeats 2000000
theorem mem_of_lookup {α β : Type} [BEq α] [LawfulBEq α] {a : α} {b : β} : ∀ {l : List (α × β)}, l.lookup a = some b → (a, b) ∈ l
  | [], h => by cases h
  | (c, d) :: r, h => by
    rw [List.lookup_cons] at h
    split at h
    · rename_i e
      rw [eq_of_beq e]
      cases h
      exact List.mem_cons_self
    · exact List.mem_cons_of_mem _ (mem_of_lookup h)
section
variable {prog : Program} {w : World} {A : Around} {E : Value → Shared → Prop} {s : Shared}
theorem lookup_text {l : Addr} {vs : List Value} {c : Nat} {x : PySem.Str} {tx : Tok} {Q : Mapped → Shared → Prop} (hl : s.heap.IsList l vs.toArray) (hc : c < 1000) (hx : vs[c]? = some (.str x tx))
    (h : ∀ k, Q (.text x) { s with toks := k }) : wpAny (model prog w) A (tableLookup (.ref l) c) Q E s := by
  unfold tableLookup
  refine wpAny_bind (wpAny_attempt (wpAny_bind (wpAny_mkInt ?_)))
  refine wpAny_getItem_list hl (by omega) (by omega) (by simpa using hx) ?_
  dsimp only
  refine wpAny_bind (wpAny_of_eq (a := none) rfl ?_)
  dsimp only
  refine wpAny_bind (wpAny_of_eq (a := some x) rfl ?_)
  exact wpAny_pure (h _)

theorem tr_wp {l : Addr} {vs : List Value} {tr : Nat → List Nat} {x : PySem.Str} {t : Tok} {R : Result → Shared → Prop} (hl : s.heap.IsList l vs.toArray)
    (hv : ∀ c ∈ x.cps.toList, c < 1000 ∧ ∃ tk, vs[c]? = some (.str (ctxt (tr c)) tk)) (hne : x.length ≠ 0) (hsz : (x.cps.toList.flatMap tr).length ≤ sizeLine)
    (h : ∀ t' k, R (.ok (.ret (.str (ctxt (x.cps.toList.flatMap tr)) t'))) { s with toks := k }) :
    wpAny (model prog w) A (Builtin.«str.translate» ⟨[.str x t, .ref l], []⟩) (fun fin s' => match fin with | .done f => R (.ok f) s' | .again _ => False) E s := by
  unfold Builtin.«str.translate»
  refine wpAny_bind (wpAny_of_eq (a := (.str x t, x, .ref l)) rfl ?_)
  dsimp only
  rw [if_neg (by simpa using hne)]
  refine wpAny_bind (wpAny_forIn_array' _ (fun rest b s' => ∃ pre, x.cps.toList = pre ++ rest ∧ (b.1.reverse.foldl (fun acc p => acc ++ p.cps) #[]).toList = pre.flatMap tr ∧ b.2.1 = (pre.flatMap tr).length ∧ b.2.2.2.2 = false ∧
    (∀ q ∈ b.2.2.2.1, ∃ d, q.2 = some d ∧ tr q.1 = [d]) ∧ ∃ k, s' = { s with toks := k }) _ ?_ ?_ _ _ ?_)
  · rintro c rest ⟨ps, tot, fast, known, ad⟩ s' ⟨pre, he, hp, ht, had, hkn, k, rfl⟩
    dsimp only at hp ht had hkn
    subst had ht
    obtain ⟨hc, tk, hx⟩ := hv c (by rw [he]; simp)
    have hfit : ¬ (tooLong (pre.flatMap tr).length = true) := by
      have : (pre.flatMap tr).length ≤ (x.cps.toList.flatMap tr).length := by rw [he, List.flatMap_append, List.length_append]; omega
      simp only [tooLong, decide_eq_true_eq]; omega
    have hnext : ∀ (t9 : PySem.Str) (n : Nat), t9 = ctxt (tr c) → n = (tr c).length → ((t9 :: ps).reverse.foldl (fun acc p => acc ++ p.cps) #[]).toList = (pre ++ [c]).flatMap tr ∧ (pre.flatMap tr).length + n = ((pre ++ [c]).flatMap tr).length := by
      rintro _ _ rfl rfl
      refine ⟨?_, by simp⟩
      rw [List.reverse_cons, List.foldl_append, List.foldl_cons, List.foldl_nil, Array.toList_append, hp]
      simp [ctxt]
    have slow : ∀ (known' : List (Nat × Option Nat)) (k : Nat), (∀ q ∈ known', ∃ d, q.2 = some d ∧ tr q.1 = [d]) → wpAny (model prog w) A (do
        let r ← tableLookup (.ref l) c
        match r with
          | Mapped.keep => pure (ForInStep.yield ((⟨#[c]⟩ : PySem.Str) :: ps, (pre.flatMap tr).length + 1, false, known', false))
          | Mapped.drop => pure (ForInStep.yield (ps, (pre.flatMap tr).length, false, known', true))
          | Mapped.char d => pure (ForInStep.yield ((⟨#[d]⟩ : PySem.Str) :: ps, (pre.flatMap tr).length + 1, false, known', false))
          | Mapped.text t => pure (ForInStep.yield (t :: ps, (pre.flatMap tr).length + t.length, false, known', false)))
        (fun r s' => match r with
          | .yield b' => ∃ pre, x.cps.toList = pre ++ rest ∧ (b'.1.reverse.foldl (fun acc p => acc ++ p.cps) #[]).toList = pre.flatMap tr ∧ b'.2.1 = (pre.flatMap tr).length ∧ b'.2.2.2.2 = false ∧ (∀ q ∈ b'.2.2.2.1, ∃ d, q.2 = some d ∧ tr q.1 = [d]) ∧ ∃ k, s' = { s with toks := k }
          | .done _ => False) E { s with toks := k } := by
      intro known' k hkn'
      refine wpAny_bind (lookup_text hl hc hx fun k2 => ?_)
      obtain ⟨h1, h2⟩ := hnext (ctxt (tr c)) _ rfl (ctxt_length _)
      exact wpAny_pure ⟨pre ++ [c], by rw [he]; simp, h1, h2, rfl, hkn', k2, rfl⟩
    rw [if_neg hfit]
    cases fast with
    | false =>
      rw [if_neg Bool.false_ne_true, if_neg Bool.false_ne_true]
      exact wpAny_mono (slow known k hkn) (fun r s' hr => by cases r <;> first | exact hr | exact hr.elim) fun _ _ x => x
    | true =>
      rw [if_pos rfl]
      cases hlk : known.lookup c with
      | some a =>
        obtain ⟨d, e1, e2⟩ := hkn (c, a) (mem_of_lookup hlk)
        dsimp only at e1 e2
        subst e1
        refine wpAny_bind (wpAny_pure ?_)
        obtain ⟨h1, h2⟩ := hnext ⟨#[d]⟩ 1 (by rw [e2]; rfl) (by rw [e2]; rfl)
        exact wpAny_pure ⟨pre ++ [c], by rw [he]; simp, h1, h2, rfl, hkn, k, rfl⟩
      | none =>
        refine wpAny_bind (lookup_text hl hc hx fun k2 => ?_)
        dsimp only
        by_cases ht : ((ctxt (tr c)).length == 1 && (ctxt (tr c)).cps.all fun x => decide (x < 128)) = true
        · rw [if_pos ht]
          have hl1 : (tr c).length = 1 := by
            have := (Bool.and_eq_true_iff.mp ht).1
            rw [ctxt_length] at this
            simpa using this
          obtain ⟨d, e2⟩ := List.length_eq_one_iff.mp hl1
          have e3 : (ctxt (tr c)).cps[0]? = some d := by rw [e2]; rfl
          rw [e3]
          refine wpAny_bind (wpAny_pure ?_)
          obtain ⟨h1, h2⟩ := hnext ⟨#[d]⟩ 1 (by rw [e2]; rfl) (by rw [e2]; rfl)
          refine wpAny_pure ⟨pre ++ [c], by rw [he]; simp, h1, h2, rfl, ?_, k2, rfl⟩
          intro q hq
          rcases List.mem_cons.mp hq with rfl | hq
          · exact ⟨d, rfl, e2⟩
          · exact hkn q hq
        · rw [if_neg ht]
          refine wpAny_bind (wpAny_pure ?_)
          refine wpAny_bind (wpAny_rule ?_)
          rw [if_neg Bool.false_ne_true]
          exact wpAny_mono (slow known k2 hkn) (fun r s' hr => by cases r <;> first | exact hr | exact hr.elim) fun _ _ x => x
  · rintro ⟨ps, tot, fast, known, ad⟩ s' ⟨pre, he, hp, ht, _, _, k, rfl⟩
    dsimp only at hp ht
    rw [List.append_nil] at he
    subst ht
    have hfit : ¬ (tooLong (pre.flatMap tr).length = true) := by
      rw [← he]
      simp only [tooLong, decide_eq_true_eq]; omega
    dsimp only
    rw [if_neg hfit]
    have e : (⟨ps.reverse.foldl (fun acc p => acc ++ p.cps) #[]⟩ : PySem.Str) = ctxt (x.cps.toList.flatMap tr) := by
      refine PySem.Str.ext' (Array.toList_inj.mp ?_)
      rw [he]
      exact hp.trans (by simp [ctxt])
    rw [e]
    exact wpAny_bind (wpAny_mkStr (wpAny_pure (h _ _)) (by rw [ctxt_length]; exact hsz))
  · exact ⟨[], rfl, rfl, rfl, rfl, (fun q hq => by cases hq), s.toks, rfl⟩
end
theorem latin_loop {b : Array UInt8} (hb : b.size ≤ sizeLine) {f : Nat → Nat × Array Nat × _codecs.Faults → Sem (ForInStep (Nat × Array Nat × _codecs.Faults))}
    (hf : ∀ x i out st, i < b.size → out.size ≤ sizeLine → f x (i, out, st) = pure (ForInStep.yield (i + 1, out ++ #[(b.getD i 0).toNat], st))) (st : _codecs.Faults) :
    ∀ k i out, i + k = b.size → out.toList = (b.toList.take i).map (fun c => c.toNat) → forIn (List.range' i k) (i, out, st) f = pure (b.size, b.map (fun c => c.toNat), st) := by
  intro k
  induction k with
  | zero =>
    intro i out hi ho
    have hi' : i = b.size := by omega
    subst hi'
    have e : out = b.map (fun c => c.toNat) := by
      apply Array.toList_inj.mp
      rw [ho, Array.toList_map, List.take_of_length_le (by simp)]
    subst e
    rfl
  | succ k ih =>
    intro i out hi ho
    have hlt : i < b.size := by omega
    have hsz : out.size ≤ sizeLine := by
      have : out.size = out.toList.length := by simp
      rw [this, ho, List.length_map, List.length_take]
      omega
    rw [List.range'_succ, List.forIn_cons, hf _ _ _ _ hlt hsz]
    show forIn (List.range' (i + 1) k) (i + 1, out ++ #[(b.getD i 0).toNat], st) f = _
    refine ih (i + 1) _ (by omega) ?_
    rw [Array.toList_append, ho]
    have e1 : b.getD i 0 = b[i] := by simp [Array.getD, hlt]
    rw [e1, List.take_add_one]
    have e2 : b.toList[i]? = some b[i] := by simp [hlt]
    rw [e2]
    simp
theorem dec_latin {id : String} {b : Array UInt8} (hb : b.size ≤ sizeLine) : _codecs.runDecoder id _codecs.latin1Decoder none true b 0 [] = pure (b.map (fun c => c.toNat), b.size) := by
  unfold _codecs.runDecoder
  simp only [Std.Legacy.Range.forIn_eq_forIn_range']
  have hs : [:b.size].size = b.size := by simp [Std.Legacy.Range.size]
  rw [hs, latin_loop hb ?_ _ b.size 0 #[] (by omega) (by simp)]
  · rfl
  · intro x i out st hi ho
    dsimp only
    rw [if_neg (Nat.not_lt.mpr ho), if_neg (Nat.not_le.mpr hi)]
    rfl

theorem args_text4 (a b c d : Value) : argsOk "_codecs.decode.text" ⟨[a, b, c, d], []⟩ := KBd.args_text a b c d
section
variable {b : Array UInt8} {c : UInt8} {cs : List UInt8} {t u : Tok}
theorem road_latin {id : String} : _codecs.decodeRoad id b (PySem.Str.ofString "latin1") none [] = (_codecs.runDecoder id _codecs.latin1Decoder none true b 0 [] >>= fun r => mkStr ⟨r.1⟩) := by kernel_rfl
theorem meets_latin {t1 t2 : Tok} {d : PySem.Str} (hb : b.size ≤ sizeLine) :
    Meets («_codecs.decode.text» ⟨[.bytes b t, .str (PySem.Str.ofString "latin1") t1, .none, .str d t2], []⟩) (fun _ R s => R (.ok (.ret (.str ⟨b.map (fun c => c.toNat)⟩ s.toks))) { s with toks := s.toks + 1 }) := by
  refine .of_wp fun prog w A R s h => ?_
  show wpAny _ _ (Bytes.bytesLike _ (.bytes b t) >>= fun r => _) _ _ s
  refine wpAny_bind (wpAny_of_eq KBd.like_eq ?_)
  refine wpAny_bind (wpAny_of_eq KBd.held_eq ?_)
  show wpAny _ _ (_codecs.decodeRoad _ b (PySem.Str.ofString "latin1") none [] >>= fun v => _) _ _ s
  rw [road_latin, dec_latin hb]
  refine wpAny_bind (wpAny_bind (wpAny_pure ?_))
  exact wpAny_mkStr (wpAny_pure ⟨_, rfl, h⟩) (by show (b.map (fun c => c.toNat)).size ≤ sizeLine; rw [Array.size_map]; exact hb)
theorem entry_latin : «bytes.decode» ⟨[.bytes (c :: cs).toArray t, .str (PySem.Str.ofString "latin1") u], []⟩ = (mkStr (PySem.Str.ofString "utf-8") >>= fun _ => mkStr (PySem.Str.ofString "latin1") >>= fun e => mkStr (PySem.Str.ofString "bytes.decode") >>= fun d =>
    call (.builtin "_codecs.decode.text") [.bytes (c :: cs).toArray t, e, .none, d] >>= fun v => ret v) := by kernel_rfl
theorem args_decode_2 (a b : Value) : argsOk "bytes.decode" ⟨[a, b], []⟩ := by unfold argsOk; kernel_rfl
theorem decode_latin {prog : Program} {w : World} {A : Around} {E : Value → Shared → Prop} {s : Shared} {Q : Value → Shared → Prop} (hb : (c :: cs).length ≤ sizeLine)
    (h : ∀ t' k, Q (.str ⟨(c :: cs).toArray.map (fun c => c.toNat)⟩ t') { s with toks := k }) :
    wpAny (model prog w) A (call (.builtin "bytes.decode") [.bytes (c :: cs).toArray t, .str (PySem.Str.ofString "latin1") u]) Q E s := by
  refine call_meets (S := fun _ R s => ∀ t' k, R (.ok (.ret (.str ⟨(c :: cs).toArray.map (fun c => c.toNat)⟩ t'))) { s with toks := k }) FB.slot_bytes_decode (typeIs_bytes _ _ _) FB.entry_bytes_decode (args_decode_2 _ _) ?_ h
  refine .of_wp fun prog w A R s h => ?_
  rw [entry_latin]
  refine wpAny_bind (wpAny_mkStr ?_ (by decide))
  refine wpAny_bind (wpAny_mkStr ?_ (by decide))
  refine wpAny_bind (wpAny_mkStr ?_ (by decide))
  exact wpAny_bind (call_function_meets KBd.kind_text KBd.plain_text KBd.entry_text (args_text4 _ _ _ _) (meets_latin (by simpa using hb)) (wpAny_pure ⟨_, rfl, h _ _⟩))
theorem translate_to {prog : Program} {w : World} {A : Around} {E : Value → Shared → Prop} {s : Shared} {Q : Value → Shared → Prop} {l : Addr} {vs : List Value} {tr : Nat → List Nat} {x : PySem.Str} {y : PySem.Str} (hl : s.heap.IsList l vs.toArray)
    (hv : ∀ c ∈ x.cps.toList, c < 1000 ∧ ∃ tk, vs[c]? = some (.str (ctxt (tr c)) tk)) (hne : x.length ≠ 0) (hsz : (x.cps.toList.flatMap tr).length ≤ sizeLine) (hy : y = ctxt (x.cps.toList.flatMap tr))
    (h : ∀ t' k, Q (.str y t') { s with toks := k }) : wpAny (model prog w) A (call (.builtin "str.translate") [.str x t, .ref l]) Q E s := by
  subst hy
  refine call_meets (S := fun _ R s => s.heap.IsList l vs.toArray ∧ ∀ t' k, R (.ok (.ret (.str (ctxt (x.cps.toList.flatMap tr)) t'))) { s with toks := k }) F.slot_str_translate (typeIs_str _ _ _) F.entry_str_translate (F.args_str_translate_2 _ _) ?_ ⟨hl, h⟩
  intro prog w A R s hS
  exact wpAny_mono (tr_wp hS.1 hv hne hsz hS.2) (fun fin s' hf => by cases fin with | done f => exact hf | again c => exact hf.elim) fun _ _ x => x
end
end
end Mine
-- M5
namespace Mine
noncomputable section
set_option maxRecDepth 100000
set_option maxHeartbeats 8000000
/-- the octets as bytes -/
def octB (os : List Nat) : Array UInt8 := byteArr (os.map fun (n : Nat) => (n : Int))
theorem octB_size (os : List Nat) : (octB os).size = os.length := by unfold octB; rw [byteArr_size, List.length_map]
theorem u8 {o : Nat} (h : o < 256) : (o.toUInt8).toNat = o := by
  rw [Nat.toUInt8, UInt8.toNat_ofNat']; omega
theorem octB_codes {os : List Nat} (h : ∀ o ∈ os, o < 256) : (⟨(octB os).map (fun c => c.toNat)⟩ : Str) = ctxt os := by
  unfold octB byteArr ctxt
  congr 1
  rw [List.map_toArray, List.map_map, List.map_map]
  congr 1
  conv => rhs; rw [← List.map_id os]
  exact List.map_congr_left fun o ho => u8 (h o ho)
theorem decode_oct {prog : Program} {w : World} {A : Around} {E : Value → Shared → Prop} {s : Shared} {Q : Value → Shared → Prop} {os : List Nat} {t u : Tok} (hne : os ≠ []) (h6 : ∀ o ∈ os, o < 256) (hb : os.length ≤ 1000)
    (h : ∀ t' k, Q (.str (ctxt os) t') { s with toks := k }) : wpAny (model prog w) A (call (.builtin "bytes.decode") [.bytes (octB os) t, .str (PySem.Str.ofString "latin1") u]) Q E s := by
  have e := octB_codes h6
  cases os with
  | nil => exact absurd rfl hne
  | cons o os =>
    refine decode_latin (c := ((o : Int)).toNat.toUInt8) (cs := ((os.map fun (n : Nat) => (n : Int)).map fun n => n.toNat.toUInt8)) ?_ fun t' k => ?_
    · rw [sizeLine_eq]; simp at hb ⊢; omega
    · have := h t' k
      rw [← e] at this
      exact this
theorem truthy_oct {prog : Program} {w : World} {A : Around} {E : Value → Shared → Prop} {s : Shared} {Q : Bool → Shared → Prop} {os : List Nat} {t : Tok} (b : Bool) (hb : os.length ≤ 1000) (e : decide (os ≠ []) = b) (h : ∀ k, Q b { s with toks := k }) :
    wpAny (model prog w) A (truthy (.bytes (octB os) t)) Q E s := by
  refine truthy_bytes (by rw [octB_size]; omega) ?_
  have e2 : (((octB os).size : Int) != 0) = b := by
    rw [octB_size, ← e]
    cases os with
    | nil => rfl
    | cons o r => simp; omega
  rw [e2]
  exact h _
theorem gm_translate {M : Model} {A : Around} {E : Value → Shared → Prop} {s : Shared} {x : Str} {t : Tok} {pl : Sem Bool} {Q : Value × List Value → Shared → Prop} (h : Q (.builtin "str.translate", [.str x t]) s) : wpAny M A (getMethod (.str x t) (PySem.Str.ofString "translate") pl) Q E s := by
  with_reducible exact GM.of (.str x t) (typeIs_str _ _ _) F.slot_str_translate F.type_str_translate GM.noRef h
noncomputable def hdrVals (P : Params) : List Value := match (Mine.hd.heap_39 P).lookup 29 with
  | some ⟨_, _, .seq a _, _⟩ => a.toList
  | _ => []
def hdrChk (vs : List Value) (c : Nat) : Bool := match vs[c]? with
  | some (.str y _) => y == ctxt (qsign c)
  | _ => false
theorem hdr_all (P : Params) : ((List.range 256).all fun c => hdrChk (hdrVals P) c) = true := by kernel_rfl
noncomputable def hdrN (P : Params) : Nat := match (Mine.hd.heap_39 P).lookup 29 with
  | some ⟨_, _, .seq _ n, _⟩ => n
  | _ => 0
theorem hdr_obj (P : Params) : (Mine.hd.heap_39 P).lookup 29 = some ⟨.type "list", none, .seq (hdrVals P).toArray (hdrN P), #[]⟩ := by kernel_rfl
theorem hdr_at (P : Params) {c : Nat} (h : c < 256) : ∃ tk, (hdrVals P)[c]? = some (.str (ctxt (qsign c)) tk) := by
  have h1 := List.all_eq_true.mp (hdr_all P) c (List.mem_range.mpr h)
  unfold hdrChk at h1
  split at h1
  · rename_i y tk e
    exact ⟨tk, by rw [e, beq_iff_eq.mp h1]⟩
  · cases h1

section
local macro_rules | `(tactic| walk_at "callWith ref") => `(tactic| k_dflt k_extra "own cw")
local macro_rules | `(tactic| walk_at "getMethod str") => `(tactic| with_reducible refine gm_translate ?_)
local macro_rules | `(tactic| walk_at "truthy bytes") => `(tactic| k_dflt k_extra "own truthy")
local macro_rules | `(tactic| walk_at "call builtin:bytes.decode") => `(tactic| k_dflt k_extra "own decode")
local macro_rules | `(tactic| walk_at "call builtin:str.translate") => `(tactic| k_dflt k_extra "own translate")
variable {w : World} {p : Program} {loose : List Str} {mean : ExcName → Option Value} {mg mb : Str → Option Value}
    {dp un : Nat} {gd : Option (List Code)} {cn : Str} {cs : Scope} {a : Addr} {ccd : Value} {cl : List (Str × Addr)} {outer : List Env} {A₀ : Around} {base h₀ : Heap} {L : Addr} {m : Str → Option Value} {s : Shared} {Q E : Value → Shared → Prop}

theorem header_call2 :
    ∀ (_ : Below A₀ base outer h₀) (_ : Fr h₀ L s.heap m) (_ : (Mine.hd.heap_39 w.params).In h₀) (_ : Top p loose mean mg mb h₀) (_ : cs.kind = .function) (_ : dp + 2 < recursionLimit) (_ : un + 16 < cLine)
    (os : List Nat) (_ : ∀ o ∈ os, o < 256) (_ : os.length ≤ 1000) (t u : Tok) (nm : Str) (_ : nm.length ≤ 20)
    (_ : ∀ t h' tk', (∀ b o, s.heap.get? b = some o → h'.get? b = some o) → Q (.str (if os = [] then ctxt [] else ctxt [61, 63] ++ nm ++ ctxt [63, 113, 63] ++ ctxt (qtext os) ++ ctxt [63, 61]) t) { s with heap := h', toks := tk' }),
    wpAny (model PySem.Challenge.rw_nb0042_01.row.prog w) (ktrTop dp un gd cn cs L a ccd cl outer) (call (.ref 45) [.bytes (octB os) t, .str nm u]) Q E s := by
  k_fill
  intro B F X T hk hd hu os hos hlen t u nm hnm ret
  refine' enterP (binds := [(Str.ofString "header_bytes", Value.bytes (octB os) t), (Str.ofString "charset", Value.str nm u)]) B F X T hk ?k6 ?k7 ?k8 ?k9 ?kB ?c2 ?c3 ?c4 ?c5 ?_
  case k6 => k_is
  case k7 => k_is
  case k8 => ktr_room
  case k9 => exact binds_K (Frag.In.keeps X (Fr.keep F)) rfl (by k_is) rfl rfl rfl
  case kB => exact locs rfl
  case c2 => exact rfl
  case c3 => exact rfl
  case c4 => exact rfl
  case c5 => decide
  intro g L' h₁ QK F' N' B' X' T' up hret
  clear F
  have hql : (ctxt (qtext os)).length ≤ 3000 := by rw [ctxt_length]; have := qtext_length os; omega
  k_with_none
  k_with "own truthy" =>
    refine' truthy_oct _ hlen rfl ?_
    intro _
  k_with "own decode" =>
    refine' decode_oct hne hos hlen ?_
    intro _ _
  k_with "own translate" =>
    rename Fr _ _ _ _ => lF'
    refine' translate_to (tr := qsign) (vs := hdrVals w.params) (lstK (Frag.In.keeps X' (Fr.keep lF')) (hdr_obj _)) (fun c hc => ⟨Nat.lt_of_lt_of_le (hos c (by simpa [ctxt] using hc)) (by decide), hdr_at _ (hos c (by simpa [ctxt] using hc))⟩) (by rw [ctxt_length]; exact fun e => hne (List.length_eq_zero_iff.mp e)) ?hsz (y := ctxt (qtext os)) rfl ?_
    case hsz =>
      have h9 := qtext_length os
      show (qtext os).length ≤ sizeLine
      rw [sizeLine_eq]; omega
    intro _ _
  by_cases hne : os = []
  · subst hne
    k_steps
    dsimp only
    refine hret _ _ _ _ (by assumption) ?_
    exact ret _ _ _ fun b o e => Fr.keep (by assumption) b o (up.out b o e)
  · k_steps
    dsimp only
    refine hret _ _ _ _ (by assumption) ?_
    have h9 := ret
    rw [if_neg hne] at h9
    rw [show Str.empty ++ Str.ofString "=?" = ctxt [61, 63] from by decide +kernel, show Str.ofString "?q?" = ctxt [63, 113, 63] from by decide +kernel, show Str.ofString "?=" = ctxt [63, 61] from by decide +kernel]
    exact h9 _ _ _ fun b o e => Fr.keep (by assumption) b o (up.out b o e)
theorem header_call1 :
    ∀ (_ : Below A₀ base outer h₀) (_ : Fr h₀ L s.heap m) (_ : (Mine.hd.heap_39 w.params).In h₀) (_ : Top p loose mean mg mb h₀) (_ : cs.kind = .function) (_ : dp + 2 < recursionLimit) (_ : un + 16 < cLine)
    (os : List Nat) (_ : ∀ o ∈ os, o < 256) (_ : os.length ≤ 1000) (t : Tok)
    (_ : ∀ t h' tk', (∀ b o, s.heap.get? b = some o → h'.get? b = some o) → Q (.str (if os = [] then ctxt [] else ctxt [61, 63] ++ Str.ofString "iso-8859-1" ++ ctxt [63, 113, 63] ++ ctxt (qtext os) ++ ctxt [63, 61]) t) { s with heap := h', toks := tk' }),
    wpAny (model PySem.Challenge.rw_nb0042_01.row.prog w) (ktrTop dp un gd cn cs L a ccd cl outer) (call (.ref 45) [.bytes (octB os) t]) Q E s := by
  k_fill
  intro B F X T hk hd hu os hos hlen t ret
  refine' enterP (binds := [(Str.ofString "header_bytes", Value.bytes (octB os) t), (Str.ofString "charset", Value.str (Str.ofString "iso-8859-1") 1731)]) B F X T hk ?k6 ?k7 ?k8 ?k9 ?kB ?c2 ?c3 ?c4 ?c5 ?_
  case k6 => k_is
  case k7 => k_is
  case k8 => ktr_room
  case k9 => exact binds_K (Frag.In.keeps X (Fr.keep F)) rfl (by k_is) rfl rfl rfl
  case kB => exact locs rfl
  case c2 => exact rfl
  case c3 => exact rfl
  case c4 => exact rfl
  case c5 => decide
  intro g L' h₁ QK F' N' B' X' T' up hret
  clear F
  have hql : (ctxt (qtext os)).length ≤ 3000 := by rw [ctxt_length]; have := qtext_length os; omega
  k_with_none
  k_with "own truthy" =>
    refine' truthy_oct _ hlen rfl ?_
    intro _
  k_with "own decode" =>
    refine' decode_oct hne hos hlen ?_
    intro _ _
  k_with "own translate" =>
    rename Fr _ _ _ _ => lF'
    refine' translate_to (tr := qsign) (vs := hdrVals w.params) (lstK (Frag.In.keeps X' (Fr.keep lF')) (hdr_obj _)) (fun c hc => ⟨Nat.lt_of_lt_of_le (hos c (by simpa [ctxt] using hc)) (by decide), hdr_at _ (hos c (by simpa [ctxt] using hc))⟩) (by rw [ctxt_length]; exact fun e => hne (List.length_eq_zero_iff.mp e)) ?hsz (y := ctxt (qtext os)) rfl ?_
    case hsz =>
      have h9 := qtext_length os
      show (qtext os).length ≤ sizeLine
      rw [sizeLine_eq]; omega
    intro _ _
  by_cases hne : os = []
  · subst hne
    k_steps
    dsimp only
    refine hret _ _ _ _ (by assumption) ?_
    exact ret _ _ _ fun b o e => Fr.keep (by assumption) b o (up.out b o e)
  · k_steps
    dsimp only
    refine hret _ _ _ _ (by assumption) ?_
    have h9 := ret
    rw [if_neg hne] at h9
    rw [show Str.empty ++ Str.ofString "=?" = ctxt [61, 63] from by decide +kernel, show Str.ofString "?q?" = ctxt [63, 113, 63] from by decide +kernel, show Str.ofString "?=" = ctxt [63, 61] from by decide +kernel]
    exact h9 _ _ _ fun b o e => Fr.keep (by assumption) b o (up.out b o e)
end
end
end Mine
-- M6
namespace Mine
noncomputable section
set_option maxRecDepth 100000
set_option maxHeartbeats 8000000
/-- the signs of base 64, = up to whole fours -/
noncomputable def b64 (os : List Nat) : List Nat := (core os).map al ++ List.replicate ((4 - sixes os.length % 4) % 4) 61

theorem bInts_octB {os : List Nat} (h : ∀ o ∈ os, o < 256) : KBw.bInts (octB os) = os.map fun (n : Nat) => (n : Int) := by
  unfold KBw.bInts octB byteArr
  rw [List.map_map, List.map_map]
  exact List.map_congr_left fun o ho => by show (((o.toUInt8).toNat : Nat) : Int) = (o : Int); rw [u8 (h o ho)]
theorem and_mask (a k : Nat) : Builtin.bitAnd (a : Int) ((2 ^ k - 1 : Nat) : Int) = ((a % 2 ^ k : Nat) : Int) := by
  rw [bitAnd_pp (Int.natCast_nonneg _) (Int.natCast_nonneg _), Int.toNat_natCast, Int.toNat_natCast, Nat.and_two_pow_sub_one_eq_mod]
theorem or_low {a b : Nat} (h : b < 256) : Builtin.bitOr ((a * 256 : Nat) : Int) (b : Int) = ((a * 256 + b : Nat) : Int) := by
  have e : (a * 256) &&& b = 0 := by
    apply Nat.eq_of_testBit_eq
    intro i
    rw [Nat.testBit_and, Nat.zero_testBit, show a * 256 = a * 2 ^ 8 from rfl, Nat.testBit_mul_two_pow]
    by_cases hi : 8 ≤ i
    · rw [Nat.testBit_lt_two_pow (Nat.lt_of_lt_of_le h (show 2 ^ 8 ≤ 2 ^ i from Nat.pow_le_pow_right (n := 2) (by decide) hi)), Bool.and_false]
    · simp [hi]
  rw [bitOr_and, bitAnd_pp (Int.natCast_nonneg _) (Int.natCast_nonneg _), Int.toNat_natCast, Int.toNat_natCast, e]
  omega
section
variable {prog : Program} {w : World} {A : Around} {E : Value → Shared → Prop} {s : Shared} {Q : Value → Shared → Prop} {t u : Tok}
theorem and_to {a : Int} {b : Int} (c : Int) (e : Builtin.bitAnd a b = c) (h : Q (.int c s.toks) { s with toks := s.toks + 1 }) : wpAny (model prog w) A (binaryOp .BitAnd (.int a t) (.int b u)) Q E s := by
  subst e
  exact and_int h
theorem or_to {a : Int} {b : Int} (c : Int) (e : Builtin.bitOr a b = c) (h : Q (.int c s.toks) { s with toks := s.toks + 1 }) : wpAny (model prog w) A (binaryOp .BitOr (.int a t) (.int b u)) Q E s := by
  subst e
  exact or_int h
theorem shl_to {a k : Nat} {n : Int} (e : n = (k : Int)) (hk : k ≤ 1000) (ha : a < 2 ^ 20) (h : Q (.int ((a * 2 ^ k : Nat) : Int) s.toks) { s with toks := s.toks + 1 }) : wpAny (model prog w) A (binaryOp .LShift (.int (a : Int) t) (.int n u)) Q E s := by
  subst e
  refine lshift_int_small (by omega) (by omega) (by omega) ?_
  have e2 : (a : Int) * 2 ^ ((k : Int)).toNat = ((a * 2 ^ k : Nat) : Int) := by rw [Int.toNat_natCast, Int.natCast_mul, pow2_cast]
  rw [e2]; exact h
theorem shr_to {a k : Nat} (h : Q (.int ((a / 2 ^ k : Nat) : Int) s.toks) { s with toks := s.toks + 1 }) : wpAny (model prog w) A (binaryOp .RShift (.int (a : Int) t) (.int (k : Int) u)) Q E s := by
  refine rshift_int (Int.natCast_nonneg _) ?_
  have e2 : (a : Int).fdiv (2 ^ ((k : Int)).toNat) = ((a / 2 ^ k : Nat) : Int) := by rw [Int.toNat_natCast, pow2_cast, fdiv_nat]
  rw [e2]; exact h
def b64L : List UInt8 := [65, 66, 67, 68, 69, 70, 71, 72, 73, 74, 75, 76, 77, 78, 79, 80, 81, 82, 83, 84, 85, 86, 87, 88, 89, 90, 97, 98, 99, 100, 101, 102, 103, 104, 105, 106, 107, 108, 109, 110, 111, 112, 113, 114, 115, 116, 117, 118, 119, 120, 121, 122, 48, 49, 50, 51, 52, 53, 54, 55, 56, 57, 43, 47]
theorem b64L_at : ∀ d, d < 64 → ((b64L.getD d 0).toNat : Nat) = al d := by decide +kernel
theorem subs_BinOpB {l r : Expr} {op : Operator} {pos : Pos} {x : Array UInt8} {t u : Tok} {i : Int} : subscripted (.BinOp l op r pos) false (.bytes x t) (.int i u) = operate [.bytes x t, .int i u] (getItem (.bytes x t) (.int i u)) := by with_unfolding_all rfl
theorem go_NameB {n : Str} {pos : Pos} {x : Array UInt8} {t : Tok} : ∀ r, letTemporaryGo (.Name n pos) (.bytes x t) r = pure () := by intro _; with_unfolding_all rfl
theorem bitem_to {d : Nat} (hd : d < 64) {n : Str} {pn pb : Pos} {l r : Expr} {op : Operator} (h : Q (.int (al d : Int) s.toks) { s with toks := s.toks + 1 }) :
    wpAny (model prog w) A (subscriptTail (.Name n pn) (.BinOp l op r pb) (.bytes b64L.toArray t) (.int (d : Int) u)) Q E s :=
  bytes_item_K (by decide) (Int.natCast_nonneg _) (by show (d : Int) < ((64 : Nat) : Int); omega) (by rw [Int.toNat_natCast, b64L_at d hd]) h subs_BinOpB go_NameB
end
theorem lc_step {lc o : Nat} {ps : List Nat} (ho : o < 256) (h : lc % 2 ^ (8 * ps.length % 6) = rest ps) :
    ∃ lc2, lc2 = (lc * 256 + o) % 65536 ∧ lc2 < 65536 ∧ lc2 % 2 ^ (8 * ps.length % 6 + 8) = num 256 (ps ++ [o]) % 2 ^ (8 * ps.length % 6 + 8) := by
  refine ⟨_, rfl, Nat.mod_lt _ (by decide), ?_⟩
  have e := (emit_start (pre := ps) ho).2
  rw [e, ← h]
  rcases (show 8 * ps.length % 6 = 0 ∨ 8 * ps.length % 6 = 2 ∨ 8 * ps.length % 6 = 4 by omega) with e | e | e <;> rw [e] <;> omega
theorem lc_low {lc2 N r z : Nat} (h : lc2 % 2 ^ (r + 8) = N % 2 ^ (r + 8)) (hz : z ≤ r + 8) : lc2 % 2 ^ z = N % 2 ^ z := by
  have e1 := Nat.mod_mod_of_dvd lc2 (Nat.pow_dvd_pow 2 hz)
  have e2 := Nat.mod_mod_of_dvd N (Nat.pow_dvd_pow 2 hz)
  rw [← e1, ← e2, h]
theorem lc_dig {lc2 N r z : Nat} (h : lc2 % 2 ^ (r + 8) = N % 2 ^ (r + 8)) (hz : z ≤ r + 8) (hr : r ≤ 4) (h6 : 6 ≤ z) : lc2 / 2 ^ (z - 6) % 64 = N / 2 ^ (z - 6) % 64 := by
  rw [← emit_div h6 (by omega), ← emit_div h6 (by omega), lc_low h hz]
theorem ints_snoc {vs : List Value} {l : List Nat} {d : Nat} {t : Tok} (h : IntsAre vs (l.map fun (n : Nat) => (n : Int))) : IntsAre (vs ++ [.int (d : Int) t]) ((l ++ [d]).map fun (n : Nat) => (n : Int)) := by
  rw [List.map_append]
  exact h.append (.cons _ _ .nil)

theorem b64_zero {ps : List Nat} (h : 8 * ps.length % 6 = 0) : b64 ps = (full ps).map al := by
  unfold b64
  rw [core_full, if_pos h, List.append_nil, show (4 - sixes ps.length % 4) % 4 = 0 by unfold sixes; omega]; simp
theorem b64_two {ps : List Nat} (h : 8 * ps.length % 6 = 2) : b64 ps = (full ps).map al ++ [al (rest ps * 2 ^ 4)] ++ [61] ++ [61] := by
  unfold b64
  rw [core_full, if_neg (by omega), h, show (4 - sixes ps.length % 4) % 4 = 2 by unfold sixes; omega]; simp
theorem b64_four {ps : List Nat} (h : 8 * ps.length % 6 = 4) : b64 ps = (full ps).map al ++ [al (rest ps * 2 ^ 2)] ++ [61] := by
  unfold b64
  rw [core_full, if_neg (by omega), h, show (4 - sixes ps.length % 4) % 4 = 1 by unfold sixes; omega]; simp
theorem b64_lt (ps : List Nat) : ∀ n ∈ b64 ps, n < 256 := by
  intro n hn
  rcases List.mem_append.mp hn with h | h
  · obtain ⟨d, hd, rfl⟩ := List.mem_map.mp h
    exact Nat.lt_trans (al_lt d (core_lt ps d hd)) (by decide)
  · rw [(List.mem_replicate.mp h).2]; decide
theorem b64_length (ps : List Nat) : (b64 ps).length = (ps.length + 2) / 3 * 4 := by
  unfold b64
  rw [List.length_append, List.length_map, core_length, List.length_replicate]
  unfold sixes; omega
theorem bytes_to {prog : Program} {w : World} {A : Around} {E : Value → Shared → Prop} {s : Shared} {h₀ : Heap} {L : Addr} {m : Str → Option Value} {news : List (Addr × Obj)} {l : Addr} {vs : List Value} {ls : List Nat} {Q : Value → Shared → Prop} (F : Fr h₀ L s.heap m) (N : News h₀ L s.heap news)
    (hl : s.heap.IsList l vs.toArray) (hi : IntsAre vs (ls.map fun (n : Nat) => (n : Int))) (hr : ∀ n ∈ ls, n < 256) (hz : ls.length ≤ 10000) (hh : A.handled = none)
    (h : ∀ h' t k, Fr h₀ L h' m → News h₀ L h' news → Q (.bytes (octB ls) t) { s with heap := h', toks := k }) : wpAny (model prog w) A (call (.type "bytes") [.ref l]) Q E s := by
  refine bytes_K F N hl hi (fun n hn => ?_) ?_ hh fun h' t k F' N' _ => h h' t k F' N'
  · obtain ⟨k, hk, rfl⟩ := List.mem_map.mp hn
    have := hr k hk
    omega
  · rw [hi.length, List.length_map, sizeLine_eq]; omega
theorem append_to {prog : Program} {w : World} {A : Around} {E : Value → Shared → Prop} {s : Shared} {h₀ : Heap} {L D : Addr} {m : Str → Option Value} {news : List (Addr × Obj)} {vs : List Value} {n : Nat} {x : Value} {Q : Value → Shared → Prop} (F : Fr h₀ L s.heap m) (N : News h₀ L s.heap ((D, listOf vs.toArray n) :: news))
    (ne : ∀ p ∈ news, p.1 ≠ D) (hz : vs.length ≤ 10000) (h : ∀ h', Fr h₀ L h' m → News h₀ L h' ((D, listOf (vs ++ [x]).toArray (n + 1)) :: news) → Q .none { s with heap := h' }) : wpAny (model prog w) A (call (.builtin "list.append") [.ref D, x]) Q E s := by
  refine append_K F N (Upd.head ne) (fun h' F' N' => h h' F' ?_) (by rw [List.size_toArray, sizeLine_eq]; omega)
  rw [List.push_toArray] at N'
  exact N'
theorem rest_of {lc : Nat} {ps : List Nat} (k : Nat) (h : lc % 2 ^ (8 * ps.length % 6) = rest ps) (hk : 8 * ps.length % 6 = k) : Builtin.bitAnd (lc : Int) ((2 ^ k - 1 : Nat) : Int) = (rest ps : Int) := by
  rw [and_mask, ← h, hk]
theorem last_lt2 {ps : List Nat} (h : 8 * ps.length % 6 = 2) : rest ps * 2 ^ 4 < 64 := by have := rest_lt ps; rw [h] at this; omega
theorem last_lt4 {ps : List Nat} (h : 8 * ps.length % 6 = 4) : rest ps * 2 ^ 2 < 64 := by have := rest_lt ps; rw [h] at this; omega
theorem ints_len {vs : List Value} {l : List Nat} (h : IntsAre vs (l.map fun (n : Nat) => (n : Int))) : vs.length = l.length := by rw [h.length, List.length_map]

section
local macro_rules | `(tactic| walk_at "call type:type") => `(tactic| k_dflt (refine call_type_of (typeIs_bytes _ _ _) (by decide) ?_))
local macro_rules | `(tactic| walk_at "callWith ref") => `(tactic| k_dflt k_extra "own cw")
local macro_rules | `(tactic| walk_at "And") => `(tactic| k_dflt k_extra "own and")
local macro_rules | `(tactic| walk_at "call ref") => `(tactic| k_dflt k_extra "own call")
local macro_rules | `(tactic| walk_at "newList") => `(tactic| k_dflt k_extra "own newlist")
local macro_rules | `(tactic| walk_at "pyIter bytes") => `(tactic| k_dflt k_extra "own iter")
local macro_rules | `(tactic| walk_at "exec While Compare cons nil") => `(tactic| k_dflt k_extra "own while")
local macro_rules | `(tactic| walk_at "InvEndN") => `(tactic| k_dflt k_extra "own end")
local macro_rules | `(tactic| walk_at "KswEnd") => `(tactic| k_dflt k_extra "own wend")
local macro_rules | `(tactic| walk_at "binaryOp LShift int int") => `(tactic| k_dflt k_extra "own shl")
local macro_rules | `(tactic| walk_at "binaryOp RShift int int") => `(tactic| k_dflt k_extra "own shr")
local macro_rules | `(tactic| walk_at "binaryOp BitOr int int") => `(tactic| k_dflt k_extra "own or")
local macro_rules | `(tactic| walk_at "binaryOp BitAnd int int") => `(tactic| k_dflt k_extra "own band")
local macro_rules | `(tactic| walk_at "binaryOp Add int int") => `(tactic| k_dflt k_extra "own add")
local macro_rules | `(tactic| walk_at "binaryOp Sub int int") => `(tactic| k_dflt k_extra "own sub")
local macro_rules | `(tactic| walk_at "subscriptTail") => `(tactic| k_dflt k_extra "own item")
local macro_rules | `(tactic| walk_at "call builtin:list.append") => `(tactic| k_dflt k_extra "own append")
local macro_rules | `(tactic| walk_at "call type:bytes") => `(tactic| k_dflt k_extra "own bytes")
variable {w : World} {p : Program} {loose : List Str} {mean : ExcName → Option Value} {mg mb : Str → Option Value}
    {dp un : Nat} {gd : Option (List Code)} {cn : Str} {cs : Scope} {a : Addr} {ccd : Value} {cl : List (Str × Addr)} {outer : List Env} {A₀ : Around} {base h₀ : Heap} {L : Addr} {m : Str → Option Value} {s : Shared} {Q E : Value → Shared → Prop}
theorem buffer_call :
    ∀ (_ : Below A₀ base outer h₀) (_ : Fr h₀ L s.heap m) (_ : (Mine.hd.heap_39 w.params).In h₀) (_ : Top p loose mean mg mb h₀) (_ : cs.kind = .function) (_ : dp + 1 < recursionLimit) (_ : un + 8 < cLine)
    (x : Array UInt8) (t : Tok) 
    (_ : ∀ h' tk', (∀ b o, s.heap.get? b = some o → h'.get? b = some o) → Q (.bytes x t) { s with heap := h', toks := tk' }),
    wpAny (model PySem.Challenge.rw_nb0042_01.row.prog w) (ktrTop dp un gd cn cs L a ccd cl outer) (call (.ref 57) [.bytes x t]) Q E s := by
  k_fill
  intro B F X T hk hd hu x t ret
  refine' enterP (binds := [(Str.ofString "data", Value.bytes x t)]) B F X T hk ?k6 ?k7 ?k8 ?k9 ?kB ?c2 ?c3 ?c4 ?c5 ?_
  case k6 => k_is
  case k7 => k_is
  case k8 => ktr_room
  case k9 => exact BindsTo.of_eq rfl
  case kB => exact locs rfl
  case c2 => exact rfl
  case c3 => exact rfl
  case c4 => exact rfl
  case c5 => decide
  intro g L' h₁ QK F' N' B' X' T' up hret
  clear F
  k_with_none
  k_steps
  all_goals dsimp only
  all_goals (refine hret _ _ _ _ (by assumption) ?_)
  all_goals exact ret _ _ fun b o e => Fr.keep (by assumption) b o (up.out b o e)
theorem truth_call :
    ∀ (_ : Below A₀ base outer h₀) (_ : Fr h₀ L s.heap m) (_ : (Mine.hd.heap_39 w.params).In h₀) (_ : Top p loose mean mg mb h₀) (_ : cs.kind = .function) (_ : dp + 1 < recursionLimit) (_ : un + 8 < cLine)
     
    (_ : ∀ h' tk', (∀ b o, s.heap.get? b = some o → h'.get? b = some o) → Q (.bool false) { s with heap := h', toks := tk' }),
    wpAny (model PySem.Challenge.rw_nb0042_01.row.prog w) (ktrTop dp un gd cn cs L a ccd cl outer) (call (.ref 64) [.bool false]) Q E s := by
  k_fill
  intro B F X T hk hd hu  ret
  refine' enterP (binds := [(Str.ofString "x", Value.bool false)]) B F X T hk ?k6 ?k7 ?k8 ?k9 ?kB ?c2 ?c3 ?c4 ?c5 ?_
  case k6 => k_is
  case k7 => k_is
  case k8 => ktr_room
  case k9 => exact BindsTo.of_eq rfl
  case kB => exact locs rfl
  case c2 => exact rfl
  case c3 => exact rfl
  case c4 => exact rfl
  case c5 => decide
  intro g L' h₁ QK F' N' B' X' T' up hret
  clear F
  k_with_none
  k_steps
  all_goals dsimp only
  all_goals (refine hret _ _ _ _ (by assumption) ?_)
  all_goals exact ret _ _ fun b o e => Fr.keep (by assumption) b o (up.out b o e)
theorem b2a_call :
    ∀ (_ : Below A₀ base outer h₀) (_ : Fr h₀ L s.heap m) (_ : (Mine.hd.heap_39 w.params).In h₀) (_ : Top p loose mean mg mb h₀) (_ : cs.kind = .function) (_ : dp + 2 < recursionLimit) (_ : un + 16 < cLine)
    (os : List Nat) (_ : ∀ o ∈ os, o < 256) (_ : os.length ≤ 1000) (t : Tok)
    (_ : ∀ t h' tk', (∀ b o, s.heap.get? b = some o → h'.get? b = some o) → Q (.bytes (octB (b64 os)) t) { s with heap := h', toks := tk' }),
    wpAny (model PySem.Challenge.rw_nb0042_01.row.prog w) (ktrTop dp un gd cn cs L a ccd cl outer) (call (.ref 72) [.bytes (octB os) t] [(Str.ofString "newline", .bool false)]) Q E s := by
  k_fill
  intro B F X T hk hd hu os hos hlen t ret
  refine' enterP (binds := [(Str.ofString "data", Value.bytes (octB os) t), (Str.ofString "newline", Value.bool false)]) B F X T hk ?k6 ?k7 ?k8 ?k9 ?kB ?c2 ?c3 ?c4 ?c5 ?_
  case k6 => k_is
  case k7 => k_is
  case k8 => ktr_room
  case k9 => first | exact BindsTo.of_eq rfl | exact binds_K (Frag.In.keeps X (Fr.keep F)) rfl (by k_is) rfl rfl rfl
  case kB => exact locs rfl
  case c2 => exact rfl
  case c3 => exact rfl
  case c4 => exact rfl
  case c5 => decide
  intro g L' h₁ QK F' N' B' X' T' up hret
  clear F
  k_with_none
  k_with "pyIter bytes" => fail "x"
  k_with "own cw" =>
    refine' callWith_K X' ?k2 ?_
    case k2 => k_is
  k_with "own and" =>
    with_reducible show Frag.In _ _ ∧ _
    rename Fr _ _ _ _ => lF'
    refine ⟨Frag.In.keeps X' (Fr.keep lF'), ?_⟩
    try dsimp only [List.nil_append, List.cons_append]
  k_with "own call" =>
    rename Fr _ _ _ _ => lF'
    rename News _ _ _ _ => lN'
    first
      | refine' buffer_call ?k1 lF' ?k3 ?k4 ?k5 ?k6 ?k7 _ _ ?_
      | refine' truth_call ?k1 lF' ?k3 ?k4 ?k5 ?k6 ?k7 ?_
    case k1 => k_asm
    case k3 => k_asm
    case k4 => k_asm
    case k5 => rfl
    case k6 => ktr_room
    case k7 => ktr_units
    intro h9 tk9 hk9
    have F9 := Fr.keeps lF' hk9
    have N9 := News.grown lN' hk9
    clear lF' lN'
    try dsimp only
  k_with "own newlist" =>
    rename Fr _ _ _ _ => lF'
    rename News _ _ _ _ => lN'
    refine' newList_K lF' lN' ?_ (Nat.zero_le _)
    clear lF' lN'
    intro outL h9 F9 N9 hl9
    clear hl9
  k_with "own iter" =>
    rename Fr _ _ _ _ => lF'
    rename News _ _ _ _ => lN'
    refine' KStb.kst_bytes (σ := Int × Tok × Int × Tok × List Value × Nat) (fun c => [(outL, listOf c.2.2.2.2.1.toArray c.2.2.2.2.2)]) (fun c => [(Str.ofString "leftchar", .int c.1 c.2.1), (Str.ofString "leftbits", .int c.2.2.1 c.2.2.2.1)]) (fun _ => True) []
      (fun pre c => ∃ (ps : List Nat) (lc : Nat), pre = ps.map (fun (n : Nat) => (n : Int)) ∧ c.1 = (lc : Int) ∧ lc < 65536 ∧ c.2.2.1 = ((8 * ps.length % 6 : Nat) : Int) ∧ lc % 2 ^ (8 * ps.length % 6) = rest ps ∧ ps.length ≤ os.length ∧ IntsAre c.2.2.2.2.1 (((full ps).map al).map fun (n : Nat) => (n : Int)))
      (0, _, 0, _, [], 0) (bInts_octB hos) (List.length_map _) rfl lF' lN' trivial ?kk ?kp ?turn ?done
    case kk => kst_all
    case kp => exact ⟨[], 0, rfl, rfl, by decide, rfl, rfl, Nat.zero_le _, IntsAre.nil⟩
    case' turn =>
      rintro ⟨k1, k2, k3, k4, vs, nn⟩ pre post n t u h tk own hc hpl hn0 hn1 hoff hF hP F9 N9
      clear lF' lN'
      dsimp only at hP hoff
      dsimp only [kstB] at F9
      dsimp only [List.cons_append, List.nil_append] at N9
      obtain ⟨ps, lc, e0, e1, hlc, e2, hlr, hps, hints⟩ := hP
      subst e0 e1 e2
      obtain ⟨o, e3, ho3⟩ := cast_split hc
      subst e3
      have ho : o < 256 := hos o ho3
      have hoff2 : ∀ p ∈ own, p.1 ≠ outL := fun p hp => hoff p hp outL (List.mem_singleton.mpr rfl)
      have hpl2 : ps.length < os.length := by simpa using hpl
      clear hc ho3 hn0 hn1
    case' done =>
      rintro ⟨k1, k2, k3, k4, vs, nn⟩ u h tk hF hF2 hP F9 N9
      clear lF' lN'
      dsimp only at hP N9
      dsimp only [kstB] at F9
      obtain ⟨ps, lc, e0, e1, hlc, e2, hlr, hps, hints⟩ := hP
      have e9 := cast_inj e0
      subst e9 e1 e2
      have hfin := rest_small ps
  k_with "own shl" =>
    guard_hyp hoff2
    refine' shl_to (k := 8) rfl (by decide) (Nat.lt_trans hlc (by decide)) ?_
  k_with "own or" =>
    refine' or_to ((lc * 256 + o : Nat) : Int) (or_low ho) ?_
  k_with "own band" =>
    with_reducible show wpAny _ _ (binaryOp _ _ (Value.int 65535 _)) _ _ _
    obtain ⟨lc2, hlc2, hlt2, hlow⟩ := lc_step ho hlr
    refine' and_to ((lc2 : Nat) : Int) ?_ ?_
    · rw [hlc2]; exact and_mask _ 16
  k_with "own add" =>
    refine' add_to ((8 * ps.length % 6 + 8 : Nat) : Int) rfl ?_
  k_with "own band" =>
    with_reducible show wpAny _ _ (binaryOp _ _ (Value.int 3 _)) _ _ _
    have hr2 : 8 * ps.length % 6 = 2 := by omega
    have hdg := last_lt2 hr2
    refine' and_to (rest ps : Int) (rest_of 2 hlr hr2) ?_
  k_with "own band" =>
    with_reducible show wpAny _ _ (binaryOp _ _ (Value.int 15 _)) _ _ _
    have hr4 : 8 * ps.length % 6 = 4 := by omega
    have hdg := last_lt4 hr4
    refine' and_to (rest ps : Int) (rest_of 4 hlr hr4) ?_
  k_with "own band" =>
    with_reducible show wpAny _ _ (binaryOp _ _ (Value.int 63 _)) _ _ _
    have hdg : num 256 (ps ++ [o]) / 2 ^ (z - 6) % 64 < 64 := Nat.mod_lt _ (by decide)
    refine' and_to ((num 256 (ps ++ [o]) / 2 ^ (z - 6) % 64 : Nat) : Int) ?_ ?_
    · exact (and_mask _ 6).trans (congrArg _ (lc_dig hlow hz (by omega) h6))
  k_with "own shl" =>
    guard_hyp hr2
    refine' shl_to (k := 4) rfl (by decide) (Nat.lt_trans hfin (by decide)) ?_
  k_with "own shl" =>
    guard_hyp hr4
    refine' shl_to (k := 2) rfl (by decide) (Nat.lt_trans hfin (by decide)) ?_
  k_with "own shr" =>
    refine' shr_to ?_
  k_with "own sub" =>
    guard_hyp hqz
    have h6 : 6 ≤ z := by omega
    refine' sub_to ((z - 6 : Nat) : Int) (Int.ofNat_sub h6).symm ?_
  k_with "own item" =>
    guard_hyp hdg
    refine' bitem_to hdg ?_
  k_with "own append" =>
    rename Fr _ _ _ _ => lF'
    rename News _ _ _ _ => lN'
    have hvl := ints_len hints
    refine' append_to lF' lN' ?ne ?hz ?_
    case ne => first | exact hoff2 | exact List.forall_mem_nil _
    case hz =>
      (try simp only [List.length_append, List.length_singleton])
      (try simp only [List.length_map, dig_length, full_length] at hvl)
      omega
    clear lF' lN'
    intro h9 F9 N9
  k_with "own while" =>
    rename Fr _ _ _ _ => lF'
    rename News _ _ _ _ => lN'
    refine' ksw_while (σ := Int × Tok × List Value × Nat) (fun c => (outL, listOf c.2.2.1.toArray c.2.2.2) :: own) (fun c => [(Str.ofString "leftbits", .int c.1 c.2.1)]) (fun _ => True) []
      (fun c => ∃ q z : Nat, 6 * q + z = 8 * (ps.length + 1) ∧ z ≤ 8 * ps.length % 6 + 8 ∧ c.1 = (z : Int) ∧ IntsAre c.2.2.1 (((dig 64 q (num 256 (ps ++ [o]) / 2 ^ z)).map al).map fun (n : Nat) => (n : Int)))
      (fun c => c.1.toNat) (_, _, vs, nn) lF' lN' trivial ?kk ?kp ?_
    case kk => kst_all
    case kp => exact ⟨8 * ps.length / 6, 8 * ps.length % 6 + 8, by omega, Nat.le_refl _, rfl, by rw [(emit_start ho).1]; exact hints⟩
    rintro ⟨k1, k2, vs, nn⟩ u9 h tk hF hP F9 N9
    clear lF' lN' hints
    dsimp only at hP N9
    dsimp only [kstB] at F9
    obtain ⟨q, z, hqz, hz, e1, hints⟩ := hP
    subst e1
  k_with "own wend" =>
    rename Fr _ _ _ _ => eF
    rename News _ _ _ _ => eN
    refine ksw_end (_, _, _, _) eF eN (fun p hp => hp) trivial (by kst_all) (by ksw_same) ⟨q + 1, z - 6, by omega, by omega, rfl, ?_⟩ ?_
    · dsimp only; rw [emit_next h6, List.map_append]; exact ints_snoc hints
    · dsimp only
      rw [Int.toNat_natCast, Int.toNat_natCast]
      exact Nat.sub_lt (by omega) (by decide)
  k_with "own end" =>
    have hz5 : z < 6 := by omega
    have hd9 := emit_done (o := o) hqz hz5
    rename Fr _ _ _ _ => eF
    rename News _ _ _ _ => eN
    refine kst_end (_, _, _, _, vs, nn) eF eN ?_ ?_ rfl trivial (by kst_all) (by kst_same) ⟨ps ++ [o], lc2, ?_, rfl, hlt2, ?_, ?_, ?_, ?_⟩
    · exact fun p hp => List.mem_cons.mpr (.inl (List.mem_singleton.mp hp))
    · exact fun p hp => List.mem_cons_of_mem _ hp
    · simp
    · dsimp only; rw [hd9.2.2, List.length_append]; rfl
    · rw [List.length_append, List.length_singleton, ← hd9.2.2, ← hd9.2.1]; exact lc_low hlow (by omega)
    · rw [List.length_append, List.length_singleton]; omega
    · dsimp only; rw [← hd9.1]; exact hints
  k_with "own bytes" =>
    rename Fr _ _ _ _ => lF'
    rename News _ _ _ _ => lN'
    have hb9 := b64_length ps
    refine' bytes_to (ls := b64 ps) lF' lN' (News.isList lN' (.head _)) ?hi (b64_lt ps) (by omega) rfl ?_
    case hi =>
      first
        | (guard_hyp hr2; rw [b64_two hr2]; exact ints_snoc (d := 61) (ints_snoc (d := 61) (ints_snoc hints)))
        | (guard_hyp hr4; rw [b64_four hr4]; exact ints_snoc (d := 61) (ints_snoc hints))
        | (have hr0 : 8 * ps.length % 6 = 0 := by omega
           rw [b64_zero hr0]; exact hints)
    clear lF' lN'
    intro h9 t9 k9 F9 N9
  k_steps
  all_goals (try dsimp only)
  all_goals (refine hret _ _ _ _ (by assumption) ?_)
  all_goals (exact ret _ _ _ fun b o e => Fr.keep (by assumption) b o (up.out b o e))
theorem b64_call :
    ∀ (_ : Below A₀ base outer h₀) (_ : Fr h₀ L s.heap m) (_ : (Mine.hd.heap_39 w.params).In h₀) (_ : Top p loose mean mg mb h₀) (_ : cs.kind = .function) (_ : dp + 3 < recursionLimit) (_ : un + 24 < cLine)
    (os : List Nat) (_ : ∀ o ∈ os, o < 256) (_ : os.length ≤ 1000) (t : Tok)
    (_ : ∀ t h' tk', (∀ b o, s.heap.get? b = some o → h'.get? b = some o) → Q (.bytes (octB (b64 os)) t) { s with heap := h', toks := tk' }),
    wpAny (model PySem.Challenge.rw_nb0042_01.row.prog w) (ktrTop dp un gd cn cs L a ccd cl outer) (call (.ref 80) [.bytes (octB os) t]) Q E s := by
  k_fill
  intro B F X T hk hd hu os hos hlen t ret
  refine' enterP (binds := [(Str.ofString "s", Value.bytes (octB os) t), (Str.ofString "altchars", Value.none)]) B F X T hk ?k6 ?k7 ?k8 ?k9 ?kB ?c2 ?c3 ?c4 ?c5 ?_
  case k6 => k_is
  case k7 => k_is
  case k8 => ktr_room
  case k9 => exact binds_K (Frag.In.keeps X (Fr.keep F)) rfl (by k_is) rfl rfl rfl
  case kB => exact locs rfl
  case c2 => exact rfl
  case c3 => exact rfl
  case c4 => exact rfl
  case c5 => decide
  intro g L' h₁ QK F' N' B' X' T' up hret
  clear F
  k_with_none
  k_with "own and" =>
    with_reducible show Frag.In _ _ ∧ _
    rename Fr _ _ _ _ => lF'
    refine ⟨Frag.In.keeps X' (Fr.keep lF'), ?_⟩
    try dsimp only [List.nil_append, List.cons_append]
  k_with "own call" =>
    rename Fr _ _ _ _ => lF'
    rename News _ _ _ _ => lN'
    refine' b2a_call ?k1 lF' ?k3 ?k4 ?k5 ?k6 ?k7 os hos hlen _ ?_
    case k1 => k_asm
    case k3 => k_asm
    case k4 => k_asm
    case k5 => rfl
    case k6 => ktr_room
    case k7 => ktr_units
    intro t9 h9 tk9 hk9
    have F9 := Fr.keeps lF' hk9
    have N9 := News.grown lN' hk9
    clear lF' lN'
    try dsimp only
  k_steps
  all_goals (try dsimp only)

  all_goals (refine hret _ _ _ _ (by assumption) ?_)
  all_goals (exact ret _ _ _ fun b o e => Fr.keep (by assumption) b o (up.out b o e))
end
end
end Mine
-- M7a
namespace Mine
noncomputable section
set_option maxRecDepth 100000
set_option maxHeartbeats 2000000

/-- a piece: where it lies, its values, its count, its octets -/
abbrev Cell := Addr × List Value × Nat × List Nat
def cobj (c : Cell) : Addr × Obj := (c.1, listOf c.2.1.toArray c.2.2.1)
/-- the ledger of the pieces, the last one first -/
def Led (P odd : Addr) (nP : Nat) (ov : List Value) (cs : List Cell) : List (Addr × Obj) :=
  (P, listOf ((cs.map (fun c => Value.ref c.1)).reverse).toArray nP) :: (odd, listOf ov.toArray 0) :: cs.map cobj
structure POk (P odd : Addr) (cs : List Cell) : Prop where
  nd : (P :: odd :: cs.map (·.1)).Nodup
  has : ∀ c ∈ cs, IntsAre c.2.1 (c.2.2.2.map fun (n : Nat) => (n : Int)) ∧ ∀ o ∈ c.2.2.2, o < 256

theorem Led_fst (P odd : Addr) (nP : Nat) (ov : List Value) (cs : List Cell) : (Led P odd nP ov cs).map (·.1) = P :: odd :: cs.map (·.1) := by
  simp [Led, cobj, Function.comp_def]

section
variable {prog : Program} {w : World} {A : Around} {E : Value → Shared → Prop} {s : Shared} {h₀ : Heap} {L P odd : Addr} {m : Str → Option Value} {own : List (Addr × Obj)} {ov : List Value} {nP : Nat} {cs : List Cell} {Q : Value → Shared → Prop}
/-- something appended to the pieces -/
theorem app_any {news : List (Addr × Obj)} {D : Addr} {vs : List Value} {n : Nat} {x : Value} (F : Fr h₀ L s.heap m) (N : News h₀ L s.heap news) (hm : (D, listOf vs.toArray n) ∈ news) (hz : vs.length ≤ 10000)
    (h : ∀ h', Fr h₀ L h' m → (∀ led, (∀ p ∈ led, p = (D, listOf (vs ++ [x]).toArray (n + 1)) ∨ (p ∈ news ∧ p.1 ≠ D)) → News h₀ L h' led) → Q .none { s with heap := h' }) :
    wpAny (model prog w) A (call (.builtin "list.append") [.ref D, x]) Q E s := by
  refine append_to (n := n) (news := news.filter fun p => decide (p.1 ≠ D)) F (fun p hp => ?_) (fun p hp => ?_) hz fun h' F' N' => h h' F' fun led hl p hp => ?_
  · rcases List.mem_cons.mp hp with rfl | hp
    · exact N _ hm
    · exact N p (List.mem_filter.mp hp).1
  · exact of_decide_eq_true (List.mem_filter.mp hp).2
  · refine N' p ?_
    rcases hl p hp with e | ⟨h1, h2⟩
    · exact List.mem_cons.mpr (.inl e)
    · exact List.mem_cons_of_mem _ (List.mem_filter.mpr ⟨h1, decide_eq_true h2⟩)
theorem ext_any {news : List (Addr × Obj)} {D b : Addr} {vs us : List Value} {n k : Nat} (F : Fr h₀ L s.heap m) (N : News h₀ L s.heap news) (hm : (D, listOf vs.toArray n) ∈ news) (hb : (b, listOf us.toArray k) ∈ news) (hbD : b ≠ D) (hne : us.length ≠ 0) (hz : vs.length + us.length ≤ 10000)
    (h : ∀ h', Fr h₀ L h' m → (∀ led, (∀ p ∈ led, p = (D, listOf (vs ++ us).toArray (n + 1)) ∨ (p ∈ news ∧ p.1 ≠ D)) → News h₀ L h' led) → Q .none { s with heap := h' }) :
    wpAny (model prog w) A (call (.builtin "list.extend") [.ref D, .ref b]) Q E s := by
  have N2 : News h₀ L s.heap ((D, listOf vs.toArray n) :: news.filter fun p => decide (p.1 ≠ D)) := fun p hp => by
    rcases List.mem_cons.mp hp with rfl | hp
    · exact N _ hm
    · exact N p (List.mem_filter.mp hp).1
  refine kl_extend (its := vs.toArray) (its2 := us.toArray) (n := n) (n2 := k) (l := vs ++ us) F N2 (List.mem_cons_of_mem _ (List.mem_filter.mpr ⟨hb, decide_eq_true hbD⟩)) (by simp) (by simpa using hne) (Upd.head fun p hp => of_decide_eq_true (List.mem_filter.mp hp).2) ?_ (by simp [sizeLine_eq]; omega) (by simp [sizeLine_eq]; omega) fun h' F' N' => h h' F' fun led hl p hp => ?_
  · simp only [Builtin.List.listTooLong, List.size_toArray, Bool.and_eq_true, decide_eq_true_eq, not_and]
    intro _
    rw [sizeLine_eq]; omega
  · refine N' p ?_
    rcases hl p hp with e | ⟨h1, h2⟩
    · exact List.mem_cons.mpr (.inl e)
    · exact List.mem_cons_of_mem _ (List.mem_filter.mpr ⟨h1, decide_eq_true h2⟩)
theorem Led_ne (hok : POk P odd cs) : ∀ p ∈ (odd, listOf ov.toArray 0) :: cs.map cobj, p.1 ≠ P := by
  intro p hp e
  have h1 : p.1 ∈ odd :: cs.map (·.1) := by
    rcases List.mem_cons.mp hp with rfl | hp
    · exact List.mem_cons_self
    · obtain ⟨c, hc, rfl⟩ := List.mem_map.mp hp
      exact List.mem_cons_of_mem _ (List.mem_map.mpr ⟨c, hc, rfl⟩)
  rw [e] at h1
  exact (List.nodup_cons.mp hok.nd).1 h1
theorem POk.cons {a : Addr} (hok : POk P odd cs) (h1 : ∀ q ∈ P :: odd :: cs.map (·.1), q < a) : POk P odd ((a, [], 0, []) :: cs) := by
  refine ⟨?_, fun c hc => ?_⟩
  · have hp := h1 P List.mem_cons_self
    have ho := h1 odd (List.mem_cons_of_mem _ List.mem_cons_self)
    have hn := hok.nd
    rw [List.nodup_cons, List.nodup_cons] at hn
    rw [List.map_cons, List.nodup_cons, List.nodup_cons, List.nodup_cons]
    refine ⟨fun h => ?_, fun h => ?_, fun h => ?_, hn.2.2⟩
    · rcases List.mem_cons.mp h with e | h
      · exact hn.1 (e ▸ List.mem_cons_self)
      · rcases List.mem_cons.mp h with e | h
        · exact absurd hp (by show ¬ (P : Nat) < a; rw [e]; exact Nat.lt_irrefl _)
        · exact hn.1 (List.mem_cons_of_mem _ h)
    · rcases List.mem_cons.mp h with e | h
      · exact absurd ho (by show ¬ (odd : Nat) < a; rw [e]; exact Nat.lt_irrefl _)
      · exact hn.2.1 h
    · exact Nat.lt_irrefl _ (h1 a (List.mem_cons_of_mem _ (List.mem_cons_of_mem _ h)))
  · rcases List.mem_cons.mp hc with rfl | hc
    · exact ⟨.nil, fun o ho => by cases ho⟩
    · exact hok.has c hc
theorem app_piece {a : Addr} (F : Fr h₀ L s.heap m) (N : News h₀ L s.heap ((a, listOf ([] : List Value).toArray 0) :: (own ++ Led P odd nP ov cs))) (hlt : ∀ p ∈ own ++ Led P odd nP ov cs, p.1 < a) (hok : POk P odd cs)
    (hown : ∀ p ∈ own, p.1 ≠ P) (hz : cs.length ≤ 1000) (h : ∀ h', Fr h₀ L h' m → News h₀ L h' (own ++ Led P odd (nP + 1) ov ((a, [], 0, []) :: cs)) → POk P odd ((a, [], 0, []) :: cs) → Q .none { s with heap := h' }) :
    wpAny (model prog w) A (call (.builtin "list.append") [.ref P, .ref a]) Q E s := by
  have hl : ∀ q ∈ P :: odd :: cs.map (·.1), q < a := by
    rw [← Led_fst P odd nP ov cs]
    intro q hq
    obtain ⟨p, hp, rfl⟩ := List.mem_map.mp hq
    exact hlt p (List.mem_append_right _ hp)
  refine app_any (vs := (cs.map (fun c => Value.ref c.1)).reverse) (n := nP) F N (List.mem_cons_of_mem _ (List.mem_append_right _ List.mem_cons_self)) (by simpa using Nat.le_trans hz (by decide)) fun h' F' hN => h h' F' (hN _ fun p hp => ?_) (hok.cons hl)
  rcases List.mem_append.mp hp with hp | hp
  · exact .inr ⟨List.mem_cons_of_mem _ (List.mem_append_left _ hp), hown p hp⟩
  · unfold Led at hp
    rcases List.mem_cons.mp hp with rfl | hp
    · exact .inl (by simp)
    · rcases List.mem_cons.mp hp with rfl | hp
      · exact .inr ⟨List.mem_cons_of_mem _ (List.mem_append_right _ (List.mem_cons_of_mem _ List.mem_cons_self)), Led_ne (ov := ov) hok _ List.mem_cons_self⟩
      · rw [List.map_cons] at hp
        rcases List.mem_cons.mp hp with rfl | hp
        · exact .inr ⟨List.mem_cons_self, (Nat.ne_of_lt (hl P List.mem_cons_self)).symm⟩
        · exact .inr ⟨List.mem_cons_of_mem _ (List.mem_append_right _ (List.mem_cons_of_mem _ (List.mem_cons_of_mem _ hp))), Led_ne (ov := ov) hok _ (List.mem_cons_of_mem _ hp)⟩
theorem ext_piece {a1 a2 b : Addr} (F : Fr h₀ L s.heap m) (N : News h₀ L s.heap ((b, listOf [Value.ref a1, Value.ref a2].toArray 0) :: (a2, listOf ([] : List Value).toArray 0) :: (a1, listOf ([] : List Value).toArray 0) :: (own ++ Led P odd nP ov cs)))
    (hlt : ∀ p ∈ own ++ Led P odd nP ov cs, p.1 < a1) (h12 : (a1 : Nat) < a2) (h2b : (a2 : Nat) < b) (hok : POk P odd cs) (hown : ∀ p ∈ own, p.1 ≠ P) (hz : cs.length ≤ 1000)
    (h : ∀ h', Fr h₀ L h' m → News h₀ L h' (own ++ Led P odd (nP + 1) ov ((a2, [], 0, []) :: (a1, [], 0, []) :: cs)) → POk P odd ((a2, [], 0, []) :: (a1, [], 0, []) :: cs) → Q .none { s with heap := h' }) :
    wpAny (model prog w) A (call (.builtin "list.extend") [.ref P, .ref b]) Q E s := by
  have hl : ∀ q ∈ P :: odd :: cs.map (·.1), q < a1 := by
    rw [← Led_fst P odd nP ov cs]
    intro q hq
    obtain ⟨p, hp, rfl⟩ := List.mem_map.mp hq
    exact hlt p (List.mem_append_right _ hp)
  have hP : (P : Nat) < a1 := hl P List.mem_cons_self
  have hl2 : ∀ q ∈ P :: odd :: ((a1, [], 0, []) :: cs : List Cell).map (·.1), q < a2 := by
    intro q hq
    rw [List.map_cons] at hq
    rcases List.mem_cons.mp hq with rfl | hq
    · exact Nat.lt_trans hP h12
    · rcases List.mem_cons.mp hq with rfl | hq
      · exact Nat.lt_trans (hl _ (List.mem_cons_of_mem _ List.mem_cons_self)) h12
      · rcases List.mem_cons.mp hq with rfl | hq
        · exact h12
        · exact Nat.lt_trans (hl _ (List.mem_cons_of_mem _ (List.mem_cons_of_mem _ hq))) h12
  refine ext_any (vs := (cs.map (fun c => Value.ref c.1)).reverse) (n := nP) F N (List.mem_cons_of_mem _ (List.mem_cons_of_mem _ (List.mem_cons_of_mem _ (List.mem_append_right _ List.mem_cons_self)))) List.mem_cons_self (Nat.ne_of_lt (Nat.lt_trans (Nat.lt_trans hP h12) h2b)).symm (by simp) (by simp; omega) fun h' F' hN => h h' F' (hN _ fun p hp => ?_) ((hok.cons hl).cons hl2)
  rcases List.mem_append.mp hp with hp | hp
  · exact .inr ⟨List.mem_cons_of_mem _ (List.mem_cons_of_mem _ (List.mem_cons_of_mem _ (List.mem_append_left _ hp))), hown p hp⟩
  · unfold Led at hp
    rcases List.mem_cons.mp hp with rfl | hp
    · exact .inl (by simp)
    · rcases List.mem_cons.mp hp with rfl | hp
      · exact .inr ⟨List.mem_cons_of_mem _ (List.mem_cons_of_mem _ (List.mem_cons_of_mem _ (List.mem_append_right _ (List.mem_cons_of_mem _ List.mem_cons_self)))), Led_ne (ov := ov) hok _ List.mem_cons_self⟩
      · rw [List.map_cons, List.map_cons] at hp
        rcases List.mem_cons.mp hp with rfl | hp
        · exact .inr ⟨List.mem_cons_of_mem _ List.mem_cons_self, (Nat.ne_of_lt (Nat.lt_trans hP h12)).symm⟩
        · rcases List.mem_cons.mp hp with rfl | hp
          · exact .inr ⟨List.mem_cons_of_mem _ (List.mem_cons_of_mem _ List.mem_cons_self), (Nat.ne_of_lt hP).symm⟩
          · exact .inr ⟨List.mem_cons_of_mem _ (List.mem_cons_of_mem _ (List.mem_cons_of_mem _ (List.mem_append_right _ (List.mem_cons_of_mem _ (List.mem_cons_of_mem _ hp))))), Led_ne (ov := ov) hok _ (List.mem_cons_of_mem _ hp)⟩
/-- a value appended to the last piece -/
theorem app_last {a : Addr} {vs : List Value} {k : Nat} {ps : List Nat} {o : Nat} {t : Tok} (F : Fr h₀ L s.heap m) (N : News h₀ L s.heap (own ++ Led P odd nP ov ((a, vs, k, ps) :: cs))) (hok : POk P odd ((a, vs, k, ps) :: cs))
    (hown : ∀ p ∈ own, p.1 ≠ a) (hz : ps.length ≤ 1000) (ho : o < 256) (h : ∀ h', Fr h₀ L h' m → News h₀ L h' (own ++ Led P odd nP ov ((a, vs ++ [.int (o : Int) t], k + 1, ps ++ [o]) :: cs)) → POk P odd ((a, vs ++ [.int (o : Int) t], k + 1, ps ++ [o]) :: cs) → Q .none { s with heap := h' }) :
    wpAny (model prog w) A (call (.builtin "list.append") [.ref a, .int (o : Int) t]) Q E s := by
  have hi := (hok.has _ List.mem_cons_self).1
  have hvl := ints_len hi
  have hnd := hok.nd
  rw [List.map_cons, List.nodup_cons, List.nodup_cons, List.nodup_cons] at hnd
  refine app_any (vs := vs) (n := k) F N (List.mem_append_right _ (List.mem_cons_of_mem _ (List.mem_cons_of_mem _ List.mem_cons_self))) (by dsimp only at hvl; omega) fun h' F' hN => h h' F' (hN _ fun p hp => ?_) ⟨?_, fun c hc => ?_⟩
  · rcases List.mem_append.mp hp with hp | hp
    · exact .inr ⟨List.mem_append_left _ hp, hown p hp⟩
    · unfold Led at hp
      rcases List.mem_cons.mp hp with rfl | hp
      · exact .inr ⟨List.mem_append_right _ List.mem_cons_self, fun e => hnd.1 (by dsimp only at e; rw [e]; exact List.mem_cons_of_mem _ List.mem_cons_self)⟩
      · rcases List.mem_cons.mp hp with rfl | hp
        · exact .inr ⟨List.mem_append_right _ (List.mem_cons_of_mem _ List.mem_cons_self), fun e => hnd.2.1 (by dsimp only at e; rw [e]; exact List.mem_cons_self)⟩
        · rw [List.map_cons] at hp
          rcases List.mem_cons.mp hp with rfl | hp
          · exact .inl rfl
          · refine .inr ⟨List.mem_append_right _ (List.mem_cons_of_mem _ (List.mem_cons_of_mem _ (List.mem_cons_of_mem _ hp))), fun e => hnd.2.2.1 ?_⟩
            obtain ⟨c, hc, rfl⟩ := List.mem_map.mp hp
            exact e ▸ List.mem_map.mpr ⟨c, hc, rfl⟩
  · exact hok.nd
  · rcases List.mem_cons.mp hc with rfl | hc
    · refine ⟨ints_snoc hi, fun x hx => ?_⟩
      rcases List.mem_append.mp hx with hx | hx
      · exact (hok.has _ List.mem_cons_self).2 x hx
      · rw [List.mem_singleton.mp hx]; exact ho
    · exact hok.has c (List.mem_cons_of_mem _ hc)
end
end
end Mine
-- M7b
namespace Mine
noncomputable section
set_option maxRecDepth 100000
set_option maxHeartbeats 2000000
def PStep (h₀ : Heap) (L I : Addr) (own : List (Addr × Obj)) (Jn : (Str → Option Value) → List (Addr × Obj) → Prop) (s₁ : Shared) (Q : Flow → Shared → Prop) (f : Flow) (s₂ : Shared) : Prop := match f with
  | .ret v => Q (.ret v) s₂
  | .brk => Q .next s₂
  | _ => ∃ h' tk' m₂ news₂, s₂ = { s₁ with heap := h', toks := tk' } ∧ Fr h₀ L h' m₂ ∧ News h₀ L h' (own ++ news₂) ∧ (∀ p ∈ news₂, p.1 ≠ I) ∧ Jn m₂ news₂
section
variable {prog : Program} {w : World} {A : Around} {E : Value → Shared → Prop} {s : Shared} {env : Env} {h₀ : Heap} {x : Str} {body : List Stmt} {Q : Flow → Shared → Prop}
/-- a loop over a list whose turns make things: P says which values the list holds -/
theorem iter_vals {l : Addr} {vs : List Value} {m₀ : Str → Option Value} {news : List (Addr × Obj)} (J : Nat → (Str → Option Value) → List (Addr × Obj) → Prop)
    (hh : A.handled = none) (hl : s.heap.IsList l vs.toArray) (hlt : l < s.heap.objs.size) (hlL : l ≠ env.locals) (F : Fr h₀ env.locals s.heap m₀) (N : News h₀ env.locals s.heap news) (hj : J 0 m₀ news)
    (turn : ∀ i v m₁ news₁ h tk own I, vs[i]? = some v → J i m₁ news₁ → (∀ p ∈ news₁, p.1 ≠ I) → (∀ p ∈ own, p.1 = I ∨ p.1 = l) → (∃ o, (I, o) ∈ own) → (∀ p ∈ news, p.1 < I) →
      Fr h₀ env.locals h (fun y => if y = x then some v else m₁ y) → News h₀ env.locals h (own ++ news₁) →
      wpAny (model prog w) A (execs body env) (PStep h₀ env.locals I own (J (i + 1)) { s with heap := h, toks := tk } Q) E { s with heap := h, toks := tk })
    (done : ∀ m₁ news₁ h tk, J vs.length m₁ news₁ → Fr h₀ env.locals h m₁ → News h₀ env.locals h news₁ → Q .next { s with heap := h, toks := tk }) :
    wpAny (model prog w) A (pyIter (.ref l)) (fun it s₂ => LoopAtV prog w A h₀ env x body Q E it s₂) E s := by
  have hne : l ≠ s.heap.objs.size := Nat.ne_of_lt hlt
  refine wpAny_pyIter_list hl ?_
  have W := Walks.list (prog := prog) (w := w) hh s.heap.objs.size l hne vs.toArray
  have hlen : vs.toArray.size = vs.length := by simp
  rw [hlen] at W
  refine ⟨_, _, _, vs.length, _, _, m₀, news, J, rfl, W, ?_, ?_, ?_, ⟨⟨_, Heap.get?_push_size _ rfl, rfl, rfl⟩, hl.at fun o e => Heap.get?_push_of_some _ e⟩, F.push _, (fun p hp => ⟨Heap.get?_push_of_some _ (N p hp).1, (N p hp).2⟩), hj, ?_, ?_⟩
  · intro hm
    rcases List.mem_cons.mp hm with e | hm
    · exact absurd F.ns.lt (e ▸ Nat.lt_irrefl _)
    · exact hlL (List.mem_singleton.mp hm).symm
  · intro b hb
    rw [List.mem_singleton.mp hb]
    exact next_is_new F
  · intro p hp hI
    exact absurd (Heap.lt_size (N p hp).1) ((List.mem_singleton.mp hI) ▸ Nat.lt_irrefl _)
  · rintro i v m₁ news₁ s₁ own ⟨hh', tk', rfl⟩ hin hP hJ hoff hown _ hall st F₁ N₁
    have hP' : vs[i]? = some v := by simpa using hP
    have hI : ∃ o, (s.heap.objs.size, o) ∈ own := by
      obtain ⟨o, ho, _⟩ := st.1
      exact ⟨o, hall _ List.mem_cons_self (next_is_new F) o ho⟩
    refine wpAny_mono (turn i v m₁ news₁ hh' tk' own s.heap.objs.size hP' hJ (fun p hp e => hoff p hp (List.mem_singleton.mpr e)) (fun p hp => ?_) hI (fun p hp => Heap.lt_size (N p hp).1) F₁ N₁) (fun f s₂ p => ?_) fun _ _ e => e
    · rcases List.mem_cons.mp (hown p hp) with e | e
      · exact .inl e
      · exact .inr (List.mem_singleton.mp e)
    · have fin : (∃ h' tk'' m₂ news₂, s₂ = { s with heap := h', toks := tk'' } ∧ Fr h₀ env.locals h' m₂ ∧ News h₀ env.locals h' (own ++ news₂) ∧ (∀ p ∈ news₂, p.1 ≠ s.heap.objs.size) ∧ J (i + 1) m₂ news₂) →
          LoopStepU h₀ env.locals [s.heap.objs.size] own (J (i + 1)) { s with heap := hh', toks := tk' } .next s₂ := by
        rintro ⟨h', tk'', m₂, news₂, rfl, F', N', hn, hJ'⟩
        exact ⟨rfl, h', tk'', m₂, news₂, rfl, F', N', fun p hp hq => hn p hp (List.mem_singleton.mp hq), hJ'⟩
      cases f with
      | ret v => exact .ret p
      | brk => exact .brk p
      | next => exact .next (fin p)
      | cont => exact .cont (fin p)
  · rintro h' tk m' news' F' N' _ hJ
    exact done m' news' h' tk hJ F' N'
end
end
end Mine
-- M7
namespace Mine
noncomputable section
set_option maxRecDepth 100000
set_option maxHeartbeats 2000000

def Sep (own : List (Addr × Obj)) (P odd : Addr) (cs : List Cell) : Prop := ∀ p ∈ own, ∀ q ∈ P :: odd :: cs.map (·.1), p.1 ≠ q
theorem Sep.cons {own : List (Addr × Obj)} {P odd a : Addr} {cs : List Cell} {led : List (Addr × Obj)} (h : Sep own P odd cs) (hlt : ∀ p ∈ own ++ led, p.1 < a) : Sep own P odd ((a, [], 0, []) :: cs) := by
  intro p hp q hq
  rw [List.map_cons] at hq
  rcases List.mem_cons.mp hq with rfl | hq
  · exact h p hp _ List.mem_cons_self
  · rcases List.mem_cons.mp hq with rfl | hq
    · exact h p hp _ (List.mem_cons_of_mem _ List.mem_cons_self)
    · rcases List.mem_cons.mp hq with rfl | hq
      · exact Nat.ne_of_lt (hlt p (List.mem_append_left _ hp))
      · exact h p hp q (List.mem_cons_of_mem _ (List.mem_cons_of_mem _ hq))
theorem Sep.of {own : List (Addr × Obj)} {P odd I l : Addr} {nP : Nat} {ov : List Value} {cs : List Cell} {h₀ h : Heap} {L : Addr} {ol : Obj} (hne : ∀ p ∈ Led P odd nP ov cs, p.1 ≠ I) (hown : ∀ p ∈ own, p.1 = I ∨ p.1 = l) (hl : h₀.get? l = some ol)
    (N : News h₀ L h (own ++ Led P odd nP ov cs)) : Sep own P odd cs := by
  intro p hp q hq e
  rw [← Led_fst P odd nP ov cs] at hq
  obtain ⟨r, hr, rfl⟩ := List.mem_map.mp hq
  rcases hown p hp with h1 | h1
  · exact hne r hr (e.symm.trans h1)
  · have := (N p (List.mem_append_left _ hp)).2.2
    rw [h1, hl] at this
    cases this
theorem Sep.offP {own : List (Addr × Obj)} {P odd : Addr} {cs : List Cell} (h : Sep own P odd cs) : ∀ p ∈ own, p.1 ≠ P := fun p hp => h p hp P List.mem_cons_self
theorem Sep.off1 {own : List (Addr × Obj)} {P odd : Addr} {c : Cell} {cs : List Cell} (h : Sep own P odd (c :: cs)) : ∀ p ∈ own, p.1 ≠ c.1 := fun p hp => h p hp c.1 (List.mem_cons_of_mem _ (List.mem_cons_of_mem _ (by rw [List.map_cons]; exact List.mem_cons_self)))
theorem Sep.offI {own : List (Addr × Obj)} {P odd I : Addr} {nP : Nat} {ov : List Value} {cs : List Cell} (h : Sep own P odd cs) (hI : ∃ o, (I, o) ∈ own) : ∀ p ∈ Led P odd nP ov cs, p.1 ≠ I := by
  obtain ⟨o, ho⟩ := hI
  intro p hp e
  exact h _ ho p.1 (by rw [← Led_fst P odd nP ov cs]; exact List.mem_map.mpr ⟨p, hp, rfl⟩) e.symm
def octsOf (cs : List Cell) : Nat := (cs.map fun c => c.2.2.2.length).sum
/-- what holds between the turns -/
def PJ (P odd : Addr) (ov : List Value) (i : Nat) (m : Str → Option Value) (news : List (Addr × Obj)) : Prop :=
  ∃ nP c cs, news = Led P odd nP ov (c :: cs) ∧ POk P odd (c :: cs) ∧ (c :: cs).length ≤ 1 + 2 * i ∧ octsOf (c :: cs) = 2 + i ∧ m (Str.ofString "odd") = some (.ref odd) ∧ m (Str.ofString "pieces") = some (.ref P)
def oddL : List Nat := [32, 95, 61, 63, 45, 43, 47, 33, 42, 44, 46, 9, 10, 127, 48, 122]
theorem oddL_lt : ∀ o ∈ oddL, o < 256 := by decide
theorem odd_item {ov : List Value} (h : IntsAre ov (oddL.map fun (n : Nat) => (n : Int))) {d : Int} (h0 : 0 ≤ d) (h1 : d < 16) : ∃ (o : Nat) (t : Tok), o < 256 ∧ ov[d.toNat]? = some (.int (o : Int) t) := by
  have hl : d.toNat < oddL.length := by show d.toNat < 16; omega
  obtain ⟨t, ht⟩ := h.get d.toNat ((oddL[d.toNat] : Nat) : Int) (by simp [hl])
  exact ⟨_, t, oddL_lt _ (List.getElem_mem hl), ht⟩
section
variable {prog : Program} {w : World} {A : Around} {E : Value → Shared → Prop} {s : Shared} {h₀ : Heap} {L P odd : Addr} {m : Str → Option Value} {own : List (Addr × Obj)} {ov : List Value} {nP : Nat} {c : Cell} {cs : List Cell} {Q : Value → Shared → Prop} {value slice : Expr} {u : Tok}
theorem last_item (N : News h₀ L s.heap (own ++ Led P odd nP ov (c :: cs))) (h : Q (.ref c.1) s)
    (hs : subscripted slice false (.ref P) (.int (-1) u) = operate [.ref P, .int (-1) u] (getItem (.ref P) (.int (-1) u)) := by with_unfolding_all rfl) (hg : ∀ r, letTemporaryGo value (.ref P) r = pure () := by intro _; with_unfolding_all rfl) :
    wpAny (model prog w) A (subscriptTail value slice (.ref P) (.int (-1) u)) Q E s := by
  refine kim_back (l := ((c :: cs).map (fun c => Value.ref c.1)).reverse) (n := nP) N (List.mem_append_right _ List.mem_cons_self) rfl rfl (by decide) (by simp; omega) (by decide) ?_ h hs hg
  simp only [List.map_cons, List.reverse_cons, List.length_append, List.length_reverse, List.length_map, List.length_singleton]
  have e : ((-1 : Int) + ((cs.length + 1 : Nat) : Int)).toNat = cs.length := by omega
  rw [e, List.getElem?_append_right (by simp)]
  simp
theorem odd_at (N : News h₀ L s.heap (own ++ Led P odd nP ov cs)) {d : Int} {v : Value} (h0 : 0 ≤ d) (h1 : d < 16) (hx : ov[d.toNat]? = some v) (h : Q v s)
    (hs : subscripted slice false (.ref odd) (.int d u) = operate [.ref odd, .int d u] (getItem (.ref odd) (.int d u)) := by with_unfolding_all rfl) (hg : ∀ r, letTemporaryGo value (.ref odd) r = pure () := by intro _; with_unfolding_all rfl) :
    wpAny (model prog w) A (subscriptTail value slice (.ref odd) (.int d u)) Q E s :=
  kim_list (l := ov) (n := 0) N (List.mem_append_right _ (List.mem_cons_of_mem _ List.mem_cons_self)) rfl rfl h0 (by omega) hx h hs hg
theorem meth_P {pl : Sem Bool} {Qm : Value × List Value → Shared → Prop} {nm : Str} {id : String} {D : Addr} {vs : List Value} {n : Nat} {news : List (Addr × Obj)} (N : News h₀ L s.heap news) (hm : (D, listOf vs.toArray n) ∈ news) (slot : Slot "list" nm id) (ty : typeOf (.builtin id) = pure (.type "method_descriptor"))
    (h : Qm (.builtin id, [.ref D]) s) : wpAny (model prog w) A (getMethod (.ref D) nm pl) Qm E s := kl_method N hm slot ty h
end

theorem newList_ints {M : Model} {A : Around} {E : Value → Shared → Prop} {s : Shared} {h₀ : Heap} {L : Addr} {m : Str → Option Value} {news : List (Addr × Obj)} {vs : List Value} {ns : List Int} {Q : Value → Shared → Prop} (F : Fr h₀ L s.heap m) (N : News h₀ L s.heap news) (hi : IntsAre vs ns) (hz : ns.length ≤ 1000)
    (h : ∀ l h' (ov : List Value), IntsAre ov ns → Fr h₀ L h' m → News h₀ L h' ((l, listOf ov.toArray 0) :: news) → (∀ p ∈ news, p.1 < l) → Q (.ref l) { s with heap := h' }) : wpAny M A (newList vs) Q E s :=
  newList_K F N (fun l h' F' N' hlt => h l h' vs hi F' N' hlt) (by rw [hi.length, sizeLine_eq]; omega)
theorem POk.start {P odd f : Addr} {fv : List Value} {k : Nat} (h1 : odd < f) (h2 : f < P) (hf : IntsAre fv (([84, 32] : List Nat).map fun (n : Nat) => (n : Int))) : POk P odd [(f, fv, k, [84, 32])] := by
  refine ⟨?_, fun c hc => ?_⟩
  · have e1 : P ≠ odd := (Nat.ne_of_lt (Nat.lt_trans h1 h2)).symm
    have e2 : P ≠ f := (Nat.ne_of_lt h2).symm
    have e3 : odd ≠ f := Nat.ne_of_lt h1
    simp [e1, e2, e3]
  · rw [List.mem_singleton.mp hc]
    exact ⟨hf, (by decide : ∀ o ∈ ([84, 32] : List Nat), o < 256)⟩
theorem mod256 (a : Int) : ∃ o : Nat, Int.fmod a 256 = (o : Int) ∧ o < 256 := by
  refine ⟨(Int.fmod a 256).toNat, ?_, ?_⟩ <;> rw [Int.fmod_eq_emod_of_nonneg _ (by decide)] <;> omega
theorem mod96 (a : Int) : 0 ≤ Int.fmod a 96 := by rw [Int.fmod_eq_emod_of_nonneg _ (by decide)]; omega
theorem octs_last {a : Addr} {vs vs' : List Value} {k k' : Nat} {ps : List Nat} {o : Nat} {cs : List Cell} {n : Nat} (h : octsOf ((a, vs, k, ps) :: cs) = n) : octsOf ((a, vs', k', ps ++ [o]) :: cs) = n + 1 := by
  simp only [octsOf, List.map_cons, List.sum_cons, List.length_append, List.length_singleton] at h ⊢; omega
theorem octs_new {a : Addr} {cs : List Cell} {n : Nat} (h : octsOf cs = n) : octsOf ((a, [], 0, []) :: cs) = n := by
  simp only [octsOf, List.map_cons, List.sum_cons, List.length_nil, Nat.zero_add] at h ⊢; exact h
theorem octs_head {a : Addr} {vs : List Value} {k : Nat} {ps : List Nat} {cs : List Cell} {n : Nat} (h : octsOf ((a, vs, k, ps) :: cs) = n) : ps.length ≤ n := by
  simp only [octsOf, List.map_cons, List.sum_cons] at h; omega

section
local macro_rules | `(tactic| walk_at "newList") => `(tactic| k_dflt k_extra "own newlist")
local macro_rules | `(tactic| walk_at "pyIter ref") => `(tactic| k_dflt k_extra "own iter")
local macro_rules | `(tactic| walk_at "getMethod ref") => `(tactic| k_dflt k_extra "own meth")
local macro_rules | `(tactic| walk_at "call builtin:list.append") => `(tactic| k_dflt k_extra "own append")
local macro_rules | `(tactic| walk_at "call builtin:list.extend") => `(tactic| k_dflt k_extra "own extend")
local macro_rules | `(tactic| walk_at "subscriptTail") => `(tactic| k_dflt k_extra "own item")
local macro_rules | `(tactic| walk_at "subscriptTail Name UnaryOp ref int") => `(tactic| k_dflt k_extra "own item")
local macro_rules | `(tactic| walk_at "subscriptTail Name BinOp ref int") => `(tactic| k_dflt k_extra "own item")
local macro_rules | `(tactic| walk_at "binaryOp Mod int int") => `(tactic| k_dflt k_extra "own mod")
variable {w : World} {p : Program} {loose : List Str} {mean : ExcName → Option Value} {mg mb : Str → Option Value}
    {dp un : Nat} {gd : Option (List Code)} {cn : Str} {cs : Scope} {a : Addr} {ccd : Value} {cl : List (Str × Addr)} {outer : List Env} {A₀ : Around} {base h₀ : Heap} {L : Addr} {m : Str → Option Value} {s : Shared} {Q E : Value → Shared → Prop}
theorem pieces_call :
    ∀ (_ : Below A₀ base outer h₀) (_ : Fr h₀ L s.heap m) (_ : (Mine.hd.heap_39 w.params).In h₀) (_ : Top p loose mean mg mb h₀) (_ : cs.kind = .function) (_ : dp + 2 < recursionLimit) (_ : un + 16 < cLine)
    (l : Addr) (vs : List Value) (ns : List Int) (_ : s.heap.IsList l vs.toArray) (_ : IntsAre vs ns) (_ : ns.length ≤ 12)
    (_ : ∀ h' tk' P odd nP ov c cs, (∀ b o, s.heap.get? b = some o → h'.get? b = some o) → (∀ p ∈ Led P odd nP ov (c :: cs), h'.get? p.1 = some p.2 ∧ s.heap.get? p.1 = none) → POk P odd (c :: cs) → (c :: cs).length ≤ 25 → octsOf (c :: cs) ≤ 14 → Q (.ref P) { s with heap := h', toks := tk' }),
    wpAny (model PySem.Challenge.rw_nb0042_01.row.prog w) (ktrTop dp un gd cn cs L a ccd cl outer) (call (.ref 94) [.ref l]) Q E s := by
  k_fill
  intro B F X T hk hd hu l vs ns hl hi hlen ret
  refine' enterP (binds := [(Str.ofString "picks", Value.ref l)]) B F X T hk ?k6 ?k7 ?k8 ?k9 ?kB ?c2 ?c3 ?c4 ?c5 ?_
  case k6 => k_is
  case k7 => k_is
  case k8 => ktr_room
  case k9 => exact BindsTo.of_eq rfl
  case kB => exact locs rfl
  case c2 => exact rfl
  case c3 => exact rfl
  case c4 => exact rfl
  case c5 => decide
  intro g L' h₁ QK F' N' B' X' T' up hret
  clear F
  have hlg : g.IsList l vs.toArray := stays_list up.out hl
  obtain ⟨ol, hol, holr⟩ := id hlg
  k_with_none
  k_with "pyIter ref" => fail "x"
  k_with "own newlist" =>
    fail_if_success guard_hyp hok
    fail_if_success guard_hyp oddA
    rename Fr _ _ _ _ => lF'
    rename News _ _ _ _ => lN'
    refine' newList_ints (ns := oddL.map fun (n : Nat) => (n : Int)) lF' lN' ?hi (by decide) ?_
    case hi => repeat (first | exact IntsAre.nil | refine IntsAre.cons _ _ ?_)
    clear lF' lN'
    intro oddA h9 ov hov F9 N9 hl9
    clear hl9
  k_with "own newlist" =>
    fail_if_success guard_hyp hok
    guard_hyp oddA
    fail_if_success guard_hyp fstA
    rename Fr _ _ _ _ => lF'
    rename News _ _ _ _ => lN'
    refine' newList_ints (ns := ([84, 32] : List Nat).map fun (n : Nat) => (n : Int)) lF' lN' ?hi (by decide) ?_
    case hi => repeat (first | exact IntsAre.nil | refine IntsAre.cons _ _ ?_)
    clear lF' lN'
    intro fstA h9 fv hfv F9 N9 hl1
  k_with "own newlist" =>
    fail_if_success guard_hyp hok
    guard_hyp fstA
    rename Fr _ _ _ _ => lF'
    rename News _ _ _ _ => lN'
    refine' newList_K lF' lN' ?_ (by rw [sizeLine_eq]; exact Nat.le_of_ble_eq_true rfl)
    clear lF' lN'
    intro PA h9 F9 N9 hl2
  k_with "own newlist" =>
    guard_hyp hok
    fail_if_success guard_hyp a1
    rename Fr _ _ _ _ => lF'
    rename News _ _ _ _ => lN'
    refine' newList_K lF' lN' ?_ (by rw [sizeLine_eq]; exact Nat.le_of_ble_eq_true rfl)
    clear lF' lN'
    intro a1 h9 F9 N9 hA1
  k_with "own newlist" =>
    guard_hyp a1
    fail_if_success guard_hyp a2
    rename Fr _ _ _ _ => lF'
    rename News _ _ _ _ => lN'
    refine' newList_K lF' lN' ?_ (by rw [sizeLine_eq]; exact Nat.le_of_ble_eq_true rfl)
    clear lF' lN'
    intro a2 h9 F9 N9 hA2
  k_with "own newlist" =>
    guard_hyp a2
    rename Fr _ _ _ _ => lF'
    rename News _ _ _ _ => lN'
    refine' newList_K lF' lN' ?_ (by rw [sizeLine_eq]; exact Nat.le_of_ble_eq_true rfl)
    clear lF' lN'
    intro b3 h9 F9 N9 hA3
  k_with "own iter" =>
    rename IntsAre vs _ => hi
    rename Fr _ _ _ _ => lF'
    rename News _ _ _ _ => lN'
    refine' iter_vals (vs := vs) (news := Led PA oddA 0 ov [(fstA, fv, 0, [84, 32])]) (PJ PA oddA ov) rfl (stays_list (Fr.keep lF') hlg) (Heap.lt_size (Fr.keep lF' _ _ hol)) (Nat.ne_of_lt (Nat.lt_of_lt_of_le (Heap.lt_size hol) (Fr.above lF'))) lF' ?kn ?kj ?turn ?done
    case kn =>
      refine kst_newsOf lN' fun p hp => ?_
      simp only [Led, cobj, List.map_cons, List.map_nil, List.reverse_cons, List.reverse_nil, List.nil_append, List.mem_cons, List.not_mem_nil, or_false] at hp ⊢
      rcases hp with h | h | h
      · exact .inl h
      · exact .inr (.inr h)
      · exact .inr (.inl h)
    case kj => exact ⟨0, _, _, rfl, POk.start (hl1 _ List.mem_cons_self) (hl2 _ List.mem_cons_self) hfv, Nat.le_refl _, rfl, rfl, rfl⟩
    case' turn =>
      intro i v m₁ news₁ h tk own I hv hJ hne hown hI hltI F9 N9
      clear lF' lN'
      obtain ⟨nP, ⟨a0, vs0, k0, ps0⟩, rs, e0, hok, hlen2, hoct, ho1, ho2⟩ := hJ
      subst e0
      obtain ⟨n, t9, e1, hn9⟩ := IntsAre.at hi i v hv
      subst e1
      have hsep := Sep.of hne hown hol N9
      have em : kstB m₁ [(Str.ofString "odd", .ref oddA), (Str.ofString "pieces", .ref PA)] = m₁ := funext fun y => kstB_eq (fun p hp => by rcases List.mem_cons.mp hp with rfl | hp; exact ho1; rw [List.mem_singleton.mp hp]; exact ho2) fun _ => rfl
      rw [← em] at F9
      dsimp only [kstB] at F9
      have hi12 : i < ns.length := by obtain ⟨hb, _⟩ := List.getElem?_eq_some_iff.mp hn9; exact hb
      have hps : ps0.length ≤ 1000 := Nat.le_trans (octs_head hoct) (by omega)
      have hcs : ((a0, vs0, k0, ps0) :: rs : List Cell).length ≤ 1000 := by omega
      clear hne hown hltI hv ho1 ho2 em
    case' done =>
      intro m₁ news₁ h tk hJ F9 N9
      clear lF' lN'
      obtain ⟨nP, ⟨a0, vs0, k0, ps0⟩, rs, e0, hok, hlen2, hoct, ho1, ho2⟩ := hJ
      subst e0
      have em : kstB m₁ [(Str.ofString "odd", .ref oddA), (Str.ofString "pieces", .ref PA)] = m₁ := funext fun y => kstB_eq (fun p hp => by rcases List.mem_cons.mp hp with rfl | hp; exact ho1; rw [List.mem_singleton.mp hp]; exact ho2) fun _ => rfl
      rw [← em] at F9
      dsimp only [kstB] at F9
      have hvl : vs.length = ns.length := hi.length
      clear ho1 ho2 em
  k_with "own meth" =>
    rename News _ _ _ _ => lN'
    first
      | refine' meth_P lN' (List.mem_append_right _ List.mem_cons_self) PySem.F.slot_list_append PySem.F.type_list_append ?_
      | refine' meth_P lN' (List.mem_append_right _ List.mem_cons_self) PySem.F.slot_list_extend PySem.F.type_list_extend ?_
      | refine' meth_P lN' (List.mem_append_right _ (List.mem_cons_of_mem _ (List.mem_cons_of_mem _ List.mem_cons_self))) PySem.F.slot_list_append PySem.F.type_list_append ?_
  k_with "own mod" =>
    with_reducible show wpAny _ _ (binaryOp _ _ (Value.int 256 _)) _ _ _
    obtain ⟨o, ho9, ho⟩ := mod256 (n.fdiv 384)
    refine' mod_to (o : Int) (by decide) ho9 ?_
  k_with "own item" =>
    with_reducible show wpAny _ _ (subscriptTail _ (Expr.UnaryOp _ _ _) _ _) _ _ _
    rename News _ _ _ _ => lN'
    refine' last_item lN' ?_
  k_with "own item" =>
    with_reducible show wpAny _ _ (subscriptTail _ (Expr.BinOp _ _ _ _) _ _) _ _ _
    rename News _ _ _ _ => lN'
    obtain ⟨o, to9, ho, hx9⟩ := odd_item hov (mod96 (n.fdiv 4)) (by assumption)
    refine' odd_at lN' (mod96 _) (by assumption) hx9 ?_
  k_with "own append" =>
    guard_hyp o
    rename Fr _ _ _ _ => lF'
    rename News _ _ _ _ => lN'
    refine' app_last (o := o) lF' lN' hok hsep.off1 (by first | exact hps | exact Nat.zero_le _) ho ?_
    clear lF' lN'
    intro h9 F9 N9 hokZ
  k_with "own append" =>
    fail_if_success guard_hyp o
    rename Fr _ _ _ _ => lF'
    rename News _ _ _ _ => lN'
    refine' app_piece lF' lN' hA1 hok hsep.offP hcs ?_
    clear lF' lN'
    replace hsep := hsep.cons hA1
    clear hok
    intro h9 F9 N9 hok
  k_with "own extend" =>
    rename Fr _ _ _ _ => lF'
    rename News _ _ _ _ => lN'
    refine' ext_piece lF' lN' hA1 (hA2 _ List.mem_cons_self) (hA3 _ List.mem_cons_self) hok hsep.offP hcs ?_
    clear lF' lN'
    replace hsep := (hsep.cons hA1).cons (fun p hp => hA2 p (List.mem_cons_of_mem _ hp))
    clear hok
    intro h9 F9 N9 hok
  k_steps
  · dsimp only
    refine hret _ _ _ _ (by assumption) ?_
    refine ret _ _ PA oddA nP ov _ rs (fun b o e => Fr.keep (by assumption) b o (up.out b o e)) (fun p hp => ⟨(N9 p hp).1, ?_⟩) hok (by omega) (by omega)
    cases hq : s.heap.get? p.1 with
    | none => rfl
    | some o9 =>
      have h8 := (N9 p hp).2.2
      rw [up.out _ _ hq] at h8
      cases h8
  all_goals
    unfold PStep
    dsimp only
    refine ⟨_, _, _, _, rfl, F9, N9, Sep.offI (by exact hsep) hI, _, _, _, rfl, hokZ, ?_, octs_last (n := 2 + i) (by first | exact hoct | exact octs_new hoct | exact octs_new (octs_new hoct)), rfl, rfl⟩
    simp only [List.length_cons] at hlen2 ⊢
    omega
end
end
end Mine
-- M8p
namespace Mine
noncomputable section
set_option maxRecDepth 100000
set_option maxHeartbeats 1000000
def LawEnd (h₀ : Heap) (L : Addr) (s : Shared) (fl : Flow) (s' : Shared) : Prop := ∃ h' tk' m', fl = .ret (.bool true) ∧ s' = { s with heap := h', toks := tk' } ∧ Fr h₀ L h' m'
theorem law_wrap {M : Model} {A : Around} {t : Sem Flow} {Q : Flow → Shared → Prop} {E : Value → Shared → Prop} {s : Shared} {h₀ : Heap} {L : Addr} {m : Str → Option Value} (_ : Fr h₀ L s.heap m) (hw : wpAny M A t (LawEnd h₀ L s) (fun _ _ => False) s)
    (hd : ∀ h' tk' m', Fr h₀ L h' m' → Q (.ret (.bool true)) { s with heap := h', toks := tk' }) : wpAny M A t Q E s :=
  wpAny_mono hw (fun fl s' ⟨h', tk', m', e1, e2, F'⟩ => by subst e1; subst e2; exact hd h' tk' m' F') fun _ _ x => x.elim
theorem news_new {h₀ h h' : Heap} {L : Addr} {m : Str → Option Value} {led : List (Addr × Obj)} (F : Fr h₀ L h m) (hn : ∀ p ∈ led, h'.get? p.1 = some p.2 ∧ h.get? p.1 = none) : News h₀ L h' led := by
  intro p hp
  obtain ⟨h1, h2⟩ := hn p hp
  refine ⟨h1, fun e => ?_, ?_⟩
  · obtain ⟨o, _, _, ho, _⟩ := F.ns
    rw [e, ho] at h2
    cases h2
  · cases hq : h₀.get? p.1 with
    | none => rfl
    | some o =>
      rw [F.keep _ _ hq] at h2
      cases h2
/-- the octets of the first i pieces -/
def flatN (cs : List Cell) (i : Nat) : List Nat := (((cs.map fun c => c.2.2.2).reverse).take i).flatten
theorem piece_at {cs : List Cell} {i : Nat} {v : Value} (h : ((cs.map (fun c => Value.ref c.1)).reverse)[i]? = some v) : ∃ c ∈ cs, v = .ref c.1 ∧ flatN cs (i + 1) = flatN cs i ++ c.2.2.2 := by
  rw [← List.map_reverse, List.getElem?_map] at h
  obtain ⟨c, hc, rfl⟩ := Option.map_eq_some_iff.mp h
  refine ⟨c, List.mem_reverse.mp (List.mem_of_getElem? hc), rfl, ?_⟩
  unfold flatN
  rw [← List.map_reverse, List.take_add_one, List.getElem?_map, hc]
  simp
theorem flat_len {cs : List Cell} {n : Nat} (h : octsOf cs ≤ n) (i : Nat) : (flatN cs i).length ≤ n := by
  have h1 : ((cs.map fun c => c.2.2.2).reverse.flatten).length = octsOf cs := by
    unfold octsOf
    rw [List.length_flatten, List.map_reverse, List.sum_reverse, List.map_map]; rfl
  have h2 : (flatN cs i).length ≤ ((cs.map fun c => c.2.2.2).reverse.flatten).length := by
    unfold flatN
    conv => rhs; rw [← List.take_append_drop i ((cs.map fun c => c.2.2.2).reverse), List.flatten_append, List.length_append]
    omega
  omega
theorem flat_lt {cs : List Cell} (h : ∀ c ∈ cs, ∀ o ∈ c.2.2.2, o < 256) (i : Nat) : ∀ o ∈ flatN cs i, o < 256 := by
  intro o ho
  obtain ⟨l, hl, hol⟩ := List.mem_flatten.mp ho
  obtain ⟨c, hc, rfl⟩ := List.mem_map.mp (List.mem_reverse.mp (List.mem_of_mem_take hl))
  exact h c hc o hol
theorem cell_len {cs : List Cell} {c : Cell} (h : c ∈ cs) : c.2.2.2.length ≤ octsOf cs := by
  unfold octsOf
  induction cs with
  | nil => cases h
  | cons d r ih =>
    rw [List.map_cons, List.sum_cons]
    rcases List.mem_cons.mp h with rfl | h
    · omega
    · have := ih h; omega
end
end Mine
-- M8c
namespace Mine
noncomputable section
set_option maxRecDepth 100000
set_option maxHeartbeats 1000000
section
variable {prog : Program} {w : World} {A : Around} {E : Value → Shared → Prop} {s : Shared} {h₀ : Heap} {L : Addr} {m : Str → Option Value} {news : List (Addr × Obj)} {env : Env} {scope : Scope} {cl : List (Str × Addr)} {x : Str} {elt : PySem.Expr} {ifs : List PySem.Expr}
/-- an element's end: its value, and all that stood stands -/
def ElS (x : Str) (s₃ : Shared) (y : Value) (s₄ : Shared) : Prop := (∃ t, y = .str x t) ∧ Keeps s₃ s₄
def ElI (k : Int) (s₃ : Shared) (y : Value) (s₄ : Shared) : Prop := (∃ t, y = .int k t) ∧ Keeps s₃ s₄
def ElB (b : Bool) (s₃ : Shared) (y : Bool) (s₄ : Shared) : Prop := y = b ∧ Keeps s₃ s₄
theorem fr_butK {h h' : Heap} {I : Addr} (_ : Fr h₀ L h m) (hI : h.objs.size ≤ I) (o : Obj) (hk : ∀ b o', b ∉ [I] → (h.push o).get? b = some o' → h'.get? b = some o') : ∀ b o', h.get? b = some o' → h'.get? b = some o' :=
  fun b o' e => hk b o' (fun hm => by rw [List.mem_singleton.mp hm] at e; exact absurd (Heap.lt_size e) (Nat.not_lt.mpr hI)) (Heap.get?_push_of_some _ e)
theorem news_C {h : Heap} {C : Addr} {oC : Obj} (_ : Fr h₀ L h m) {g : Heap} (Fg : Fr h₀ L g m) (N : News h₀ L h news) (hC : g.objs.size ≤ C) (e : h.get? C = some oC) : News h₀ L h ((C, oC) :: news) := by
  intro p hp
  rcases List.mem_cons.mp hp with rfl | hp
  · refine ⟨e, fun q => ?_, ?_⟩
    · have := Fg.ns.lt
      have q' : C = L := q
      rw [q'] at hC
      exact absurd this (Nat.not_lt.mpr hC)
    · cases e0 : h₀.get? C with
      | none => rfl
      | some o0 => exact absurd (Heap.lt_size (Fg.keep _ _ e0)) (Nat.not_lt.mpr hC)
  · exact N p hp
theorem quiet_of {o : Obj} {P : Nat → Value → Prop} {p : Value → Bool} {T : Value → Value → Prop} (F : Fr h₀ L s.heap m) (N : News h₀ L s.heap news)
    (tests : ∀ v C oC m₃ s₃ (E' : Value → Shared → Prop), (∃ i, P i v) → LCg.NsObj oC m₃ → m₃ x = some v → Fr h₀ L s₃.heap m → News h₀ L s₃.heap ((C, oC) :: news) →
      wpAny (model prog w) A (forIn ifs true fun c r => if r = true then do let ok ← isTrue c (compEnvC scope cl C env) (eval c (compEnvC scope cl C env)); pure (ForInStep.yield ok) else pure (ForInStep.yield r)) (fun ok s₄ => ok = p v ∧ Keeps s₃ s₄) E' s₃)
    (elts : ∀ v C oC m₃ s₃ (E' : Value → Shared → Prop), (∃ i, P i v) → p v = true → LCg.NsObj oC m₃ → m₃ x = some v → Fr h₀ L s₃.heap m → News h₀ L s₃.heap ((C, oC) :: news) →
      wpAny (model prog w) A (eval elt (compEnvC scope cl C env)) (fun y s₄ => T v y ∧ Keeps s₃ s₄) E' s₃) :
    QuietOnC prog w A env scope cl x ifs elt [s.heap.objs.size] P p T { s with heap := s.heap.push o } where
  tests := fun C i v s₃ m₃ E' hC hP hn hm hk _ => by
    have up := fr_butK F (Nat.le_refl _) o hk
    obtain ⟨oC, eC, hoC⟩ := LCg.ns_obj hn
    have hC' : s.heap.objs.size ≤ C := by have h9 : (s.heap.push o).objs.size ≤ C := hC; rw [Heap.size_push] at h9; exact Nat.le_of_succ_le h9
    exact tests v C oC m₃ s₃ E' ⟨i, hP⟩ hoC hm (F.keeps up) (news_C (F.keeps up) F (N.grown up) hC' eC)
  elt := fun C i v s₃ m₃ E' hC hP hp hn hm hk _ => by
    have up := fr_butK F (Nat.le_refl _) o hk
    obtain ⟨oC, eC, hoC⟩ := LCg.ns_obj hn
    have hC' : s.heap.objs.size ≤ C := by have h9 : (s.heap.push o).objs.size ≤ C := hC; rw [Heap.size_push] at h9; exact Nat.le_of_succ_le h9
    exact elts v C oC m₃ s₃ E' ⟨i, hP⟩ hp hoC hm (F.keeps up) (news_C (F.keeps up) F (N.grown up) hC' eC)
theorem news_D {h : Heap} {D : Addr} {o oD : Obj} (F : Fr h₀ L s.heap m) (up : ∀ b o', s.heap.get? b = some o' → h.get? b = some o') (hD : (s.heap.push o).get? D = none) (N : News h₀ L s.heap news) (e : h.get? D = some oD) (hL : D ≠ L) : News h₀ L h ((D, oD) :: news) := by
  intro p hp
  rcases List.mem_cons.mp hp with rfl | hp
  · refine ⟨e, hL, ?_⟩
    cases e0 : h₀.get? D with
    | none => rfl
    | some o0 => rw [Heap.get?_push_of_some _ (F.keep _ _ e0)] at hD; cases hD
  · exact N.grown up p hp
theorem paired_strs {g : Value → Str} {T : Value → Value → Prop} (hT : ∀ v y, T v y → ∃ t, y = .str (g v) t) : ∀ {vs ys : List Value}, Paired T vs ys → StrsAre ys (vs.map g)
  | _, _, .nil => .nil
  | _, _, .cons h r => by
    obtain ⟨t, e⟩ := hT _ _ h
    subst e
    exact .cons _ t (paired_strs hT r)
theorem paired_ints {g : Value → Int} {T : Value → Value → Prop} (hT : ∀ v y, T v y → ∃ t, y = .int (g v) t) : ∀ {vs ys : List Value}, Paired T vs ys → IntsAre ys (vs.map g)
  | _, _, .nil => .nil
  | _, _, .cons h r => by
    obtain ⟨t, e⟩ := hT _ _ h
    subst e
    exact .cons _ t (paired_ints hT r)
def vInt : Value → Int
  | .int k _ => k
  | _ => 0
def vStr : Value → Str
  | .str x _ => x
  | _ => ⟨#[]⟩
theorem filter_true (l : List Value) : l.filter (fun _ => true) = l := List.filter_eq_self.mpr fun _ _ => rfl
/-- what a comprehension asks of its source -/
def CFrom (prog : Program) (w : World) (A : Around) (env : Env) (scope : Scope) (cl : List (Str × Addr)) (x : Str) (ifs : List PySem.Expr) (elt : PySem.Expr) (p : Value → Bool) (T : Value → Value → Prop) (Q : Value → Shared → Prop) (E : Value → Shared → Prop) (xv : Value) (s₁ : Shared) : Prop :=
  wpAny (model prog w) A (pyIter xv) (fun it s₂ => ∃ I fp wr n P St, it = .ref I ∧ Walks prog w A I fp wr n P St ∧ n ≤ sizeLine ∧ St 0 s₂.heap ∧ (∀ b ∈ fp, b < s₂.heap.objs.size) ∧
      QuietOnC prog w A env scope cl x ifs elt wr P p T s₂ ∧
      (∀ D h' tk ys (vs : List Value), s₂.heap.get? D = none → h'.IsList D ys → h'.PlainList D ys → vs.length = n → (∀ j v, vs[j]? = some v → P j v) → Paired T (vs.filter p) ys.toList →
        (∀ b o, b ∉ wr → s₂.heap.get? b = some o → h'.get? b = some o) → Q (.ref D) { s₂ with heap := h', toks := tk })) E s₁
def CAsg (prog : Program) (w : World) (A : Around) (env : Env) (scope : Scope) (cl : List (Str × Addr)) (x y : Str) (ifs : List PySem.Expr) (elt : PySem.Expr) (p : Value → Bool) (T : Value → Value → Prop) (Q : Flow → Shared → Prop) (E : Value → Shared → Prop) (xv : Value) (s₁ : Shared) : Prop :=
  wpAny (model prog w) A (pyIter xv) (fun it s₂ => ∃ I fp wr n P St m, it = .ref I ∧ Walks prog w A I fp wr n P St ∧ n ≤ sizeLine ∧ St 0 s₂.heap ∧ (∀ b ∈ fp, b < s₂.heap.objs.size) ∧
      env.locals ∉ wr ∧ s₂.heap.Ns env.locals m ∧ QuietOnC prog w A env scope cl x ifs elt wr P p T s₂ ∧
      (∀ D h' tk ys (vs : List Value), s₂.heap.get? D = none → h'.IsList D ys → h'.PlainList D ys → vs.length = n → (∀ j v, vs[j]? = some v → P j v) → Paired T (vs.filter p) ys.toList →
        h'.Ns env.locals (fun z => if z = y then some (.ref D) else m z) → (∀ b o, b ≠ env.locals → b ∉ wr → s₂.heap.get? b = some o → h'.get? b = some o) → Q .next { s₂ with heap := h', toks := tk })) E s₁
theorem lc_from {iter : PySem.Expr} {px pos : Pos} {Q : Value → Shared → Prop} (p : Value → Bool) (T : Value → Value → Prop) (hclos : closureFor scope env = pure cl) (hcell : ∀ y ∈ scope.names, y.2 ≠ .cell) (hkind : scope.kind = .function)
    (hnames : ∀ y ∈ scope.names, y.2 = .local → scope.names.lookup y.1 = some .local) (hx : scope.names.lookup x = some .local) (h : wpAny (model prog w) A (eval iter env) (CFrom prog w A env scope cl x ifs elt p T Q E) E s)
    (hs : ∀ x, foldedSetIterable iter env x = pure x := by intro _; rfl) : wpAny (model prog w) A (eval (.ListComp elt [⟨.Name x px, iter, ifs, 0⟩] scope pos) env) Q E s :=
  wpAny_ListComp_free p T hclos hcell hkind hnames hx h hs
theorem asg_from {iter : PySem.Expr} {y : Str} {px py pos spos : Pos} {Q : Flow → Shared → Prop} (p : Value → Bool) (T : Value → Value → Prop) (hsw : swapsWith (.ListComp elt [⟨.Name x px, iter, ifs, 0⟩] scope pos) (some (.Name y py)) spos.line env = pure true)
    (hclos : closureFor scope env = pure cl) (hcell : ∀ z ∈ scope.names, z.2 ≠ .cell) (hkind : scope.kind = .function)
    (hnames : ∀ z ∈ scope.names, z.2 = .local → scope.names.lookup z.1 = some .local) (hx : scope.names.lookup x = some .local)
    (hy : env.kindOf y = some .local) (hp : (env.scope.kind == .class || (env.scope.kind == .module && env.locals != env.globals)) = false) (h : wpAny (model prog w) A (eval iter env) (CAsg prog w A env scope cl x y ifs elt p T Q E) E s)
    (hs : ∀ x, foldedSetIterable iter env x = pure x := by intro _; rfl) : wpAny (model prog w) A (exec (.Assign [.Name y py] (.ListComp elt [⟨.Name x px, iter, ifs, 0⟩] scope pos) spos) env) Q E s :=
  wpAny_Assign_ListComp_free p T hsw hclos hcell hkind hnames hx hy hp h hs
/-- a comprehension over bytes whose element is a text -/
theorem src_bytes {b : Array UInt8} {tb : Tok} (g : Int → Str) {Q : Value → Shared → Prop} (F : Fr h₀ L s.heap m) (N : News h₀ L s.heap news) (hh : A.handled = none) (hsz : b.size ≤ sizeLine)
    (elts : ∀ k u C oC m₃ s₃ (E' : Value → Shared → Prop), k ∈ KBw.bInts b → LCg.NsObj oC m₃ → m₃ x = some (.int k u) → Fr h₀ L s₃.heap m → News h₀ L s₃.heap ((C, oC) :: news) →
      wpAny (model prog w) A (eval elt (compEnvC scope cl C env)) (ElS (g k) s₃) E' s₃)
    (fin : ∀ D n ys h tk, StrsAre ys ((KBw.bInts b).map g) → Fr h₀ L h m → News h₀ L h ((D, listOf ys.toArray n) :: news) → Q (.ref D) { s with heap := h, toks := tk }) :
    CFrom prog w A env scope cl x [] elt (fun _ => true) (fun v y => ∃ t, y = .str (g (vInt v)) t) Q E (.bytes b tb) s := by
  unfold CFrom
  refine KBw.pyIter_bytes ?_
  refine ⟨_, _, _, b.size, _, _, rfl, KBw.walks hh s.heap.objs.size b tb, hsz, ⟨_, Heap.get?_push_size _ rfl, rfl, rfl⟩, ?_, ?_, ?_⟩
  · intro c hc
    rw [List.mem_singleton.mp hc]
    show s.heap.objs.size < (s.heap.push _).objs.size
    rw [Heap.size_push]; exact Nat.lt_succ_self _
  · refine quiet_of F N (fun v C oC m₃ s₃ E' _ _ _ _ _ => wpAny_tests_nil ⟨rfl, _, _, rfl, fun _ _ e => e⟩) ?_
    rintro v C oC m₃ s₃ E' ⟨i, c, u, hc, rfl⟩ _ hoC hm F₃ N₃
    exact elts _ _ C oC m₃ s₃ E' (List.mem_of_getElem? (KBw.ints_get hc)) hoC hm F₃ N₃
  · intro D h' tk ys vs hD hl hpl hlen hP hF hk
    have up := fr_butK F (Nat.le_refl _) _ hk
    obtain ⟨n, hn⟩ := hpl
    have hL : D ≠ L := fun q => by
      obtain ⟨o, _, _, e, _⟩ := F.ns
      have q' : D = L := q
      rw [q', Heap.get?_push_of_some _ e] at hD; cases hD
    have e : vs.map (fun v => g (vInt v)) = (KBw.bInts b).map g := by
      have : vs.map vInt = KBw.bInts b := by
        refine List.ext_getElem? fun i => ?_
        rw [List.getElem?_map]
        cases hv : vs[i]? with
        | some v =>
          obtain ⟨c, u, hc, rfl⟩ := hP i v hv
          rw [KBw.ints_get hc]; rfl
        | none =>
          have h1 := List.getElem?_eq_none_iff.mp hv
          rw [hlen] at h1
          refine (List.getElem?_eq_none ?_).symm
          rw [show (KBw.bInts b).length = b.size by simp [KBw.bInts]]; exact h1
      rw [← this, List.map_map]; rfl
    rw [filter_true] at hF
    have hS := paired_strs (g := fun v => g (vInt v)) (fun v y h => h) hF
    rw [e] at hS
    refine fin D n ys.toList h' tk hS (F.keeps up) ?_
    exact news_D F up hD N (by rw [hn]) hL
/-- over a text, the element an int -/
theorem src_str {tx : Str} {tb : Tok} (g : Nat → Int) {Q : Value → Shared → Prop} (F : Fr h₀ L s.heap m) (N : News h₀ L s.heap news) (hh : A.handled = none) (hsz : tx.cps.size ≤ sizeLine)
    (elts : ∀ c u C oC m₃ s₃ (E' : Value → Shared → Prop), c ∈ tx.cps.toList → LCg.NsObj oC m₃ → m₃ x = some (.str ⟨#[c]⟩ u) → Fr h₀ L s₃.heap m → News h₀ L s₃.heap ((C, oC) :: news) →
      wpAny (model prog w) A (eval elt (compEnvC scope cl C env)) (ElI (g c) s₃) E' s₃)
    (fin : ∀ D n ys h tk, IntsAre ys (tx.cps.toList.map g) → Fr h₀ L h m → News h₀ L h ((D, listOf ys.toArray n) :: news) → Q (.ref D) { s with heap := h, toks := tk }) :
    CFrom prog w A env scope cl x [] elt (fun _ => true) (fun v y => ∃ t, y = .int (g ((vStr v).cps.toList.getD 0 0)) t) Q E (.str tx tb) s := by
  unfold CFrom
  refine wpAny_pyIter_str fun o St W hst => ?_
  refine ⟨_, _, _, tx.cps.size, _, _, rfl, W A hh, hsz, hst, ?_, ?_, ?_⟩
  · intro c hc
    rw [List.mem_singleton.mp hc]
    show s.heap.objs.size < (s.heap.push _).objs.size
    rw [Heap.size_push]; exact Nat.lt_succ_self _
  · refine quiet_of F N (fun v C oC m₃ s₃ E' _ _ _ _ _ => wpAny_tests_nil ⟨rfl, _, _, rfl, fun _ _ e => e⟩) ?_
    rintro v C oC m₃ s₃ E' ⟨i, c, u, hc, rfl⟩ _ hoC hm F₃ N₃
    exact elts c u C oC m₃ s₃ E' (List.mem_of_getElem? (by rw [Array.getElem?_toList]; exact hc)) hoC hm F₃ N₃
  · intro D h' tk ys vs hD hl hpl hlen hP hF hk
    have up := fr_butK F (Nat.le_refl _) _ hk
    obtain ⟨n, hn⟩ := hpl
    have hL : D ≠ L := fun q => by
      obtain ⟨o, _, _, e, _⟩ := F.ns
      have q' : D = L := q
      rw [q', Heap.get?_push_of_some _ e] at hD; cases hD
    have e : vs.map (fun v => g ((vStr v).cps.toList.getD 0 0)) = tx.cps.toList.map g := by
      have : vs.map (fun v => (vStr v).cps.toList.getD 0 0) = tx.cps.toList := by
        refine List.ext_getElem? fun i => ?_
        rw [List.getElem?_map]
        cases hv : vs[i]? with
        | some v =>
          obtain ⟨c, u, hc, rfl⟩ := hP i v hv
          rw [Array.getElem?_toList, hc]; rfl
        | none =>
          have h1 := List.getElem?_eq_none_iff.mp hv
          rw [hlen] at h1
          exact (List.getElem?_eq_none (by rw [Array.length_toList]; exact h1)).symm
      rw [← this, List.map_map]; rfl
    rw [filter_true] at hF
    have hS := paired_ints (g := fun v => g ((vStr v).cps.toList.getD 0 0)) (fun v y h => h) hF
    rw [e] at hS
    refine fin D n ys.toList h' tk hS (F.keeps up) ?_
    exact news_D F up hD N (by rw [hn]) hL
/-- a list of ints, some of them kept, stored under a name -/
theorem asg_list {cnd : PySem.Expr} {l : Addr} {vs : List Value} {ks : List Int} {y : Str} (q : Int → Bool) {Q : Flow → Shared → Prop} (hLe : env.locals = L) (F : Fr h₀ L s.heap m) (N : News h₀ L s.heap news) (hh : A.handled = none) (hl : s.heap.IsList l vs.toArray) (hi : IntsAre vs ks) (hsz : ks.length ≤ sizeLine)
    (tests : ∀ k u C oC m₃ s₃ (E' : Value → Shared → Prop), k ∈ ks → LCg.NsObj oC m₃ → m₃ x = some (.int k u) → Fr h₀ L s₃.heap m → News h₀ L s₃.heap ((C, oC) :: news) →
      wpAny (model prog w) A (isTrue cnd (compEnvC scope cl C env) (eval cnd (compEnvC scope cl C env))) (ElB (q k) s₃) E' s₃)
    (elts : ∀ k u C oC m₃ s₃ (E' : Value → Shared → Prop), k ∈ ks → LCg.NsObj oC m₃ → m₃ x = some (.int k u) → Fr h₀ L s₃.heap m → News h₀ L s₃.heap ((C, oC) :: news) →
      wpAny (model prog w) A (eval elt (compEnvC scope cl C env)) (ElI k s₃) E' s₃)
    (fin : ∀ D n ys h tk, IntsAre ys (ks.filter q) → Fr h₀ L h (fun z => if z = y then some (.ref D) else m z) → News h₀ L h ((D, listOf ys.toArray n) :: news) → Q .next { s with heap := h, toks := tk }) :
    CAsg prog w A env scope cl x y [cnd] elt (fun v => q (vInt v)) (fun v y => ∃ t, y = .int (vInt v) t) Q E (.ref l) s := by
  subst hLe
  unfold CAsg
  have hlt : l < s.heap.objs.size := by obtain ⟨_, e, _⟩ := hl; exact Heap.lt_size e
  have hIL : env.locals ∉ [s.heap.objs.size] := fun hm => absurd F.ns.lt ((List.mem_singleton.mp hm) ▸ Nat.lt_irrefl _)
  refine wpAny_pyIter_list hl ?_
  refine ⟨_, _, _, vs.toArray.size, _, _, m, rfl, Walks.list hh s.heap.objs.size l (Nat.ne_of_lt hlt) vs.toArray, by rw [List.size_toArray, hi.length]; exact hsz, ⟨⟨_, Heap.get?_push_size _ rfl, rfl, rfl⟩, hl.push _⟩, ?_, hIL, (F.push _).ns, ?_, ?_⟩
  · intro b hb
    show b < (s.heap.push _).objs.size
    rw [Heap.size_push]
    rcases List.mem_cons.mp hb with rfl | hb
    · exact Nat.lt_succ_self _
    · rw [List.mem_singleton.mp hb]; exact Nat.lt_succ_of_lt hlt
  · refine quiet_of F N ?_ ?_
    · rintro v C oC m₃ s₃ E' ⟨i, hv⟩ hoC hm F₃ N₃
      obtain ⟨k, t, e, hk⟩ := IntsAre.at hi i v (by simpa using hv)
      subst e
      exact wpAny_tests_one (tests k t C oC m₃ s₃ E' (List.mem_of_getElem? hk) hoC hm F₃ N₃)
    · rintro v C oC m₃ s₃ E' ⟨i, hv⟩ _ hoC hm F₃ N₃
      obtain ⟨k, t, e, hk⟩ := IntsAre.at hi i v (by simpa using hv)
      subst e
      exact elts k t C oC m₃ s₃ E' (List.mem_of_getElem? hk) hoC hm F₃ N₃
  · intro D h' tk ys us hD hlD hpl hlen hP hF hns hk
    obtain ⟨n, hn⟩ := hpl
    have hL : D ≠ env.locals := fun q => by
      obtain ⟨o, _, _, e, _⟩ := F.ns
      have q' : D = env.locals := q
      rw [q', Heap.get?_push_of_some _ e] at hD; cases hD
    have hL₀ : h₀.get? env.locals = none := Heap.get?_none_of_le F.above
    have up : ∀ b o, b ≠ env.locals → s.heap.get? b = some o → h'.get? b = some o := fun b o hb e =>
      hk b o hb (fun hm => by rw [List.mem_singleton.mp hm] at e; exact absurd (Heap.lt_size e) (Nat.lt_irrefl _)) (Heap.get?_push_of_some _ e)
    have e : us = vs := by
      refine List.ext_getElem? fun i => ?_
      cases hv : us[i]? with
      | some v => have := hP i v hv; simpa using this.symm
      | none =>
        have h1 := List.getElem?_eq_none_iff.mp hv
        rw [hlen, List.size_toArray] at h1
        exact (List.getElem?_eq_none h1).symm
    subst e
    have hS := paired_ints (g := vInt) (fun v y h => h) hF
    have e2 : (us.filter (fun v => q (vInt v))).map vInt = ks.filter q := by
      have h3 : us.map vInt = ks := by
        have h4 : ∀ {vs : List Value} {ks : List Int}, IntsAre vs ks → vs.map vInt = ks := by
          intro vs ks h
          induction h with
          | nil => rfl
          | cons k t r ih => rw [List.map_cons, ih]; rfl
        exact h4 hi
      rw [← h3, List.filter_map]; rfl
    rw [e2] at hS
    refine fin D n ys.toList h' tk hS ⟨hns, fun b o e => up b o (fun q => by have q' : b = env.locals := q; rw [q', hL₀] at e; cases e) (F.keep b o e), F.above⟩ ?_
    intro p hp
    rcases List.mem_cons.mp hp with rfl | hp
    · refine ⟨by rw [hn], hL, ?_⟩
      cases e0 : h₀.get? D with
      | none => rfl
      | some o0 => rw [Heap.get?_push_of_some _ (F.keep _ _ e0)] at hD; cases hD
    · exact ⟨up _ _ (N p hp).2.1 (N p hp).1, (N p hp).2⟩
end
end
end Mine
-- M8d
namespace Mine
noncomputable section
set_option maxRecDepth 100000
set_option maxHeartbeats 1000000
section
variable {prog : Program} {w : World} {A : Around} {E : Value → Shared → Prop} {R : Result → Shared → Prop} {s : Shared} {iter : PySem.Expr} {x z : Str} {px px2 pz pe pos : Pos} {scope : Scope} {cenv : Env}
/-- [z for x in iter for z in x] -/
abbrev two (iter : PySem.Expr) (x z : Str) (px px2 pz pe : Pos) (scope : Scope) (pos : Pos) : PySem.Expr :=
  .ListComp (.Name z pe) [⟨.Name x px, iter, [], 0⟩, ⟨.Name z pz, .Name x px2, [], 0⟩] scope pos
theorem turn_two0 (it acc : Value) : compTurn (two iter x z px px2 pz pe scope pos) 0 it acc cenv = (standAt iter.pos >>= fun _ => pyNext it >>= fun r => match r with
      | none => pure (.done .next)
      | some v => letOwnedTupleGo (.Name x px) it v >>= fun _ => assign (.Name x px) cenv v >>= fun _ =>
        eval (.Name x px2) cenv >>= fun y => standAt px2 >>= fun _ => foldedSetIterable (.Name x px2) cenv y >>= fun y => (holding [y] (pyIter y)) >>= fun i2 => runOwn (.compStart (two iter x z px px2 pz pe scope pos) 1 i2 acc cenv) cenv >>= fun _ =>
          again (.compLoop (two iter x z px px2 pz pe scope pos) 0 it acc cenv)) := by rfl
theorem turn_two1 (it acc : Value) : compTurn (two iter x z px px2 pz pe scope pos) 1 it acc cenv = (standAt px2 >>= fun _ => pyNext it >>= fun r => match r with
      | none => pure (.done .next)
      | some v => letOwnedTupleGo (.Name z pz) it v >>= fun _ => assign (.Name z pz) cenv v >>= fun _ =>
        (eval (.Name z pe) cenv >>= fun y => call (.builtin "list.append") [acc, y] >>= fun _ => pure ()) >>= fun _ =>
          again (.compLoop (two iter x z px px2 pz pe scope pos) 1 it acc cenv)) := by rfl
theorem start_two1 {it acc : Value} (h0 : codeAny (model prog w) A (.compLoop (two iter x z px px2 pz pe scope pos) 1 it acc cenv) R s)
    (h : wpAny (model prog w) A (pyIter it) (fun it' s' => codeAny (model prog w) A (.compLoop (two iter x z px px2 pz pe scope pos) 1 it' acc cenv) R s') (notedBy (model prog w) A cenv fun x s' => R (.error x) s') s) :
    codeAny (model prog w) A (.compStart (two iter x z px px2 pz pe scope pos) 1 it acc cenv) R s := by
  refine codeAny_of_tree ?_
  show wpAny _ _ ((compStart (two iter x z px px2 pz pe scope pos) 1 it acc cenv).onRaise (fun x => do noteFrame x cenv; standAt theWindowsPlace)) _ _ s
  refine wpAny_notedAt ?_
  unfold compStart
  show wpAny _ _ (ask >>= _) _ _ s
  refine wpAny_bind (wpAny_askSetting (wpAny_ite ?_))
  split
  · first
      | exact wpAny_bind (wpAny_pure (wpAny_pure (And.intro rfl h0)))
      | exact wpAny_pure (And.intro rfl h0)
  · first
      | exact wpAny_bind (wpAny_rule (wpAny_bind (wpAny_standAt (wpAny_bind (wpAny_mono h (fun it' s' h' => wpAny_pure (And.intro rfl h')) fun _ _ x => x)))))
      | (refine wpAny_bind (wpAny_rule ?_); show wpAny _ _ (standAt px2 >>= _) _ _ s; exact wpAny_bind (wpAny_standAt (wpAny_bind (wpAny_mono h (fun it' s' h' => wpAny_pure (And.intro rfl h')) fun _ _ x => x))))
theorem loop_two1 {I l D : Addr} {vs ys : List Value} {m : Str → Option Value} (hh : A.handled = none) (hz : cenv.kindOf z = some .local) (hkind : cenv.scope.kind = .function) (hzd : (z == ("__debug__" : Str)) = false)
    (hDI : D ≠ I) (hDC : D ≠ cenv.locals) (hIC : I ≠ cenv.locals) (hlI : l ≠ I) (hlC : l ≠ cenv.locals) (hlD : l ≠ D)
    (hit : s.heap.IsListIter I l 0) (hl : s.heap.IsList l vs.toArray) (hD : s.heap.PlainList D ys.toArray) (hn : s.heap.Ns cenv.locals m) (hsz : ys.length + vs.length ≤ sizeLine)
    (fin : ∀ h' tk m', h'.Ns cenv.locals m' → h'.PlainList D (ys ++ vs).toArray → (∀ b o, b ≠ cenv.locals → b ≠ I → b ≠ D → s.heap.get? b = some o → h'.get? b = some o) → R (.ok .next) { s with heap := h', toks := tk }) :
    codeAny (model prog w) A (.compLoop (two iter x z px px2 pz pe scope pos) 1 (.ref I) (.ref D) cenv) R s := by
  have hp : (cenv.scope.kind == .class || (cenv.scope.kind == .module && cenv.locals != cenv.globals)) = false := by simp [hkind]
  refine codeAny_loop rfl (fun k s' => ∃ h' tk m' i, s' = { s with heap := h', toks := tk } ∧ i ≤ vs.length ∧ k = vs.length + 1 - i ∧ h'.IsListIter I l i ∧ h'.IsList l vs.toArray ∧ h'.PlainList D (ys ++ vs.take i).toArray ∧ h'.Ns cenv.locals m' ∧
    (∀ b o, b ≠ cenv.locals → b ≠ I → b ≠ D → s.heap.get? b = some o → h'.get? b = some o)) ?_ (vs.length + 1)
    ⟨s.heap, s.toks, m, 0, rfl, Nat.zero_le _, rfl, hit, hl, by simpa using hD, hn, fun _ _ _ _ _ e => e⟩
  rintro k s' ⟨h', tk, m', i, rfl, hi, rfl, hit', hl', hD', hn', hk⟩
  show wpAny _ A ((compTurn (two iter x z px px2 pz pe scope pos) 1 (.ref I) (.ref D) cenv).onRaise (fun x => do noteFrame x cenv; theTreesLotGoes x)) _ _ _
  refine wpAny_noted ?_
  rw [turn_two1]
  refine wpAny_bind (wpAny_standAt (wpAny_bind ?_))
  by_cases hlt : i < vs.length
  · refine wpAny_pyNext_list_item hit' hl' (x := vs[i]) (by simp [hlt]) fun h₁ hit₁ hs₁ => ?_
    refine wpAny_bind (wpAny_of_eq (a := ()) rfl (wpAny_bind (wpAny_assign_Name (wpAny_storeName_local hz (hn'.sameBut hs₁ (Ne.symm hIC)) (fun h₂ hn₂ hs₂ => ?_) hp))))
    refine wpAny_bind (wpAny_bind (wpAny_Name (wpAny_loadName_local hkind hz hn₂ (v := vs[i]) (by simp) ?_) hzd))
    have up : ∀ b o, b ≠ cenv.locals → b ≠ I → h'.get? b = some o → h₂.get? b = some o := fun b o hbC hbI e => hs₂.extBut b o hbC (hs₁.extBut b o hbI e)
    have hD₂ : h₂.PlainList D (ys ++ vs.take i).toArray := hD'.at fun o e => up D o hDC hDI e
    refine wpAny_bind (wpAny_list_append_plain (hsz := by rw [List.size_toArray, List.length_append, List.length_take]; omega) hD₂ fun h₃ hl₃ hs₃ => ?_)
    refine wpAny_pure (wpAny_pure ⟨rfl, vs.length + 1 - (i + 1), by omega, h₃, _, _, i + 1, rfl, hlt, rfl, ?_, ?_, ?_, hn₂.sameBut hs₃ (Ne.symm hDC), fun b o hbC hbI hbD e => hs₃.extBut b o hbD (up b o hbC hbI (hk b o hbC hbI hbD e))⟩)
    · exact (hit₁.at fun o e => hs₂.extBut I o hIC e).at fun o e => hs₃.extBut I o (Ne.symm hDI) e
    · exact (hl'.at fun o e => up l o hlC hlI e).at fun o e => hs₃.extBut l o hlD e
    · rw [List.push_toArray] at hl₃
      rw [List.take_add_one, List.getElem?_eq_getElem hlt, Option.toList_some, ← List.append_assoc]
      exact hl₃
  · obtain rfl : i = vs.length := Nat.le_antisymm hi (Nat.not_lt.mp hlt)
    refine wpAny_pyNext_list_end hh hit' hl' (by simp) fun h₁ he₁ => ?_
    refine wpAny_pure ?_
    rw [List.take_length] at hD'
    refine fin h₁ tk m' (hn'.at' fun o e => he₁ _ o (Ne.symm hIC) e) (hD'.at fun o e => he₁ _ o hDI e) fun b o hbC hbI hbD e => he₁ b o hbI (hk b o hbC hbI hbD e)
theorem loop_two0 {I lP D : Addr} {ps : List (Addr × List Value)} {m : Str → Option Value} (hh : A.handled = none) (hx : cenv.kindOf x = some .local) (hz : cenv.kindOf z = some .local) (hkind : cenv.scope.kind = .function) (hxd : (x == ("__debug__" : Str)) = false) (hzd : (z == ("__debug__" : Str)) = false)
    (hDI : D ≠ I) (hDC : D ≠ cenv.locals) (hIC : I ≠ cenv.locals) (hlI : lP ≠ I) (hlC : lP ≠ cenv.locals) (hlD : lP ≠ D) (hne : ∀ p ∈ ps, p.1 ≠ I ∧ p.1 ≠ cenv.locals ∧ p.1 ≠ D)
    (hit : s.heap.IsListIter I lP 0) (hl : s.heap.IsList lP (ps.map fun p => Value.ref p.1).toArray) (hps : ∀ p ∈ ps, s.heap.IsList p.1 p.2.toArray) (hD : s.heap.PlainList D #[]) (hn : s.heap.Ns cenv.locals m) (hsz : (ps.flatMap (·.2)).length ≤ sizeLine)
    (fin : ∀ h' tk m', h'.Ns cenv.locals m' → h'.PlainList D (ps.flatMap (·.2)).toArray → (∀ b o, b ≠ cenv.locals → b ≠ I → b ≠ D → s.heap.get? b = some o → h'.get? b = some o) → R (.ok .next) { s with heap := h', toks := tk }) :
    codeAny (model prog w) A (.compLoop (two iter x z px px2 pz pe scope pos) 0 (.ref I) (.ref D) cenv) R s := by
  have hp : (cenv.scope.kind == .class || (cenv.scope.kind == .module && cenv.locals != cenv.globals)) = false := by simp [hkind]
  refine codeAny_loop rfl (fun k s' => ∃ h' tk m' i, s' = { s with heap := h', toks := tk } ∧ i ≤ ps.length ∧ k = ps.length + 1 - i ∧ h'.IsListIter I lP i ∧ h'.IsList lP (ps.map fun p => Value.ref p.1).toArray ∧ h'.PlainList D ((ps.take i).flatMap (·.2)).toArray ∧ h'.Ns cenv.locals m' ∧
    (∀ b o, b ≠ cenv.locals → b ≠ I → b ≠ D → s.heap.get? b = some o → h'.get? b = some o)) ?_ (ps.length + 1)
    ⟨s.heap, s.toks, m, 0, rfl, Nat.zero_le _, rfl, hit, hl, by simpa using hD, hn, fun _ _ _ _ _ e => e⟩
  rintro k s' ⟨h', tk, m', i, rfl, hi, rfl, hit', hl', hD', hn', hk⟩
  show wpAny _ A ((compTurn (two iter x z px px2 pz pe scope pos) 0 (.ref I) (.ref D) cenv).onRaise (fun x => do noteFrame x cenv; theTreesLotGoes x)) _ _ _
  refine wpAny_noted ?_
  rw [turn_two0]
  refine wpAny_bind (wpAny_standAt (wpAny_bind ?_))
  by_cases hlt : i < ps.length
  · refine wpAny_pyNext_list_item hit' hl' (x := Value.ref (ps[i]).1) (by simp [hlt]) fun h₁ hit₁ hs₁ => ?_
    refine wpAny_bind (wpAny_of_eq (a := ()) rfl (wpAny_bind (wpAny_assign_Name (wpAny_storeName_local hx (hn'.sameBut hs₁ (Ne.symm hIC)) (fun h₂ hn₂ hs₂ => ?_) hp))))
    refine wpAny_bind (wpAny_Name (wpAny_loadName_local hkind hx hn₂ (v := Value.ref (ps[i]).1) (by simp) ?_) hxd)
    refine wpAny_bind (wpAny_standAt (wpAny_bind (wpAny_of_eq (a := Value.ref (ps[i]).1) rfl (wpAny_bind (wpAny_holding ?_)))))
    have hmem : ps[i] ∈ ps := List.getElem_mem hlt
    obtain ⟨hpI, hpC, hpD⟩ := hne _ hmem
    have up : ∀ b o, b ≠ cenv.locals → b ≠ I → h'.get? b = some o → h₂.get? b = some o := fun b o hbC hbI e => hs₂.extBut b o hbC (hs₁.extBut b o hbI e)
    have hD₂ : h₂.PlainList D ((ps.take i).flatMap (·.2)).toArray := hD'.at fun o e => up D o hDC hDI e
    have hI₂ : h₂.IsListIter I lP (i + 1) := hit₁.at fun o e => hs₂.extBut I o hIC e
    have hl₂ : h₂.IsList lP (ps.map fun p => Value.ref p.1).toArray := hl'.at fun o e => up lP o hlC hlI e
    have hp₂ : h₂.IsList (ps[i]).1 (ps[i]).2.toArray := (hps _ hmem).at fun o e => up _ o hpC hpI (hk _ o hpC hpI hpD e)
    refine wpAny_pyIter_list hp₂ ?_
    have lt2 : ∀ {b : Addr} {o : Obj}, h₂.get? b = some o → b ≠ h₂.objs.size := fun e => Nat.ne_of_lt (Heap.lt_size e)
    have nD : D ≠ h₂.objs.size := by obtain ⟨_, e⟩ := hD₂; exact lt2 e
    have nC : cenv.locals ≠ h₂.objs.size := Nat.ne_of_lt hn₂.lt
    have nI : I ≠ h₂.objs.size := by obtain ⟨_, e, _⟩ := hI₂; exact lt2 e
    have nl : lP ≠ h₂.objs.size := by obtain ⟨_, e, _⟩ := hl₂; exact lt2 e
    have np : (ps[i]).1 ≠ h₂.objs.size := by obtain ⟨_, e, _⟩ := hp₂; exact lt2 e
    have etake : (ps.take (i + 1)).flatMap (·.2) = (ps.take i).flatMap (·.2) ++ (ps[i]).2 := by
      rw [List.take_add_one, List.getElem?_eq_getElem hlt, Option.toList_some, List.flatMap_append]; simp
    have hsz2 : ((ps.take i).flatMap (·.2)).length + (ps[i]).2.length ≤ sizeLine := by
      have h9 : ((ps.take (i + 1)).flatMap (·.2)).length ≤ (ps.flatMap (·.2)).length := by
        conv => rhs; rw [← List.take_append_drop (i + 1) ps, List.flatMap_append, List.length_append]
        exact Nat.le_add_right _ _
      rw [etake, List.length_append] at h9
      exact Nat.le_trans h9 hsz
    have inner : ∀ s₃ : Shared, s₃ = { s with heap := h₂.push { cls := .type "list_iterator", data := .fields #[.ref (ps[i]).1, .int 0 0] }, toks := tk + 1 } →
        codeAny (model prog w) A (.compLoop (two iter x z px px2 pz pe scope pos) 1 (.ref h₂.objs.size) (.ref D) cenv) (fun r s' => match r with
          | .ok _ => ∃ h₄ tk₄ m₄, s' = { s with heap := h₄, toks := tk₄ } ∧ h₄.Ns cenv.locals m₄ ∧ h₄.PlainList D ((ps.take (i + 1)).flatMap (·.2)).toArray ∧ (∀ b o, b ≠ cenv.locals → b ≠ D → h₂.get? b = some o → h₄.get? b = some o)
          | .error _ => False) s₃ := by
      rintro s₃ rfl
      refine loop_two1 (vs := (ps[i]).2) (l := (ps[i]).1) (ys := (ps.take i).flatMap (·.2)) hh hz hkind hzd nD hDC (Ne.symm nC) np hpC hpD ⟨_, Heap.get?_push_size _ rfl, rfl, rfl⟩ (hp₂.push _) (hD₂.at fun o e => Heap.get?_push_of_some _ e) (hn₂.at' fun o e => Heap.get?_push_of_some _ e) hsz2 ?_
      intro h₄ tk₄ m₄ hn₄ hD₄ hk₄
      refine ⟨h₄, tk₄, m₄, rfl, hn₄, by rw [etake]; exact hD₄, fun b o hbC hbD e => hk₄ b o hbC (lt2 e) hbD (Heap.get?_push_of_some _ e)⟩
    refine wpAny_bind (wpAny_runOwn ?_)
    show codeAny (model prog w) A _ _ _
    refine codeAny_mono (start_two1 (inner _ rfl) (wpAny_pyIter_listiter ⟨_, Heap.get?_push_size _ rfl, rfl, rfl⟩ (inner _ rfl))) fun r s₄ h₄ => ?_
    cases r with
    | error e => exact h₄.elim
    | ok f =>
      obtain ⟨h₄, tk₄, m₄, rfl, hn₄, hD₄, hk₄⟩ := h₄
      exact wpAny_pure ⟨rfl, ps.length + 1 - (i + 1), by omega, h₄, tk₄, m₄, i + 1, rfl, hlt, rfl, hI₂.at fun o e => hk₄ I o hIC (Ne.symm hDI) e, hl₂.at fun o e => hk₄ lP o hlC hlD e, hD₄, hn₄,
        fun b o hbC hbI hbD e => hk₄ b o hbC hbD (up b o hbC hbI (hk b o hbC hbI hbD e))⟩
  · obtain rfl : i = ps.length := Nat.le_antisymm hi (Nat.not_lt.mp hlt)
    refine wpAny_pyNext_list_end hh hit' hl' (by simp) fun h₁ he₁ => ?_
    refine wpAny_pure ?_
    rw [List.take_length] at hD'
    refine fin h₁ tk m' (hn'.at' fun o e => he₁ _ o (Ne.symm hIC) e) (hD'.at fun o e => he₁ _ o hDI e) fun b o hbC hbI hbD e => he₁ b o hbI (hk b o hbC hbI hbD e)

def CTwo (h₀ : Heap) (env : Env) (y : Str) (Q : Flow → Shared → Prop) (xv : Value) (s₁ : Shared) : Prop :=
  ∃ (lP : Addr) (ps : List (Addr × List Value)) (m : Str → Option Value) (news : List (Addr × Obj)), xv = .ref lP ∧ Fr h₀ env.locals s₁.heap m ∧ News h₀ env.locals s₁.heap news ∧ s₁.heap.IsList lP (ps.map fun p => Value.ref p.1).toArray ∧ (∀ p ∈ ps, s₁.heap.IsList p.1 p.2.toArray) ∧ (ps.flatMap (·.2)).length ≤ sizeLine ∧
      ∀ D n h' tk, Fr h₀ env.locals h' (fun u => if u = y then some (.ref D) else m u) → News h₀ env.locals h' ((D, listOf (ps.flatMap (·.2)).toArray n) :: news) → Q .next { s₁ with heap := h', toks := tk }
theorem CTwo.intro {h₀ : Heap} {env : Env} {y : Str} {Q : Flow → Shared → Prop} {s₁ : Shared} {lP : Addr} {m : Str → Option Value} {news : List (Addr × Obj)} (ps : List (Addr × List Value)) (F : Fr h₀ env.locals s₁.heap m) (N : News h₀ env.locals s₁.heap news) (hl : s₁.heap.IsList lP (ps.map fun p => Value.ref p.1).toArray) (hps : ∀ p ∈ ps, s₁.heap.IsList p.1 p.2.toArray) (hsz : (ps.flatMap (·.2)).length ≤ sizeLine)
    (h : ∀ D n h' tk, Fr h₀ env.locals h' (fun u => if u = y then some (.ref D) else m u) → News h₀ env.locals h' ((D, listOf (ps.flatMap (·.2)).toArray n) :: news) → Q .next { s₁ with heap := h', toks := tk }) : CTwo h₀ env y Q (.ref lP) s₁ := ⟨lP, ps, m, news, rfl, F, N, hl, hps, hsz, h⟩
/-- y = [z for x in iter for z in x], over a list of lists -/
theorem asg_two {env : Env} {y : Str} {py spos : Pos} {h₀ : Heap} {Q : Flow → Shared → Prop} {m₀ : Str → Option Value} (_ : Fr h₀ env.locals s.heap m₀) (hh : A.handled = none)
    (hsw : swapsWith (two iter x z px px2 pz pe scope pos) (some (.Name y py)) spos.line env = pure true)
    (hfree : ∀ u ∈ scope.names, u.2 ≠ .free) (hcell : ∀ u ∈ scope.names, u.2 ≠ .cell) (hkind : scope.kind = .function) (hnames : ∀ u ∈ scope.names, u.2 = .local → scope.names.lookup u.1 = some .local)
    (hx : scope.names.lookup x = some .local) (hz : scope.names.lookup z = some .local) (hxd : (x == ("__debug__" : Str)) = false) (hzd : (z == ("__debug__" : Str)) = false)
    (hy : env.kindOf y = some .local) (hp : (env.scope.kind == .class || (env.scope.kind == .module && env.locals != env.globals)) = false)
    (h : wpAny (model prog w) A (eval iter env) (CTwo h₀ env y Q) E s)
    (hs : ∀ x, foldedSetIterable iter env x = pure x := by intro _; rfl) :
    wpAny (model prog w) A (exec (.Assign [.Name y py] (two iter x z px px2 pz pe scope pos) spos) env) Q E s := by
  rw [exec_Assign_Name_used _ _ _ _ hsw]
  refine wpAny_bind (wpAny_standAt (wpAny_bind ?_))
  show wpAny _ A (do let _ ← comprehension (two iter x z px px2 pz pe scope pos) scope env _ (newList []) false (eval iter env) (some (assign (.Name y py) env))) _ _ s
  refine wpAny_bind (wpAny_mono (wpAny_comprehension_use (Q := fun _ s' => Q .next s') rfl hs hfree hkind hnames (wpAny_mono h (fun xv s₁ h₁ => ?_) fun _ _ e => e))
    (fun _ s' hq => wpAny_pure (wpAny_pure hq)) fun _ _ e => e)
  obtain ⟨lP, ps, m, news, rfl, F, N, hl, hps, hsz, fin⟩ := h₁
  have ltl : lP < s₁.heap.objs.size := by obtain ⟨_, e, _⟩ := hl; exact Heap.lt_size e
  have ltp : ∀ p ∈ ps, p.1 < s₁.heap.objs.size := fun p hp => by obtain ⟨_, e, _⟩ := hps p hp; exact Heap.lt_size e
  refine wpAny_pyIter_list hl ?_
  refine wpAny_newObj_type (wpAny_newFunctionEnv hcell (by intro y hy; simp at hy) (fun h₁ hns₁ hsb₁ => ?_) hkind)
  dsimp only at hns₁ hsb₁ ⊢
  generalize hH1 : s₁.heap.push { cls := .type "list_iterator", data := .fields #[.ref lP, .int 0 0] } = H1 at hns₁ hsb₁ ⊢
  have hDs : H1.objs.size = s₁.heap.objs.size + 1 := by rw [← hH1, Heap.size_push]
  generalize hH2 : H1.push { cls := .type "list", dict := none, data := .seq ([] : List Value).toArray } = H2 at hns₁ hsb₁ ⊢
  have hCs : H2.objs.size = s₁.heap.objs.size + 2 := by rw [← hH2, Heap.size_push, hDs]
  have hDI : H1.objs.size ≠ s₁.heap.objs.size := by rw [hDs]; exact Nat.succ_ne_self _
  have hDC : H1.objs.size ≠ H2.objs.size := by rw [hDs, hCs]; exact Nat.ne_of_lt (Nat.lt_succ_self _)
  have hIC : s₁.heap.objs.size ≠ H2.objs.size := by rw [hCs]; exact Nat.ne_of_lt (Nat.lt_succ_of_lt (Nat.lt_succ_self _))
  have below : ∀ b, b < s₁.heap.objs.size → b ≠ H2.objs.size ∧ b ≠ s₁.heap.objs.size ∧ b ≠ H1.objs.size := fun b hb =>
    ⟨by rw [hCs]; exact Nat.ne_of_lt (Nat.lt_succ_of_lt (Nat.lt_succ_of_lt hb)), Nat.ne_of_lt hb, by rw [hDs]; exact Nat.ne_of_lt (Nat.lt_succ_of_lt hb)⟩
  have old : ∀ b o, s₁.heap.get? b = some o → h₁.get? b = some o := fun b o e =>
    hsb₁.extBut b o (below b (Heap.lt_size e)).1 (Heap.get?_push_of_some _ (hH2 ▸ Heap.get?_push_of_some _ (hH1 ▸ Heap.get?_push_of_some _ e)))
  have hit : h₁.IsListIter s₁.heap.objs.size lP 0 :=
    ⟨_, hsb₁.extBut _ _ hIC (Heap.get?_push_of_some _ (hH2 ▸ Heap.get?_push_of_some _ (hH1 ▸ Heap.get?_push_size _ rfl))), rfl, rfl⟩
  have hacc : h₁.PlainList H1.objs.size #[] := ⟨_, hsb₁.extBut _ _ hDC (Heap.get?_push_of_some _ (hH2 ▸ Heap.get?_push_size _ rfl))⟩
  have fresh : ∀ a, s₁.heap.objs.size ≤ a → s₁.heap.get? a = none := fun a ha => by
    cases e : s₁.heap.get? a with
    | none => rfl
    | some o' => exact absurd (Heap.lt_size e) (Nat.not_lt.mpr ha)
  have fresh₀ : ∀ a, s₁.heap.objs.size ≤ a → h₀.get? a = none := fun a ha => by
    cases e : h₀.get? a with
    | none => rfl
    | some o' => have := F.keep a o' e; rw [fresh a ha] at this; cases this
  have hLlt := F.ns.lt
  have hLC : env.locals ≠ H2.objs.size := (below _ hLlt).1
  have hLI : env.locals ≠ s₁.heap.objs.size := (below _ hLlt).2.1
  have hLD : env.locals ≠ H1.objs.size := (below _ hLlt).2.2
  have hL₀ : h₀.get? env.locals = none := Heap.get?_none_of_le F.above
  have loop : ∀ s₂ : Shared, s₂ = { s₁ with heap := h₁, toks := s₁.toks + ([] : List (Str × Value)).length } →
      codeAny (model prog w) A (.compLoop (two iter x z px px2 pz pe scope pos) 0 (.ref s₁.heap.objs.size) (.ref H1.objs.size) (compEnv scope H2.objs.size env)) (fun r s' => match r with
        | .ok _ => wpAny (model prog w) A (assign (.Name y py) env (.ref H1.objs.size)) (fun _ s'' => ∃ m, s''.heap.Ns H2.objs.size m ∧ ∀ h', Heap.SameBut H2.objs.size s''.heap h' → Q .next { s'' with heap := h' }) E s'
        | .error x => ∃ m, s'.heap.Ns H2.objs.size m ∧ ∀ h', Heap.SameBut H2.objs.size s'.heap h' → wpAny (model prog w) A (passOn "comprehension.variables-let-go" x (compEnv scope H2.objs.size env)) (fun (_ : Value) s' => Q .next s') E { s' with heap := h' }) s₂ := by
    rintro s₂ rfl
    refine loop_two0 (ps := ps) (lP := lP) (cenv := compEnv scope H2.objs.size env) hh hx hz hkind hxd hzd hDI hDC hIC (below lP ltl).2.1 (below lP ltl).1 (below lP ltl).2.2 (fun p hp => ⟨(below _ (ltp p hp)).2.1, (below _ (ltp p hp)).1, (below _ (ltp p hp)).2.2⟩)
      hit (hl.at fun o e => old _ o e) (fun p hp => (hps p hp).at fun o e => old _ o e) hacc hns₁ hsz ?_
    intro h' tk m' hn' hD' hk
    have up : ∀ b o, s₁.heap.get? b = some o → h'.get? b = some o := fun b o e => hk b o (below b (Heap.lt_size e)).1 (below b (Heap.lt_size e)).2.1 (below b (Heap.lt_size e)).2.2 (old b o e)
    refine wpAny_assign_Name (wpAny_storeName_local hy (F.ns.at' fun o e => up _ o e) (fun h₂ hn₂ hs₂ => ?_) hp)
    refine ⟨m', hn'.sameBut hs₂ (Ne.symm hLC), fun h₃ hs₃ => ?_⟩
    have up₃ : ∀ b o, b ≠ env.locals → s₁.heap.get? b = some o → h₃.get? b = some o := fun b o hbL e => hs₃.extBut b o (below b (Heap.lt_size e)).1 (hs₂.extBut b o hbL (up b o e))
    obtain ⟨n, eD⟩ := hD'
    refine fin H1.objs.size n h₃ _ ⟨hn₂.sameBut hs₃ hLC, fun b o e => up₃ b o (fun q => by have q' : b = env.locals := q; rw [q', hL₀] at e; cases e) (F.keep b o e), F.above⟩ ?_
    intro p hp
    rcases List.mem_cons.mp hp with rfl | hp
    · exact ⟨hs₃.extBut _ _ hDC (hs₂.extBut _ _ (Ne.symm hLD) eD), Ne.symm hLD, fresh₀ _ (by rw [hDs]; exact Nat.le_succ _)⟩
    · exact ⟨up₃ _ _ (N p hp).2.1 (N p hp).1, (N p hp).2⟩
  exact codeAny_compStart_list (loop _ rfl) (wpAny_pyIter_listiter hit (loop _ rfl))
end
end
end Mine
-- M8q
namespace Mine
noncomputable section
set_option maxRecDepth 100000
set_option maxHeartbeats 1000000
theorem eq_cps : (Str.ofString "=").cps = #[61] := by decide +kernel
theorem emp_eq : Str.ofString "" = (⟨#[]⟩ : Str) := by decide +kernel
theorem takeWhile_pad {g : Nat → Bool} (hg : ∀ c, g c = (c == 61)) {l : List Nat} (h : ∀ c ∈ l, c ≠ 61) (k : Nat) : ((l ++ List.replicate k 61).reverse.takeWhile g).length = k := by
  rw [List.reverse_append, List.reverse_replicate]
  have h2 : ∀ r : List Nat, (∀ c ∈ r, c ≠ 61) → r.takeWhile g = [] := by
    intro r hr
    cases r with
    | nil => rfl
    | cons a r => rw [List.takeWhile_cons, if_neg (by rw [hg]; simpa using hr a List.mem_cons_self)]
  induction k with
  | zero => simp [h2 l.reverse (fun c hc => h c (List.mem_reverse.mp hc))]
  | succ k ih => rw [List.replicate_succ, List.cons_append, List.takeWhile_cons, if_pos (by rw [hg]; rfl), List.length_cons, ih]
theorem rstrip_pad {l : List Nat} {k : Nat} (h : ∀ c ∈ l, c ≠ 61) : Txt.rstripChars (ctxt (l ++ List.replicate k 61)) (Str.ofString "=") = ctxt l := by
  have hg : ∀ c, (Str.ofString "=").cps.contains c = (c == 61) := fun c => by rw [eq_cps]; simp; rfl
  have e1 : (ctxt (l ++ List.replicate k 61)).length = l.length + k := by rw [ctxt_length, List.length_append, List.length_replicate]
  have hi : stripHi (Str.ofString "=").cps.contains true (ctxt (l ++ List.replicate k 61)) 0 = l.length := by
    unfold stripHi
    rw [if_pos rfl, e1]
    have e2 := takeWhile_pad hg h k
    show l.length + k - ((List.drop 0 (l ++ List.replicate k 61)).reverse.takeWhile _).length = _
    rw [List.drop_zero, e2]; omega
  unfold Txt.rstripChars Txt.stripBy stripSame PySem.stripped
  rw [show stripLo (Str.ofString "=").cps.contains false (ctxt (l ++ List.replicate k 61)) = 0 from rfl, hi, e1]
  split
  · rename_i h9
    have h8 : l.length = l.length + k := by simpa using h9
    have : k = 0 := by omega
    subst this
    simp
  · refine Str.ext' ?_
    refine Array.toList_inj.mp ?_
    show (Builtin.Str.strSub _ 0 l.length).cps.toList = l
    rw [StrLaws.strSub_toList]
    simp [ctxt]
theorem join_signs : ∀ ks : List Nat, Str.join ⟨#[]⟩ (ks.map fun k => ctxt [k]) = ctxt ks
  | [] => rfl
  | k :: r => by
    rw [List.map_cons, join_nil_cons, join_signs r, ctxt_append]; rfl
theorem join_chr (ks : List Nat) : Txt.join (Str.ofString "") ((ks.map fun (n : Nat) => (n : Int)).map fun k => (⟨#[k.toNat]⟩ : Str)) = ctxt ks := by
  show Builtin.Str.glued (Str.ofString "") _ = _
  rw [StrLaws.glued_eq_join, emp_eq, List.map_map]
  exact join_signs ks
def esc (o : Nat) : Bool := decide (o ≠ 32) && !standsB o
theorem qsign_len (o : Nat) : (qsign o).length = 1 + 2 * (if esc o = true then 1 else 0) := by
  unfold qsign esc
  by_cases h : o = 32
  · rw [if_pos h]; simp [h]
  · rw [if_neg h]
    cases hs : standsB o <;> simp [h]
theorem qtext_len : ∀ ps : List Nat, (qtext ps).length = ps.length + 2 * (ps.filter esc).length
  | [] => rfl
  | o :: r => by
    have e : qtext (o :: r) = qsign o ++ qtext r := by simp [qtext]
    rw [e, List.length_append, qsign_len, qtext_len r, List.filter_cons, List.length_cons]
    split <;> simp <;> omega
end
end Mine
-- M8r
namespace Mine
noncomputable section
set_option maxRecDepth 100000
set_option maxHeartbeats 1000000
/-- header_encode's word of a piece -/
def hword (nm : Str) (ps : List Nat) : Str := if ps = [] then ctxt [] else ctxt [61, 63] ++ nm ++ ctxt [63, 113, 63] ++ ctxt (qtext ps) ++ ctxt [63, 61]
theorem hw_eq {n1 nm : Str} {ps : List Nat} (e : n1 = nm) : (if ps = [] then ctxt [] else ctxt [61, 63] ++ n1 ++ ctxt [63, 113, 63] ++ ctxt (qtext ps) ++ ctxt [63, 61]) = hword nm ps := by subst e; rfl
def StrEnd (h₀ : Heap) (L : Addr) (m : Str → Option Value) (news : List (Addr × Obj)) (s : Shared) (W : Str) (v : Value) (s' : Shared) : Prop :=
  ∃ u h' tk', v = .str W u ∧ s' = { s with heap := h', toks := tk' } ∧ Fr h₀ L h' m ∧ News h₀ L h' news
section
variable {M : Model} {A : Around} {E : Value → Shared → Prop} {s : Shared} {h₀ : Heap} {L : Addr} {m : Str → Option Value} {news : List (Addr × Obj)} {Q : Value → Shared → Prop}
theorem str_join {t : Sem Value} (W : Str) (_ : Fr h₀ L s.heap m) (_ : News h₀ L s.heap news) (hw : wpAny M A t (StrEnd h₀ L m news s W) E s)
    (hq : ∀ u h' tk', Fr h₀ L h' m → News h₀ L h' news → Q (.str W u) { s with heap := h', toks := tk' }) : wpAny M A t Q E s :=
  wpAny_mono hw (fun v s' ⟨u, h', tk', e1, e2, F, N⟩ => by subst e1; subst e2; exact hq u h' tk' F N) fun _ _ e => e
theorem StrEnd.intro {news' : List (Addr × Obj)} {W X : Str} {u : Tok} {h' : Heap} {tk' : Nat} (e : X = W) (F : Fr h₀ L h' m) (N : News h₀ L h' news') (hs : ∀ p ∈ news, p ∈ news') : StrEnd h₀ L m news s W (.str X u) { s with heap := h', toks := tk' } := by
  subst e
  exact ⟨u, h', tk', rfl, rfl, F, fun p hp => N p (hs p hp)⟩
end
section
variable {prog : Program} {w : World} {A : Around} {E : Value → Shared → Prop} {s : Shared} {Q : Value → Shared → Prop} {t u : Tok}
theorem sum_ones : ∀ ks : List Nat, ((((ks.map fun (n : Nat) => (n : Int)).map fun k => (⟨#[k.toNat]⟩ : Str))).map (·.length)).sum = ks.length
  | [] => rfl
  | k :: r => by
    have e : (⟨#[(k : Int).toNat]⟩ : Str).length = 1 := rfl
    rw [List.map_cons, List.map_cons, List.map_cons, List.sum_cons, sum_ones r, e, List.length_cons]; omega
theorem join_to {D : Addr} {ys : List Value} (ks : List Nat) (hl : s.heap.IsList D ys.toArray) (hS : StrsAre ys ((ks.map fun (n : Nat) => (n : Int)).map fun k => (⟨#[k.toNat]⟩ : Str))) (hk : ks.length ≤ 1000)
    (h : ∀ t' k, Q (.str (ctxt ks) t') { s with toks := k }) : wpAny (model prog w) A (call (.builtin "str.join") [.str (Str.ofString "") t, .ref D]) Q E s := by
  refine join_listW hl (show StrsAre ys.toArray.toList _ from by rw [List.toList_toArray]; exact hS) (by decide) ?_ fun t' k => ?_
  · rw [sum_ones, List.length_map, List.length_map]; omega
  · rw [join_chr]; exact h t' k
theorem nei_to {a b : Int} (c : Bool) (e : (a != b) = c) (h : Q (.bool c) s) : wpAny (model prog w) A (compareOp .NotEq (.int a t) (.int b u)) Q E s := by
  subst e
  exact ne_int h
end
theorem rstrip_b64 (ps : List Nat) : Txt.rstripChars (ctxt (b64 ps)) (Str.ofString "=") = ctxt ((core ps).map al) := by
  unfold b64
  refine rstrip_pad fun c hc => ?_
  obtain ⟨d, hd, rfl⟩ := List.mem_map.mp hc
  exact al_ne d (core_lt ps d hd)
theorem head_eq : Str.ofString "=?" = ctxt [61, 63] := by decide +kernel
theorem q_eq : Str.ofString "?q?" = ctxt [63, 113, 63] := by decide +kernel
theorem tail_eq : Str.ofString "?=" = ctxt [63, 61] := by decide +kernel
theorem b_eq : Str.ofString "?b?" = ctxt [63, 98, 63] := by decide +kernel
theorem word_eq {nm : Str} {ps : List Nat} (h : ps ≠ []) : Str.ofString "=?" ++ nm ++ Str.ofString "?q?" ++ ctxt (qtext ps) ++ Str.ofString "?=" = hword nm ps := by
  unfold hword
  rw [if_neg h, head_eq, q_eq, tail_eq]
theorem word_nil {nm : Str} : Str.ofString "" = hword nm [] := by
  rw [emp_eq]; rfl
theorem str_len_append (a b : Str) : (a ++ b).length = a.length + b.length := by
  unfold Str.length
  rw [Str.cps_append, Array.size_append]
theorem hword_len {nm : Str} {ps : List Nat} (h : ps ≠ []) : (hword nm ps).length = 7 + nm.length + (qtext ps).length := by
  unfold hword
  rw [if_neg h]
  simp only [str_len_append, ctxt_length, List.length_cons, List.length_nil]; omega
theorem hword_le {nm : Str} {ps : List Nat} (hn : nm.length ≤ 20) (hp : ps.length ≤ 14) : (hword nm ps).length ≤ 100 := by
  by_cases h : ps = []
  · subst h; show (ctxt []).length ≤ 100; rw [ctxt_length]; decide
  · rw [hword_len h]; have := qtext_length ps; omega
theorem bword_len {nm : Str} {l : List Nat} : (Str.ofString "=?" ++ nm ++ Str.ofString "?b?" ++ ctxt l ++ Str.ofString "?=").length = 7 + nm.length + l.length := by
  rw [head_eq, b_eq, tail_eq]
  simp only [str_len_append, ctxt_length, List.length_cons, List.length_nil]; omega
/-- the word is no longer than the other one, and the count -/
theorem short_eq {nm : Str} {ps : List Nat} : decide (((hword nm ps).length : Int) ≤ ((7 + nm.length + (b64 ps).length : Nat) : Int)) = decide ((ps.length : Int) + 2 * ((ps.filter esc).length : Int) ≤ (((ps.length + 2) / 3 * 4 : Nat) : Int)) := by
  by_cases h : ps = []
  · subst h
    have e : (hword nm []).length = 0 := rfl
    rw [e]
    refine decide_eq_decide.mpr ⟨fun _ => ?_, fun _ => by omega⟩
    show (0 : Int) + 2 * 0 ≤ 0
    decide
  · rw [hword_len h, b64_length, qtext_len]
    refine decide_eq_decide.mpr ?_
    omega
section
variable {prog : Program} {w : World} {A : Around} {E : Value → Shared → Prop} {s : Shared} {Q : Value → Shared → Prop} {t u : Tok}
theorem len_core {ps : List Nat} (hp : ps.length ≤ 1000) (h : ∀ t k, Q (.int ((sixes ps.length : Nat) : Int) t) { s with toks := k }) : wpAny (model prog w) A (call (.builtin "len") [.str (ctxt ((core ps).map al)) t]) Q E s :=
  len_to _ (by rw [ctxt_length, List.length_map, core_length]) (by unfold sixes; omega) h
theorem len_bword {nm : Str} {ps : List Nat} (hp : ps.length ≤ 1000) (hn : nm.length ≤ 20) (h : ∀ t k, Q (.int ((7 + nm.length + (b64 ps).length : Nat) : Int) t) { s with toks := k }) : wpAny (model prog w) A (call (.builtin "len") [.str (Str.ofString "=?" ++ nm ++ Str.ofString "?b?" ++ ctxt (b64 ps) ++ Str.ofString "?=") t]) Q E s :=
  len_to _ bword_len (by rw [b64_length]; omega) h
theorem len_hword {nm : Str} {ps : List Nat} (hp : ps.length ≤ 14) (hn : nm.length ≤ 20) (h : ∀ t k, Q (.int (((hword nm ps).length : Nat) : Int) t) { s with toks := k }) : wpAny (model prog w) A (call (.builtin "len") [.str (hword nm ps) t]) Q E s :=
  len_to _ rfl (Nat.le_trans (hword_le hn hp) (by decide)) h
theorem nes_self {x : Str} (h : Q (.bool false) s) : wpAny (model prog w) A (compareOp .NotEq (.str x t) (.str x u)) Q E s :=
  nes_to false (by simp) h
theorem eqs_self {x : Str} (h : Q (.bool true) s) : wpAny (model prog w) A (compareOp .Eq (.str x t) (.str x u)) Q E s :=
  eqs_to true (by simp) h
theorem nei_same {a b : Int} (e : a = b) (h : Q (.bool false) s) : wpAny (model prog w) A (compareOp .NotEq (.int a t) (.int b u)) Q E s :=
  nei_to false (by subst e; simp) h
end
theorem sixes_fdiv {n k : Nat} (e : k = n) : ((sixes n : Nat) : Int) = Int.fdiv (8 * (k : Int) + 5) 6 := by
  subst e
  rw [show (8 * (k : Int) + 5) = ((8 * k + 5 : Nat) : Int) by omega, show (6 : Int) = ((6 : Nat) : Int) from rfl, fdiv_nat]; rfl
theorem exp_nat {n k : Nat} (e : k = n) : 6 * ((sixes n : Nat) : Int) - 8 * (k : Int) = ((6 * sixes n - 8 * n : Nat) : Int) := by
  subst e; unfold sixes; omega
theorem exp_le (n : Nat) : 6 * sixes n - 8 * n ≤ 4 := by unfold sixes; omega
theorem exp_pow (n : Nat) : 2 ^ (6 * sixes n - 8 * n) ≤ 16 := Nat.pow_le_pow_right (n := 2) (by decide) (exp_le n)
theorem core_int {ps : List Nat} (h : ∀ o ∈ ps, o < 256) : ((num 64 (core ps) : Nat) : Int) = ((num 256 ps * 2 ^ (6 * sixes ps.length - 8 * ps.length) : Nat) : Int) := by rw [core_num ps h]
theorem esc_filter : ∀ ps : List Nat, (ps.map fun (n : Nat) => (n : Int)).filter (fun k => esc k.toNat) = (ps.filter esc).map fun (n : Nat) => (n : Int)
  | [] => rfl
  | o :: r => by
    rw [List.map_cons, List.filter_cons, List.filter_cons, esc_filter r, Int.toNat_natCast]
    split <;> simp
theorem esc_len {ps : List Nat} {ys : List Value} (h : IntsAre ys ((ps.map fun (n : Nat) => (n : Int)).filter (fun k => esc k.toNat))) : ys.length = (ps.filter esc).length := by
  rw [h.length, esc_filter, List.length_map]
theorem fig_map {l : List Nat} (h : ∀ d ∈ l, d < 64) : (ctxt (l.map al)).cps.toList.map (fun c => ((fig c : Nat) : Int)) = l.map fun (n : Nat) => (n : Int) := by
  show (l.map al).map _ = _
  rw [List.map_map]
  exact List.map_congr_left fun d hd => by rw [Function.comp_apply, fig_al d (h d hd)]
theorem two_vals (cs : List Cell) : (((cs.map fun c => (c.1, c.2.1)).reverse).map fun p => Value.ref p.1) = (cs.map fun c => Value.ref c.1).reverse := by
  rw [List.map_reverse, List.map_map]; rfl
theorem two_ints {P odd : Addr} {cs : List Cell} (hok : POk P odd cs) : IntsAre (((cs.map fun c => (c.1, c.2.1)).reverse).flatMap (·.2)) ((flatN cs ((cs.map fun c => Value.ref c.1).reverse).length).map fun (n : Nat) => (n : Int)) := by
  have e : flatN cs ((cs.map fun c => Value.ref c.1).reverse).length = cs.reverse.flatMap fun c => c.2.2.2 := by
    unfold flatN
    rw [List.take_of_length_le (by simp), ← List.map_reverse]; rfl
  rw [e, ← List.map_reverse]
  have h : ∀ l : List Cell, (∀ c ∈ l, c ∈ cs) → IntsAre ((l.map fun c => (c.1, c.2.1)).flatMap (·.2)) ((l.flatMap fun c => c.2.2.2).map fun (n : Nat) => (n : Int)) := by
    intro l
    induction l with
    | nil => intro _; exact .nil
    | cons c r ih =>
      intro hl
      rw [List.map_cons, List.flatMap_cons, List.flatMap_cons, List.map_append]
      exact (hok.has c (hl c List.mem_cons_self)).1.append (ih fun d hd => hl d (List.mem_cons_of_mem _ hd))
  exact h _ fun c hc => List.mem_reverse.mp hc
theorem two_cell {P odd : Addr} {nP : Nat} {ov : List Value} {cs : List Cell} {h₀ h : Heap} {L : Addr} (N : News h₀ L h (Led P odd nP ov cs)) : ∀ p ∈ (cs.map fun c => (c.1, c.2.1)).reverse, h.IsList p.1 p.2.toArray := by
  intro p hp
  obtain ⟨c, hc, rfl⟩ := List.mem_map.mp (List.mem_reverse.mp hp)
  exact N.isList (List.mem_cons_of_mem _ (List.mem_cons_of_mem _ (List.mem_map.mpr ⟨c, hc, rfl⟩)))
theorem joined_next {cs : List Cell} {i : Nat} {ps : List Nat} (h : flatN cs (i + 1) = flatN cs i ++ ps) : ctxt (qtext (flatN cs i)) ++ ctxt (qtext ps) = ctxt (qtext (flatN cs (i + 1))) := by
  rw [h, qtext_append, ctxt_append]
theorem qtext_size {l : List Nat} (h : l.length ≤ 14) : (ctxt (qtext l)).length ≤ 42 := by
  rw [ctxt_length]; have := qtext_length l; omega
section
variable {w : World} {p : Program} {loose : List Str} {mean : ExcName → Option Value} {mg mb : Str → Option Value}
    {dp un : Nat} {gd : Option (List Code)} {cn : Str} {cs : Scope} {a : Addr} {ccd : Value} {cl : List (Str × Addr)} {outer : List Env} {A₀ : Around} {base h₀ : Heap} {L : Addr} {m : Str → Option Value} {s : Shared} {Q E : Value → Shared → Prop}
theorem qofb_core :
    ∀ (_ : Below A₀ base outer h₀) (_ : Fr h₀ L s.heap m) (_ : (Mine.hd.heap_39 w.params).In h₀) (_ : Top p loose mean mg mb h₀) (_ : cs.kind = .function) (_ : dp + 2 < recursionLimit) (_ : un + 16 < cLine)
    (ps : List Nat) (_ : ∀ o ∈ ps, o < 256) (_ : (core ps).length ≤ 1000) (t : Tok)
    (_ : ∀ t h' tk', (∀ b o, s.heap.get? b = some o → h'.get? b = some o) → Q (.str (ctxt (qtext ps)) t) { s with heap := h', toks := tk' }),
    wpAny (model PySem.Challenge.rw_nb0042_01.row.prog w) (ktrTop dp un gd cn cs L a ccd cl outer) (call (.ref 108) [.str (ctxt ((core ps).map al)) t]) Q E s := by
  intro B F X T hk hd hu ps hps hl t h
  refine qofb_call B F X T hk hd hu (core ps) (core_lt ps) hl t ?_
  rw [octs_core ps hps]
  exact h
theorem bofq_b64 :
    ∀ (_ : Below A₀ base outer h₀) (_ : Fr h₀ L s.heap m) (_ : (Mine.hd.heap_39 w.params).In h₀) (_ : Top p loose mean mg mb h₀) (_ : cs.kind = .function) (_ : dp + 2 < recursionLimit) (_ : un + 16 < cLine)
    (row : List Nat) (_ : ∀ o ∈ row, o < 256) (_ : row.length ≤ 1000) (t : Tok)
    (_ : ∀ t h' tk', (∀ b o, s.heap.get? b = some o → h'.get? b = some o) → Q (.str (ctxt (b64 row)) t) { s with heap := h', toks := tk' }),
    wpAny (model PySem.Challenge.rw_nb0042_01.row.prog w) (ktrTop dp un gd cn cs L a ccd cl outer) (call (.ref 115) [.str (ctxt (qtext row)) t]) Q E s := by
  intro B F X T hk hd hu row hrow hl t h
  exact bofq_call B F X T hk hd hu row hrow hl t h
end
theorem el_find {d : Nat} {s : Shared} {t : Tok} {h : Heap} {k : Nat} (hd : d < 64) (hk : ∀ b o, s.heap.get? b = some o → h.get? b = some o) : ElI ((fig (al d) : Nat) : Int) s (.int (Txt.find alphaS ⟨#[al d]⟩) t) { s with heap := h, toks := k } :=
  ⟨⟨t, by rw [find_al d hd, fig_al d hd]⟩, h, k, rfl, hk⟩
theorem el_b {b c : Bool} {s : Shared} {h : Heap} {k : Nat} (e : b = c) (hk : ∀ b o, s.heap.get? b = some o → h.get? b = some o) : ElB c s b { s with heap := h, toks := k } := ⟨e, h, k, rfl, hk⟩
theorem law_end {h₀ h : Heap} {L : Addr} {s : Shared} {m : Str → Option Value} {k : Nat} (F : Fr h₀ L h m) : LawEnd h₀ L s (.ret (.bool true)) { s with heap := h, toks := k } := ⟨h, k, m, rfl, rfl, F⟩
theorem len_lst {prog : Program} {w : World} {A : Around} {E : Value → Shared → Prop} {s : Shared} {Q : Value → Shared → Prop} {l : Addr} {vs : List Value} (n : Nat) (hl : s.heap.IsList l vs.toArray) (e : vs.length = n) (hn : n ≤ 1000) (h : ∀ t k, Q (.int (n : Int) t) { s with toks := k }) : wpAny (model prog w) A (call (.builtin "len") [.ref l]) Q E s := by
  subst e
  refine PyProof.Rows.len_list hl ?_ ?_
  · rw [List.size_toArray]; omega
  · rw [List.size_toArray]; exact h _ _
theorem esc_le {ps : List Nat} (h : ps.length ≤ 14) : (ps.filter esc).length ≤ 1000 := Nat.le_trans (List.length_filter_le _ _) (by omega)
theorem neb_same {prog : Program} {w : World} {A : Around} {E : Value → Shared → Prop} {s : Shared} {Q : Value → Shared → Prop} {a b : Bool} (e : a = b) (h : Q (.bool false) s) : wpAny (model prog w) A (compareOp .NotEq (.bool a) (.bool b)) Q E s := by
  subst e
  refine ne_bool ?_
  rw [bne_self_eq_false]
  exact h
theorem short_ok {nm : Str} {ps : List Nat} : decide (((hword nm ps).length : Int) ≤ ((7 + nm.length + (b64 ps).length : Nat) : Int)) = decide ((ps.length : Int) + 2 * ((ps.filter esc).length : Int) ≤ Int.fdiv ((ps.length : Int) + 2) 3 * 4) := by
  rw [short_eq]
  refine decide_eq_decide.mpr ?_
  rw [show ((ps.length : Int) + 2) = ((ps.length + 2 : Nat) : Int) by omega, show (3 : Int) = ((3 : Nat) : Int) from rfl, fdiv_nat]
  omega
theorem esc_t {o : Nat} (h : (o : Int) ≠ 32) (hs : standsB o = false) : true = esc ((o : Int)).toNat := by
  have h2 : o ≠ 32 := fun e => h (by rw [e]; rfl)
  rw [Int.toNat_natCast, esc, hs, decide_eq_true h2]; rfl
theorem esc_f {o : Nat} (hs : standsB o = true) : false = esc ((o : Int)).toNat := by
  rw [Int.toNat_natCast, esc, hs]; simp
theorem esc_32 {o : Nat} (h : (o : Int) = 32) : false = esc ((o : Int)).toNat := by
  have h2 : o = 32 := by omega
  subst h2; rfl
end
end Mine
-- M8
namespace Mine
noncomputable section
set_option maxRecDepth 100000
set_option maxHeartbeats 3000000
theorem nm_of {k : Nat} {nm : Str} (h : List.getD [Str.ofString "utf-8", Str.ofString "iso-8859-1", Str.ofString "x"] k Str.empty = nm) : nm = Str.ofString "utf-8" ∨ nm = Str.ofString "iso-8859-1" ∨ nm = Str.ofString "x" ∨ nm = Str.empty := by
  subst h
  match k with
  | 0 => exact .inl rfl
  | 1 => exact .inr (.inl rfl)
  | 2 => exact .inr (.inr (.inl rfl))
  | _ + 3 => exact .inr (.inr (.inr rfl))
theorem nm_frame {h₀ h : Heap} {L : Addr} {m : Str → Option Value} {k : Nat} {t t2 : Tok} (F : Fr h₀ L h (fun y => if y = Str.ofString "head" then some (.str (Str.ofString "=?" ++ List.getD [Str.ofString "utf-8", Str.ofString "iso-8859-1", Str.ofString "x"] k Str.empty ++ Str.ofString "?q?") t) else if y = Str.ofString "name" then some (.str (List.getD [Str.ofString "utf-8", Str.ofString "iso-8859-1", Str.ofString "x"] k Str.empty) t2) else m y)) :
    ∃ nm, (nm = Str.ofString "utf-8" ∨ nm = Str.ofString "iso-8859-1" ∨ nm = Str.ofString "x" ∨ nm = Str.empty) ∧ Fr h₀ L h (fun y => if y = Str.ofString "head" then some (.str (Str.ofString "=?" ++ nm ++ Str.ofString "?q?") t) else if y = Str.ofString "name" then some (.str nm t2) else m y) := ⟨_, nm_of rfl, F⟩
theorem nm_len {nm : Str} (h : nm = Str.ofString "utf-8" ∨ nm = Str.ofString "iso-8859-1" ∨ nm = Str.ofString "x" ∨ nm = Str.empty) : nm.length ≤ 20 := by
  rcases h with h | h | h | h <;> subst h <;> decide +kernel
def LJ (PA odd : Addr) (nP : Nat) (ov : List Value) (cs : List Cell) (nm : Str) (i : Nat) (m : Str → Option Value) (news : List (Addr × Obj)) : Prop :=
  news = Led PA odd nP ov cs ∧ m (Str.ofString "pieces") = some (.ref PA) ∧ ∃ t1 t2 t3, m (Str.ofString "name") = some (.str nm t1) ∧ m (Str.ofString "head") = some (.str (Str.ofString "=?" ++ nm ++ Str.ofString "?q?") t2) ∧ m (Str.ofString "joined") = some (.str (ctxt (qtext (flatN cs i))) t3)
local macro_rules | `(tactic| walk_at "call ref") => `(tactic| k_dflt k_extra "own call")
local macro_rules | `(tactic| walk_at "call type:bytes") => `(tactic| k_dflt k_extra "own bytes")
local macro_rules | `(tactic| walk_at "pyIter ref") => `(tactic| k_dflt k_extra "own iter")
local macro_rules | `(tactic| walk_at "eval ListComp") => `(tactic| k_dflt k_extra "own lc")
local macro_rules | `(tactic| walk_at "CFrom") => `(tactic| k_dflt k_extra "own cfrom")
local macro_rules | `(tactic| walk_at "CAsg") => `(tactic| k_dflt k_extra "own casg")
local macro_rules | `(tactic| walk_at "CTwo") => `(tactic| k_dflt k_extra "own ctwo")
local macro_rules | `(tactic| walk_at "ElS") => `(tactic| k_dflt k_extra "own el")
local macro_rules | `(tactic| walk_at "ElI") => `(tactic| k_dflt k_extra "own el")
local macro_rules | `(tactic| walk_at "ElB") => `(tactic| k_dflt k_extra "own el")
local macro_rules | `(tactic| walk_at "StrEnd") => `(tactic| k_dflt k_extra "own strend")
local macro_rules | `(tactic| walk_at "eval IfExp") => `(tactic| k_dflt k_extra "own ifexp")
local macro_rules | `(tactic| walk_at "call builtin:str.join") => `(tactic| k_dflt k_extra "own join")
local macro_rules | `(tactic| walk_at "call builtin:str.rstrip") => `(tactic| k_dflt k_extra "own rstrip")
local macro_rules | `(tactic| walk_at "call builtin:len") => `(tactic| k_dflt k_extra "own len")
local macro_rules | `(tactic| walk_at "compareOp NotEq str str") => `(tactic| k_dflt k_extra "own nes")
local macro_rules | `(tactic| walk_at "compareOp Eq str str") => `(tactic| k_dflt k_extra "own eqs")
local macro_rules | `(tactic| walk_at "compareOp NotEq int int") => `(tactic| k_dflt k_extra "own nei")
local macro_rules | `(tactic| walk_at "compareOp NotEq bool bool") => `(tactic| k_dflt k_extra "own neb")
local macro_rules | `(tactic| walk_at "exec Assign cons ListComp") => `(tactic| k_dflt k_extra "own asglc")
local macro_rules | `(tactic| walk_at "PStep") => `(tactic| k_dflt k_extra "own pstep")
local macro_rules | `(tactic| walk_at "LawEnd") => `(tactic| k_dflt k_extra "own lawend")
local macro_rules | `(tactic| walk_at "binaryOp Add str str") => `(tactic| k_dflt k_extra "own adds")
local macro_rules | `(tactic| walk_at "inplaceOp Add str str") => `(tactic| k_dflt k_extra "own iadds")
local macro_rules | `(tactic| walk_at "binaryOp Pow int int") => `(tactic| k_dflt k_extra "own pow")
local macro_rules | `(tactic| walk_at "binaryOp Mult int int") => `(tactic| k_dflt k_extra "own mul")
theorem law_holds : PySem.Challenge.rw_nb0042_01.Holds := by
  refine Mine.hd ?_
  w_strict (
    k_go0
    refine law_wrap (by assumption) ?walk ?done
    case done =>
      intro h' tk' m' F9
      k_steps
    case walk =>
      k_with_none
      k_with "table" => skip
      k_with "pyIter ref" => fail "x"
      k_with "own call" =>
        with_reducible show wpAny _ _ (call (Value.ref 94) _) _ _ _
        rename Fr _ _ _ _ => lF'
        rename News _ _ _ _ => lN'
        rename IntsAre _ (List.take 12 _) => hI9
        refine' pieces_call ?k1 lF' ?k3 ?k4 rfl ?k6 ?k7 _ _ _ (News.isList lN' ?mem) hI9 ?len ?_
        case k1 => k_asm
        case k3 => k_asm
        case k4 => k_asm
        case k6 => ktr_room
        case k7 => ktr_units
        case mem => k_mem
        case len => exact List.length_take_le _ _
        intro h9 tk9 PA odd9 nP ov c9 rs hk9 hled hok hlenP hoctP
        have F9 := Fr.keeps lF' hk9
        have N9 := news_new lF' hled
        clear lF' lN' hled
        obtain ⟨nm, hnm, F8⟩ := nm_frame F9
        clear F9
        try dsimp only
      k_with "own call" =>
        with_reducible show wpAny _ _ (call (Value.ref 45) _) _ _ _
        rename Fr _ _ _ _ => lF'
        rename News _ _ _ _ => lN'
        first
          | refine' header_call1 ?k1 ?k2 ?k3 ?k4 ?k5 ?k6 ?k7 ps hps (Nat.le_trans hpl (by decide)) _ ?_
          | refine' header_call2 ?k1 ?k2 ?k3 ?k4 ?k5 ?k6 ?k7 ps hps (Nat.le_trans hpl (by decide)) _ _ nm hnl ?_
        case k2 => exact lF'
        case k1 => k_asm
        case k3 => k_asm
        case k4 => k_asm
        case k5 => rfl
        case k6 => ktr_room
        case k7 => ktr_units
        intro t9 h9 tk9 hk9
        have F9 := Fr.keeps lF' hk9
        have N9 := News.grown lN' hk9
        clear lF' lN' hk9
        try dsimp only
      k_with "own call" =>
        with_reducible show wpAny _ _ (call (Value.ref 80) _) _ _ _
        rename Fr _ _ _ _ => lF'
        rename News _ _ _ _ => lN'
        refine' b64_call ?k1 ?k2 ?k3 ?k4 ?k5 ?k6 ?k7 ps hps (Nat.le_trans hpl (by decide)) _ ?_
        case k2 => exact lF'
        case k1 => k_asm
        case k3 => k_asm
        case k4 => k_asm
        case k5 => rfl
        case k6 => ktr_room
        case k7 => ktr_units
        intro t9 h9 tk9 hk9
        have F9 := Fr.keeps lF' hk9
        have N9 := News.grown lN' hk9
        clear lF' lN' hk9
        try dsimp only
      k_with "own call" =>
        with_reducible show wpAny _ _ (call (Value.ref 108) _) _ _ _
        rename Fr _ _ _ _ => lF'
        rename News _ _ _ _ => lN'
        refine' qofb_core ?k1 ?k2 ?k3 ?k4 ?k5 ?k6 ?k7 ps hps hcl _ ?_
        case k2 => exact lF'
        case k1 => k_asm
        case k3 => k_asm
        case k4 => k_asm
        case k5 => rfl
        case k6 => ktr_room
        case k7 => ktr_units
        intro t9 h9 tk9 hk9
        have F9 := Fr.keeps lF' hk9
        have N9 := News.grown lN' hk9
        clear lF' lN' hk9
        have htext := True.intro
        try dsimp only
      k_with "own call" =>
        with_reducible show wpAny _ _ (call (Value.ref 101) _) _ _ _
        guard_hyp ho9
        rename Fr _ _ _ _ => lF'
        rename News _ _ _ _ => lN'
        refine' stands_call ?k1 ?k2 ?k3 ?k4 ?k5 ?k6 ?k7 o9 ho9 _ ?_
        case k2 => exact lF'
        case k1 => k_asm
        case k3 => k_asm
        case k4 => k_asm
        case k5 => rfl
        case k6 => ktr_room
        case k7 => ktr_units
        intro h9 tk9 hk9
        have F9 := Fr.keeps lF' hk9
        have N9 := News.grown lN' hk9
        clear lF' lN'
        try dsimp only
      k_with "own call" =>
        with_reducible show wpAny _ _ (call (Value.ref 87) _) _ _ _
        rename Fr _ _ _ _ => lF'
        rename News _ _ _ _ => lN'
        refine' alphabet_call ?k1 ?k2 ?k3 ?k4 ?k5 ?k6 ?k7  ?_
        case k2 => exact lF'
        case k1 => k_asm
        case k3 => k_asm
        case k4 => k_asm
        case k5 => rfl
        case k6 => ktr_room
        case k7 => ktr_units
        intro t9 h9 tk9 hk9
        have F9 := Fr.keeps lF' hk9
        have N9 := News.grown lN' hk9
        clear lF' lN'
        try dsimp only
      k_with "own call" =>
        with_reducible show wpAny _ _ (call (Value.ref 115) _) _ _ _
        rename Fr _ _ _ _ => lF'
        rename News _ _ _ _ => lN'
        refine' bofq_b64 ?k1 ?k2 ?k3 ?k4 ?k5 ?k6 ?k7 ps hps (Nat.le_trans hpl (by decide)) _ ?_
        case k2 => exact lF'
        case k1 => k_asm
        case k3 => k_asm
        case k4 => k_asm
        case k5 => rfl
        case k6 => ktr_room
        case k7 => ktr_units
        intro t9 h9 tk9 hk9
        have F9 := Fr.keeps lF' hk9
        have N9 := News.grown lN' hk9
        clear lF' lN' hk9
        try dsimp only
      k_with "own call" =>
        with_reducible show wpAny _ _ (call (Value.ref 122) _) _ _ _
        rename Fr _ _ _ _ => lF'
        rename News _ _ _ _ => lN'
        first
          | (guard_hyp hSn
             refine' number_call ?k1 ?k2 ?k3 ?k4 ?k5 ?k6 ?k7 _ _ ps 256 (News.isList lN' ?mem) hints (by decide) _ ?_
             case mem => k_mem)
          | refine' number_call ?k1 ?k2 ?k3 ?k4 ?k5 ?k6 ?k7 _ _ (core ps) 64 (News.isList lN' List.mem_cons_self) hS9 (by decide) _ ?_
        case k2 => exact lF'
        case k1 => k_asm
        case k3 => k_asm
        case k4 => k_asm
        case k5 => rfl
        case k6 => ktr_room
        case k7 => ktr_units
        intro t9 h9 tk9 hk9
        have F9 := Fr.keeps lF' hk9
        have N9 := News.grown lN' hk9
        clear lF' lN' hk9
        have hSn := True.intro
        try dsimp only
      k_with "own bytes" =>
        rename Fr _ _ _ _ => lF'
        rename News _ _ _ _ => lN'
        refine' bytes_to (ls := ps) lF' lN' (News.isList lN' ?mem) hints hps (Nat.le_trans hpl (by decide)) rfl ?_
        case mem => k_mem
        clear lF' lN'
        intro h9 t9 k9 F9 N9
      k_with "own lc" =>
        with_reducible show wpAny _ _ (eval (PySem.Expr.ListComp _ [Comprehension.mk _ (PySem.Expr.Call _ _ _ _) _ _] _ _) _) _ _ _
        refine' lc_from (fun _ => true) (fun v y => ∃ t, y = Value.str ⟨#[(vInt v).toNat]⟩ t) rfl (by decide) rfl (by decide) rfl ?_
      k_with "own lc" =>
        with_reducible show wpAny _ _ (eval (PySem.Expr.ListComp _ [Comprehension.mk _ (PySem.Expr.Name _ _) _ _] _ _) _) _ _ _
        refine' lc_from (fun _ => true) (fun v y => ∃ t, y = Value.int ((fig ((vStr v).cps.toList.getD 0 0) : Nat) : Int) t) rfl (by decide) rfl (by decide) rfl ?_
      k_with "own cfrom" =>
        with_reducible show CFrom _ _ _ _ _ _ _ _ _ _ _ _ _ (Value.bytes _ _) _
        rename Fr _ _ _ _ => lF'
        rename News _ _ _ _ => lN'
        refine' src_bytes (fun k => ⟨#[k.toNat]⟩) lF' lN' ?_ ?_ ?_ ?_
        · rfl
        · rw [octB_size, b64_length, sizeLine_eq]
          omega
        intro k9 u9 C9 oC9 m9 s9 E9 hk9 hoC9 hm9 F9 N9
        clear lF' lN'
        rw [bInts_octB (b64_lt _)] at hk9
        obtain ⟨c9, hc9, e9⟩ := List.mem_map.mp hk9
        subst e9
        have hc8 := b64_lt _ c9 hc9
        clear hk9
        rotate_left
        intro D9 n9 ys9 h9 tk9 hS9 F9 N9
        clear lF' lN'
        rw [bInts_octB (b64_lt _)] at hS9
      k_with "own cfrom" =>
        with_reducible show CFrom _ _ _ _ _ _ _ _ _ _ _ _ _ (Value.str _ _) _
        rename Fr _ _ _ _ => lF'
        rename News _ _ _ _ => lN'
        refine' src_str (fun c => ((fig c : Nat) : Int)) lF' lN' ?_ ?_ ?_ ?_
        · rfl
        · show (ctxt ((core ps).map al)).length ≤ sizeLine
          rw [ctxt_length, List.length_map, sizeLine_eq]
          omega
        intro c9 u9 C9 oC9 m9 s9 E9 hk9 hoC9 hm9 F9 N9
        clear lF' lN'
        obtain ⟨d9, hd9, e9⟩ := List.mem_map.mp (show c9 ∈ (core ps).map al from hk9)
        subst e9
        have hd8 := core_lt ps d9 hd9
        clear hk9
        rotate_left
        intro D9 n9 ys9 h9 tk9 hS9 F9 N9
        clear lF' lN'
        rw [fig_map (core_lt ps)] at hS9
      k_with "own el" =>
        first
          | exact ⟨⟨_, rfl⟩, _, _, rfl, fun _ _ e => e⟩
          | exact el_find hd8 hk9
      k_with "own el" =>
        guard_hyp ho9
        rename (standsB o9 = true) => hq9
        exact el_b (esc_f hq9) hk9
      k_with "own el" =>
        guard_hyp ho9
        rename (standsB o9 = false) => hq9
        rename (Nat.cast o9 ≠ 32) => hp9
        exact el_b (esc_t hp9 hq9) hk9
      k_with "own el" =>
        guard_hyp ho9
        rename (Nat.cast o9 = 32) => hp9
        exact el_b (esc_32 hp9) (fun _ _ e => e)
      k_with "own join" =>
        rename Fr _ _ _ _ => lF'
        rename News _ _ _ _ => lN'
        refine' join_to _ (News.isList lN' List.mem_cons_self) hS9 ?hz ?_
        case hz =>
          rw [b64_length]
          omega
        clear hS9
        intro t9 k9
        try dsimp only
      k_with "own rstrip" =>
        refine' KXw.rstripChars (rstrip_b64 _) ?hz ?_
        case hz =>
          rw [ctxt_length, b64_length, sizeLine_eq]
          omega
        intro t9 k9
        try dsimp only
      k_with "own ifexp" =>
        fail_if_success (with_reducible show wpAny _ _ _ (StrEnd _ _ _ _ _ _) _ _)
        rename Fr _ _ _ _ => lF'
        rename News _ _ _ _ => lN'
        refine' str_join (hword nm ps) lF' lN' ?_ ?_
        rotate_left
        clear lF' lN'
        intro t9 h9 tk9 F9 N9
        rotate_right
      k_with "own strend" =>
        rename Fr _ _ _ _ => lF'
        rename News _ _ _ _ => lN'
        refine' StrEnd.intro (hw_eq ?_) lF' lN' (fun _ h => h)
        first
          | with_reducible rfl
          | exact (eq_of_beq (by assumption)).symm
      k_with "own strend" =>
        guard_hyp htext
        rename (decide (List.map _ ps = []) = true) => hd9
        rename Fr _ _ _ _ => lF'
        rename News _ _ _ _ => lN'
        have e9 : ps = [] := List.map_eq_nil_iff.mp (of_decide_eq_true hd9)
        refine' StrEnd.intro ?_ lF' lN' (fun p hp => List.mem_cons_of_mem _ hp)
        rw [e9]
        exact word_nil
      k_with "own strend" =>
        guard_hyp htext
        rename (decide (List.map _ ps = []) = false) => hd9
        rename Fr _ _ _ _ => lF'
        rename News _ _ _ _ => lN'
        have e9 : ps ≠ [] := fun e => of_decide_eq_false hd9 (by rw [e]; rfl)
        exact StrEnd.intro (word_eq e9) lF' lN' (fun p hp => List.mem_cons_of_mem _ hp)
      k_with "own adds" =>
        guard_hyp hfl
        refine' adds_to rfl ?_ ?_
        · simp only [head_eq, q_eq, tail_eq, b_eq, str_len_append, ctxt_length, List.length_cons, List.length_nil, sizeLine_eq, b64_length]
          omega
        intro t9 k9
        try dsimp only
      k_with "own iadds" =>
        guard_hyp hfl
        refine' iadds_to (joined_next hfl) ?_ ?_
        · simp only [ctxt_length, sizeLine_eq]
          omega
        intro t9 k9
        try dsimp only
      k_with "own nei" =>
        guard_hyp hfl
        first
          | refine' nei_same (sixes_fdiv hvl) ?_
          | refine' nei_same (core_int hps) ?_
      k_with "own pow" =>
        refine' pow_to ((2 ^ (6 * sixes ps.length - 8 * ps.length) : Nat) : Int) ?_ ?_ ?_ ?_
        · rw [exp_nat hvl]; exact Int.natCast_nonneg _
        · rw [exp_nat hvl]; have := exp_le ps.length; omega
        · rw [exp_nat hvl, Int.toNat_natCast]; exact pow2_cast _
      k_with "own mul" =>
        with_reducible show wpAny _ _ (binaryOp _ (Value.int (Nat.cast (num 256 ps)) _) _) _ _ _
        refine' mul_to ((num 256 ps * 2 ^ (6 * sixes ps.length - 8 * ps.length) : Nat) : Int) ?_ (Int.natCast_mul _ _).symm ?_
        · have h16 := exp_pow ps.length
          generalize 2 ^ (6 * sixes ps.length - 8 * ps.length) = e9 at h16
          exact IntMulOk.of_right (intBits_le_64 (by omega) (by omega))
      k_with "own casg" =>
        rename Fr _ _ _ _ => lF'
        rename News _ _ _ _ => lN'
        refine' asg_list (fun k => esc k.toNat) ?hl9 lF' lN' ?hh9 (News.isList lN' ?mem9) hints ?hz9 ?_ ?_ ?_
        case hl9 => rfl
        case hh9 => rfl
        case mem9 => k_mem
        case hz9 => rw [List.length_map, sizeLine_eq]; omega
        intro k9 u9 C9 oC9 m9 s9 E9 hk9 hoC9 hm9 F9 N9
        clear lF' lN'
        obtain ⟨o9, ho8, e9⟩ := List.mem_map.mp hk9
        subst e9
        have ho9 := hps o9 ho8
        clear hk9
        rotate_left
        intro k9 u9 C9 oC9 m9 s9 E9 hk9 hoC9 hm9 F9 N9
        clear lF' lN'
        rotate_left
        intro DE n9 ys9 h9 tk9 hS9 F9 N9
        clear lF' lN'
        have hel := esc_len hS9
        clear hS9
      k_with "own ctwo" =>
        rename Fr _ _ _ _ => lF'
        rename News _ _ _ _ => lN'
        refine' CTwo.intro (((c9 :: rs).map fun c => (c.1, c.2.1)).reverse) lF' lN' ?_ ?_ ?_ ?_
        · rw [htv]; exact News.isList lN' List.mem_cons_self
        · exact two_cell lN'
        · rw [htl, sizeLine_eq]; omega
        intro D9 n9 h9 tk9 F9 N9
        clear lF' lN'
      k_with "own neb" =>
        refine' neb_same short_ok ?_
        try dsimp only
      k_with "own pstep" =>
        rename Fr _ _ _ _ => lF'
        rename News _ _ _ _ => lN'
        unfold PStep
        dsimp only
        refine ⟨_, _, _, _, rfl, lF', kst_newsOf lN' ?_, hne, rfl, rfl, _, _, _, rfl, rfl, rfl⟩
        intro p hp
        repeat (first | exact hp | refine List.mem_cons_of_mem _ ?_)
      k_with "own lawend" =>
        rename Fr _ _ _ _ => lF'
        exact law_end lF'
      k_with "own len" =>
        first
          | with_reducible refine' len_core (Nat.le_trans hpl (by decide)) ?_
          | with_reducible refine' len_bword (Nat.le_trans hpl (by decide)) hnl ?_
          | with_reducible refine' len_hword hpl hnl ?_
        intro t9 k9
        try dsimp only
      k_with "own len" =>
        guard_hyp hfl
        with_reducible show wpAny _ _ (call _ [Value.ref a]) _ _ _
        rename News _ _ _ _ => lN'
        refine' len_lst ps.length (News.isList lN' ?mem9) (ints_len hints) (Nat.le_trans hpl (by decide)) ?_
        case mem9 => k_mem
        intro t9 k9
        try dsimp only
      k_with "own len" =>
        guard_hyp hel
        with_reducible show wpAny _ _ (call _ [Value.ref DE]) _ _ _
        rename News _ _ _ _ => lN'
        refine' len_lst (ps.filter esc).length (News.isList lN' ?mem9) hel (esc_le hpl) ?_
        case mem9 => k_mem
        intro t9 k9
        try dsimp only
      k_with "own nes" =>
        refine' nes_self ?_
      k_with "own eqs" =>
        guard_hyp hdone
        refine' eqs_self ?_
      k_with "own asglc" =>
        guard_hyp hfl
        refine' asg_from (fun v => esc (vInt v).toNat) (fun v y => ∃ t, y = Value.int (vInt v) t) (by with_unfolding_all rfl) rfl (by decide) rfl (by decide) rfl rfl rfl ?_
      k_with "own asglc" =>
        guard_hyp hdone
        rename Fr _ _ _ _ => lF'
        refine' asg_two lF' ?hh (by with_unfolding_all rfl) (by decide) (by decide) rfl (by decide) rfl rfl (by decide) (by decide) rfl rfl ?_
        case hh => rfl
      k_with "own iter" =>
        rename Fr _ _ _ _ => lF'
        rename News _ _ _ _ => lN'
        have hPl := News.isList lN' (List.mem_cons_self)
        refine' iter_vals (vs := ((c9 :: rs).map (fun c => Value.ref c.1)).reverse) (news := Led PA odd9 nP ov (c9 :: rs)) (LJ PA odd9 nP ov (c9 :: rs) nm) rfl hPl (Heap.lt_size (lN' _ List.mem_cons_self).1) (lN' _ List.mem_cons_self).2.1 lF' lN' ?kj ?turn ?done
        case kj => exact ⟨rfl, rfl, _, _, _, rfl, rfl, rfl⟩
        case' turn =>
          intro i v m₁ news₁ h tk own I hv hJ hne hown hI hltI F9 N9
          clear lF' lN'
          obtain ⟨e0, hp, t1, t2, t3, hn1, hn2, hn3⟩ := hJ
          subst e0
          obtain ⟨⟨a, pv, k, ps⟩, hc, e1, hfl⟩ := piece_at hv
          subst e1
          have em : kstB m₁ [(Str.ofString "name", .str nm t1), (Str.ofString "head", .str (Str.ofString "=?" ++ nm ++ Str.ofString "?q?") t2), (Str.ofString "joined", .str (ctxt (qtext (flatN (c9 :: rs) i))) t3), (Str.ofString "pieces", .ref PA)] = m₁ := funext fun y => kstB_eq (by simp only [List.forall_mem_cons, List.not_mem_nil, false_implies, implies_true, and_true]; exact ⟨hn1, hn2, hn3, hp⟩) fun _ => rfl
          rw [← em] at F9
          dsimp only [kstB] at F9
          have hints := (hok.has _ hc).1
          have hps := (hok.has _ hc).2
          have hpl := Nat.le_trans (cell_len hc) hoctP
          dsimp only at hints hps hpl hfl
          have N8 : News _ _ h ((a, listOf pv.toArray k) :: (own ++ Led PA odd9 nP ov (c9 :: rs))) := kst_newsOf N9 (fun p hp9 => (List.mem_cons.mp hp9).elim (fun e => e ▸ List.mem_append_right _ (List.mem_cons_of_mem _ (List.mem_cons_of_mem _ (List.mem_map.mpr ⟨_, hc, rfl⟩)))) id)
          clear N9 em hn1 hn2 hn3 hp hv
          have hnl : nm.length ≤ 20 := nm_len hnm
          have hvl : ps.length = ps.length := rfl
          have hql : (qtext ps).length ≤ 3 * ps.length := qtext_length ps
          have hjl : (qtext (flatN (c9 :: rs) i)).length ≤ 3 * (flatN (c9 :: rs) i).length := qtext_length _
          have hfl2 := flat_len hoctP i
          have hcl : (core ps).length ≤ 1000 := by rw [core_length]; unfold sixes; omega
        case' done =>
          intro m₁ news₁ h tk hJ F9 N9
          clear lF' lN'
          obtain ⟨e0, hp, t1, t2, t3, hn1, hn2, hn3⟩ := hJ
          subst e0
          have em : kstB m₁ [(Str.ofString "joined", .str (ctxt (qtext (flatN (c9 :: rs) (((c9 :: rs).map (fun c => Value.ref c.1)).reverse).length))) t3), (Str.ofString "pieces", .ref PA)] = m₁ := funext fun y => kstB_eq (by simp only [List.forall_mem_cons, List.not_mem_nil, false_implies, implies_true, and_true]; exact ⟨hn3, hp⟩) fun _ => rfl
          rw [← em] at F9
          dsimp only [kstB] at F9
          clear em hn1 hn2 hn3 hp
          have hps := flat_lt (fun c hc => (hok.has c hc).2) (((c9 :: rs).map (fun c => Value.ref c.1)).reverse).length
          have hpl := flat_len hoctP (((c9 :: rs).map (fun c => Value.ref c.1)).reverse).length
          have hints := two_ints hok
          have htv := two_vals (c9 :: rs)
          have htc := two_cell N9
          have htl := hints.length
          rw [List.length_map] at htl
          generalize flatN (c9 :: rs) (((c9 :: rs).map (fun c => Value.ref c.1)).reverse).length = ps at F9 hps hpl hints htl
          have hdone := True.intro
      k_steps
      done)
end
end Mine
set_option maxRecDepth 100000 in
set_option maxHeartbeats 8000000 in
theorem PySem.Challenge.cw_nb0042_01_holds : PySem.Challenge.rw_nb0042_01.Holds := by
  exact Mine.law_holds
