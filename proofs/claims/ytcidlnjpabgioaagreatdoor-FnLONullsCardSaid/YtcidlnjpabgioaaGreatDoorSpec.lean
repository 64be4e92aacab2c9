import Derived.Test.YtcidlnjpabgioaaGreatDoorProg
import Derived.Test.YtcidlnjpabgioaaGreatDoorPlain
import Derived.KernelRfl
import Derived.Defers
import Derived.Recover
namespace Go.Proofs.YtcidlnjpabgioaaGreatDoor
open Go.RowKit

/-! ## A function value called -/
def CallsV (P : Program) (fv : Value) (args : Array Value) (w : World) (R : Ending → World → Prop) : Prop :=
  ∃ d f args', (Deferred.ofValue fv args).run P w = .ok d w ∧ (invoke d.target d.args).run P w = .ok (.enter f args') w ∧ Calls P f args' w R

section
variable {P : Program} (w : World) {ops : Array Oper} {rest : List Oper} {o : Oper} {a : Act} {Q : Exit → Act → World → Prop} {K : Act → World → Prop} {E : Prop}
theorem wp_callv (f : Operand) (xs : Array Operand) (ts : Array TypeId) (hop : o.op = .call { callee := .value f, args := xs, argTypes := ts })
    (fv : Value) (args : Array Value) (hv : a.eval f = fv) {R : Ending → World → Prop} (hc : CallsV P fv args w R) (ha : xs.toList.map a.eval = args.toList)
    (h : ∀ e w', R e w' → ∃ val, e = .returned val ∧ K (a.put o.dst val) w') : o.wp P a w K Q := by
  obtain ⟨d, f, args', h0, h1, h2⟩ := hc
  unfold Oper.wp execOp
  have ha' : xs.map a.eval = args := by apply Array.ext'; rw [Array.toList_map]; exact ha
  simp only [hop, resolve, Sem.run_bind, Result.andThen_ok, hv, ha', h0, h1, Oper.upon_enter]
  refine h2.mono fun e w' hr => ?_
  obtain ⟨val, rfl, hk⟩ := h e w' hr
  exact hk
theorem wpList_callv (hg : o.guard = none) (f : Operand) (xs : Array Operand) (ts : Array TypeId) (hop : o.op = .call { callee := .value f, args := xs, argTypes := ts })
    (fv : Value) (args : Array Value) (hv : a.eval f = fv) {R : Ending → World → Prop} (hc : CallsV P fv args w R) (ha : xs.toList.map a.eval = args.toList)
    (h : ∀ e w', R e w' → ∃ val, e = .returned val ∧ wpList P ops Q rest (a.put o.dst val) w') : wpList P ops Q (o :: rest) a w :=
  wpList_plain hg fun _ hK => wp_callv w f xs ts hop fv args hv hc ha fun e w' hr => let ⟨val, he, hk⟩ := h e w' hr; ⟨val, he, hK _ _ hk⟩
theorem step_callv (hg : o.guard = none) (f : Operand) (xs : Array Operand) (ts : Array TypeId) (hop : o.op = .call { callee := .value f, args := xs, argTypes := ts })
    (fv : Value) (args : Array Value) (hv : a.eval f = fv) {R : Ending → World → Prop} (hc : CallsV P fv args w R) (ha : xs.toList.map a.eval = args.toList)
    (h : ∀ e w', R e w' → ∃ val, e = .returned val ∧ K (a.put o.dst val) w') : if Region.wanted o (yielded ops a.tmps) = true then Oper.wp P o a w K Q else E :=
  step_of_wp w hg (wp_callv w f xs ts hop fv args hv hc ha h)
end

theorem CallsV.mono {P : Program} {fv : Value} {args : Array Value} {w : World} {R R' : Ending → World → Prop} (h : CallsV P fv args w R) (hr : ∀ e w', R e w' → R' e w') : CallsV P fv args w R' := by
  obtain ⟨d, f, args', h0, h1, h2⟩ := h
  exact ⟨d, f, args', h0, h1, h2.mono hr⟩

theorem CallsV.method {P : Program} {v : Value} {name : String} {args : Array Value} {w : World} {R : Ending → World → Prop} (h : Invokes P v name args w R) : CallsV P (.func (.method name) #[v] #[]) args w R := by
  obtain ⟨f, args', h1, h2⟩ := h
  refine ⟨{ target := .fn (.method name) #[], args := #[v] ++ args }, f, args', rfl, ?_, h2⟩
  have e1 : (#[v] ++ args)[0]? = some v := by rw [Array.getElem?_append_left (by simp)]; rfl
  have e2 : (#[v] ++ args).extract 1 (#[v] ++ args).size = args := by
    apply Array.ext'
    simp
  simp only [invoke, e1, e2, h1]

/-! ## Bytes; a buffer -/
def bcells (l : List UInt8) : List Value := l.map fun b => Value.int .u8 b.toNat

theorem bcells_append (l m : List UInt8) : bcells (l ++ m) = bcells l ++ bcells m := by simp [bcells]
theorem bcells_length (l : List UInt8) : (bcells l).length = l.length := by simp [bcells]

/-- The buffer in block b holds the bytes bs; its blocks are fb. -/
def Buf (w : World) (b : Nat) (fb : Nat → Prop) (bs : List UInt8) : Prop :=
  ∃ v, w.heap[b]? = some (.cells #[v] 114 (0, 0)) ∧ w.ownsRow 0 5 1 v bs.length (bcells bs) ∧ v.ownBlock ≠ some b ∧ ∀ k, fb k ↔ k = b ∨ v.ownBlock = some k

/-- What grows takes new blocks alone. -/
def Grow (w : World) (f f' : Nat → Prop) : Prop := ∀ k, f' k → f k ∨ w.heap.size ≤ k

/-- What a column's rows weigh. -/
def Wt (_ : Ty) (cs : List Cell) : Nat := wts cs

structure ColSpec (P : Program) (B : Nat) (t : TypeId) (u : Value) (T : Ty) (st : List UInt8) (R Rp : World → (Nat → Prop) → List Cell → Prop) : Prop where
  lo : ∀ {w fp σ}, R w fp σ → ∀ k, fp k → B ≤ k ∧ k < w.heap.size
  lo' : ∀ {w fp σ}, Rp w fp σ → ∀ k, fp k → B ≤ k ∧ k < w.heap.size
  frame : ∀ {w w' fp σ}, R w fp σ → (∀ k, fp k → w'.heap[k]? = w.heap[k]?) → R w' fp σ
  frame' : ∀ {w w' fp σ}, Rp w fp σ → (∀ k, fp k → w'.heap[k]? = w.heap[k]?) → Rp w' fp σ
  append : ∀ {w fp σ c vs}, R w fp σ → CellIn B w c vs → Wt T (σ ++ [c]) ≤ 2147483648 → Invokes P (.iface t u) "Append" #[.agg vs.toArray] w fun e w' =>
    e = .returned (.tuple #[]) ∧ Fr fp w w' ∧ ∃ fp', R w' fp' (σ ++ [c]) ∧ Grow w fp fp'
  appendArr : ∀ {w fp σ cs v xs}, R w fp σ → Sl B w 8 v cs.length xs → CellsIn B w cs xs → Wt T (σ ++ cs) ≤ 2147483648 → Invokes P (.iface t u) "AppendArr" #[v] w fun e w' =>
    e = .returned (.tuple #[]) ∧ Fr fp w w' ∧ ∃ fp', R w' fp' (σ ++ cs) ∧ Grow w fp fp'
  rows : ∀ {w fp σ}, R w fp σ → Invokes P (.iface t u) "Rows" #[] w fun e w' => e = .returned (.int .i64 σ.length) ∧ Fr (fun _ => False) w w'
  prepare : (∃ p : Bool, (∀ x w, (Instr.typeAssert (.iface t u) x 102 true).run P w = .ok (.tuple #[if p then .iface t u else .nilIface, .bool p]) w) ∧
    ∀ {w fp σ}, R w fp σ → if p then Invokes P (.iface t u) "Prepare" #[] w fun e w' => e = .returned .nilIface ∧ Fr fp w w' ∧ ∃ fp', Rp w' fp' σ ∧ Grow w fp fp' else Rp w fp σ)
  state : (∃ p : Bool, (∀ x w, (Instr.typeAssert (.iface t u) x 172 true).run P w = .ok (.tuple #[if p then .iface t u else .nilIface, .bool p]) w) ∧
    if p then ∀ {w fp σ b fb bs}, Rp w fp σ → Buf w b fb bs → (∀ k, fp k → ¬ fb k) → bs.length ≤ 2147483648 → Invokes P (.iface t u) "EncodeState" #[.pointer (some ⟨b, 0, none⟩)] w fun e w' =>
      e = .returned (.tuple #[]) ∧ Fr fb w w' ∧ ∃ fb', Buf w' b fb' (bs ++ st) ∧ Grow w fb fb' else st = [])
  encode : ∀ {w fp σ b fb bs}, Rp w fp σ → Wt T σ ≤ 2147483648 → Buf w b fb bs → (∀ k, fp k → ¬ fb k) → bs.length + (enc T σ).length ≤ 1099511627776 → Invokes P (.iface t u) "EncodeColumn" #[.pointer (some ⟨b, 0, none⟩)] w fun e w' =>
      e = .returned (.tuple #[]) ∧ Fr fb w w' ∧ ∃ fb', Buf w' b fb' (bs ++ enc T σ) ∧ Grow w fb fb'

theorem caught_idle (p : Addr) (w : World) :
    CallsD Tryz.prog 22 #[.pointer (some p)] .returning w fun e u' w' => e = .returned (.tuple #[]) ∧ u' = .returning ∧ w' = w := by
  refine callsD_of_wpS Tryz.func22 rfl fun c₀ cs hu => ?_
  apply wpS_seq
  apply wpS_region
  simp [wpOpsS, go_sem, recoverD, hu, Tryz.ntmps22, Exit.thenS]
  refine wpS_cond (t := false) (by simp [Act.eval, Array.replicate]) ?_
  simp only [Bool.false_eq_true, if_false]
  refine wpS_of_wp (wp_skip ?_)
  cases c₀
  simp_all [bodyPostS, results, Tryz.results22]

theorem encoded_any (put : Value) (w : World) (bs : List UInt8)
    (hput : CallsV Tryz.prog put #[.pointer (some ⟨w.heap.size, 0, none⟩)] (w.alloc (.cells #[.slice none 0 0] 114)) fun e w' => e = .returned (.tuple #[]) ∧ Fr (fun k => k = w.heap.size) (w.alloc (.cells #[.slice none 0 0] 114)) w' ∧ ∃ fb, Buf w' w.heap.size fb bs) :
    Calls Tryz.prog 38 #[put] w fun e w' => ∃ v, e = .returned v ∧ w'.ownsRow 0 5 1 v bs.length (bcells bs) ∧ Below w.heap.size w w' := by
  go_enter Tryz.func38, Tryz.ntmps38
  go_wp2_with ((with_reducible show wpList _ _ _ (⟨some 5, _, _, _, _, _⟩ :: _) _ _); refine wpList_callv _ rfl _ _ _ rfl put _ rfl hput rfl ?_; rintro e w' ⟨rfl, hfr, fb, v, hb, hown, hne, hfb⟩; refine ⟨_, rfl, ?_⟩; have hc : w'.cell? ⟨w.heap.size, 0, none⟩ = some v := by (rw [cell_of_row _ _ _ _ _ _ hb]; rfl))
  go_ret
  refine ⟨_, rfl, hown, ?_⟩
  exact ((Fr.refl (fun _ => False) w).alloc (.cells #[.slice none 0 0] 114) |>.trans (hfr.mono (S' := fun k => k = w.heap.size) (fun k _ h => h)) (fun k hk h => by omega)).below (Nat.le_refl _) (fun k _ h => h)
end Go.Proofs.YtcidlnjpabgioaaGreatDoor
