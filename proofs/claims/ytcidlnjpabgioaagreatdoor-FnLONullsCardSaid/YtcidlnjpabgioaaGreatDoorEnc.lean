/- The buffer with room made: how a column of numbers is laid into it. -/
import Derived.Test.YtcidlnjpabgioaaGreatDoorPut
import Derived.Stop.Asserts
namespace Go.Proofs.YtcidlnjpabgioaaGreatDoor
open Go.RowKit

section
variable {P : Program} {w : World}
theorem method_own2 {n : Nat} {t : TypeId} {v : Value} {name : String} {f : FuncId} (pr : Bool) (h : ((P.info? t).bind fun i => i.methods.find? (·.name == name)).map (fun m => (m.path, m.func)) = some (#[], some (f, pr)))
    {r : Value} (hr : (receiverAt t (.val v) pr (some ((name.splitOn ".").getLastD name))).run P w = .ok r w) : (method (n + 1) t v name).run P w = .ok (f, r) w := by
  cases hi : P.info? t with
  | none => simp [hi] at h
  | some i =>
    cases hm : i.methods.find? (·.name == name) with
    | none => simp [hi, hm] at h
    | some m =>
      simp only [hi, hm, Option.bind_some, Option.map_some, Option.some.injEq, Prod.mk.injEq] at h
      exact method_own hi hm h.1 h.2 hr

theorem method_iface2 {n : Nat} {t : TypeId} {name : String} {s : TypeId} {fs : Array Field} {fd : Field} (hs : P.underlying s = some (.struct fs)) (hfd : fs[0]? = some fd) (hfo : fd.offset = 0) (hag : ∀ w, (isAgg fd.type).run P w = .ok false w)
    (h : ((P.info? t).bind fun i => i.methods.find? (·.name == name)).map (fun m => (m.path, m.func)) = some (#[{ struct := s, index := 0, deref := false }], none))
    {cs : Array Value} {t' : TypeId} {v' : Value} (hc : cs[0]? = some (.iface t' v')) : (method (n + 1) t (.agg cs) name).run P w = (method n t' v' name).run P w := by
  cases hi : P.info? t with
  | none => simp [hi] at h
  | some i =>
    cases hm : i.methods.find? (·.name == name) with
    | none => simp [hi, hm] at h
    | some m =>
      simp only [hi, hm, Option.bind_some, Option.map_some, Option.some.injEq, Prod.mk.injEq] at h
      exact method_iface hi hm h.1 h.2 hs hfd hfo hag hc
end

theorem load_slice {P : Program} {w : World} {t e : TypeId} {a : Addr} {v : Value} (hu : P.underlying t = some (.slice e)) (hc : w.cell? a = some v) : (loadVar t a).run P w = .ok v w := by
  have hi : (isAgg t).run P w = .ok false w := by simp [isAgg, run_underlying hu]
  unfold loadVar
  simp [Sem.run_bind, hi, hc]

theorem fuel : ∃ n, Tryz.prog.types.size + Made.depth = n + 2 := ⟨Tryz.prog.types.size + Made.depth - 2, by kernel_rfl⟩

theorem cells_at_new {w : World} {n : Nat} (h : n = w.heap.size) (xs : List Value) (t : TypeId) : ∀ j u, xs[j]? = some u → (w.alloc (.cells xs.toArray t)).cell? ((⟨n, 0, none⟩ : Addr).add j) = some u := by
  subst h
  exact cells_new w xs t

theorem setCells_size (g : Nat) : ∀ (vs : List Value) (o : Nat) (w : World), (w.setCells g o vs).heap.size = w.heap.size
  | [], _, _ => rfl
  | v :: r, o, w => by rw [World.setCells, setCells_size g r]; simp [World.setCell]

/-- A block that was made is what it was, but for what is written there. -/
theorem Fr.made {w w1 : World} {c : Array Value} {t : TypeId} (h : Fr (fun _ => False) (w.alloc (.cells c t)) w1) {n : Nat} (hn : n = w.heap.size) : w1.heap[n]? = some (.cells c t (0, 0)) := by
  subst hn
  exact (h.block _ (by simp) (fun h => h)).trans (heap_alloc_new w _)

theorem wrap_i16 (n : Int) : IntKind.i16.wrap n = (n + 32768) % 65536 - 32768 := by
  simp only [IntKind.wrap, IntKind.bits, IntKind.signed]
  simp
  split <;> omega
theorem wrap_i8 (n : Int) : IntKind.i8.wrap n = (n + 128) % 256 - 128 := by
  simp only [IntKind.wrap, IntKind.bits, IntKind.signed]
  simp
  split <;> omega

theorem u64_wrap64 (n : Int) : IntKind.u64.wrap (wrap64 n) = n % 18446744073709551616 := by
  rw [IntKind.wrap_u64]
  unfold wrap64
  rw [Int.sub_emod, Int.emod_emod, ← Int.sub_emod]
  congr 1
  omega
theorem u32_wrap32 (n : Int) : IntKind.u32.wrap (wrap32 n) = n % 4294967296 := by
  rw [IntKind.wrap_u32]
  unfold wrap32
  rw [Int.sub_emod, Int.emod_emod, ← Int.sub_emod]
  congr 1
  omega

theorem u8_wrap8 (n : Int) : IntKind.u8.wrap (IntKind.i8.wrap n) = n % 256 := by
  rw [IntKind.wrap_u8', wrap_i8]
  omega

theorem Buf.col {w : World} {b : Nat} {fb : Nat → Prop} {bs : List UInt8} : Buf w b fb bs ↔ ColAt w b 114 5 1 bs.length (bcells bs) fb := Iff.rfl

/-- Block b is a buffer whose row lies in block g. -/
structure Hot (w : World) (b g N cap : Nat) (xs : List Value) : Prop where
  hb : w.heap[b]? = some (.cells #[.slice (some ⟨g, 0, none⟩) N cap] 114 (0, 0))
  own : w.ownsRow 0 5 1 (.slice (some ⟨g, 0, none⟩) N cap) N xs
  ne : g ≠ b

namespace Hot
variable {w w' : World} {b g N cap : Nat} {xs : List Value}
theorem cell (h : Hot w b g N cap xs) : w.cell? ⟨b, 0, none⟩ = some (.slice (some ⟨g, 0, none⟩) N cap) := (ColAt.cell h.hb).1
theorem frozen (h : Hot w b g N cap xs) : w.frozen? ⟨b, 0, none⟩ = false := (ColAt.cell h.hb).2
theorem row (h : Hot w b g N cap xs) : ∃ cur : Array Value, w.heap[g]? = some (.cells cur 5 (0, 0)) ∧ N ≤ cur.size ∧ N ≤ cap ∧ cap ≤ maxLen := by
  rcases h.own.2 with ⟨hv, _⟩ | ⟨g', cap', cur, hv, _, hg, hnc, hcm, hcs, _⟩
  · cases hv
  · simp only [Value.slice.injEq, Option.some.injEq, Addr.mk.injEq] at hv
    obtain ⟨⟨rfl, _⟩, _, rfl⟩ := hv
    exact ⟨cur, hg, by omega, hnc, hcm⟩
theorem there (h : Hot w b g N cap xs) {o m : Nat} (hm : o + m ≤ N) : ∀ j, j < m → ∃ u, w.cell? ⟨g, o + j, none⟩ = some u := by
  obtain ⟨cur, hg, hN, _⟩ := h.row
  intro j hj
  refine ⟨cur[o + j]'(by omega), ?_⟩
  rw [cell_of_row _ _ _ _ _ _ hg, Array.getElem?_eq_getElem]
theorem cold (h : Hot w b g N cap xs) : ∀ j, w.frozen? ⟨g, j, none⟩ = false := by
  obtain ⟨cur, hg, hN, _⟩ := h.row
  exact fun j => frozen_of_row _ _ _ _ _ hg
theorem fr (h : Hot w b g N cap xs) {S : Nat → Prop} (hf : Fr S w w') (hb : ¬ S b) (hg : ¬ S g) : Hot w' b g N cap xs :=
  ⟨(hf.block b (heap_lt h.hb) hb).trans h.hb, hf.owns h.own (fun k hk hs => by simp only [Value.ownBlock, Option.some.injEq] at hk; subst hk; exact hg hs), h.ne⟩
theorem glt (h : Hot w b g N cap xs) : g < w.heap.size := by obtain ⟨cur, hg, _⟩ := h.row; exact heap_lt hg
theorem alloc (h : Hot w b g N cap xs) (o : Obj) : Hot (w.alloc o) b g N cap xs := h.fr ((Fr.refl (fun _ => False) w).alloc o) (fun h => h) (fun h => h)
theorem drew (h : Hot w b g N cap xs) : Hot w.drew b g N cap xs := h.fr ((Fr.refl (fun _ => False) w).drew) (fun h => h) (fun h => h)
theorem put {A olds C : List Value} (h : Hot w b g N cap xs) (hx : xs = A ++ olds ++ C) (news : List Value) (hn : news.length = olds.length) {o : Nat} (ho : o = A.length) : Hot (w.setCells g o news) b g N cap (A ++ news ++ C) :=
  ⟨((Fr.setCells (S := fun k => k = g) (.inl rfl) news o w (Fr.refl _ w)).block b (heap_lt h.hb) (fun e => h.ne e.symm)).trans h.hb, ownsRow_setCells h.own hx news hn ho, h.ne⟩
theorem buf {bs : List UInt8} (h : Hot w b g N cap (bcells bs)) {fb : Nat → Prop} (hfb : ∀ k, fb k ↔ k = b ∨ k = g) : Buf w b fb bs := by
  have hl := h.own.1
  simp only [bcells_length, Nat.mul_one] at hl
  subst hl
  exact ⟨_, h.hb, h.own, by simpa [Value.ownBlock] using h.ne, fun k => by rw [hfb]; simp [Value.ownBlock, eq_comm]⟩
theorem of {fb : Nat → Prop} (h : ColAt w b 114 5 1 N xs fb) (hN : 0 < N) : ∃ g cap, Hot w b g N cap xs ∧ ∀ k, fb k ↔ k = b ∨ k = g := by
  obtain ⟨v, hp, hown, hne, hfp⟩ := h
  have hown' := hown
  rcases hown.2 with ⟨_, rfl⟩ | ⟨g, cap, cur, rfl, _⟩
  · omega
  · exact ⟨g, cap, ⟨hp, hown', by simpa [Value.ownBlock] using hne⟩, fun k => by rw [hfp]; simp [Value.ownBlock, eq_comm]⟩
end Hot

theorem bufEl : ElT Tryz.prog 22 5 (.int .u8 0) 1 1 := ⟨Tryz.underlying22, info_parts (by kernel_rfl), rfl⟩

/-- Zeros, of which the first m are to be written. -/
theorem zeros_split (n m : Nat) (h : m ≤ n) : List.replicate n (Value.int .u8 0) = List.replicate m (Value.int .u8 0) ++ List.replicate (n - m) (Value.int .u8 0) := by
  rw [List.replicate_append_replicate]
  congr 1
  omega

theorem bcells_zeros (m : Nat) : List.replicate m (Value.int .u8 0) = bcells (List.replicate m 0) := by simp [bcells]

theorem flatMap_length {α β : Type} (f : α → List β) (B : Nat) (h : ∀ a, (f a).length = B) : ∀ l : List α, (l.flatMap f).length = B * l.length
  | [] => rfl
  | a :: l => by rw [List.flatMap_cons, List.length_append, h, flatMap_length f B h l, List.length_cons, Nat.mul_succ]; omega

theorem flatMap_at {α β : Type} (f : α → List β) (m : Nat) (h : ∀ a, (f a).length = m) : ∀ (l : List α) (k j : Nat) (hk : k < l.length), j < m → (l.flatMap f)[k * m + j]? = (f l[k])[j]?
  | [], k, j, hk, _ => by simp at hk
  | a :: l, 0, j, _, hj => by
    rw [List.flatMap_cons, Nat.zero_mul, Nat.zero_add, List.getElem?_append_left (by rw [h]; exact hj)]
    rfl
  | a :: l, k + 1, j, hk, hj => by
    have e : (k + 1) * m + j = (f a).length + (k * m + j) := by rw [h, Nat.add_mul]; omega
    rw [List.flatMap_cons, e, List.getElem?_append_right (by omega), Nat.add_sub_cancel_left, flatMap_at f m h l k j (by simpa using hk) hj]
    rfl

theorem numBytes_length (B : Nat) (hB : B ≤ 32) (c : Cell) : (numBytes B c).length = B := by simp [numBytes, Lib.leBytes_length]; omega
theorem numBytes_16 (c : Cell) : numBytes 16 c = Lib.leBytes 8 c.r0 ++ Lib.leBytes 8 c.r1 := by
  unfold numBytes
  rw [List.append_assoc]
  exact List.take_left' (by simp [Lib.leBytes_length])
theorem numBytes_32 (c : Cell) : numBytes 32 c = Lib.leBytes 8 c.r0 ++ Lib.leBytes 8 c.r1 ++ Lib.leBytes 8 c.r2 ++ Lib.leBytes 8 c.r3 := by
  unfold numBytes
  exact List.take_of_length_le (by simp [Lib.leBytes_length])
theorem take_leBytes : ∀ (k m v : Nat), k ≤ m → (Lib.leBytes m v).take k = Lib.leBytes k v
  | 0, m, v, _ => by simp [Lib.leBytes]
  | k + 1, 0, v, h => by omega
  | k + 1, m + 1, v, h => by rw [Lib.leBytes, Lib.leBytes, List.take_succ_cons, take_leBytes k m _ (by omega)]
theorem leBytes_mod : ∀ (k v : Nat), Lib.leBytes k (v % 256 ^ k) = Lib.leBytes k v
  | 0, v => by simp [Lib.leBytes]
  | k + 1, v => by
    have h1 : (v % 256 ^ (k + 1)) % 256 = v % 256 := by rw [Nat.mod_mod_of_dvd]; exact ⟨256 ^ k, by rw [Nat.pow_succ]; omega⟩
    have h2 : (v % 256 ^ (k + 1)) / 256 = (v / 256) % 256 ^ k := by rw [Nat.pow_succ, Nat.mul_comm, Nat.mod_mul_right_div_self]
    rw [Lib.leBytes, Lib.leBytes, h1, h2, leBytes_mod k (v / 256)]
theorem numBytes_word (B : Nat) (hB : B ≤ 8) (c : Cell) : numBytes B c = Lib.leBytes B c.r0 := by
  unfold numBytes
  rw [List.append_assoc, List.append_assoc, List.take_append_of_le_length (by rw [Lib.leBytes_length]; exact hB), take_leBytes _ _ _ hB]
end Go.Proofs.YtcidlnjpabgioaaGreatDoor
