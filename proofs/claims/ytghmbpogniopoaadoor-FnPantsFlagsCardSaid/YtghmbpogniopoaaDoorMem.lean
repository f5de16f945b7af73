/- Plain words and lemmas on memory: bytes as a function of the place; an append of one element; a string's iterator among other blocks. -/
import Derived.WalkKit
import Derived.Lib.Hide
import Derived.Maps.AppendAt
import Derived.Lib.OthersKept
import Derived.Laws.Cover4
import Derived.Laws.IdiomStrings
import Derived.WalkLawsBesides
import Derived.WalkSpells
import Derived.Outline
namespace Go.Proofs.YtghmbpogniopoaaDoor
open Go.RowKit

/-- Byte k of a list, as a number; 0 behind its end. -/
def bt (l : List UInt8) (k : Nat) : Int := ((l[k]?.getD 0).toNat : Int)
theorem bt_lo (l : List UInt8) (k : Nat) : 0 ≤ bt l k := by unfold bt; omega
theorem bt_hi (l : List UInt8) (k : Nat) : bt l k ≤ 255 := by
  unfold bt; have := (l[k]?.getD 0).toNat_lt; omega
theorem bt_str (s : ByteArray) : ∀ (n : Nat) (h : n < s.size), ((s[n]'h).toNat : Int) = bt s.data.toList n := fun n h => by
  unfold bt
  have e : s.data.toList[n]? = some (s[n]'h) := by
    rw [List.getElem?_eq_getElem (by simpa using h)]
    rfl
  rw [e]; rfl

/-- The bytes of numbers. -/
def bytesOf (l : List Int) : List UInt8 := l.map fun n => UInt8.ofNat n.toNat
def strOf (l : List Int) : ByteArray := ⟨(bytesOf l).toArray⟩
theorem strOf_size (l : List Int) : (strOf l).size = l.length := by simp [strOf, bytesOf, ByteArray.size]
theorem strOf_list (l : List Int) : (strOf l).data.toList = bytesOf l := by simp [strOf]
theorem bytesOf_length (l : List Int) : (bytesOf l).length = l.length := by simp [bytesOf]
theorem bt_bytesOf (l : List Int) (h : ∀ x ∈ l, 0 ≤ x ∧ x ≤ 255) (k : Nat) : bt (bytesOf l) k = l[k]?.getD 0 := by
  unfold bt bytesOf
  rw [List.getElem?_map]
  rcases hk : l[k]? with _ | x
  · simp
  · obtain ⟨h0, h1⟩ := h x (List.mem_of_getElem? hk)
    simp only [Option.map_some, Option.getD_some]
    rw [UInt8.toNat_ofNat']
    omega

/-- A step function over the places 0 .. k-1. -/
def iter {σ : Type} (step : σ → Int → σ) (s0 : σ) (f : Nat → Int) : Nat → σ
  | 0 => s0
  | k + 1 => step (iter step s0 f k) (f k)

theorem ret_bool {a b : Bool} (h : a = b) : Ending.returned (.bool a) = .returned (.bool b) := by rw [h]
theorem ret_int {k : IntKind} {a b : Int} (h : a = b) : Ending.returned (.int k a) = .returned (.int k b) := by rw [h]
theorem ret_str {a b : ByteArray} (h : a = b) : Ending.returned (.string a) = .returned (.string b) := by rw [h]

theorem own_form {w : World} {base : Nat} {e : TypeId} {size : Nat} {v : Value} {n : Nat} {xs : List Value} (h : w.ownsRow base e size v n xs) : ∃ A c, v = .slice A n c := by
  rcases h.2 with ⟨rfl, rfl⟩ | ⟨g, cap, cur, rfl, _⟩
  · exact ⟨none, 0, rfl⟩
  · exact ⟨_, _, rfl⟩

/-- 'append(out, u)': one element of one cell onto an owned row; the element's own block is w's newest one. -/
theorem wpList_app1 {P : Program} {ops : Array Oper} {rest : List Oper} {o : Oper} {a : Act} {Q : Exit → Act → World → Prop} (s x : Operand) (t : TypeId)
    (base : Nat) (e : TypeId) (i : TypeInfo) (z u : Value) (bytes : Nat) (w : World) (A : Option Addr) (n c : Nat) (xs : List Value) (hown : w.ownsRow base e 1 (.slice A n c) n xs)
    (hgd : o.guard = none) (ho : o.op = .call { callee := .builtin .append, args := #[s, x], argTypes := #[t, t] })
    (ht : P.underlying t = some (.slice e)) (hi : P.info? e = some i) (hz : i.zero = some z)
    (hsize : i.size = 1) (hby : i.bytes = bytes) (hzs : z.cells.size = 1)
    (hs : a.eval s = .slice A n c) (hx : a.eval x = .slice (some ⟨w.heap.size, 0, none⟩) 1 1) (h1 : u.oneCell' = true)
    (hn : n ≤ 1000000000) (hb : bytes ≤ 64) (hbase : base ≤ w.heap.size)
    (h : ∀ A' c' w', w'.ownsRow base e 1 (.slice A' (n + 1) c') (n + 1) (xs ++ [u]) → w.grownBy w' (A.map (·.block)) → wpList P ops Q rest (a.put o.dst (.slice A' (n + 1) c')) w') :
    wpList P ops Q (o :: rest) a (w.alloc (.cells #[u] e)) := by
  have hc : ∀ j u', [u][j]? = some u' → (w.alloc (.cells #[u] e)).cell? ((⟨w.heap.size, 0, none⟩ : Addr).add j) = some u' := by
    intro j u' hj
    match j, hj with
    | 0, hj =>
      simp at hj; subst hj
      simp [Addr.add]
  have hm : (n + 1) * bytes ≤ 140737488355328 := Nat.le_trans (Nat.mul_le_mul_left _ hb) (by omega)
  refine wpList_plain hgd fun K hK => ?_
  obtain ⟨v', w', hr, h2, h3, h4⟩ := run_append_own (P := P) (w.alloc (.cells #[u] e)) base t o.type e i z 1 bytes ht hi hz hsize hby hzs (by omega) _ n xs (hown.alloc _)
    ⟨w.heap.size, 0, none⟩ 1 1 [u] rfl hc (by intro u' hu; simp at hu; subst hu; exact h1) (by unfold maxLen; omega) hm (by simp; omega)
  unfold Oper.wp execOp
  simp only [ho, resolve, invoke, builtin, Sem.run_bind, Sem.run_pure, Result.andThen_ok, List.map_toArray, List.map_cons, List.map_nil, hs, hx, hr]
  have hob : (Value.slice A n c).ownBlock = A.map (·.block) := by cases A <;> rfl
  rw [hob] at h3
  have hgrow : w.grownBy w' (A.map (·.block)) := ⟨h3.os, h3.tape, h3.output, by have := h3.size; simp at this; omega, fun k hk hne => by
    rw [h3.block k (by simp; omega) hne]; exact Below.heap_alloc _ _ _ hk⟩
  obtain ⟨A', c', rfl⟩ := own_form h2
  exact hK _ _ (h A' c' w' h2 hgrow)

theorem own_ge {w : World} {base : Nat} {e : TypeId} {size : Nat} {A : Option Addr} {n c : Nat} {xs : List Value} (h : w.ownsRow base e size (.slice A n c) n xs) : ∀ k, A.map (·.block) = some k → base ≤ k ∧ k < w.heap.size := by
  intro k hk
  refine h.lt k ?_
  cases A with
  | none => simp at hk
  | some a => simpa [Value.ownBlock] using hk
/-- Below, behind an append to an owned row. -/
theorem below_app {B base : Nat} {w0 w w' : World} {e : TypeId} {size : Nat} {A : Option Addr} {n c : Nat} {xs : List Value} (hb : Below B w0 w) (h : w.ownsRow base e size (.slice A n c) n xs) (hB : B ≤ base) (hs : B ≤ w.heap.size)
    (hg : w.grownBy w' (A.map (·.block))) : Below B w0 w' := hb.grown hg hs (fun k hk => by have := (own_ge h k hk).1; omega)

/-- One step of a range over a string of ASCII characters, its iterator in block b. -/
theorem next_ascii {P : Program} (wr : World) (b : Nat) (s : ByteArray) (f : Nat → Int) (hf : ∀ n (h : n < s.size), ((s[n]'h).toNat : Int) = f n) (k : Nat) (hk : k < s.size) (ha : f k < 128) (hb : wr.heap[b]? = some (.stringIter s k)) :
    ∃ W1, (∀ ty, (Instr.next (.pointer (some ⟨b, 0, none⟩)) true ty).run P wr = .ok (.tuple #[.bool true, .int .i64 k, .int .i32 (f k)]) W1) ∧ W1.heap[b]? = some (.stringIter s (k + 1)) ∧ W1.heap.size = wr.heap.size ∧ wr.grownBy W1 (some b) := by
  have e := hf k hk
  refine ⟨wr.iterAt b s (k + 1), fun ty => ?_, Lib.iterAt_heap _ _ _ _ _ hb, Lib.iterAt_size _ _ _ _, ⟨rfl, rfl, rfl, by rw [Lib.iterAt_size]; exact Nat.le_refl _, fun j _ hne => Lib.iterAt_other _ _ _ _ _ (fun e => hne (by rw [e]))⟩⟩
  rw [Lib.run_next_ascii_at wr b s k ty hb hk (by omega), e]

theorem own_kept {w w' : World} {base : Nat} {e : TypeId} {size n c : Nat} {A : Option Addr} {xs : List Value} (h : w.ownsRow base e size (.slice A n c) n xs) {b : Nat} (hg : w.grownBy w' (some b)) (hb : b < base) :
    w'.ownsRow base e size (.slice A n c) n xs := h.kept hg (by
  rcases hv : (Value.slice A n c).ownBlock with _ | g
  · exact .inl rfl
  · right; intro e
    have := (h.lt g hv).1
    injection e with e; omega)

/-- A block ahead of the owned ones, behind an append. -/
theorem blk_app {w w' : World} {base : Nat} {e : TypeId} {size n c : Nat} {A : Option Addr} {xs : List Value} (h : w.ownsRow base e size (.slice A n c) n xs) (hg : w.grownBy w' (A.map (·.block))) {b : Nat} {o : Obj} (hb : b < base) (ho : w.heap[b]? = some o) :
    w'.heap[b]? = some o := (hg.block b ((Array.getElem?_eq_some_iff.1 ho).1) (fun e => by have := (own_ge h b e.symm).1; omega)).trans ho

theorem toNat_of (x : Int) (h0 : 0 ≤ x) (h1 : x ≤ 255) : ((UInt8.ofNat x.toNat).toNat : Int) = x := by
  rw [UInt8.toNat_ofNat']; omega

/-- 'string(b)' of an owned row of bytes, nil or not. -/
theorem conv_own {P : Program} (w : World) (src dst e : TypeId) (base : Nat) (v : Value) (xs : List Int) (hs : P.underlying src = some (.slice e)) (he : P.underlying e = some (.int .u8)) (hd : P.underlying dst = some .string)
    (h : w.ownsRow base e 1 v xs.length (xs.map (Value.int .u8))) (hx : ∀ x ∈ xs, 0 ≤ x ∧ x ≤ 255) : (convert src dst v).run P w = .ok (.string (strOf xs)) w := by
  rcases h.2 with ⟨rfl, h0⟩ | ⟨g, cap, cur, rfl, _⟩
  · have : xs = [] := List.eq_nil_of_length_eq_zero h0
    subst this
    rw [run_convert_bytes_string w src dst e none 0 0 hs he hd]
    rfl
  · have hc := h.cells (g := g) rfl
    have hr := run_convert_bytes_back (P := P) w src dst e ⟨g, 0, none⟩ cap (bytesOf xs) hs he hd (fun j hj => by
      have hj' : j < xs.length := by simpa [bytesOf] using hj
      have := hc j (.int .u8 xs[j]) (by simp [List.getElem?_eq_getElem hj'])
      rw [this]
      obtain ⟨h0, h1⟩ := hx xs[j] (List.getElem_mem hj')
      simp only [bytesOf, List.getElem_map, toNat_of _ h0 h1])
    rw [bytesOf_length] at hr
    exact hr

/-- 'string(r)' of an owned row of runes that are all ASCII. -/
theorem encode_ascii (x : Int) (h0 : 0 ≤ x) (h1 : x ≤ 127) : Utf8.encode x = ⟨#[UInt8.ofNat x.toNat]⟩ := by
  have hv : Utf8.valid x = true := by unfold Utf8.valid; simp; omega
  unfold Utf8.encode
  simp only [hv, if_true]
  rw [if_pos (by omega)]
theorem runes_ascii : ∀ (xs : List Int) (r : ByteArray), (∀ x ∈ xs, 0 ≤ x ∧ x ≤ 127) → xs.foldl (fun r n => r ++ Utf8.encode n) r = ⟨r.data ++ (bytesOf xs).toArray⟩
  | [], r, _ => by simp [bytesOf]
  | x :: xs, r, h => by
    obtain ⟨h0, h1⟩ := h x (by simp)
    rw [List.foldl_cons, runes_ascii xs _ (fun y hy => h y (by simp [hy])), encode_ascii x h0 h1]
    simp [bytesOf]

theorem conv_runes {P : Program} (w : World) (src dst e : TypeId) (base : Nat) (v : Value) (xs : List Int) (hs : P.underlying src = some (.slice e)) (he : P.underlying e = some (.int .i32)) (hd : P.underlying dst = some .string)
    (h : w.ownsRow base e 1 v xs.length (xs.map (Value.int .i32))) (hx : ∀ x ∈ xs, 0 ≤ x ∧ x ≤ 127) : (convert src dst v).run P w = .ok (.string (strOf xs)) w := by
  have hb : runesBytes xs = strOf xs := by
    unfold runesBytes strOf
    rw [runes_ascii xs _ hx]
    have he0 : ByteArray.empty.data = #[] := rfl
    rw [he0]
    simp
  rcases h.2 with ⟨rfl, h0⟩ | ⟨g, cap, cur, rfl, _⟩
  · have : xs = [] := List.eq_nil_of_length_eq_zero h0
    subst this
    rw [run_convert_runes_nil w src dst e 0 0 hs he hd]
    rfl
  · have hc := h.cells (g := g) rfl
    rw [run_convert_runes (P := P) w src dst e ⟨g, 0, none⟩ xs.length cap xs (Nat.le_refl _) hs he hd (fun j hj => by
      rw [hc j (.int .i32 (xs.getD j 0)) (by simp [List.getElem?_eq_getElem hj, List.getD])]), List.take_length, hb]

/-- '[]byte(s)': a new block of the string's bytes, none of them frozen. -/
theorem bytes_of {P : Program} (w : World) (src dst e : TypeId) (s : ByteArray) (f : Nat → Int) (hf : ∀ n (h : n < s.size), ((s[n]'h).toNat : Int) = f n) (hs : P.underlying src = some .string) (hd : P.underlying dst = some (.slice e)) (he : P.underlying e = some (.int .u8)) :
    ∃ cap W1, (convert src dst (.string s)).run P w = .ok (.slice (some ⟨w.heap.size, 0, none⟩) s.size cap) W1 ∧ s.size ≤ cap ∧ (∀ j, j < s.size → W1.cell? ⟨w.heap.size, j, none⟩ = some (.int .u8 (f j))) ∧
      (∀ j, j < s.size → W1.frozen? ⟨w.heap.size, j, none⟩ = false) ∧ Below w.heap.size w W1 ∧ W1.heap.size = w.heap.size + 1 := by
  have hcap := grownCap_ge w s.size 0 e
  have hsz : s.size ≤ (bytesRow s (grownCap w s.size 0 e)).size := by
    unfold bytesRow; rw [Array.size_append, Array.size_map]; exact Nat.le_add_right _ _
  refine ⟨_, _, run_bytes_of_string w src dst e s hs hd he, hcap, fun j hj => ?_, fun j hj => ?_, (Below.refl _ _).drew.alloc (Nat.le_refl _) _, by simp⟩
  · have := World.cell?_alloc_mark w.drew (bytesRow s (grownCap w s.size 0 e)) e ((bytesRow s (grownCap w s.size 0 e)).size, (bytesRow s (grownCap w s.size 0 e)).size + 1) j
    show (w.drew.alloc _).cell? ⟨w.drew.heap.size, j, none⟩ = _
    rw [this, bytesRow_at s _ j (by simpa using hj)]
    have e1 := hf j hj
    rw [← e1]; rfl
  · show (w.drew.alloc _).frozen? ⟨w.drew.heap.size, j, none⟩ = _
    rw [World.frozen?_alloc_mark]
    simp; omega

end Go.Proofs.YtghmbpogniopoaaDoor
