/-
  The parts of a selector: 'x[:c]' and 'x[c:]' of the three lists, their views, and the calls' contracts in the form that the law's walk takes.
-/
import Derived.Test.Qxb6623441aMtZZ
import Derived.Test.Qxb6623441aMtJoin
namespace Go.Proofs.Qxb6623441a.Mt
open Go.ChangeShapes Go.WideShapes Go.ChangeAt Go.RowKit

/-- where 'x[c:]' begins. -/
def backA (a : Option Addr) (c cap : Nat) : Option Addr := if cap = c then a else a.map (·.add c)

theorem add_zero (a : Addr) : a.add 0 = a := by cases a; rfl

theorem run_front (t e : TypeId) (ht : Try.prog.underlying t = some (.slice e)) (hz : ∀ w, (Go.sizeOf e).run Try.prog w = .ok 1 w) (a : Option Addr) (n cap c : Nat) (hc : c ≤ n) (hn : n ≤ cap) (W : World) :
    (Instr.slice t (.slice a n cap) none (some (.int .i64 (c : Int))) none).run Try.prog W = .ok (.slice a c cap) W := by
  have ht' : Try.prog.underlying t = some (.slice (Try.prog.elem t)) := by simp [Program.elem, ht]
  have he : Try.prog.elem t = e := by simp [Program.elem, ht]
  rw [run_slice_h W t _ _ _ ht' .i64 _ (by omega) (by omega), he, hz]
  have e1 : (fun x : Addr => x.add (0 * 1)) = id := funext fun x => by rw [Nat.zero_mul]; exact add_zero x
  have e2 : (a.map fun x : Addr => x.add (0 * 1)) = a := by rw [e1]; exact Option.map_id_apply
  simp only [Result.andThen, sliced, e2, ite_self, Int.toNat_natCast, Nat.sub_zero]

theorem run_back (t e : TypeId) (ht : Try.prog.underlying t = some (.slice e)) (hz : ∀ w, (Go.sizeOf e).run Try.prog w = .ok 1 w) (a : Option Addr) (n cap c m : Nat) (hc : n = c + m) (W : World) :
    (Instr.slice t (.slice a n cap) (some (.int .i64 (c : Int))) none none).run Try.prog W = .ok (.slice (backA a c cap) m (cap - c)) W := by
  have ht' : Try.prog.underlying t = some (.slice (Try.prog.elem t)) := by simp [Program.elem, ht]
  have he : Try.prog.elem t = e := by simp [Program.elem, ht]
  rw [run_slice_l W t _ _ _ ht' .i64 _ (by omega) (by omega), he, hz]
  have e1 : n - c = m := by omega
  simp only [Result.andThen, sliced, Int.toNat_natCast, Nat.mul_one, e1, backA]

theorem size9 (w : World) : (Go.sizeOf 9).run Try.prog w = .ok 1 w := by rfl
theorem size22 (w : World) : (Go.sizeOf 22).run Try.prog w = .ok 1 w := by rfl

theorem Strs.front {B : Nat} {w : World} {a : Option Addr} {n c : Nat} {L : List ByteArray} (h : Strs B w a n L) (hc : c ≤ n) : Strs B w a c (L.take c) := by
  have hl := h.hlen
  refine ⟨by rw [List.length_take]; omega, fun h0 => ?_, fun s hs => h.sizes s (List.mem_of_mem_take hs), Nat.le_trans hc h.few⟩
  obtain ⟨b, off, e, hb, hcell⟩ := h.cells (by omega)
  refine ⟨b, off, e, hb, fun j hj => ?_⟩
  rw [List.getElem_take]
  exact hcell j (by rw [List.length_take] at hj; omega)
theorem Strs.back {B : Nat} {w : World} {a : Option Addr} {n c m cap : Nat} {L : List ByteArray} (h : Strs B w a n L) (hc : n = c + m) (hn : n ≤ cap) : Strs B w (backA a c cap) m (L.drop c) := by
  have hl := h.hlen
  refine ⟨by rw [List.length_drop]; omega, fun h0 => ?_, fun s hs => h.sizes s (List.mem_of_mem_drop hs), Nat.le_trans (by omega) h.few⟩
  obtain ⟨b, off, e, hb, hcell⟩ := h.cells (by omega)
  refine ⟨b, off + c, ?_, hb, fun j hj => ?_⟩
  · rw [backA, if_neg (by omega), e]; simp [Addr.add]
  · rw [List.getElem_drop, Nat.add_assoc]
    exact hcell (c + j) (by rw [List.length_drop] at hj; omega)
theorem VS.front {B : Nat} {w : World} {a : Option Addr} {n c : Nat} {L : List (List ByteArray)} (h : VS B w a n L) (hc : c ≤ n) : VS B w a c (L.take c) := by
  have hl := h.hlen
  refine ⟨by rw [List.length_take]; omega, fun h0 => ?_, Nat.le_trans hc h.few⟩
  obtain ⟨b, off, e, hb, hcell⟩ := h.cells (by omega)
  refine ⟨b, off, e, hb, fun j hj => ?_⟩
  rw [List.getElem_take]
  exact hcell j (by rw [List.length_take] at hj; omega)
theorem VS.back {B : Nat} {w : World} {a : Option Addr} {n c m cap : Nat} {L : List (List ByteArray)} (h : VS B w a n L) (hc : n = c + m) (hn : n ≤ cap) : VS B w (backA a c cap) m (L.drop c) := by
  have hl := h.hlen
  refine ⟨by rw [List.length_drop]; omega, fun h0 => ?_, Nat.le_trans (by omega) h.few⟩
  obtain ⟨b, off, e, hb, hcell⟩ := h.cells (by omega)
  refine ⟨b, off + c, ?_, hb, fun j hj => ?_⟩
  · rw [backA, if_neg (by omega), e]; simp [Addr.add]
  · rw [List.getElem_drop, Nat.add_assoc]
    exact hcell (c + j) (by rw [List.length_drop] at hj; omega)

/-- three lists as one selector. -/
structure Tri (w : World) (ka oa va : Option Addr) (n : Nat) (R : List Req) : Prop where
  k : Strs w.heap.size w ka n (R.map Req.key)
  o : Strs w.heap.size w oa n (R.map Req.op)
  v : VS w.heap.size w va n (R.map Req.vals)
theorem Tri.keep {w w' : World} {ka oa va : Option Addr} {n : Nat} {R : List Req} (h : Tri w ka oa va n R) (hb : Below w.heap.size w w') : Tri w' ka oa va n R :=
  ⟨(h.k.keep hb (Nat.le_refl _)).wider hb.size, (h.o.keep hb (Nat.le_refl _)).wider hb.size, (h.v.keep hb (Nat.le_refl _)).wider hb.size⟩
theorem Tri.nil (w : World) : Tri w none none none 0 [] := ⟨Strs.nil _ _, Strs.nil _ _, VS.nil _ _⟩
theorem Tri.front {w : World} {ka oa va : Option Addr} {n c : Nat} {R : List Req} (h : Tri w ka oa va n R) (hc : c ≤ n) : Tri w ka oa va c (R.take c) := by
  refine ⟨?_, ?_, ?_⟩ <;> rw [List.map_take]
  · exact h.k.front hc
  · exact h.o.front hc
  · exact h.v.front hc
theorem Tri.back {w : World} {ka oa va : Option Addr} {n c m kc oc vc : Nat} {R : List Req} (h : Tri w ka oa va n R) (hc : n = c + m) (hk : n ≤ kc) (ho : n ≤ oc) (hv : n ≤ vc) : Tri w (backA ka c kc) (backA oa c oc) (backA va c vc) m (R.drop c) := by
  refine ⟨?_, ?_, ?_⟩ <;> rw [List.map_drop]
  · exact h.k.back hc hk
  · exact h.o.back hc ho
  · exact h.v.back hc hv

def mkReq : List ByteArray → List ByteArray → List (List ByteArray) → List Req
  | k :: K, o :: O, v :: V => ⟨k, o, v⟩ :: mkReq K O V
  | _, _, _ => []
theorem mkReq_maps : ∀ (K O : List ByteArray) (V : List (List ByteArray)), O.length = K.length → V.length = K.length → (mkReq K O V).map Req.key = K ∧ (mkReq K O V).map Req.op = O ∧ (mkReq K O V).map Req.vals = V
  | [], O, V, h1, h2 => by
    obtain rfl := List.length_eq_zero_iff.1 h1
    obtain rfl := List.length_eq_zero_iff.1 h2
    exact ⟨rfl, rfl, rfl⟩
  | k :: K, [], V, h1, _ => by simp at h1
  | k :: K, o :: O, [], _, h2 => by simp at h2
  | k :: K, o :: O, v :: V, h1, h2 => by
    obtain ⟨a, b, c⟩ := mkReq_maps K O V (by simpa using h1) (by simpa using h2)
    simp only [mkReq, List.map_cons, a, b, c]
    exact ⟨trivial, trivial, trivial⟩
theorem tri_of {w : World} {ka oa va : Option Addr} {n : Nat} {K O : List ByteArray} {V : List (List ByteArray)} (hK : Strs w.heap.size w ka n K) (hO : Strs w.heap.size w oa n O) (hV : VS w.heap.size w va n V) : ∃ R, Tri w ka oa va n R := by
  have hk := hK.hlen
  have ho := hO.hlen
  have hv := hV.hlen
  obtain ⟨a, b, c⟩ := mkReq_maps K O V (by omega) (by omega)
  exact ⟨mkReq K O V, by rw [a]; exact hK, by rw [b]; exact hO, by rw [c]; exact hV⟩

theorem matchB_append (lk : ByteArray → ByteArray × Bool) (A B : List Req) : matchB lk (A ++ B) = (matchB lk A && matchB lk B) := by simp [matchB, List.all_append]
theorem matchB_cut (lk : ByteArray → ByteArray × Bool) (R : List Req) (c : Nat) : matchB lk R = (matchB lk (R.take c) && matchB lk (R.drop c)) := by
  rw [← matchB_append, List.take_append_drop]

def ZPost (w : World) (r : Bool) (e : Ending) (w' : World) : Prop := e = .returned (.bool r) ∧ Below w.heap.size w w'
theorem zz_tri (ka oa va : Option Addr) (n kc oc vc : Nat) (R : List Req) (mv : Value) (lk : ByteArray → ByteArray × Bool) (r : Bool) (hr : matchB lk R = r) (w : World) (h : Tri w ka oa va n R) (hn : n ≤ 4194304) (hlk : Lab w mv lk) :
    Calls Try.prog 5 #[.slice ka n kc, .slice oa n oc, .slice va n vc, mv] w fun e w' => ZPost w r e w' := by
  have := zz_any ka oa va n kc oc vc R mv lk w h.k h.o h.v hn hlk
  rw [hr] at this
  exact this

def JS (w : World) (m : Nat) (L : List ByteArray) (e : Ending) (w' : World) : Prop := ∃ x, e = .returned (.slice x m m) ∧ Strs w'.heap.size w' x m L ∧ Below w.heap.size w w'
def JV (w : World) (m : Nat) (L : List (List ByteArray)) (e : Ending) (w' : World) : Prop := ∃ x, e = .returned (.slice x m m) ∧ VS w'.heap.size w' x m L ∧ Below w.heap.size w w'
theorem join_js (a0 a1 : Option Addr) (n0 c0 n1 c1 : Nat) (A B : List ByteArray) (w : World) (h0 : Strs w.heap.size w a0 n0 A) (h1 : Strs w.heap.size w a1 n1 B) (hn0 : n0 ≤ 1048576) (hn1 : n1 ≤ 1048576) :
    Calls Try.prog 6 #[.slice a0 n0 c0, .slice a1 n1 c1] w fun e w' => JS w (n0 + n1) (A ++ B) e w' :=
  (join_any a0 a1 n0 c0 n1 c1 A B w h0 h1 hn0 hn1).mono fun _ _ h => ⟨_, h⟩
theorem join_jv (a0 a1 : Option Addr) (n0 c0 n1 c1 : Nat) (A B : List (List ByteArray)) (w : World) (h0 : VS w.heap.size w a0 n0 A) (h1 : VS w.heap.size w a1 n1 B) (hn0 : n0 ≤ 1048576) (hn1 : n1 ≤ 1048576) :
    Calls Try.prog 7 #[.slice a0 n0 c0, .slice a1 n1 c1] w fun e w' => JV w (n0 + n1) (A ++ B) e w' :=
  (joinV_any a0 a1 n0 c0 n1 c1 A B w h0 h1 hn0 hn1).mono fun _ _ h => ⟨_, h⟩

/-- what the law's walk keeps: the selector, its two parts, the labels, and that nothing of the caller's is written. -/
structure Bag (w0 w : World) (ka oa va xk xo xv : Option Addr) (n c m : Nat) (R : List Req) (mv : Value) (lk : ByteArray → ByteArray × Bool) : Prop where
  all : Tri w ka oa va n R
  fr : Tri w ka oa va c (R.take c)
  ba : Tri w xk xo xv m (R.drop c)
  lab : Lab w mv lk
  bel : Below w0.heap.size w0 w
theorem Bag.keep {w0 w w' : World} {ka oa va xk xo xv : Option Addr} {n c m : Nat} {R : List Req} {mv : Value} {lk : ByteArray → ByteArray × Bool} (h : Bag w0 w ka oa va xk xo xv n c m R mv lk) (hb : Below w.heap.size w w') : Bag w0 w' ka oa va xk xo xv n c m R mv lk :=
  ⟨h.all.keep hb, h.fr.keep hb, h.ba.keep hb, h.lab.keep hb, h.bel.trans (hb.mono h.bel.size)⟩
theorem Bag.drew {w0 w : World} {ka oa va xk xo xv : Option Addr} {n c m : Nat} {R : List Req} {mv : Value} {lk : ByteArray → ByteArray × Bool} (h : Bag w0 w ka oa va xk xo xv n c m R mv lk) : Bag w0 w.drew ka oa va xk xo xv n c m R mv lk :=
  h.keep (Below.refl _ _).drew
theorem Bag.start {w : World} {ka oa va : Option Addr} {n c m kc oc vc : Nat} {R : List Req} {mv : Value} {lk : ByteArray → ByteArray × Bool} (h : Tri w ka oa va n R) (hl : Lab w mv lk) (hc : n = c + m) (hk : n ≤ kc) (ho : n ≤ oc) (hv : n ≤ vc) :
    Bag w w ka oa va (backA ka c kc) (backA oa c oc) (backA va c vc) n c m R mv lk :=
  ⟨h, h.front (by omega), h.back hc hk ho hv, hl, Below.refl _ _⟩
end Go.Proofs.Qxb6623441a.Mt
