import PyProof.Rows.All
import Wide.All
import OpenK.AllK
import Wide.FinOn
import PySem.Challenge.RW_pe0225_01
set_option Elab.async false
set_option linter.unusedVariables false
set_option linter.unusedSimpArgs false
set_option rowWalk.seconds 0
set_option compiler.extract_closed false
section
open PySem PySem.W PyProof.Rows
namespace Mine
noncomputable abbrev tb0 : Obj := { cls := .none, data := .fields #[] }
/-- the written part, and empty code tables at ts -/
noncomputable def tHook (K : Params → Frag) (as : List Addr) (e : ∀ P, as = (K P).map (·.1)) (ts : List Addr) : Hook where
  α := (kHook K as e).α × List (Option Obj)
  obs := fun s => ((kHook K as e).obs s, ts.map s.heap.get?)
  val := fun w => ((kHook K as e).val w, ts.map fun _ => some tb0)
  says := fun w h => (kHook K as e).says w h ∧ ∀ P ∈ ts, h.get? P = some tb0
  of := fun w s x => ⟨(kHook K as e).of w s (congrArg Prod.fst x), fun P hP => List.map_inj_left.mp (congrArg Prod.snd x) P hP⟩
  keeps := fun w h h' x k => ⟨(kHook K as e).keeps w h h' x.1 k, fun P hP => k _ _ (x.2 P hP)⟩
local macro_rules | `(tactic| o_head ($_ $k $a $e)) => `(tactic| o_head (Mine.tHook $k $a $e [190, 197]))
set_option maxRecDepth 100000 in
theorem said0 : PySem.Challenge.rw_pe0225_01.wellSaid = true := by kernel_rfl
local macro_rules | `(tactic| o_law) => `(tactic| refine holds_law Mine.said0 fun said => ?_)
set_option maxRecDepth 100000 in
set_option maxHeartbeats 8000000 in
open_top hd for PySem.Challenge.rw_pe0225_01
end Mine
end
local macro_rules | `(tactic| omega) => `(tactic| first | lia | omega +splitNatSub)
section
open PySem PySem.Calls PySem.W PyProof.Rows
namespace Mine
inductive Ex4 {α0 α1 α2 α3 : Type} (p : α0 → α1 → α2 → α3 → Prop) : Prop | mk (x0 : α0) (x1 : α1) (x2 : α2) (x3 : α3) (h : p x0 x1 x2 x3) : Ex4 p
inductive Ex5 {α0 α1 α2 α3 α4 : Type} (p : α0 → α1 → α2 → α3 → α4 → Prop) : Prop | mk (x0 : α0) (x1 : α1) (x2 : α2) (x3 : α3) (x4 : α4) (h : p x0 x1 x2 x3 x4) : Ex5 p
inductive Ex6 {α0 α1 α2 α3 α4 α5 : Type} (p : α0 → α1 → α2 → α3 → α4 → α5 → Prop) : Prop | mk (x0 : α0) (x1 : α1) (x2 : α2) (x3 : α3) (x4 : α4) (x5 : α5) (h : p x0 x1 x2 x3 x4 x5) : Ex6 p
inductive Ex7 {α0 α1 α2 α3 α4 α5 α6 : Type} (p : α0 → α1 → α2 → α3 → α4 → α5 → α6 → Prop) : Prop | mk (x0 : α0) (x1 : α1) (x2 : α2) (x3 : α3) (x4 : α4) (x5 : α5) (x6 : α6) (h : p x0 x1 x2 x3 x4 x5 x6) : Ex7 p
inductive Ex8 {α0 α1 α2 α3 α4 α5 α6 α7 : Type} (p : α0 → α1 → α2 → α3 → α4 → α5 → α6 → α7 → Prop) : Prop | mk (x0 : α0) (x1 : α1) (x2 : α2) (x3 : α3) (x4 : α4) (x5 : α5) (x6 : α6) (x7 : α7) (h : p x0 x1 x2 x3 x4 x5 x6 x7) : Ex8 p
inductive Ex9 {α0 α1 α2 α3 α4 α5 α6 α7 α8 : Type} (p : α0 → α1 → α2 → α3 → α4 → α5 → α6 → α7 → α8 → Prop) : Prop | mk (x0 : α0) (x1 : α1) (x2 : α2) (x3 : α3) (x4 : α4) (x5 : α5) (x6 : α6) (x7 : α7) (x8 : α8) (h : p x0 x1 x2 x3 x4 x5 x6 x7 x8) : Ex9 p
inductive Ex10 {α0 α1 α2 α3 α4 α5 α6 α7 α8 α9 : Type} (p : α0 → α1 → α2 → α3 → α4 → α5 → α6 → α7 → α8 → α9 → Prop) : Prop | mk (x0 : α0) (x1 : α1) (x2 : α2) (x3 : α3) (x4 : α4) (x5 : α5) (x6 : α6) (x7 : α7) (x8 : α8) (x9 : α9) (h : p x0 x1 x2 x3 x4 x5 x6 x7 x8 x9) : Ex10 p
inductive Ex11 {α0 α1 α2 α3 α4 α5 α6 α7 α8 α9 α10 : Type} (p : α0 → α1 → α2 → α3 → α4 → α5 → α6 → α7 → α8 → α9 → α10 → Prop) : Prop | mk (x0 : α0) (x1 : α1) (x2 : α2) (x3 : α3) (x4 : α4) (x5 : α5) (x6 : α6) (x7 : α7) (x8 : α8) (x9 : α9) (x10 : α10) (h : p x0 x1 x2 x3 x4 x5 x6 x7 x8 x9 x10) : Ex11 p
inductive Ex13 {α0 α1 α2 α3 α4 α5 α6 α7 α8 α9 α10 α11 α12 : Type} (p : α0 → α1 → α2 → α3 → α4 → α5 → α6 → α7 → α8 → α9 → α10 → α11 → α12 → Prop) : Prop | mk (x0 : α0) (x1 : α1) (x2 : α2) (x3 : α3) (x4 : α4) (x5 : α5) (x6 : α6) (x7 : α7) (x8 : α8) (x9 : α9) (x10 : α10) (x11 : α11) (x12 : α12) (h : p x0 x1 x2 x3 x4 x5 x6 x7 x8 x9 x10 x11 x12) : Ex13 p
inductive Ex14 {α0 α1 α2 α3 α4 α5 α6 α7 α8 α9 α10 α11 α12 α13 : Type} (p : α0 → α1 → α2 → α3 → α4 → α5 → α6 → α7 → α8 → α9 → α10 → α11 → α12 → α13 → Prop) : Prop | mk (x0 : α0) (x1 : α1) (x2 : α2) (x3 : α3) (x4 : α4) (x5 : α5) (x6 : α6) (x7 : α7) (x8 : α8) (x9 : α9) (x10 : α10) (x11 : α11) (x12 : α12) (x13 : α13) (h : p x0 x1 x2 x3 x4 x5 x6 x7 x8 x9 x10 x11 x12 x13) : Ex14 p
inductive Ex15 {α0 α1 α2 α3 α4 α5 α6 α7 α8 α9 α10 α11 α12 α13 α14 : Type} (p : α0 → α1 → α2 → α3 → α4 → α5 → α6 → α7 → α8 → α9 → α10 → α11 → α12 → α13 → α14 → Prop) : Prop | mk (x0 : α0) (x1 : α1) (x2 : α2) (x3 : α3) (x4 : α4) (x5 : α5) (x6 : α6) (x7 : α7) (x8 : α8) (x9 : α9) (x10 : α10) (x11 : α11) (x12 : α12) (x13 : α13) (x14 : α14) (h : p x0 x1 x2 x3 x4 x5 x6 x7 x8 x9 x10 x11 x12 x13 x14) : Ex15 p
inductive Ex16 {α0 α1 α2 α3 α4 α5 α6 α7 α8 α9 α10 α11 α12 α13 α14 α15 : Type} (p : α0 → α1 → α2 → α3 → α4 → α5 → α6 → α7 → α8 → α9 → α10 → α11 → α12 → α13 → α14 → α15 → Prop) : Prop | mk (x0 : α0) (x1 : α1) (x2 : α2) (x3 : α3) (x4 : α4) (x5 : α5) (x6 : α6) (x7 : α7) (x8 : α8) (x9 : α9) (x10 : α10) (x11 : α11) (x12 : α12) (x13 : α13) (x14 : α14) (x15 : α15) (h : p x0 x1 x2 x3 x4 x5 x6 x7 x8 x9 x10 x11 x12 x13 x14 x15) : Ex16 p
inductive Am2 (p0 p1 : Prop) : Prop | mk (h0 : p0) (h1 : p1) : Am2 p0 p1
inductive Am3 (p0 p1 p2 : Prop) : Prop | mk (h0 : p0) (h1 : p1) (h2 : p2) : Am3 p0 p1 p2
inductive Am4 (p0 p1 p2 p3 : Prop) : Prop | mk (h0 : p0) (h1 : p1) (h2 : p2) (h3 : p3) : Am4 p0 p1 p2 p3
inductive Am5 (p0 p1 p2 p3 p4 : Prop) : Prop | mk (h0 : p0) (h1 : p1) (h2 : p2) (h3 : p3) (h4 : p4) : Am5 p0 p1 p2 p3 p4
inductive Am6 (p0 p1 p2 p3 p4 p5 : Prop) : Prop | mk (h0 : p0) (h1 : p1) (h2 : p2) (h3 : p3) (h4 : p4) (h5 : p5) : Am6 p0 p1 p2 p3 p4 p5
inductive Am7 (p0 p1 p2 p3 p4 p5 p6 : Prop) : Prop | mk (h0 : p0) (h1 : p1) (h2 : p2) (h3 : p3) (h4 : p4) (h5 : p5) (h6 : p6) : Am7 p0 p1 p2 p3 p4 p5 p6
inductive Am14 (p0 p1 p2 p3 p4 p5 p6 p7 p8 p9 p10 p11 p12 p13 : Prop) : Prop | mk (h0 : p0) (h1 : p1) (h2 : p2) (h3 : p3) (h4 : p4) (h5 : p5) (h6 : p6) (h7 : p7) (h8 : p8) (h9 : p9) (h10 : p10) (h11 : p11) (h12 : p12) (h13 : p13) : Am14 p0 p1 p2 p3 p4 p5 p6 p7 p8 p9 p10 p11 p12 p13
theorem hold {P : Prop} (h : P) : P := h
theorem dec_lt {n k : Nat} (h : k < n) : n - (k + 1) < n - k := Nat.sub_lt_sub_left h (Nat.lt_succ_self k)
theorem ar3 {a b c s l f r : Nat} (h1 : a ≤ b + f + 2 * r) (h2 : b ≤ c + l) (h3 : c ≤ s + 2) : a ≤ s + (l + f) + 2 * (r + 1) := by omega
theorem ar4 {a b c s l f : Nat} (h1 : a ≤ b + f) (h2 : b ≤ c + l) (h3 : c = s) : a ≤ s + (l + f) := by omega
theorem ar6 {a b c f r p : Nat} (h2 : a ≤ b + f + r) (h1 : b ≤ c + (p + 1)) : a ≤ c + (p + f) + (r + 1) := by omega
theorem ar7 {a b c r : Nat} (h : a ≤ b + r) (h1 : b ≤ c + 1) : a ≤ c + (r + 1) := by omega
theorem ar8 {a b c r : Nat} (h : a = b + r) (h1 : b = c + 1) : a = c + (r + 1) := by omega
theorem ar10 {a m s n : Nat} (h1 : a ≤ m) (h2 : m ≤ s) : a + n + (s - m) ≤ s + n := by
  have := Nat.sub_add_cancel h2
  generalize s - m = q at *
  omega
theorem ar9 {n y b x : Nat} (h : n = y + b) : n - x - y = b - x := by rw [h, Nat.sub_right_comm, Nat.add_sub_cancel_left]
theorem mx (a b : Nat) : (max (a : Int) (b : Int)).toNat = max a b := by
  rcases Nat.le_total a b with h | h
  · rw [Int.max_eq_right (Int.ofNat_le.mpr h), Nat.max_eq_right h]; rfl
  · rw [Int.max_eq_left (Int.ofNat_le.mpr h), Nat.max_eq_left h]; rfl
inductive Cell where
  | obj (o : Obj)
  | ns (names : List Str) (vals : List (Option Value))
  | any (P : Obj → Prop)
noncomputable def lz : List Str → List (Option Value) → Str → Option Value
  | n :: ns, v :: vs, x => if x = n then v else lz ns vs x
  | _, _, _ => none
theorem lz_get : ∀ {ns : List Str} {vs : List (Option Value)} {j : Nat} {x : Str} {v : Option Value}, ns.Nodup → ns[j]? = some x → vs[j]? = some v → lz ns vs x = v
  | n :: ns, u :: vs, 0, x, v, _, e, f => by
    simp at e f; subst e; subst f; simp [lz]
  | n :: ns, u :: vs, j + 1, x, v, nd, e, f => by
    simp at e f
    have hm : x ∈ ns := List.mem_of_getElem? e
    have hne : x ≠ n := fun q => (List.nodup_cons.mp nd).1 (q ▸ hm)
    simp [lz, hne]
    exact lz_get (List.nodup_cons.mp nd).2 e f
  | [], _, _, _, _, _, e, _ => by simp at e
  | _ :: _, [], _, _, _, _, _, f => by simp at f
theorem lz_set : ∀ {ns : List Str} {vs : List (Option Value)} {j : Nat} {x : Str} {v : Value}, ns.Nodup → ns[j]? = some x → vs.length = ns.length →
    (fun y => if y = x then some v else lz ns vs y) = lz ns (vs.set j (some v))
  | n :: ns, u :: vs, 0, x, v, _, e, _ => by
    simp at e; subst e; funext y; simp [lz]; split <;> simp_all
  | n :: ns, u :: vs, j + 1, x, v, nd, e, l => by
    simp at e l
    have hm : x ∈ ns := List.mem_of_getElem? e
    have hne : x ≠ n := fun q => (List.nodup_cons.mp nd).1 (q ▸ hm)
    have ih := lz_set (v := v) (List.nodup_cons.mp nd).2 e l
    funext y
    simp only [List.set_cons_succ, lz]
    by_cases q : y = n
    · subst q; simp [Ne.symm hne]
    · simp only [q, if_false]; exact congrFun ih y
  | [], _, _, _, _, _, e, _ => by simp at e
  | _ :: _, [], _, _, _, _, _, l => by simp at l
noncomputable def Cell.At (h : Heap) (a : Addr) : Cell → Prop
  | .obj o => h.get? a = some o
  | Cell.ns names vals => names.Nodup ∧ vals.length = names.length ∧ h.Ns a (lz names vals)
  | .any P => ∃ o, h.get? a = some o ∧ P o
theorem Cell.At.ext {h h' : Heap} {a : Addr} {c : Cell} (x : c.At h a) (k : ∀ o, h.get? a = some o → h'.get? a = some o) : c.At h' a := by
  cases c with
  | obj o => exact k _ x
  | ns ns vs => exact ⟨x.1, x.2.1, x.2.2.at k⟩
  | any P => obtain ⟨o, e, p⟩ := x; exact ⟨o, k _ e, p⟩
theorem Cell.At.lt {h : Heap} {a : Addr} {c : Cell} (x : c.At h a) : a < h.objs.size := by
  cases c with
  | obj o => exact Heap.lt_size x
  | ns ns vs => exact x.2.2.lt
  | any P => obtain ⟨o, e, p⟩ := x; exact Heap.lt_size e
noncomputable abbrev Led := List (Addr × Cell)
inductive At {α : Type} : List α → Nat → α → Prop where
  | z {x : α} {l : List α} : At (x :: l) 0 x
  | s {x y : α} {l : List α} {n : Nat} : At l n x → At (y :: l) (n + 1) x
theorem At.n1 {α : Type} {x0 x : α} {l : List α} : At (x0 :: x :: l) 1 x := .s .z
theorem At.n2 {α : Type} {x0 x1 x : α} {l : List α} : At (x0 :: x1 :: x :: l) 2 x := .s .n1
theorem At.n3 {α : Type} {x0 x1 x2 x : α} {l : List α} : At (x0 :: x1 :: x2 :: x :: l) 3 x := .s .n2
theorem At.n4 {α : Type} {x0 x1 x2 x3 x : α} {l : List α} : At (x0 :: x1 :: x2 :: x3 :: x :: l) 4 x := .s .n3
theorem At.n5 {α : Type} {x0 x1 x2 x3 x4 x : α} {l : List α} : At (x0 :: x1 :: x2 :: x3 :: x4 :: x :: l) 5 x := .s .n4
theorem At.n6 {α : Type} {x0 x1 x2 x3 x4 x5 x : α} {l : List α} : At (x0 :: x1 :: x2 :: x3 :: x4 :: x5 :: x :: l) 6 x := .s .n5
theorem At.n7 {α : Type} {x0 x1 x2 x3 x4 x5 x6 x : α} {l : List α} : At (x0 :: x1 :: x2 :: x3 :: x4 :: x5 :: x6 :: x :: l) 7 x := .s .n6
theorem At.n8 {α : Type} {x0 x1 x2 x3 x4 x5 x6 x7 x : α} {l : List α} : At (x0 :: x1 :: x2 :: x3 :: x4 :: x5 :: x6 :: x7 :: x :: l) 8 x := .s .n7
theorem At.n9 {α : Type} {x0 x1 x2 x3 x4 x5 x6 x7 x8 x : α} {l : List α} : At (x0 :: x1 :: x2 :: x3 :: x4 :: x5 :: x6 :: x7 :: x8 :: x :: l) 9 x := .s .n8
theorem At.n10 {α : Type} {x0 x1 x2 x3 x4 x5 x6 x7 x8 x9 x : α} {l : List α} : At (x0 :: x1 :: x2 :: x3 :: x4 :: x5 :: x6 :: x7 :: x8 :: x9 :: x :: l) 10 x := .s .n9
theorem At.n11 {α : Type} {x0 x1 x2 x3 x4 x5 x6 x7 x8 x9 x10 x : α} {l : List α} : At (x0 :: x1 :: x2 :: x3 :: x4 :: x5 :: x6 :: x7 :: x8 :: x9 :: x10 :: x :: l) 11 x := .s .n10
theorem At.n12 {α : Type} {x0 x1 x2 x3 x4 x5 x6 x7 x8 x9 x10 x11 x : α} {l : List α} : At (x0 :: x1 :: x2 :: x3 :: x4 :: x5 :: x6 :: x7 :: x8 :: x9 :: x10 :: x11 :: x :: l) 12 x := .s .n11
theorem At.n13 {α : Type} {x0 x1 x2 x3 x4 x5 x6 x7 x8 x9 x10 x11 x12 x : α} {l : List α} : At (x0 :: x1 :: x2 :: x3 :: x4 :: x5 :: x6 :: x7 :: x8 :: x9 :: x10 :: x11 :: x12 :: x :: l) 13 x := .s .n12
theorem At.n14 {α : Type} {x0 x1 x2 x3 x4 x5 x6 x7 x8 x9 x10 x11 x12 x13 x : α} {l : List α} : At (x0 :: x1 :: x2 :: x3 :: x4 :: x5 :: x6 :: x7 :: x8 :: x9 :: x10 :: x11 :: x12 :: x13 :: x :: l) 14 x := .s .n13
theorem At.n15 {α : Type} {x0 x1 x2 x3 x4 x5 x6 x7 x8 x9 x10 x11 x12 x13 x14 x : α} {l : List α} : At (x0 :: x1 :: x2 :: x3 :: x4 :: x5 :: x6 :: x7 :: x8 :: x9 :: x10 :: x11 :: x12 :: x13 :: x14 :: x :: l) 15 x := .s .n14
theorem At.n16 {α : Type} {x0 x1 x2 x3 x4 x5 x6 x7 x8 x9 x10 x11 x12 x13 x14 x15 x : α} {l : List α} : At (x0 :: x1 :: x2 :: x3 :: x4 :: x5 :: x6 :: x7 :: x8 :: x9 :: x10 :: x11 :: x12 :: x13 :: x14 :: x15 :: x :: l) 16 x := .s .n15
theorem At.get {α : Type} {l : List α} {n : Nat} {x : α} (h : At l n x) : l[n]? = some x := by
  induction h with
  | z => rfl
  | s _ ih => simpa using ih
theorem At.of {α : Type} : ∀ {l : List α} {n : Nat} {x : α}, l[n]? = some x → At l n x
  | y :: l, 0, x, h => by simp at h; subst h; exact .z
  | y :: l, n + 1, x, h => .s (At.of (by simpa using h))
  | [], _, _, h => by simp at h
structure Mm (h₀ h : Heap) (led : Led) : Prop where
  old : ∀ b o, h₀.get? b = some o → h.get? b = some o
  cells : ∀ p ∈ led, p.2.At h p.1
  new : ∀ p ∈ led, h₀.get? p.1 = none
  nd : (led.map (·.1)).Nodup
section
variable {h₀ h h' : Heap} {led led' : Led} {a L : Addr} {o o' : Obj} {c c' : Cell} {i : Nat}
theorem Mm.at (M : Mm h₀ h led) (i : Nat) (e : At led i (a, c)) : c.At h a := M.cells _ (List.mem_of_getElem? e.get)
theorem Mm.get (M : Mm h₀ h led) (i : Nat) (e : At led i (a, .obj o)) : h.get? a = some o := M.at i e
theorem Mm.ext (M : Mm h₀ h led) (k : ∀ b o, h.get? b = some o → h'.get? b = some o) : Mm h₀ h' led :=
  ⟨fun b o e => k b o (M.old b o e), fun p hp => (M.cells p hp).ext (k p.1), M.new, M.nd⟩
theorem Mm.sub (M : Mm h₀ h led) (s : led'.Sublist led) : Mm h₀ h led' :=
  ⟨M.old, fun p hp => M.cells p (s.subset hp), fun p hp => M.new p (s.subset hp), (s.map _).nodup M.nd⟩
theorem Mm.perm (M : Mm h₀ h led) (s : led'.Perm led) : Mm h₀ h led' :=
  ⟨M.old, fun p hp => M.cells p (s.subset hp), fun p hp => M.new p (s.subset hp), (s.map _).nodup_iff.mpr M.nd⟩
theorem Mm.tail {p : Addr × Cell} (M : Mm h₀ h (p :: led)) : Mm h₀ h led := M.sub (List.sublist_cons_self _ _)
theorem Mm.erase (M : Mm h₀ h led) (i : Nat) : Mm h₀ h (led.eraseIdx i) := M.sub (List.eraseIdx_sublist _ _)
theorem perm_front : ∀ {led : Led} {i : Nat} {p : Addr × Cell}, led[i]? = some p → (p :: led.eraseIdx i).Perm led
  | q :: l, 0, p, e => by simp at e; subst e; exact .refl _
  | q :: l, i + 1, p, e => by
    simp at e
    exact (List.Perm.swap q p _).trans ((perm_front e).cons q)
  | [], _, _, e => by simp at e
theorem Mm.front (M : Mm h₀ h led) (i : Nat) {p : Addr × Cell} (e : At led i p) : Mm h₀ h (p :: led.eraseIdx i) := M.perm (perm_front e.get)
theorem Mm.fresh (M : Mm h₀ h led) : h₀.get? h.objs.size = none := by
  cases q : h₀.get? h.objs.size with
  | none => rfl
  | some o' => exact absurd (Heap.lt_size (M.old _ _ q)) (Nat.lt_irrefl _)
/-- a new cell at the heap's end -/
theorem Mm.add (M : Mm h₀ h led) (k : ∀ b o, h.get? b = some o → h'.get? b = some o) (hc : c.At h' h.objs.size) : Mm h₀ h' ((h.objs.size, c) :: led) := by
  refine ⟨fun b o e => k b o (M.old b o e), fun p hp => ?_, fun p hp => ?_, ?_⟩
  · rcases List.mem_cons.mp hp with rfl | hp
    · exact hc
    · exact (M.cells p hp).ext (k p.1)
  · rcases List.mem_cons.mp hp with rfl | hp
    · exact M.fresh
    · exact M.new p hp
  · rw [List.map_cons, List.nodup_cons]
    refine ⟨fun q => ?_, M.nd⟩
    obtain ⟨p, hp, e⟩ := List.mem_map.mp q
    have := (M.cells p hp).lt
    rw [e] at this
    exact Nat.lt_irrefl _ this
theorem Mm.push (M : Mm h₀ h led) (o : Obj) (hf : o.isFreed = false := by rfl) : Mm h₀ (h.push o) ((h.objs.size, .obj o) :: led) :=
  M.add (fun _ _ e => Heap.get?_push_of_some o e) (Heap.get?_push_size _ hf)
theorem set_fst {i : Nat} (e : led[i]? = some (a, c)) : (led.set i (a, c')).map (·.1) = led.map (·.1) := by
  rw [List.map_set]
  apply List.ext_getElem?
  intro j
  by_cases q : i = j
  · subst q
    have hi : i < led.length := by
      have := List.getElem?_eq_some_iff.mp e; exact this.1
    rw [List.getElem?_set_self (by simpa using hi), List.getElem?_map, e]; rfl
  · rw [List.getElem?_set_ne q]
/-- one cell changed -/
theorem Mm.change (M : Mm h₀ h led) (i : Nat) (e : At led i (a, c)) (k : ∀ b, b ≠ a → h'.get? b = h.get? b) (hc : c'.At h' a) : Mm h₀ h' (led.set i (a, c')) := by
  replace e := e.get
  have hm := List.mem_of_getElem? e
  refine ⟨fun b o q => ?_, fun p hp => ?_, fun p hp => ?_, by rw [set_fst e]; exact M.nd⟩
  · have : b ≠ a := fun z => by have := M.new _ hm; rw [z] at q; rw [q] at this; cases this
    rw [k b this]; exact M.old b o q
  · obtain ⟨j, hj⟩ := List.mem_iff_getElem?.mp hp
    by_cases q : i = j
    · subst q
      have hi := (List.getElem?_eq_some_iff.mp e).1
      rw [List.getElem?_set_self hi] at hj
      cases hj; exact hc
    · rw [List.getElem?_set_ne q] at hj
      have hx := M.at j (a := p.1) (c := p.2) (At.of hj)
      have hne : p.1 ≠ a := fun z => by
        have n := M.nd
        have h1 : (led.map (·.1))[i]? = some a := by rw [List.getElem?_map, e]; rfl
        have h2 : (led.map (·.1))[j]? = some a := by rw [List.getElem?_map, hj]; simp [z]
        have hi := (List.getElem?_eq_some_iff.mp h1).1
        exact q ((List.getElem?_inj hi n).mp (h1.trans h2.symm))
      exact hx.ext fun o q' => by rw [k _ hne]; exact q'
  · obtain ⟨j, hj⟩ := List.mem_iff_getElem?.mp hp
    by_cases q : i = j
    · subst q
      have hi := (List.getElem?_eq_some_iff.mp e).1
      rw [List.getElem?_set_self hi] at hj
      cases hj; exact M.new (a, c) hm
    · rw [List.getElem?_set_ne q] at hj
      exact M.new _ (List.mem_of_getElem? hj)
theorem Mm.update (M : Mm h₀ h led) (i : Nat) (e : At led i (a, .obj o)) (f : Obj → Obj) (hf : (f o).isFreed = false := by rfl) : Mm h₀ (h.update a f) (led.set i (a, .obj (f o))) :=
  M.change i e (fun _ q => Heap.get?_update_other h f (Ne.symm q)) (Heap.get?_update_self f (M.get i e) hf)
end
theorem wpAny_let {α : Type} {M : Model} {A : Around} {E : Value → Shared → Prop} {s : Shared} {t : Sem α} {Q : α → Shared → Prop} (h : let Q' := Q; wpAny M A t Q' E s) : wpAny M A t Q E s := h
/-- room around -/
structure Rm (A : Around) (n : Nat) : Prop where
  handled : A.handled = none
  depth : A.depth + n < recursionLimit
  units : A.units + 20 * n < cLine
  frames : ∃ f, A.frames = some f
section
variable {A : Around} {n m : Nat}
theorem Rm.le (R : Rm A n) (h : m ≤ n) : Rm A m := ⟨R.handled, by have := R.depth; omega, by have := R.units; omega, R.frames⟩
theorem Rm.deeper (R : Rm A (n + 1)) (env : Env) : Rm (A.deeper env) n :=
  ⟨R.handled, by have := R.depth; simp only [Around.deeper]; omega, by have := R.units; simp only [Around.deeper]; omega, let ⟨f, e⟩ := R.frames; ⟨env :: f, by simp [Around.deeper, e]⟩⟩
theorem Rm.in1 (R : Rm A (n + 1)) : Rm A.in1 n := ⟨R.handled, by have := R.depth; simp only [Around.in1]; omega, by have := R.units; simp only [Around.in1]; omega, R.frames⟩
theorem Rm.d (R : Rm A n) : A.depth < recursionLimit := by have := R.depth; omega
theorem Rm.u (R : Rm A n) : A.units < cLine := by have := R.units; omega
end
/-- the ground: the text's objects as they stand -/
structure Gd (w : World) (h₀ : Heap) (mg mb : Str → Option Value) : Prop where
  K : (Mine.hd.heap_1 w.params).In h₀
  g : h₀.Ns mainGlobals mg
  b : h₀.Ns builtinsNs mb
  bn : ∀ x : Str, x ≠ "__name__" → mb x = bootBuiltins x
  lim : h₀.NoLimit
section
variable {prog : Program} {w : World} {A : Around} {E : Value → Shared → Prop} {h₀ h : Heap} {g : Array GenState} {d : Drawn} {tk : Nat} {os : OsState} {led : Led} {mg mb : Str → Option Value}
theorem ldv {env : Env} {x : Str} {pos : Pos} {v : Value} {ns : List Str} {vs : List (Option Value)} {Q : Value → Shared → Prop} {i j : Nat} (M : Mm h₀ h led) (ei : At led i (env.locals, .ns ns vs)) (ej : At ns j x) (ev : At vs j (some v))
    (hq : Q v ⟨h, g, d, tk, os⟩) (hk : env.scope.kind = .function := by rfl) (hl : env.kindOf x = some .local := by kernel_rfl) (hd : (x == ("__debug__" : Str)) = false := by decide) :
    wpAny (model prog w) A (eval (.Name x pos) env) Q E ⟨h, g, d, tk, os⟩ := by
  have c := M.at i ei
  exact wpAny_Name (wpAny_loadName_local hk hl c.2.2 (lz_get c.1 ej.get ev.get) hq) hd
theorem stv {env : Env} {x : Str} {v : Value} {ns : List Str} {vs : List (Option Value)} {Q : Unit → Shared → Prop} {i j : Nat} (M : Mm h₀ h led) (ei : At led i (env.locals, .ns ns vs)) (ej : At ns j x)
    (hq : ∀ h' tk', Mm h₀ h' (led.set i (env.locals, .ns ns (vs.set j (some v)))) → Q () ⟨h', g, d, tk', os⟩) (hk : env.scope.kind = .function := by rfl) (hl : env.kindOf x = some .local := by kernel_rfl) :
    wpAny (model prog w) A (storeName env x v) Q E ⟨h, g, d, tk, os⟩ := by
  have c := M.at i ei
  refine wpAny_storeName_local hl c.2.2 (fun h' hn hs => hq h' _ (M.change i ei hs.2 ⟨c.1, ?_, ?_⟩)) (by rw [hk]; rfl)
  · rw [List.length_set]; exact c.2.1
  · rw [← lz_set c.1 ej.get c.2.1]; exact hn
theorem ldg {env : Env} {x : Str} {pos : Pos} {v : Value} {Q : Value → Shared → Prop} (G : Gd w h₀ mg mb) (M : Mm h₀ h led) (e : nsIn (Mine.hd.heap_1 w.params) mainGlobals x = some (some v)) (hq : Q v ⟨h, g, d, tk, os⟩)
    (hg : env.globals = mainGlobals := by rfl) (hk : env.scope.kind = .function := by rfl) (hl : env.kindOf x = some .globalImplicit := by kernel_rfl) (hd : (x == ("__debug__" : Str)) = false := by decide) :
    wpAny (model prog w) A (eval (.Name x pos) env) Q E ⟨h, g, d, tk, os⟩ :=
  Name_function_global hk hl (loadGlobal_global (by rw [hg]; exact G.g.keeps M.old) (mg_of G.K G.g e) hq) hd
theorem ldb {env : Env} {x : Str} {pos : Pos} {v : Value} {Q : Value → Shared → Prop} (G : Gd w h₀ mg mb) (M : Mm h₀ h led) (e : nsIn (Mine.hd.heap_1 w.params) mainGlobals x = some none) (hv : bootBuiltins x = some v) (hn : x ≠ "__name__") (hq : Q v ⟨h, g, d, tk, os⟩)
    (hg : env.globals = mainGlobals := by rfl) (hb : env.builtins = builtinsNs := by rfl) (hk : env.scope.kind = .function := by rfl) (hl : env.kindOf x = some .globalImplicit := by kernel_rfl) (hd : (x == ("__debug__" : Str)) = false := by decide) :
    wpAny (model prog w) A (eval (.Name x pos) env) Q E ⟨h, g, d, tk, os⟩ :=
  Name_function_global hk hl (loadGlobal_builtin (by rw [hg]; exact G.g.keeps M.old) (mg_none_of G.K G.g e) (by rw [hb]; exact G.b.keeps M.old) ((G.bn x hn).trans hv) hq) hd
theorem lookup_rev : ∀ {ps : List Str} {vals : List Value} (x : Str), ps.Nodup → vals.length = ps.length → ((ps.zip vals).reverse).lookup x = (ps.zip vals).lookup x
  | [], _, _, _, _ => by simp
  | p :: ps, v :: vals, x, nd, l => by
    simp only [List.length_cons, Nat.add_right_cancel_iff] at l
    have ih := lookup_rev x (List.nodup_cons.mp nd).2 l
    simp only [List.zip_cons_cons, List.reverse_cons, List.lookup_append, ih, List.lookup_cons, List.lookup_nil]
    by_cases q : x = p
    · subst q
      have hn : (ps.zip vals).lookup x = none := by
        rw [List.lookup_eq_none_iff]
        intro y hy
        have : y.1 ∈ ps := (List.of_mem_zip hy).1
        simp only [beq_eq_false_iff_ne, ne_eq, bne_iff_ne]
        intro z; rw [← z] at this; exact (List.nodup_cons.mp nd).1 this
      simp [hn]
    · have hb : (x == p) = false := beq_eq_false_iff_ne.mpr q
      simp [hb]
  | _ :: _, [], _, _, l => by simp at l
theorem lz_zip : ∀ {ps rest : List Str} {vals : List Value} (x : Str), vals.length = ps.length → lz (ps ++ rest) (vals.map some ++ rest.map fun _ => none) x = (ps.zip vals).lookup x
  | [], rest, vals, x, l => by
    have : vals = [] := List.eq_nil_of_length_eq_zero l
    subst this
    simp only [List.nil_append, List.map_nil, List.zip_nil_left, List.lookup_nil]
    induction rest with
    | nil => rfl
    | cons r rest ih => simp only [List.map_cons, lz]; split <;> simp_all
  | p :: ps, rest, v :: vals, x, l => by
    simp only [List.length_cons, Nat.add_right_cancel_iff] at l
    have ih := lz_zip (rest := rest) x l
    simp only [List.cons_append, List.map_cons, List.zip_cons_cons, List.lookup_cons, lz, ih]
    by_cases q : x = p
    · subst q; simp
    · have hb : (x == p) = false := beq_eq_false_iff_ne.mpr q
      simp [hb, q]
  | _ :: _, _, [], _, l => by simp at l
/-- a call of a def of the text -/
theorem callE {R : Result → Shared → Prop} {a : Addr} {oc : Value} {od : Option Addr} {osl : Array (Option Value)} {name qual : Str} {params : Arguments} {body : List Stmt} {scope : Scope} {cl : List (Str × Addr)} {dV kV doc pm cdv ct : Value} {an : Option Addr}
    {args : Args} (ps rest : List Str) (vals : List Value)
    (G : Gd w h₀ mg mb) (M : Mm h₀ h led) (hroom : A.depth < recursionLimit)
    (ho : (Mine.hd.heap_1 w.params).lookup a = some ⟨oc, od, .func ⟨name, qual, params, .stmts body, scope, mainGlobals, cl, dV, kV, doc, pm, an, cdv, ct, builtinsNs⟩, osl⟩) (hcd : codeIn (Mine.hd.heap_1 w.params) cdv qual = true)
    (hbind : BindsTo ⟨h, g, d, tk, os⟩ ⟨name, qual, params, .stmts body, scope, mainGlobals, cl, dV, kV, doc, pm, an, cdv, ct, builtinsNs⟩ args (ps.zip vals))
    (hcell : ∀ x ∈ scope.names, x.2 ≠ .cell) (hloc : ((ps.zip vals).all fun x => decide (scope.names.lookup x.1 = some .local)) = true)
    (hnd : (ps ++ rest).Nodup) (hlen : vals.length = ps.length)
    (hco : scope.isCoroutine = false) (hgen : scope.isGenerator = false) (hk : scope.kind = .function)
    (hq : ∀ L h' tk' E', Mm h₀ h' ((L, .ns (ps ++ rest) (vals.map some ++ rest.map fun _ => none)) :: led) →
      wpAny (model prog w) (A.deeper (envX qual scope L a cdv cl)) (execs body (envX qual scope L a cdv cl)) (fun f s' => R (.ok (.ret (match f with | .ret v => v | _ => .none))) s') E' ⟨h', g, d, tk', os⟩) :
    codeAny (model prog w) A (.call (.ref a) args) R ⟨h, g, d, tk, os⟩ := by
  have X := G.K.keeps M.old
  refine codeAny_call_def hroom (X _ _ ho) rfl (G.lim.keeps M.old) (codeRec_of X hcd) rfl hbind hcell (locs hloc) (fun h1 hns hk1 => ?_) hco hgen hk
  refine hq _ _ _ _ (M.add hk1 ⟨hnd, by simp [hlen], ?_⟩)
  have : (fun x => (ps.zip vals).reverse.lookup x) = lz (ps ++ rest) (vals.map some ++ rest.map fun _ => none) := funext fun x => by
    rw [lz_zip x hlen, lookup_rev x (List.nodup_append.mp hnd).1 hlen]
  exact this ▸ hns
noncomputable def Again (I : Nat → Shared → Prop) (n : Nat) (s : Shared) : Prop := ∃ m, m < n ∧ I m s
/-- a for loop by an invariant; nothing raises -/
theorem forI {Q : Flow → Shared → Prop} {target : Expr} {it : Value} {body orelse : List Stmt} {env : Env} {s : Shared} (I : Nat → Shared → Prop)
    (turn : ∀ n s E', I n s → wpAny (model prog w) A (pyNext it) (fun r s₁ => match r with
      | none => wpAny (model prog w) A (execs orelse env) Q E' s₁
      | some v => wpAny (model prog w) A (letOwnedTupleGo target it v) (fun _ s₁' =>
          wpAny (model prog w) A (assign target env v) (fun _ s₂ => wpAny (model prog w) A (execs body env) (fun f s₃ => match f with
            | .next | .cont => Again I n s₃
            | .brk => Q .next s₃
            | .ret v => Q (.ret v) s₃) E' s₂) E' s₁') E' s₁) E' s)
    (n : Nat) (h : I n s) : codeAny (model prog w) A (.forLoop target it body orelse env) (fun r s' => match r with | .ok f => Q f s' | .error e => cameBackBy (model prog w) A env E e s') s := by
  exact codeAny_forLoop_any I (fun n s hI => turn n s _ hI) n h
/-- the same with a plain name as the target -/
theorem forN {Q : Flow → Shared → Prop} {x : Str} {px : Pos} {it : Value} {body orelse : List Stmt} {env : Env} {s : Shared} (I : Nat → Shared → Prop)
    (turn : ∀ n s E', I n s → wpAny (model prog w) A (pyNext it) (fun r s₁ => match r with
      | none => wpAny (model prog w) A (execs orelse env) Q E' s₁
      | some v => wpAny (model prog w) A (storeName env x v) (fun _ s₂ => wpAny (model prog w) A (execs body env) (fun f s₃ => match f with
            | .next | .cont => Again I n s₃
            | .brk => Q .next s₃
            | .ret v => Q (.ret v) s₃) E' s₂) E' s₁) E' s)
    (n : Nat) (h : I n s) : codeAny (model prog w) A (.forLoop (.Name x px) it body orelse env) (fun r s' => match r with | .ok f => Q f s' | .error e => cameBackBy (model prog w) A env E e s') s := by
  refine codeAny_forLoop I (fun n s hI => wpAny_mono (turn n s _ hI) (fun r s₁ h₁ => ?_) fun _ _ z => z) n h (fun _ => rfl)
  cases r with
  | none => exact h₁
  | some v => exact wpAny_assign_Name h₁
end
end Mine
end
section
open PySem PySem.Calls PySem.W PyProof.Rows PySem.Builtin PySem.Builtin.Str
namespace Mine
noncomputable def S (l : List Nat) : Str := ⟨l.toArray⟩
theorem S_list (l : List Nat) : (S l).cps.toList = l := rfl
theorem S_len (l : List Nat) : (S l).length = l.length := by simp [S, Str.length]
theorem S_app (a b : List Nat) : S a ++ S b = S (a ++ b) := by
  show Str.append _ _ = _
  simp [S, Str.append]
theorem S_inj {a b : List Nat} : S a = S b ↔ a = b := ⟨fun h => by have := congrArg (fun x => x.cps.toList) h; simpa [S] using this, fun h => h ▸ rfl⟩
theorem S_of {x : Str} {l : List Nat} (h : x.cps.toList = l) : x = S l := by cases x; simp [S] at *; rw [← h]
noncomputable def rstripL (cs l : List Nat) : List Nat := (l.reverse.dropWhile (cs.contains ·)).reverse
noncomputable def stripL (cs l : List Nat) : List Nat := rstripL cs (l.dropWhile (cs.contains ·))
theorem rstripL_len (cs l : List Nat) : (rstripL cs l).length ≤ l.length := by
  unfold rstripL
  rw [List.length_reverse]
  exact Nat.le_trans (List.IsSuffix.length_le (List.dropWhile_suffix _)) (by simp)
theorem drop_takeWhile {α : Type} (p : α → Bool) : ∀ l : List α, l.drop (l.takeWhile p).length = l.dropWhile p
  | [] => rfl
  | a :: l => by
    simp only [List.takeWhile_cons, List.dropWhile_cons]
    cases p a <;> simp [drop_takeWhile p l]
theorem take_rev {α : Type} (p : α → Bool) (l : List α) : l.take (l.length - (l.reverse.takeWhile p).length) = (l.reverse.dropWhile p).reverse := by
  have h := drop_takeWhile p l.reverse
  rw [List.drop_reverse] at h
  rw [← h, List.reverse_reverse]
theorem strSub_all (x : Str) : strSub x 0 x.length = x := by
  have h : (strSub x 0 x.length).cps.toList = x.cps.toList := by rw [StrLaws.strSub_toList]; simp only [List.drop_zero, Nat.sub_zero]; exact List.take_of_length_le (by simp [Str.length])
  exact (S_of h).trans (S_of rfl).symm
theorem stripped_eq (goes : Nat → Bool) (l r : Bool) (x : Str) : Txt.stripBy goes l r x = strSub x (stripLo goes l x) (stripHi goes r x (stripLo goes l x)) := by
  unfold Txt.stripBy
  split
  · rename_i h
    simp only [stripSame, Bool.and_eq_true, beq_iff_eq] at h
    rw [h.2, h.1, strSub_all]
  · rfl
theorem contains_S (cs : List Nat) : (S cs).cps.contains = fun c => cs.contains c := by funext c; simp [S]
theorem rstrip_S (l cs : List Nat) : Txt.rstripChars (S l) (S cs) = S (rstripL cs l) := by
  apply S_of
  rw [Txt.rstripChars, stripped_eq, StrLaws.strSub_toList, contains_S]
  simp only [stripLo, stripHi, S_list, S_len, Bool.false_eq_true, if_false, if_true, List.drop_zero, Nat.sub_zero]
  exact take_rev _ l
theorem strip_S (l cs : List Nat) : Txt.stripChars (S l) (S cs) = S (stripL cs l) := by
  apply S_of
  rw [Txt.stripChars, stripped_eq, StrLaws.strSub_toList, contains_S]
  simp only [stripLo, stripHi, S_list, S_len, if_true]
  have h := drop_takeWhile (fun c => cs.contains c) l
  have e : l.length - ((List.drop (List.takeWhile (fun c => cs.contains c) l).length l).reverse.takeWhile fun c => cs.contains c).length - (List.takeWhile (fun c => cs.contains c) l).length
      = (l.dropWhile fun c => cs.contains c).length - ((l.dropWhile fun c => cs.contains c).reverse.takeWhile fun c => cs.contains c).length := by
    rw [h]
    have : l.length = (List.takeWhile (fun c => cs.contains c) l).length + (l.dropWhile fun c => cs.contains c).length := by
      rw [← List.length_append, List.takeWhile_append_dropWhile]
    exact ar9 this
  rw [e, h]
  exact take_rev _ _
theorem slice_to (l : List Nat) (j : Nat) (h : j ≤ l.length) : Txt.slice (S l) none (some (j : Int)) = S (l.take j) := by
  show StrLaws.sliceText _ _ _ = _
  rw [StrLaws.sliceText_to ⟨by omega, by simp [S_list]; exact h⟩]
  simp [S]
theorem slice_from (l : List Nat) (j : Nat) (h : j ≤ l.length) : Txt.slice (S l) (some (j : Int)) none = S (l.drop j) := by
  show StrLaws.sliceText _ _ _ = _
  rw [StrLaws.sliceText_from ⟨by omega, by simp [S_list]; exact h⟩]
  apply S_of
  simp only [S_list, Int.toNat_natCast]
  rw [List.take_of_length_le]
  simp
theorem slice_mid (l : List Nat) (i j : Nat) (hi : i ≤ j) (h : j ≤ l.length) : Txt.slice (S l) (some (i : Int)) (some (j : Int)) = S ((l.drop i).take (j - i)) := by
  show StrLaws.sliceText _ _ _ = _
  rw [StrLaws.sliceText_plain ⟨by omega, by omega, by simp [S_list]; exact h⟩]
  apply S_of
  simp only [S_list, Int.toNat_natCast]
  congr 1; omega
theorem slice_but (l : List Nat) (h : l ≠ []) : Txt.slice (S l) none (some (-1)) = S l.dropLast := by
  show StrLaws.sliceText _ _ _ = _
  have hp : 1 ≤ l.length := by cases l; exact absurd rfl h; simp
  rw [StrLaws.sliceText_to_neg (by omega) (by rw [S_len]; omega)]
  apply S_of
  simp only [S_list, S_len, List.drop_zero]
  rw [List.dropLast_eq_take]
  congr 1; omega
section
variable {prog : Program} {w : World} {A : Around} {E : Value → Shared → Prop} {h₀ h : Heap} {g : Array GenState} {d : Drawn} {tk : Nat} {os : OsState} {led : Led} {mg mb : Str → Option Value} {env : Env} {Q : Value → Shared → Prop} {l k cs : List Nat} {t u : Tok}
theorem cst {x : Str} {kd : Nat} {pos : Pos} (e : x = S l) (hq : ∀ t' k', Q (.str (S l) t') ⟨h, g, d, k', os⟩) : wpAny (model prog w) A (eval (.Constant (.str x) kd pos) env) Q E ⟨h, g, d, tk, os⟩ := by
  subst e; exact Constant_str (hq _ _)
theorem addS (hq : ∀ t' k', Q (.str (S (l ++ k)) t') ⟨h, g, d, k', os⟩) (hz : l.length + k.length ≤ sizeLine) : wpAny (model prog w) A (binaryOp .Add (.str (S l) t) (.str (S k) u)) Q E ⟨h, g, d, tk, os⟩ := by
  refine P.add_str ?_
  split
  · rename_i e; rw [S_len] at e
    have : l = [] := List.eq_nil_of_length_eq_zero (by simpa using e)
    subst this; exact hq _ _
  · split
    · rename_i e; rw [S_len] at e
      have : k = [] := List.eq_nil_of_length_eq_zero (by simpa using e)
      subst this; rw [List.append_nil] at hq; exact hq _ _
    · refine ⟨by rw [S_app, S_len, List.length_append]; exact hz, ?_⟩
      rw [S_app]; exact hq _ _
theorem lenS (hq : ∀ t' k', Q (.int l.length t') ⟨h, g, d, k', os⟩) (hz : l.length ≤ sizeLine) : wpAny (model prog w) A (call (.builtin "len") [.str (S l) t]) Q E ⟨h, g, d, tk, os⟩ := by
  refine P.len_str ?_ ?_
  · rw [S_len]; unfold sizeLine at hz; omega
  · rw [S_len]; exact hq _ _
theorem in1S {c : Nat} (hq : Q (.bool (decide (c ∈ l))) ⟨h, g, d, tk, os⟩) : wpAny (model prog w) A (compareOp .In (.str (S [c]) u) (.str (S l) t)) Q E ⟨h, g, d, tk, os⟩ := by
  refine P.in_str ?_
  rw [show S [c] = (⟨#[c]⟩ : Str) from rfl, StrLaws.found_one]; exact hq
theorem nin1S {c : Nat} (hq : Q (.bool (!decide (c ∈ l))) ⟨h, g, d, tk, os⟩) : wpAny (model prog w) A (compareOp .NotIn (.str (S [c]) u) (.str (S l) t)) Q E ⟨h, g, d, tk, os⟩ := by
  refine P.notIn_str ?_
  rw [show S [c] = (⟨#[c]⟩ : Str) from rfl, StrLaws.found_one]; exact hq
theorem eqS (hq : Q (.bool (decide (l = k))) ⟨h, g, d, tk, os⟩) : wpAny (model prog w) A (compareOp .Eq (.str (S l) t) (.str (S k) u)) Q E ⟨h, g, d, tk, os⟩ := by
  refine P.eq_str ?_
  rw [S_list, S_list]
  have : (l == k) = decide (l = k) := by by_cases q : l = k <;> simp [q]
  rw [this]; exact hq
theorem neS (hq : Q (.bool (!decide (l = k))) ⟨h, g, d, tk, os⟩) : wpAny (model prog w) A (compareOp .NotEq (.str (S l) t) (.str (S k) u)) Q E ⟨h, g, d, tk, os⟩ := by
  refine P.ne_str ?_
  rw [S_list, S_list]
  have : (l != k) = !decide (l = k) := by by_cases q : l = k <;> simp [q]
  rw [this]; exact hq
theorem rstripS (hq : ∀ t' k', Q (.str (S (rstripL cs l)) t') ⟨h, g, d, k', os⟩) (hz : l.length ≤ sizeLine) : wpAny (model prog w) A (call (.builtin "str.rstrip") [.str (S l) t, .str (S cs) u]) Q E ⟨h, g, d, tk, os⟩ :=
  SC.rstripChars (fun t' k' => by rw [rstrip_S]; exact hq t' k') (by rw [S_len]; exact hz)
theorem stripS (hq : ∀ t' k', Q (.str (S (stripL cs l)) t') ⟨h, g, d, k', os⟩) (hz : l.length ≤ sizeLine) : wpAny (model prog w) A (call (.builtin "str.strip") [.str (S l) t, .str (S cs) u]) Q E ⟨h, g, d, tk, os⟩ :=
  SC.stripChars (fun t' k' => by rw [strip_S]; exact hq t' k') (by rw [S_len]; exact hz)
theorem itemS {value slice : Expr} {i : Nat} {c : Nat} (hc : l[i]? = some c) (hq : ∀ t' k', Q (.str (S [c]) t') ⟨h, g, d, k', os⟩) (hz : l.length ≤ sizeLine)
    (hs : subscripted slice false (.str (S l) t) (.int i u) = operate [.str (S l) t, .int i u] (getItem (.str (S l) t) (.int i u)) := by with_unfolding_all rfl) :
    wpAny (model prog w) A (subscriptTail value slice (.str (S l) t) (.int (i : Int) u)) Q E ⟨h, g, d, tk, os⟩ := by
  have hi : i < l.length := (List.getElem?_eq_some_iff.mp hc).1
  refine tail_any (typeIs_str _ _ _) F.slot_str_getitem.lookup (P.getItem_str (c := c) ?_ ?_ (hq _ _)) hs
  · unfold sizeLine at hz; simp; omega
  · rw [S_len]
    have : seqIndex? (i : Int) l.length = some i := PySem.seqIndex_of (Int.natCast_nonneg _) (Int.ofNat_lt.mpr hi)
    rw [this]
    show (S l).cps[i]? = some c
    rw [← Array.getElem?_toList, S_list]; exact hc
theorem lastS {value slice : Expr} {c : Nat} (hc : l.getLast? = some c) (hq : ∀ t' k', Q (.str (S [c]) t') ⟨h, g, d, k', os⟩) (hz : l.length ≤ sizeLine)
    (hs : subscripted slice false (.str (S l) t) (.int (-1) u) = operate [.str (S l) t, .int (-1) u] (getItem (.str (S l) t) (.int (-1) u)) := by with_unfolding_all rfl) :
    wpAny (model prog w) A (subscriptTail value slice (.str (S l) t) (.int (-1) u)) Q E ⟨h, g, d, tk, os⟩ := by
  have hne : l ≠ [] := by intro q; subst q; simp at hc
  have hp : 1 ≤ l.length := by cases l; exact absurd rfl hne; simp
  refine tail_any (typeIs_str _ _ _) F.slot_str_getitem.lookup (P.getItem_str (c := c) (by decide) ?_ (hq _ _)) hs
  rw [S_len]
  have : seqIndex? (-1) l.length = some (l.length - 1) := PyProof.Rows.seqIndex?_neg_one hp
  rw [this]
  show (S l).cps[l.length - 1]? = some c
  rw [← Array.getElem?_toList, S_list, ← List.getLast?_eq_getElem?]; exact hc
theorem keptM : KeptH (fun h => Mm h₀ h led) := fun h ob M => M.ext fun _ _ e => Heap.get?_push_of_some ob e
theorem sltoS {value slice : Expr} {j : Nat} {uj : Tok} (M : Mm h₀ h led) (hj : j ≤ l.length) (hz : l.length ≤ sizeLine)
    (hq : ∀ h' t' k', Mm h₀ h' led → Q (.str (S (l.take j)) t') ⟨h', g, d, k', os⟩)
    (hs : subscripted slice false (.str (S l) t) (.ref h.objs.size) = operate [.ref h.objs.size, .str (S l) t] (getItem (.str (S l) t) (.ref h.objs.size)) := by with_unfolding_all rfl) :
    wpAny (model prog w) A (subscriptTail value slice (.str (S l) t) (.ref h.objs.size)) Q E ⟨h.push { cls := .type "slice", data := .fields #[.none, .int (j : Int) uj, .none] }, g, d, tk, os⟩ := by
  obtain ⟨T, id, hl, hT, hg⟩ := SBH.sliceItem_ns (prog := prog) (w := w) (A := A) (E := E) (s := ⟨h, g, d, tk, os⟩) (x := S l) (t := t) (j := (j : Int)) (uj := uj) (Q := Q) (keptM (h₀ := h₀) (led := led)) M (fun h' t' k' a => by rw [slice_to l j hj]; exact hq h' t' k' a) (by rw [S_len]; exact hz)
  exact tail_any hT hl hg hs
theorem slfromS {value slice : Expr} {i : Nat} {ui : Tok} (M : Mm h₀ h led) (hi : i ≤ l.length) (hz : l.length ≤ sizeLine)
    (hq : ∀ h' t' k', Mm h₀ h' led → Q (.str (S (l.drop i)) t') ⟨h', g, d, k', os⟩)
    (hs : subscripted slice false (.str (S l) t) (.ref h.objs.size) = operate [.ref h.objs.size, .str (S l) t] (getItem (.str (S l) t) (.ref h.objs.size)) := by with_unfolding_all rfl) :
    wpAny (model prog w) A (subscriptTail value slice (.str (S l) t) (.ref h.objs.size)) Q E ⟨h.push { cls := .type "slice", data := .fields #[.int (i : Int) ui, .none, .none] }, g, d, tk, os⟩ := by
  obtain ⟨T, id, hl, hT, hg⟩ := SBH.sliceItem_sn (prog := prog) (w := w) (A := A) (E := E) (s := ⟨h, g, d, tk, os⟩) (x := S l) (t := t) (i := (i : Int)) (ui := ui) (Q := Q) (keptM (h₀ := h₀) (led := led)) M (fun h' t' k' a => by rw [slice_from l i hi]; exact hq h' t' k' a) (by rw [S_len]; exact hz)
  exact tail_any hT hl hg hs
theorem slmidS {value slice : Expr} {i j : Nat} {ui uj : Tok} (M : Mm h₀ h led) (hi : i ≤ j) (hj : j ≤ l.length) (hz : l.length ≤ sizeLine)
    (hq : ∀ h' t' k', Mm h₀ h' led → Q (.str (S ((l.drop i).take (j - i))) t') ⟨h', g, d, k', os⟩)
    (hs : subscripted slice false (.str (S l) t) (.ref h.objs.size) = operate [.ref h.objs.size, .str (S l) t] (getItem (.str (S l) t) (.ref h.objs.size)) := by with_unfolding_all rfl) :
    wpAny (model prog w) A (subscriptTail value slice (.str (S l) t) (.ref h.objs.size)) Q E ⟨h.push { cls := .type "slice", data := .fields #[.int (i : Int) ui, .int (j : Int) uj, .none] }, g, d, tk, os⟩ := by
  obtain ⟨T, id, hl, hT, hg⟩ := SBH.sliceItem_ss (prog := prog) (w := w) (A := A) (E := E) (s := ⟨h, g, d, tk, os⟩) (x := S l) (t := t) (i := (i : Int)) (ui := ui) (j := (j : Int)) (uj := uj) (Q := Q) (keptM (h₀ := h₀) (led := led)) M (fun h' t' k' a => by rw [slice_mid l i j hi hj]; exact hq h' t' k' a) (by rw [S_len]; exact hz)
  exact tail_any hT hl hg hs
theorem slbutS {value slice : Expr} {uj : Tok} (M : Mm h₀ h led) (hl0 : l ≠ []) (hz : l.length ≤ sizeLine)
    (hq : ∀ h' t' k', Mm h₀ h' led → Q (.str (S l.dropLast) t') ⟨h', g, d, k', os⟩)
    (hs : subscripted slice false (.str (S l) t) (.ref h.objs.size) = operate [.ref h.objs.size, .str (S l) t] (getItem (.str (S l) t) (.ref h.objs.size)) := by with_unfolding_all rfl) :
    wpAny (model prog w) A (subscriptTail value slice (.str (S l) t) (.ref h.objs.size)) Q E ⟨h.push { cls := .type "slice", data := .fields #[.none, .int (-1) uj, .none] }, g, d, tk, os⟩ := by
  obtain ⟨T, id, hl, hT, hg⟩ := SBH.sliceItem_ns (prog := prog) (w := w) (A := A) (E := E) (s := ⟨h, g, d, tk, os⟩) (x := S l) (t := t) (j := -1) (uj := uj) (Q := Q) (keptM (h₀ := h₀) (led := led)) M (fun h' t' k' a => by rw [slice_but l hl0]; exact hq h' t' k' a) (by rw [S_len]; exact hz)
  exact tail_any hT hl hg hs
end
end Mine
end
section
open PySem PySem.Calls PySem.W PyProof.Rows PySem.Builtin PySem.Builtin.Str
namespace Mine
noncomputable abbrev lo (vs : List Value) (n : Nat) : Obj := { cls := .type "list", dict := none, data := .seq vs.toArray n, slots := #[] }
noncomputable abbrev tup (vs : List Value) : Obj := { cls := .type "tuple", dict := none, data := .seq vs.toArray 0, slots := #[] }
noncomputable def sv (xs : List (List Nat × Tok)) : List Value := xs.map fun p => .str (S p.1) p.2
noncomputable def iv (xs : List (Int × Tok)) : List Value := xs.map fun p => .int p.1 p.2
theorem sv_strValues (xs : List (List Nat × Tok)) : sv xs = strValues (xs.map fun p => (S p.1, p.2)) := by simp [sv, strValues]
theorem sv_len (xs : List (List Nat × Tok)) : (sv xs).length = xs.length := by simp [sv]
theorem iv_len (xs : List (Int × Tok)) : (iv xs).length = xs.length := by simp [iv]
theorem iv_snoc (xs : List (Int × Tok)) (i : Int) (t : Tok) : iv (xs ++ [(i, t)]) = iv xs ++ [.int i t] := by simp [iv]
theorem sv_snoc (xs : List (List Nat × Tok)) (i : List Nat) (t : Tok) : sv (xs ++ [(i, t)]) = sv xs ++ [.str (S i) t] := by simp [sv]
noncomputable def Ints (vs : List Value) (xs : List Int) : Prop := ∃ ts, vs = iv ts ∧ ts.map (·.1) = xs
noncomputable def Strs (vs : List Value) (xs : List (List Nat)) : Prop := ∃ ts, vs = sv ts ∧ ts.map (·.1) = xs
theorem Ints.nil : Ints [] [] := ⟨[], rfl, rfl⟩
theorem Strs.nil : Strs [] [] := ⟨[], rfl, rfl⟩
theorem Ints.snoc {vs : List Value} {xs : List Int} (h : Ints vs xs) (i : Int) (t : Tok) : Ints (vs ++ [.int i t]) (xs ++ [i]) := by
  obtain ⟨ts, rfl, rfl⟩ := h; exact ⟨ts ++ [(i, t)], (iv_snoc ..).symm, by simp⟩
theorem Strs.snoc {vs : List Value} {xs : List (List Nat)} (h : Strs vs xs) (i : List Nat) (t : Tok) : Strs (vs ++ [.str (S i) t]) (xs ++ [i]) := by
  obtain ⟨ts, rfl, rfl⟩ := h; exact ⟨ts ++ [(i, t)], (sv_snoc ..).symm, by simp⟩
theorem Ints.len {vs : List Value} {xs : List Int} (h : Ints vs xs) : vs.length = xs.length := by obtain ⟨ts, rfl, rfl⟩ := h; simp [iv]
theorem Strs.len {vs : List Value} {xs : List (List Nat)} (h : Strs vs xs) : vs.length = xs.length := by obtain ⟨ts, rfl, rfl⟩ := h; simp [sv]
theorem lit_nil : Str.ofString "" = S [] := by decide
theorem lit_bs : Str.ofString "\\" = S [92] := by decide
theorem lit_q : Str.ofString "\"" = S [34] := by decide
theorem lit_ws : Str.ofString " \t" = S [32, 9] := by decide
theorem lit_sp : Str.ofString " " = S [32] := by decide
theorem lit_op : Str.ofString "(" = S [40] := by decide
theorem lit_cl : Str.ofString ")" = S [41] := by decide
theorem lit_pair : Str.ofString "()" = S [40, 41] := by decide
theorem lit_bad : Str.ofString "('', '')" = S [40, 39, 39, 44, 32, 39, 39, 41] := by decide
theorem lit_menu : Str.ofString "a \"\\(), \"\t" = S [97, 32, 34, 92, 40, 41, 44, 32, 34, 9] := by decide
theorem lit_head : Str.ofString "b, \"c d\"" = S [98, 44, 32, 34, 99, 32, 100, 34] := by decide
section
variable {prog : Program} {w : World} {A : Around} {E : Value → Shared → Prop} {h₀ h : Heap} {g : Array GenState} {d : Drawn} {tk : Nat} {os : OsState} {led : Led} {mg mb : Str → Option Value} {env : Env} {Q : Value → Shared → Prop} {a b : Addr} {vs us : List Value} {n m i j : Nat} {t u : Tok} {x y : Value}
theorem Mm.push2 {p : Addr × Cell} (M : Mm h₀ h (p :: led)) (o : Obj) (hf : o.isFreed = false := by rfl) : Mm h₀ (h.push o) (p :: (h.objs.size, .obj o) :: led) :=
  (M.push o hf).perm (List.Perm.swap _ _ _)
theorem newL {p : Addr × Cell} (M : Mm h₀ h (p :: led)) (hz : vs.length ≤ sizeLine) (hq : ∀ a h', Mm h₀ h' (p :: (a, .obj (lo vs 0)) :: led) → Q (.ref a) ⟨h', g, d, tk, os⟩) : wpAny (model prog w) A (newList vs) Q E ⟨h, g, d, tk, os⟩ :=
  wpAny_newObj_type (hq _ _ (M.push2 _)) (by show vs.toArray.size ≤ sizeLine; rw [List.size_toArray]; exact hz)
theorem newT {p : Addr × Cell} (M : Mm h₀ h (p :: led)) (hz : vs.length ≤ sizeLine) (hq : ∀ a h', Mm h₀ h' (p :: (a, .obj (tup vs)) :: led) → Q (.ref a) ⟨h', g, d, tk, os⟩) : wpAny (model prog w) A (newTuple vs) Q E ⟨h, g, d, tk, os⟩ :=
  wpAny_newObj_type (hq _ _ (M.push2 _)) (by show vs.toArray.size ≤ sizeLine; rw [List.size_toArray]; exact hz)
theorem lenL (M : Mm h₀ h led) {i : Nat} (e : At led i (a, .obj (lo vs n))) (hz : vs.length ≤ sizeLine) (hq : ∀ t' k', Q (.int vs.length t') ⟨h, g, d, k', os⟩) : wpAny (model prog w) A (call (.builtin "len") [.ref a]) Q E ⟨h, g, d, tk, os⟩ := by
  refine call_len_list (items := vs.toArray) ⟨_, M.get i e, rfl, n, rfl⟩ ?_ ?_
  · rw [List.size_toArray]; unfold sizeLine at hz; omega
  · rw [List.size_toArray]; exact hq _ _
theorem gmApp {pl : Sem Bool} {Q : Value × List Value → Shared → Prop} (M : Mm h₀ h led) {i : Nat} (e : At led i (a, .obj (lo vs n))) (hq : Q (.builtin "list.append", [.ref a]) ⟨h, g, d, tk, os⟩) :
    wpAny (model prog w) A (getMethod (.ref a) (Str.ofString "append") pl) Q E ⟨h, g, d, tk, os⟩ := getMethod_list_append (M.get i e) rfl rfl hq
theorem gmPop {pl : Sem Bool} {Q : Value × List Value → Shared → Prop} (M : Mm h₀ h led) {i : Nat} (e : At led i (a, .obj (lo vs n))) (hq : Q (.builtin "list.pop", [.ref a]) ⟨h, g, d, tk, os⟩) :
    wpAny (model prog w) A (getMethod (.ref a) (Str.ofString "pop") pl) Q E ⟨h, g, d, tk, os⟩ :=
  getMethod_builtin ⟨_, M.get i e, rfl⟩ F.plainAttrs_list F.slot_list_pop F.type_list_pop (fun b eb => by cases eb; exact ⟨_, M.get i e, rfl⟩) hq
theorem appL (M : Mm h₀ h led) {i : Nat} (e : At led i (a, .obj (lo vs n))) (hz : vs.length ≤ sizeLine)
    (hq : ∀ h', Mm h₀ h' (led.set i (a, .obj (lo (vs ++ [x]) (n + 1)))) → Q .none ⟨h', g, d, tk, os⟩) : wpAny (model prog w) A (call (.builtin "list.append") [.ref a, x]) Q E ⟨h, g, d, tk, os⟩ := by
  have hl := M.get i e
  refine call_meets F.slot_list_append ⟨_, hl, rfl⟩ F.entry_list_append (F.args_list_append_2 _ _) (list_append a vs.toArray n x (by rw [List.size_toArray]; exact hz)) ⟨hl, ?_⟩
  have M2 := M.update i e (Obj.mapSeq fun y => y.push x)
  have e2 : Obj.mapSeq (fun y => y.push x) (lo vs n) = lo (vs ++ [x]) (n + 1) := by simp [Obj.mapSeq, lo]
  rw [e2] at M2
  exact hq _ M2
theorem popL (M : Mm h₀ h led) {i : Nat} (e : At led i (a, .obj (lo (vs ++ [y]) n))) (hz : vs.length + 1 ≤ sizeLine)
    (hq : ∀ h', Mm h₀ h' (led.set i (a, .obj (lo vs (n + 1)))) → Q y ⟨h', g, d, tk, os⟩) : wpAny (model prog w) A (call (.builtin "list.pop") [.ref a]) Q E ⟨h, g, d, tk, os⟩ := by
  have hl := M.get i e
  refine call_meets F.slot_list_pop ⟨_, hl, rfl⟩ F.entry_list_pop (F.args_list_pop_1 _) (MeetsSeq.list_pop_last a (vs ++ [y]).toArray n y (by simp) (by simp; exact hz)) ⟨hl, ?_⟩
  have M2 := M.update i e (Obj.mapSeq fun xs => xs.eraseIdxIfInBounds ((vs ++ [y]).toArray.size - 1))
  have e2 : Obj.mapSeq (fun xs => xs.eraseIdxIfInBounds ((vs ++ [y]).toArray.size - 1)) (lo (vs ++ [y]) n) = lo vs (n + 1) := by
    simp [Obj.mapSeq, lo, List.eraseIdx_append_of_length_le]
  rw [e2] at M2
  exact hq _ M2
theorem itemL {value slice : Expr} {k : Nat} (M : Mm h₀ h led) {i : Nat} (e : At led i (a, .obj (lo vs n))) (hx : vs[k]? = some x) (hz : vs.length ≤ sizeLine) (hq : Q x ⟨h, g, d, tk, os⟩)
    (hs : subscripted slice false (.ref a) (.int k u) = operate [.ref a, .int k u] (getItem (.ref a) (.int k u)) := by with_unfolding_all rfl) :
    wpAny (model prog w) A (subscriptTail value slice (.ref a) (.int (k : Int) u)) Q E ⟨h, g, d, tk, os⟩ := by
  have hl : Heap.IsList h a vs.toArray := ⟨_, M.get i e, rfl, n, rfl⟩
  have hi : k < vs.length := (List.getElem?_eq_some_iff.mp hx).1
  refine tail_any (Heap.IsList.typeIs (s := ⟨h, g, d, tk, os⟩) hl) slot_list_getitem.lookup (wpAny_getItem_list hl (by omega) (by unfold sizeLine at hz; omega) (by simpa using hx) hq) hs
theorem lastL {value slice : Expr} (M : Mm h₀ h led) {i : Nat} (e : At led i (a, .obj (lo vs n))) (hx : vs.getLast? = some x) (hz : vs.length ≤ sizeLine) (hq : Q x ⟨h, g, d, tk, os⟩)
    (hs : subscripted slice false (.ref a) (.int (-1) u) = operate [.ref a, .int (-1) u] (getItem (.ref a) (.int (-1) u)) := by with_unfolding_all rfl) :
    wpAny (model prog w) A (subscriptTail value slice (.ref a) (.int (-1) u)) Q E ⟨h, g, d, tk, os⟩ := by
  have hl : Heap.IsList h a vs.toArray := ⟨_, M.get i e, rfl, n, rfl⟩
  have hne : vs ≠ [] := by intro q; subst q; simp at hx
  have hp : 1 ≤ vs.length := by cases vs; exact absurd rfl hne; simp
  refine tail_any (Heap.IsList.typeIs (s := ⟨h, g, d, tk, os⟩) hl) slot_list_getitem.lookup (wpAny_getItem_list_neg hl (by omega) ?_ ?_ ?_ hq) hs
  all_goals first | omega | (simp; omega) | skip
  rw [List.getLast?_eq_getElem?] at hx
  have e3 : ((-1 : Int) + vs.toArray.size).toNat = vs.length - 1 := by rw [List.size_toArray, Int.add_comm]; exact Int.toNat_sub vs.length 1
  rw [e3]; simpa using hx
theorem concL {p : Addr × Cell} (M : Mm h₀ h (p :: led)) {i j : Nat} (e : At (p :: led) i (a, .obj (lo vs n))) (f : At (p :: led) j (b, .obj (lo us m))) (hz : vs.length + us.length ≤ sizeLine)
    (hq : ∀ c h', Mm h₀ h' (p :: (c, .obj (lo (vs ++ us) 0)) :: led) → Q (.ref c) ⟨h', g, d, tk, os⟩) : wpAny (model prog w) A (binaryOp .Add (.ref a) (.ref b)) Q E ⟨h, g, d, tk, os⟩ := by
  refine P.add_list (items := vs.toArray) (items2 := us.toArray) (M.get i e) (M.get j f) ?_ (by simp; exact hz)
  have := M.push2 (lo (vs ++ us) 0)
  have e2 : vs.toArray ++ us.toArray = (vs ++ us).toArray := by simp
  rw [e2]
  exact hq _ _ this
/-- iteration of a list -/
noncomputable abbrev liter (l : Addr) (i : Nat) : Obj := { cls := .type "list_iterator", dict := none, data := .fields #[.ref l, .int i 0], slots := #[] }
theorem iterL {p : Addr × Cell} (M : Mm h₀ h (p :: led)) {i : Nat} (e : At (p :: led) i (a, .obj (lo vs n))) (hq : ∀ c h', Mm h₀ h' (p :: (c, .obj (liter a 0)) :: led) → Q (.ref c) ⟨h', g, d, tk, os⟩) : wpAny (model prog w) A (pyIter (.ref a)) Q E ⟨h, g, d, tk, os⟩ :=
  wpAny_pyIter_list (items := vs.toArray) ⟨_, M.get i e, rfl, n, rfl⟩ (hq _ _ (M.push2 _))
theorem Mm.changeB (M : Mm h₀ h led) (i : Nat) {c c' : Cell} {h' : Heap} (e : At led i (a, c)) (k : Heap.SameBut a h h') (hc : c'.At h' a) : Mm h₀ h' (led.set i (a, c')) := M.change i e k.2 hc
theorem Mm.extB (M : Mm h₀ h led) (i : Nat) {c : Cell} {h' : Heap} (e : At led i (a, c)) (k : Heap.ExtBut a h h') : Mm h₀ h' (led.eraseIdx i) := by
  have nda := M.nd
  refine ⟨fun b o q => k b o (fun z => ?_) (M.old b o q), fun p hp => ?_, fun p hp => M.new p (List.mem_of_mem_eraseIdx hp), (M.erase i).nd⟩
  · have := M.new _ (List.mem_of_getElem? e.get); rw [← z, q] at this; cases this
  · have hm := List.mem_of_mem_eraseIdx hp
    refine (M.cells p hm).ext fun o q => k p.1 o (fun z => ?_) q
    have hf := (perm_front e.get).map (·.1)
    have nd2 : (((a, c) :: led.eraseIdx i).map (·.1)).Nodup := hf.nodup_iff.mpr nda
    rw [List.map_cons, List.nodup_cons] at nd2
    exact nd2.1 (List.mem_map.mpr ⟨p, hp, z⟩)
theorem nextL {Q : Option Value → Shared → Prop} {c : Addr} {k : Nat} (M : Mm h₀ h led) {i j : Nat} (e : At led i (c, .obj (liter a k))) (f : At led j (a, .obj (lo vs n))) (hx : vs[k]? = some x)
    (hq : ∀ h', Mm h₀ h' (led.set i (c, .obj (liter a (k + 1)))) → Q (some x) ⟨h', g, d, tk, os⟩) : wpAny (model prog w) A (pyNext (.ref c)) Q E ⟨h, g, d, tk, os⟩ := by
  have hit := M.get i e
  obtain ⟨o, ho⟩ : ∃ o, o = liter a k := ⟨_, rfl⟩
  unfold pyNext
  refine wpAny_bind (wpAny_attempt (wpAny_callSpecial?_slot (name := Str.ofString "__next__") (T := "list_iterator") ⟨_, hit, rfl⟩ slot_listiter_next
    (wpAny_call_entry slot_listiter_next ⟨_, hit, rfl⟩ entry_listiter_next ?_ (args_listiter_next _))))
  show wpAny _ _ (field (.ref c) 0 >>= _) _ _ _
  refine wpAny_bind (wpAny_field hit rfl (x := .ref a) rfl ?_)
  show wpAny _ _ (if (Value.ref a == Value.none) = true then _ else _) _ _ _
  rw [if_neg (show ¬ ((Value.ref a == Value.none) = true) from Bool.false_ne_true)]
  show wpAny _ _ (field (.ref c) 1 >>= _) _ _ _
  refine wpAny_bind (wpAny_field hit rfl (x := .int k 0) rfl ?_)
  show wpAny _ _ (seqItems? (.ref a) >>= _) _ _ _
  refine wpAny_bind (wpAny_seqItems (M.get j f) rfl ?_)
  have hx' : vs.toArray[k]? = some x := by simpa using hx
  simp only [Int.toNat_natCast, hx']
  refine wpAny_bind (wpAny_setField hit rfl (by simp) (wpAny_pure ⟨x, rfl, wpAny_pure (hq _ ?_)⟩))
  exact M.changeB i e (Heap.SameBut.update ..) (Heap.get?_update_self _ hit rfl)
theorem nextLE {Q : Option Value → Shared → Prop} {c : Addr} {k : Nat} (M : Mm h₀ h led) {i j : Nat} (e : At led i (c, .obj (liter a k))) (f : At led j (a, .obj (lo vs n))) (hx : vs.length ≤ k) (hh : A.handled = none)
    (hq : ∀ h', Mm h₀ h' (led.eraseIdx i) → Q none ⟨h', g, d, tk, os⟩) : wpAny (model prog w) A (pyNext (.ref c)) Q E ⟨h, g, d, tk, os⟩ :=
  wpAny_pyNext_list_end (items := vs.toArray) hh ⟨_, M.get i e, rfl, rfl⟩ ⟨_, M.get j f, rfl, n, rfl⟩ (by simp; exact hx) fun h' k => hq h' (M.extB i e k)
/-- iteration of a text -/
noncomputable abbrev siter (l : List Nat) (t : Tok) (i : Nat) : Obj := { cls := .type "str_ascii_iterator", dict := none, data := .fields #[.str (S l) t, .int i 0], slots := #[] }
noncomputable abbrev Asc (l : List Nat) : Prop := ∀ c ∈ l, c < 128
theorem asc_all {l : List Nat} (ha : Asc l) : (S l).cps.all (· < 128) = true := by
  rw [Array.all_eq_true_iff_forall_mem]
  intro x hx
  exact decide_eq_true (ha x (by simpa [S] using hx))
theorem iterS {p : Addr × Cell} {l : List Nat} (M : Mm h₀ h (p :: led)) (ha : Asc l) (hq : ∀ c h', Mm h₀ h' (p :: (c, .obj (siter l t 0)) :: led) → Q (.ref c) ⟨h', g, d, tk, os⟩) : wpAny (model prog w) A (pyIter (.str (S l) t)) Q E ⟨h, g, d, tk, os⟩ :=
  wpAny_pyIter_ascii (asc_all ha) (hq _ _ (M.push2 _))
theorem nextS {Q : Option Value → Shared → Prop} {c : Addr} {k ch : Nat} {l : List Nat} (M : Mm h₀ h led) {i : Nat} (e : At led i (c, .obj (siter l t k))) (hx : l[k]? = some ch)
    (hq : ∀ h' t' k', Mm h₀ h' (led.set i (c, .obj (siter l t (k + 1)))) → Q (some (.str (S [ch]) t')) ⟨h', g, d, k', os⟩) : wpAny (model prog w) A (pyNext (.ref c)) Q E ⟨h, g, d, tk, os⟩ := by
  have hit := M.get i e
  have hx' : (S l).cps[k]? = some ch := by simpa [S] using hx
  unfold pyNext
  refine wpAny_bind (wpAny_attempt (wpAny_callSpecial?_slot (name := Str.ofString "__next__") (T := "str_ascii_iterator") ⟨_, hit, rfl⟩ F.slot_str_ascii_iterator_next
    (wpAny_call_entry F.slot_str_ascii_iterator_next ⟨_, hit, rfl⟩ F.entry_str_ascii_iterator_next ?_ (F.args_str_ascii_iterator_next_1 _))))
  show wpAny _ _ (field (.ref c) 0 >>= _) _ _ _
  refine wpAny_bind (wpAny_field hit rfl (x := .str (S l) t) rfl ?_)
  show wpAny _ _ (field (.ref c) 1 >>= _) _ _ _
  refine wpAny_bind (wpAny_field hit rfl (x := .int k 0) rfl ?_)
  simp only [Int.toNat_natCast, hx']
  refine wpAny_bind (wpAny_setField hit rfl (by simp) (wpAny_bind (wpAny_mkStr (wpAny_pure ⟨_, rfl, wpAny_pure (hq _ _ _ ?_)⟩) (by show 1 ≤ sizeLine; decide))))
  exact M.changeB i e (Heap.SameBut.update ..) (Heap.get?_update_self _ hit rfl)
theorem nextSE {Q : Option Value → Shared → Prop} {c : Addr} {k : Nat} {l : List Nat} (M : Mm h₀ h led) {i : Nat} (e : At led i (c, .obj (siter l t k))) (hx : l.length ≤ k) (hh : A.handled = none)
    (hq : ∀ h', Mm h₀ h' (led.eraseIdx i) → Q none ⟨h', g, d, tk, os⟩) : wpAny (model prog w) A (pyNext (.ref c)) Q E ⟨h, g, d, tk, os⟩ :=
  wpAny_pyNext_ascii_end hh ⟨_, M.get i e, rfl, rfl⟩ (by simp [S]; exact hx) fun h' k => hq h' (M.extB i e k)
/-- ranges -/
noncomputable abbrev rng (a b c : Int) (t u v : Tok) : Obj := { cls := .type "range", dict := none, data := .fields #[.int a t, .int b u, .int c v], slots := #[] }
noncomputable abbrev riter (x left step : Int) : Obj := { cls := .type "range_iterator", dict := none, data := .fields #[rawInt x, rawInt left, rawInt step], slots := #[] }
theorem rng1 {p : Addr × Cell} {k : Int} (M : Mm h₀ h (p :: led)) (hq : ∀ c h' k' t1 t2 t3, Mm h₀ h' (p :: (c, .obj (rng 0 k 1 t1 t2 t3)) :: led) → Q (.ref c) ⟨h', g, d, k', os⟩) : wpAny (model prog w) A (call (.type "range") [.int k t]) Q E ⟨h, g, d, tk, os⟩ :=
  call_range_1 (hq _ _ _ _ _ _ (M.push2 _))
theorem rng2 {p : Addr × Cell} {k m : Int} (M : Mm h₀ h (p :: led)) (hq : ∀ c h' k' t1 t2 t3, Mm h₀ h' (p :: (c, .obj (rng k m 1 t1 t2 t3)) :: led) → Q (.ref c) ⟨h', g, d, k', os⟩) : wpAny (model prog w) A (call (.type "range") [.int k t, .int m u]) Q E ⟨h, g, d, tk, os⟩ :=
  call_range_2 (hq _ _ _ _ _ _ (M.push2 _))
theorem iterR {p : Addr × Cell} {x y z : Int} {t1 t2 t3 : Tok} (M : Mm h₀ h (p :: led)) {i : Nat} (e : At (p :: led) i (a, .obj (rng x y z t1 t2 t3))) (hsm : Builtin.Range.small x y z = true)
    (hq : ∀ c h', Mm h₀ h' (p :: (c, .obj (riter x (Builtin.Range.rangeSize x y z) z)) :: led) → Q (.ref c) ⟨h', g, d, tk, os⟩) : wpAny (model prog w) A (pyIter (.ref a)) Q E ⟨h, g, d, tk, os⟩ :=
  wpAny_pyIter_range (M.get i e) hsm (hq _ _ (M.push2 _))
theorem nextR {Q : Option Value → Shared → Prop} {c : Addr} {x left step : Int} (M : Mm h₀ h led) {i : Nat} (e : At led i (c, .obj (riter x left step))) (hl : 0 < left)
    (hq : ∀ h' t' k', Mm h₀ h' (led.set i (c, .obj (riter (x + step) (left - 1) step))) → Q (some (.int x t')) ⟨h', g, d, k', os⟩) : wpAny (model prog w) A (pyNext (.ref c)) Q E ⟨h, g, d, tk, os⟩ :=
  wpAny_pyNext_range_item (M.get i e) hl fun h' hi hs => hq _ _ _ (M.changeB i e hs hi)
theorem nextRE {Q : Option Value → Shared → Prop} {c : Addr} {x left step : Int} (M : Mm h₀ h led) {i : Nat} (e : At led i (c, .obj (riter x left step))) (hl : left ≤ 0) (hh : A.handled = none)
    (hq : ∀ h', Mm h₀ h' (led.eraseIdx i) → Q none ⟨h', g, d, tk, os⟩) : wpAny (model prog w) A (pyNext (.ref c)) Q E ⟨h, g, d, tk, os⟩ :=
  wpAny_pyNext_range_end hh (M.get i e) hl fun h' k => hq h' (M.extB i e k)
theorem iterR1 {p : Addr × Cell} {x y n : Int} {t1 t2 t3 : Tok} (M : Mm h₀ h (p :: led)) {i : Nat} (e : At (p :: led) i (a, .obj (rng x y 1 t1 t2 t3))) (hsm : Builtin.Range.small x y 1 = true) (hn : (if x < y then y - x else 0) = n)
    (hq : ∀ c h', Mm h₀ h' (p :: (c, .obj (riter x n 1)) :: led) → Q (.ref c) ⟨h', g, d, tk, os⟩) : wpAny (model prog w) A (pyIter (.ref a)) Q E ⟨h, g, d, tk, os⟩ :=
  iterR M e hsm fun c h' M' => hq c h' (by rw [rangeSize_one, hn] at M'; exact M')
theorem iterRn {p : Addr × Cell} {x y z n : Int} {t1 t2 t3 : Tok} (M : Mm h₀ h (p :: led)) {i : Nat} (e : At (p :: led) i (a, .obj (rng x y z t1 t2 t3))) (hsm : Builtin.Range.small x y z = true) (hn : Builtin.Range.rangeSize x y z = n)
    (hq : ∀ c h', Mm h₀ h' (p :: (c, .obj (riter x n z)) :: led) → Q (.ref c) ⟨h', g, d, tk, os⟩) : wpAny (model prog w) A (pyIter (.ref a)) Q E ⟨h, g, d, tk, os⟩ := by
  subst hn; exact iterR M e hsm hq
theorem nextR1 {Q : Option Value → Shared → Prop} {c : Addr} {r n : Nat} (M : Mm h₀ h led) {i : Nat} (e : At led i (c, .obj (riter (r : Int) ((n : Int) - (r : Int)) 1))) (hl : r < n)
    (hq : ∀ h' t' k', Mm h₀ h' (led.set i (c, .obj (riter ((r + 1 : Nat) : Int) ((n : Int) - ((r + 1 : Nat) : Int)) 1))) → Q (some (.int (r : Int) t')) ⟨h', g, d, k', os⟩) : wpAny (model prog w) A (pyNext (.ref c)) Q E ⟨h, g, d, tk, os⟩ :=
  nextR M e (by omega) fun h' t' k' M' => hq h' t' k' (by rw [show ((r + 1 : Nat) : Int) = (r : Int) + 1 by omega, show (n : Int) - ((r : Int) + 1) = (n : Int) - r - 1 by omega]; exact M')
theorem nextR2 {Q : Option Value → Shared → Prop} {c : Addr} {r n : Nat} (M : Mm h₀ h led) {i : Nat} (e : At led i (c, .obj (riter ((r + 1 : Nat) : Int) ((n : Int) - (r : Int)) 1))) (hl : r < n)
    (hq : ∀ h' t' k', Mm h₀ h' (led.set i (c, .obj (riter ((r + 1 + 1 : Nat) : Int) ((n : Int) - ((r + 1 : Nat) : Int)) 1))) → Q (some (.int ((r + 1 : Nat) : Int) t')) ⟨h', g, d, k', os⟩) : wpAny (model prog w) A (pyNext (.ref c)) Q E ⟨h, g, d, tk, os⟩ :=
  nextR M e (by omega) fun h' t' k' M' => hq h' t' k' (by rw [show ((r + 1 + 1 : Nat) : Int) = ((r + 1 : Nat) : Int) + 1 by omega, show (n : Int) - ((r + 1 : Nat) : Int) = (n : Int) - r - 1 by omega]; exact M')
theorem nextRd {Q : Option Value → Shared → Prop} {c : Addr} {r : Nat} (M : Mm h₀ h led) {i : Nat} (e : At led i (c, .obj (riter ((r + 1 : Nat) : Int) ((r + 1 : Nat) : Int) (-1))))
    (hq : ∀ h' t' k', Mm h₀ h' (led.set i (c, .obj (riter (r : Int) (r : Int) (-1)))) → Q (some (.int ((r + 1 : Nat) : Int) t')) ⟨h', g, d, k', os⟩) : wpAny (model prog w) A (pyNext (.ref c)) Q E ⟨h, g, d, tk, os⟩ :=
  nextR M e (by omega) fun h' t' k' M' => hq h' t' k' (by rw [show ((r + 1 : Nat) : Int) + -1 = (r : Int) by omega, show ((r + 1 : Nat) : Int) - 1 = (r : Int) by omega] at M'; exact M')
end
end Mine
end
section
open PySem PySem.Calls PySem.W PyProof.Rows PySem.Builtin PySem.Builtin.Str PySem.W.X
namespace Mine
/-- everything but a few cells as the ground -/
theorem Mm.rebase {h₀ h : Heap} {cs led : Led} (M : Mm h₀ h (cs ++ led)) : Mm (hideAll h (cs.map (·.1))) h cs :=
  ⟨fun b o e => of_hideAll _ e, fun p hp => M.cells p (List.mem_append_left _ hp), fun p hp => hideAll_none _ (List.mem_map_of_mem hp),
    by have := M.nd; rw [List.map_append] at this; exact (List.nodup_append.mp this).1⟩
theorem Cell.At.some {h : Heap} {a : Addr} {c : Cell} (x : c.At h a) : ∃ o, h.get? a = some o := by
  cases c with
  | obj o => exact ⟨o, x⟩
  | ns ns vs => obtain ⟨o, _, _, e, _⟩ := x.2.2; exact ⟨o, e⟩
  | any P => obtain ⟨o, e, p⟩ := x; exact ⟨o, e⟩
theorem Mm.unbase {h₀ h h' : Heap} {cs led cs' : Led} (M : Mm h₀ h (cs ++ led)) (N : Mm (hideAll h (cs.map (·.1))) h' cs') : Mm h₀ h' (cs' ++ led) := by
  have nd := M.nd
  rw [List.map_append, List.nodup_append] at nd
  have keep : ∀ b o, h.get? b = some o → b ∉ cs.map (·.1) → h'.get? b = some o := fun b o e n => N.old b o (hideAll_get _ e n)
  have oldN : ∀ b o, h₀.get? b = some o → b ∉ cs.map (·.1) := fun b o e q => by
    obtain ⟨p, hp, rfl⟩ := List.mem_map.mp q
    have := M.new p (List.mem_append_left _ hp)
    rw [e] at this; cases this
  have ledN : ∀ p ∈ led, p.1 ∉ cs.map (·.1) := fun p hp q => nd.2.2 _ q _ (List.mem_map_of_mem hp) rfl
  refine ⟨fun b o e => keep b o (M.old b o e) (oldN b o e), fun p hp => ?_, fun p hp => ?_, ?_⟩
  · rcases List.mem_append.mp hp with hp | hp
    · exact N.cells p hp
    · exact (M.cells p (List.mem_append_right _ hp)).ext fun o e => keep _ o e (ledN p hp)
  · rcases List.mem_append.mp hp with hp | hp
    · cases q : h₀.get? p.1 with
      | none => rfl
      | some o =>
        have := N.new p hp
        rw [hideAll_get _ (M.old _ _ q) (oldN _ _ q)] at this; cases this
    · exact M.new p (List.mem_append_right _ hp)
  · rw [List.map_append, List.nodup_append]
    refine ⟨N.nd, nd.2.1, fun a ha b hb e => ?_⟩
    subst e
    obtain ⟨p, hp, rfl⟩ := List.mem_map.mp ha
    obtain ⟨q, hq, e⟩ := List.mem_map.mp hb
    obtain ⟨o, ho⟩ := (M.cells q (List.mem_append_right _ hq)).some
    have h1 := hideAll_get (cs.map (·.1)) ho (ledN q hq)
    have h2 := N.new p hp
    rw [← e, h1] at h2; cases h2
theorem Gd.keeps {w : World} {h₀ h₁ : Heap} {mg mb : Str → Option Value} (G : Gd w h₀ mg mb) (k : ∀ b o, h₀.get? b = some o → h₁.get? b = some o) : Gd w h₁ mg mb :=
  ⟨G.K.keeps k, G.g.keeps k, G.b.keeps k, G.bn, G.lim.keeps k⟩
theorem Gd.rebase {w : World} {h₀ h : Heap} {cs led : Led} {mg mb : Str → Option Value} (G : Gd w h₀ mg mb) (M : Mm h₀ h (cs ++ led)) : Gd w (hideAll h (cs.map (·.1))) mg mb :=
  G.keeps fun b o e => hideAll_get _ (M.old b o e) fun q => by
    obtain ⟨p, hp, rfl⟩ := List.mem_map.mp q
    have := M.new p (List.mem_append_left _ hp)
    rw [e] at this; cases this
section
variable {prog : Program} {w : World} {A : Around} {c : Code} {fs : List Frame} {s : Shared} {P : End → Shared → Prop} {env : Env}
  {K : Flow → Sem Fin} {H : Value → Sem Fin} {gd : Bool → Bool} {lv : List Value → List Value}
theorem sx_wrap {α : Type} {m : Sem α} {K : α → Sem Fin} {H : Value → Sem Fin} {gd lv}
    (h : wpAny (model prog w) (A.over c fs) m (fun a s' => SegX (model prog w) A c (K a) fs s' P) (fun x s' => SegX (model prog w) A c (H x) fs s' P) s) :
    SegX (model prog w) A c (m.wrap K H gd lv) fs s P := by
  rintro Γ p rfl hΓ
  obtain ⟨e, s', hr, hq⟩ := runs_wrap_of_wp (Φ := fun e s' => e.quiet = true ∧ P e s') K H gd lv m (h (Γ.over fs) p (hΓ.over fs)) (fun a p' s' h' => h' Γ p' rfl hΓ) (fun x p' s' h' => h' Γ p' rfl hΓ)
  exact ⟨e, s', hr, hq⟩
theorem sx_at {p' : Pos} {k : Unit → Sem Fin} (h : SegX (model prog w) A c (k ()) fs s P) : SegX (model prog w) A c (.at p' k) fs s P :=
  sx_wrap (m := standAt p') (K := k) (H := .raise) (gd := id) (lv := id) (wpAny_standAt h)
theorem sx_point {l : List Value} {k : Unit → Sem Fin} (h : SegX (model prog w) A c (k ()) fs s P) : SegX (model prog w) A c (.point l k) fs s P :=
  sx_wrap (m := point) (K := k) (H := .raise) (gd := id) (lv := fun _ => l) (wpAny_point h)
theorem sx_cons {st : Stmt} {rest : List Stmt}
    (h : SegX (model prog w) A c ((exec st env).wrap (fun f => match f with | .next => (execs rest env).wrap K H gd lv | f => K f) H gd lv) fs s P) :
    SegX (model prog w) A c ((execs (st :: rest) env).wrap K H gd lv) fs s P := by rw [execs_cons_wrap]; exact h
/-- a statement that yields nothing -/
theorem sx_plain {st : Stmt} (h : ∀ E', wpAny (model prog w) (A.over c fs) (exec st env) (fun f s' => SegX (model prog w) A c (K f) fs s' P) E' s) :
    SegX (model prog w) A c ((exec st env).wrap K H gd lv) fs s P := sx_wrap (h _)
theorem sx_If {test : Expr} {body orelse : List Stmt} {pos : Pos}
    (h : ∀ E', wpAny (model prog w) (A.over c fs) (isTrue test env (eval test env)) (fun b s' => if b = true then SegX (model prog w) A c ((execs body env).wrap K H gd lv) fs s' P else SegX (model prog w) A c ((execs orelse env).wrap K H gd lv) fs s' P) E' s) :
    SegX (model prog w) A c ((exec (.If test body orelse pos) env).wrap K H gd lv) fs s P := by
  rw [exec_If]
  refine sx_at ?_
  show SegX _ _ _ (Sem.wrap K H gd lv (isTrue test env (eval test env) >>= _)) _ _ _
  rw [Sem.bind_eq_wrap', Sem.wrap_wrap]
  refine sx_wrap (wpAny_mono (h _) (fun b s' h' => ?_) fun _ _ x => x)
  cases b <;> exact h'
theorem sx_Yield {e : Expr} {ypos pos : Pos} (hfs : splitAtGen fs = none) (hgd : gd false = false) (hfg : fs.any Frame.guarded = false)
    (h : ∀ E', wpAny (model prog w) (A.over c fs) (eval e env) (fun v s' => ∀ (l : List Value) (k : Resume → Sem Fin) (p : Pos), (∀ s'' P', SegX (model prog w) A c (K .next) fs s'' P' → SegX (model prog w) A c (k (.send .none)) fs s'' P') →
        P (.susp v false l k c p fs) s') E' s) (hco : env.scope.isCoroutine = false := by rfl) (hi : interactive env = false := by rfl) :
    SegX (model prog w) A c ((exec (.Expr (.Yield (some e) ypos) pos) env).wrap K H gd lv) fs s P := by
  rw [exec_Expr env _ pos hi rfl]
  show SegX _ _ c (.at pos fun _ => ((eval e env >>= fun v => (standAt ypos >>= fun _ => yieldOut env v)) >>= fun x =>
    dropValue (.Yield (some e) ypos) pos x).wrap K H gd lv) fs s P
  have hy : ∀ v, yieldOut env v = yieldValue v := fun v => by simp only [yieldOut, hco, Bool.false_eq_true, if_false]
  simp only [hy]
  refine sx_at ?_
  rw [Sem.bind_eq_wrap', Sem.bind_eq_wrap', Sem.wrap_wrap, Sem.wrap_wrap]
  refine sx_wrap (wpAny_mono (h _) (fun v s' h' => ?_) fun _ _ x => x)
  refine sx_at ?_
  show SegX _ _ _ (.yield v (gd false) _ _) _ _ _
  rw [hgd]
  refine s_yield _ _ _ _ _ _ _ _ _ _ hfs hfg fun p => h' _ _ _ fun s'' P' hx => ?_
  exact hx
theorem sx_func {body : List Stmt}
    (h : SegX (model prog w) A (.func body env) ((execs body env).wrap (fun f => .pure (.done (.ret (match f with | .ret v => v | _ => .none))))
      (fun e => (leaving env e).wrap (fun _ => .raise e) .raise id id) id id) fs s P) :
    SegX (model prog w) A (.func body env) ((model prog w).den (.func body env)) fs s P := by
  show SegX _ A _ (.point [] fun _ => ((execs body env).onRaise (leaving env)) >>= _) fs s P
  refine sx_point ?_
  rw [Sem.onRaise_eq_wrap, Sem.bind_eq_wrap', Sem.wrap_wrap]
  rw [Sem.wrap_congr (execs body env) _ _ (K' := fun f => .pure (.done (.ret (match f with | .ret v => v | _ => .none))))
    (H' := fun e => (leaving env e).wrap (fun _ => .raise e) .raise id id) (fun f => by cases f <;> rfl)
    (fun e => by rw [Sem.bind_eq_wrap, Sem.wrap_wrap]; rfl)]
  exact h
noncomputable def forK (c : Code) : Flow → Sem Fin := fun f => match f with
  | .next | .cont => .pure (.again c)
  | .brk => .pure (.done .next)
  | .ret v => .pure (.done (.ret v))
noncomputable def forH (env : Env) : Value → Sem Fin := fun e => (do noteFrame e env; theTreesLotGoes e : Sem Unit).wrap (fun _ => .raise e) .raise id id
theorem sx_forLoop {target : Expr} {it : Value} {body orelse : List Stmt}
    (h : ∀ E', wpAny (model prog w) (A.over (.forLoop target it body orelse env) fs) (pyNext it) (fun r s₁ => match r with
      | none => SegX (model prog w) A (.block orelse env) ((model prog w).den (.block orelse env)) fs s₁ P
      | some v => wpAny (model prog w) (A.over (.forLoop target it body orelse env) fs) (letOwnedTupleGo target it v) (fun _ s₂ =>
          wpAny (model prog w) (A.over (.forLoop target it body orelse env) fs) (assign target env v) (fun _ s₃ =>
            SegX (model prog w) A (.forLoop target it body orelse env) ((execs body env).wrap (forK (.forLoop target it body orelse env)) (forH env) id id) fs s₃ P) E' s₂) E' s₁) E' s) :
    SegX (model prog w) A (.forLoop target it body orelse env) ((model prog w).den (.forLoop target it body orelse env)) fs s P := by
  show SegX _ A _ ((forTurn target it body orelse env).onRaise (fun x => do noteFrame x env; theTreesLotGoes x)) fs s P
  unfold forTurn
  rw [Sem.onRaise_eq_wrap, Sem.bind_eq_wrap', Sem.wrap_wrap]
  refine sx_wrap (wpAny_standAt ?_)
  rw [Sem.bind_eq_wrap', Sem.wrap_wrap]
  refine sx_wrap (wpAny_onRaise (wpAny_mono (h _) (fun r s₁ h₁ => ?_) fun _ _ x => wpAny_standAt x))
  cases r with
  | none => exact s_again _ _ _ _ _ _ _ _ rfl h₁
  | some v =>
    dsimp only at h₁ ⊢
    rw [Sem.bind_eq_wrap', Sem.wrap_wrap]
    refine sx_wrap (wpAny_mono h₁ (fun _ s₂ h₂ => ?_) fun _ _ x => x)
    rw [Sem.bind_eq_wrap', Sem.wrap_wrap]
    refine sx_wrap (wpAny_mono h₂ (fun _ s₃ h₃ => ?_) fun _ _ x => x)
    rw [Sem.bind_eq_wrap', Sem.wrap_wrap]
    rw [Sem.wrap_congr (execs body env) _ _ (K' := forK (.forLoop target it body orelse env)) (H' := forH env)
      (fun f => by cases f <;> rfl) (fun e => by unfold forH; first | exact Sem.bind_eq_wrap _ _ | (show (do noteFrame e env; theTreesLotGoes e : Sem Unit).bind (fun _ => .raise e) = _; rw [Sem.bind_eq_wrap]))]
    exact h₃
theorem sx_For {target iter : Expr} {body orelse : List Stmt} {pos : Pos}
    (h : ∀ E', wpAny (model prog w) (A.over c fs) (eval iter env) (fun x s₁ => wpAny (model prog w) (A.over c fs) (pyIter x) (fun it s₂ =>
      ∀ p (k : Result → Sem Fin), (∀ f, k (.ok f) = K f) → SegX (model prog w) A (.forLoop target it body orelse env) ((model prog w).den (.forLoop target it body orelse env)) (.ret k none (gd false) (lv []) c p [] :: fs) s₂ P) E' s₁) E' s)
    (hs : ∀ x, foldedSetIterable iter env x = pure x := by intro _; rfl) :
    SegX (model prog w) A c ((exec (.For target iter body orelse pos) env).wrap K H gd lv) fs s P := by
  rw [exec_For]
  refine sx_at ?_
  show SegX _ _ _ (Sem.wrap K H gd lv (eval iter env >>= _)) _ _ _
  rw [Sem.bind_eq_wrap', Sem.wrap_wrap]
  refine sx_wrap (wpAny_mono (h _) (fun x s₁ h₁ => ?_) fun _ _ z => z)
  rw [hs x]
  refine sx_at ?_
  show SegX _ _ _ (Sem.wrap K H gd lv (holding [x] (pyIter x) >>= _)) _ _ _
  rw [Sem.bind_eq_wrap', Sem.wrap_wrap]
  refine sx_wrap (wpAny_holding (wpAny_mono h₁ (fun it s₂ h₂ => ?_) fun _ _ z => z))
  exact s_call _ _ _ _ _ _ _ _ _ _ _ _ fun p => h₂ p _ fun f => rfl
theorem sx_block {p₁ : Pos} {c₁ : Code} {k : Result → Sem Fin} {g₁ : Bool} {l₁ : List Value} (h : SegX (model prog w) A c₁ (k (.ok .next)) fs s P) :
    SegX (model prog w) A (.block [] env) ((model prog w).den (.block [] env)) (.ret k none g₁ l₁ c₁ p₁ [] :: fs) s P := by
  show SegX _ A _ (do return Fin.done (← (execs [] env).onRaise (fun x => do noteFrame x env; theTreesLotGoes x))) _ _ _
  exact s_pop _ _ _ _ _ _ _ (.ok .next) _ rfl _ _ _ _ _ _ _ h
end
section
variable {prog : Program} {w : World} {A : Around} {E : Value → Shared → Prop} {h₀ h : Heap} {g : Array GenState} {d : Drawn} {tk : Nat} {os : OsState} {led : Led} {mg mb : Str → Option Value} {env : Env} {Q : Value → Shared → Prop} {a b : Addr} {vs us : List Value} {n m i j : Nat} {t u : Tok} {x y : Value}
/-- a tuple unpacked -/
theorem unpM {Q : Unit → Shared → Prop} {elts : List Expr} {x1} {pos : Pos} (M : Mm h₀ h led) (e : At led i (a, .obj (tup vs))) (hh : A.handled = none)
    (hq : ∀ h', Mm h₀ h' led → wpAny (model prog w) A (assignInOrder ((assignEach elts env).map (·.2)) vs) Q E ⟨h', g, d, tk, os⟩)
    (hn : (assignEach elts env).length = vs.length := by rfl) (hstar : (assignEach elts env).findIdx? (·.1) = none := by rfl) :
    wpAny (model prog w) A (assign (.Tuple elts x1 pos) env (.ref a)) Q E ⟨h, g, d, tk, os⟩ := by
  refine assign_Tuple_tuple (items := vs.toArray) hh ⟨_, M.get i e, rfl, 0, rfl⟩ (by simp [hn]) hstar fun h' k => ?_
  refine hq h' ⟨fun b o q => k b o (Nat.ne_of_lt (Heap.lt_size (M.old b o q))) (M.old b o q), fun p hp => ?_, M.new, M.nd⟩
  exact (M.cells p hp).ext fun o q => k p.1 o (Nat.ne_of_lt (Heap.lt_size q)) q
/-- enumerate over a text -/
noncomputable abbrev enu (it : Addr) (i : Int) (own old : Value) : Obj := { cls := .type "enumerate", dict := none, data := .fields #[own, .bool false, .ref it, rawInt i, .none, old], slots := #[] }
theorem iterType {l : List Nat} (ha : Asc l) : strIterType (S l) = "str_ascii_iterator" := by unfold strIterType; rw [asc_all ha]; rfl
noncomputable abbrev SitP (l : List Nat) (t : Tok) (k : Nat) : Obj → Prop := fun o => o.cls = .type "str_ascii_iterator" ∧ o.data = .fields #[.str (S l) t, .int k 0]
theorem enumM {p : Addr × Cell} {l : List Nat} (M : Mm h₀ h (p :: led)) (ha : Asc l)
    (hq : ∀ e it h', Mm h₀ h' (p :: (e, .obj (enu it 0 .none .none)) :: (it, .any (SitP l t 0)) :: led) → Q (.ref e) ⟨h', g, d, tk, os⟩) :
    wpAny (model prog w) A (call (.type "enumerate") [.str (S l) t]) Q E ⟨h, g, d, tk, os⟩ := by
  refine callType_new F.called_enumerate (by decide) (F.typeCall_enumerate_1 _) (F.newCall_enumerate_1 _) (fun obj => F.args_object_init_2 obj _) F.entry_enumerate_new
    (meets_enumerate_newS (S l) t) ?_
  rw [iterType ha]
  have M1 := M.push { cls := .type "str_ascii_iterator", data := .fields #[.str (S l) t, .int 0 0] }
  have M2 := M1.push (enu h.objs.size 0 .none .none)
  refine ⟨⟨_, Heap.get?_push_size _ rfl, rfl⟩, hq _ h.objs.size _ ?_⟩
  have M3 := M2.change 1 .n1 (c' := .any (SitP l t 0)) (fun _ _ => rfl) ⟨_, M2.get 1 .n1, rfl, rfl⟩
  exact M3.perm ((List.Perm.swap _ _ _).trans ((List.Perm.swap _ _ _).cons _))
theorem iterE {it : Addr} {k : Int} {own old : Value} (M : Mm h₀ h led) {i : Nat} (e : At led i (a, .obj (enu it k own old))) (hq : Q (.ref a) ⟨h, g, d, tk, os⟩) :
    wpAny (model prog w) A (pyIter (.ref a)) Q E ⟨h, g, d, tk, os⟩ := by
  have he := M.get i e
  refine wpAny_pyIter_slot (T := "enumerate") ⟨_, he, rfl⟩ F.slot_enumerate_iter (wpAny_call_entry F.slot_enumerate_iter ⟨_, he, rfl⟩ F.entry_enumerate_iter ?_ (F.args_enumerate_iter_1 _))
  show wpAny _ _ (ret (.ref a)) _ _ _
  exact wpAny_pure ⟨_, rfl, "enumerate", _, ⟨_, he, rfl⟩, F.slot_enumerate_next.lookup, hq⟩
theorem nextE {Q : Option Value → Shared → Prop} {p : Addr × Cell} {it : Addr} {k ch : Nat} {l : List Nat} {old : Value} (M : Mm h₀ h (p :: (a, .obj (enu it k .none old)) :: (it, .any (SitP l t k)) :: led)) (hx : l[k]? = some ch) (hh : A.handled = none)
    (hq : ∀ (T : Addr) h' tk' t1 t2, Mm h₀ h' (p :: (a, .obj (enu it ((k : Int) + 1) (rawInt T) (.str (S [ch]) t2))) :: (it, .any (SitP l t (k + 1))) :: (T, .obj (tup [.int k t1, .str (S [ch]) t2])) :: led) → Q (some (.ref T)) ⟨h', g, d, tk', os⟩) :
    wpAny (model prog w) A (pyNext (.ref a)) Q E ⟨h, g, d, tk, os⟩ := by
  have nd := M.nd
  have hne : a ≠ it := by
    simp only [List.map_cons, List.nodup_cons, List.mem_cons, not_or] at nd
    exact nd.2.1.1
  obtain ⟨o, ho, hc, hd⟩ := M.at 2 .n2
  have hk : k < l.length := (List.getElem?_eq_some_iff.mp hx).1
  refine wpAny_pyNext_enum_itemD (Draws.strAscii (A := A.in1) hh it (S l) t) (M.get 1 .n1) ⟨o, ho, hc, hd⟩ (by simpa [S] using hk) hne (by simpa using hne) fun x h' tk' hP hE hS hT hsz hkp => ?_
  obtain ⟨c, u, hc', rfl⟩ := hP
  have hcc : c = ch := by
    have : (S l).cps[k]? = l[k]? := by simp [S]
    rw [this, hx] at hc'; exact (Option.some.inj hc').symm
  subst hcc
  refine hq h.objs.size h' _ tk' u ?_
  have lt : ∀ q ∈ (p :: (a, Cell.obj (enu it k .none old)) :: (it, .any (SitP l t k)) :: led), q.1 < h.objs.size := fun q hq => (M.cells q hq).lt
  refine ⟨fun b o' e => hkp b o' (fun z => ?_) (fun z => ?_) (M.old b o' e), fun q hq => ?_, fun q hq => ?_, ?_⟩
  · have := M.new (a, .obj (enu it k .none old)) (by simp); rw [← z, e] at this; cases this
  · have := M.new (it, .any (SitP l t k)) (by simp); rw [← z, e] at this; cases this
  · simp only [List.map_cons, List.nodup_cons, List.mem_cons, List.mem_map, not_or] at nd
    simp only [List.mem_cons] at hq
    rcases hq with rfl | rfl | rfl | rfl | hq
    · exact (M.cells q (by simp)).ext fun o' e => hkp q.1 o' nd.1.1 nd.1.2.1 e
    · exact hE
    · obtain ⟨o2, h2, h3, h4⟩ := hS; exact ⟨o2, h2, h3, by simpa using h4⟩
    · exact hT
    · refine (M.cells q (by simp [hq])).ext fun o' e => hkp q.1 o' (fun z => ?_) (fun z => ?_) e
      · exact nd.2.1.2 ⟨q, hq, z⟩
      · exact nd.2.2.1 ⟨q, hq, z⟩
  · simp only [List.mem_cons] at hq
    rcases hq with rfl | rfl | rfl | rfl | hq
    · exact M.new q (by simp)
    · exact M.new (a, .obj (enu it k .none old)) (by simp)
    · exact M.new (it, .any (SitP l t k)) (by simp)
    · exact M.fresh
    · exact M.new q (by simp [hq])
  · have hl1 := lt p (by simp)
    have hl2 := lt (a, .obj (enu it k .none old)) (by simp)
    have hl3 := lt (it, .any (SitP l t k)) (by simp)
    simp only [List.map_cons, List.nodup_cons, List.mem_cons, List.mem_map, not_or] at nd ⊢
    refine ⟨⟨nd.1.1, nd.1.2.1, Nat.ne_of_lt hl1, nd.1.2.2⟩, ⟨nd.2.1.1, Nat.ne_of_lt hl2, nd.2.1.2⟩, ⟨Nat.ne_of_lt hl3, nd.2.2.1⟩, fun ⟨q, hq, z⟩ => ?_, nd.2.2.2⟩
    have := lt q (by simp [hq])
    rw [z] at this; exact Nat.lt_irrefl _ this
theorem goE {Q : Unit → Shared → Prop} {elts : List Expr} {x1} {pos : Pos} {p : Addr × Cell} {it T : Addr} {k : Int} {old : Value} (M : Mm h₀ h (p :: (a, .obj (enu it k (rawInt T) old)) :: led))
    (hq : ∀ h', Mm h₀ h' (p :: (a, .obj (enu it k .none old)) :: led) → Q () ⟨h', g, d, tk, os⟩) :
    wpAny (model prog w) A (letOwnedTupleGo (.Tuple elts x1 pos) (.ref a) (.ref T)) Q E ⟨h, g, d, tk, os⟩ :=
  wpAny_letOwnedTupleGo_enum (M.get 1 .n1) fun h' he hs => hq h' (M.changeB 1 .n1 hs he)
theorem nextEE {Q : Option Value → Shared → Prop} {p : Addr × Cell} {it : Addr} {k : Nat} {l : List Nat} {old : Value} (M : Mm h₀ h (p :: (a, .obj (enu it k .none old)) :: (it, .any (SitP l t k)) :: led)) (hx : k = l.length) (hh : A.handled = none)
    (hq : ∀ h', Mm h₀ h' (p :: led) → Q none ⟨h', g, d, tk, os⟩) : wpAny (model prog w) A (pyNext (.ref a)) Q E ⟨h, g, d, tk, os⟩ := by
  obtain ⟨o, ho, hc, hd⟩ := M.at 2 .n2
  subst hx
  have e : (S l).cps.size = l.length := by simp [S]
  refine wpAny_pyNext_enum_endD (i := (l.length : Int)) (Draws.strAscii (A := A.in1) hh it (S l) t) (M.get 1 .n1) (by rw [e]; exact ⟨o, ho, hc, hd⟩) fun h' k => hq h' ?_
  exact (M.extB 2 .n2 k).erase 1
end
end Mine
end
section
open PySem PySem.Calls PySem.W PyProof.Rows PySem.Builtin PySem.Builtin.Str PySem.W.X
namespace Mine
noncomputable abbrev Item := Nat × List Nat
noncomputable abbrev MP (w : World) : Model := model PySem.Challenge.rw_pe0225_01.row.prog w
noncomputable abbrev genO (gi : Nat) (nm qn : Value) : Obj := { cls := .type "generator", dict := none, data := .fields #[.int gi 0, nm, qn], slots := #[] }
noncomputable def GoX (M : Model) (A : Around) (gs : GenState) (s : Shared) (P : End → Shared → Prop) : Prop := match gs with
  | .fresh c => SegX M A c (M.den c) [] s P
  | .suspended k _ c _ fs _ => SegX M A c (k (.send .none)) fs s P
  | _ => False
noncomputable def GenL (w : World) (A : Around) : List Item → GenState → Led → Prop
  | [], gs, cs => ∀ (h₀ : Heap) (mg mb : Str → Option Value) (h : Heap) (g : Array GenState) (d : Drawn) (tk : Nat) (os : OsState), Gd w h₀ mg mb → Mm h₀ h cs →
      GoX (MP w) A gs ⟨h, g, d, tk, os⟩ (fun e s' => e = .ret (.ok (.ret .none)) ∧ ∃ h' tk', s' = ⟨h', g, d, tk', os⟩ ∧ Mm h₀ h' [])
  | x :: r, gs, cs => ∀ (h₀ : Heap) (mg mb : Str → Option Value) (h : Heap) (g : Array GenState) (d : Drawn) (tk : Nat) (os : OsState), Gd w h₀ mg mb → Mm h₀ h cs →
      GoX (MP w) A gs ⟨h, g, d, tk, os⟩ (fun e s' => ∃ a t1 t2 cs' h' tk', s' = ⟨h', g, d, tk', os⟩ ∧ e.result = .yielded (.ref a) ∧ Mm h₀ h' ((a, .obj (tup [.int x.1 t1, .str (S x.2) t2])) :: cs') ∧ GenL w A r e.genState cs')
noncomputable def PG (w : World) (A : Around) (h₀ : Heap) (g : Array GenState) (d : Drawn) (os : OsState) : List Item → End → Shared → Prop
  | [] => fun e s' => e = .ret (.ok (.ret .none)) ∧ ∃ h' tk', s' = ⟨h', g, d, tk', os⟩ ∧ Mm h₀ h' []
  | x :: r => fun e s' => ∃ a t1 t2 cs' h' tk', s' = ⟨h', g, d, tk', os⟩ ∧ e.result = .yielded (.ref a) ∧ Mm h₀ h' ((a, .obj (tup [.int x.1 t1, .str (S x.2) t2])) :: cs') ∧ GenL w A r e.genState cs'
theorem GenL.of {w : World} {A : Around} {its : List Item} {gs : GenState} {cs : Led}
    (H : ∀ (h₀ : Heap) (mg mb : Str → Option Value) (h : Heap) (g : Array GenState) (d : Drawn) (tk : Nat) (os : OsState), Gd w h₀ mg mb → Mm h₀ h cs → GoX (MP w) A gs ⟨h, g, d, tk, os⟩ (PG w A h₀ g d os its)) : GenL w A its gs cs := by
  cases its with
  | nil => exact H
  | cons x r => exact H
theorem GenL.go {w : World} {A : Around} {its : List Item} {gs : GenState} {cs : Led} (H : GenL w A its gs cs)
    {h₀ : Heap} {mg mb : Str → Option Value} {h : Heap} {g : Array GenState} {d : Drawn} {tk : Nat} {os : OsState} (G : Gd w h₀ mg mb) (M : Mm h₀ h cs) : GoX (MP w) A gs ⟨h, g, d, tk, os⟩ (PG w A h₀ g d os its) := by
  cases its with
  | nil => exact H _ _ _ _ _ _ _ _ G M
  | cons x r => exact H _ _ _ _ _ _ _ _ G M
theorem SegX.quiet {M : Model} {A : Around} {c : Code} {t : Sem Fin} {fs : List Frame} {s : Shared} {P : End → Shared → Prop} (x : SegX M A c t fs s P) : SegX M A c t fs s (fun e s' => e.quiet = true ∧ P e s') := fun Γ p hc hΓ => by
  obtain ⟨e, s', hr, hq, hp⟩ := x Γ p hc hΓ
  exact ⟨e, s', hr, hq, hq, hp⟩
section
variable {prog : Program} {w : World} {A : Around} {E : Value → Shared → Prop}
theorem resumeX {α : Type} {Q : α → Shared → Prop} {s : Shared} {g : Nat} {gs : GenState} {l : List Value} {k : GenResult → Sem α} (hg : s.gens[g]? = some gs)
    (hgo : GoX (model prog w) A gs (s.setGen g .running) (fun e s₁ => e.quiet = true → wpAny (model prog w) A (k e.result) Q E (s₁.setGen g e.genState))) : wpAny (model prog w) A (.resume g (.send .none) l k) Q E s := by
  intro Γ p hΓ
  cases gs with
  | fresh c =>
    exact wake_any α prog w hg (.inl ⟨rfl, rfl, rfl, rfl⟩) (fun Γ => Γ.In A) (fun _ h => h) ((SegX.quiet hgo).mono fun e s₁ h Γ p hC => h.2 h.1 Γ p hC) Γ p hΓ
  | suspended k₀ l₀ c₀ p₀ fs₀ cl =>
    exact wake_any α prog w hg (.inr ⟨k₀, l₀, p₀, cl, rfl, rfl⟩) (fun Γ => Γ.In A) (fun _ h => h) ((SegX.quiet hgo).mono fun e s₁ h Γ p hC => h.2 h.1 Γ p hC) Γ p hΓ
  | running => exact hgo.elim
  | finished => exact hgo.elim
end
section
variable {w : World} {A : Around} {E : Value → Shared → Prop} {h₀ h : Heap} {g : Array GenState} {d : Drawn} {tk : Nat} {os : OsState} {cs led : Led} {mg mb : Str → Option Value} {Q : Option Value → Shared → Prop} {ga : Addr} {gi i : Nat} {nm qn : Value} {gs : GenState}
theorem GoX.mono {M : Model} {A : Around} {gs : GenState} {s : Shared} {P P' : End → Shared → Prop} (x : GoX M A gs s P) (h : ∀ e s', P e s' → P' e s') : GoX M A gs s P' := by
  cases gs with
  | fresh c => exact SegX.mono x h
  | suspended k₀ l₀ c₀ p₀ fs₀ cl => exact SegX.mono x h
  | running => exact x.elim
  | finished => exact x.elim
/-- the next item of a generator of ours -/
theorem nextG {its : List Item} (G : Gd w h₀ mg mb) (M : Mm h₀ h (cs ++ led)) (e : At led i (ga, .obj (genO gi nm qn))) (hgs : g[gi]? = some gs) (R : Rm A 3) (H : GenL w A.in1 its gs cs)
    (hq : match its with
      | [] => ∀ h' tk', Mm h₀ h' led → Q none ⟨h', g.setIfInBounds gi .finished, d, tk', os⟩
      | x :: r => ∀ a t1 t2 cs' h' tk' gs', Mm h₀ h' (((a, .obj (tup [.int x.1 t1, .str (S x.2) t2])) :: cs') ++ led) → GenL w A.in1 r gs' cs' → gs'.bare = true → Q (some (.ref a)) ⟨h', g.setIfInBounds gi gs', d, tk', os⟩) :
    wpAny (MP w) A (pyNext (.ref ga)) Q E ⟨h, g, d, tk, os⟩ := by
  have hgo : h.get? ga = some (genO gi nm qn) := (M.cells _ (List.mem_append_right _ (List.mem_of_getElem? e.get)))
  have hT : (⟨h, g, d, tk, os⟩ : Shared).TypeIs (.ref ga) "generator" := ⟨_, hgo, rfl⟩
  have hG : Heap.IsGen h ga gi := ⟨_, nm, qn, hgo, rfl, rfl, rfl⟩
  unfold pyNext
  refine wpAny_bind (wpAny_attempt (wpAny_callSpecial?_slot (name := Str.ofString "__next__") hT slot_gen_next
    (wpAny_call_entry slot_gen_next hT entry_gen_next ?_ (args_gen_next _))))
  show wpAny _ A.in1 (Builtin.Generator.genWake (.ref ga) (.send .none)) _ _ _
  unfold Builtin.Generator.genWake
  refine wpAny_bind (wpAny_holding (wpAny_genNumber hG (wpAny_bind (wpAny_genState hgs ?_))))
  have hgx := H.go (tk := tk) (os := os) (d := d) (g := g.setIfInBounds gi .running) (G.rebase M) M.rebase
  have hset : ∀ y, (g.setIfInBounds gi GenState.running).setIfInBounds gi y = g.setIfInBounds gi y := fun y => by
    apply Array.ext_getElem?
    intro j
    simp only [Array.getElem?_setIfInBounds]
    by_cases q : gi = j <;> simp [q]
  cases gs with
  | running => exact hgx.elim
  | finished => exact hgx.elim
  | _ =>
    refine wpAny_bind (wpAny_roomToWake (G.lim.keeps M.old) R.d ?_)
    show wpAny _ A.in1 (.resume gi (.send .none) [] _) _ _ _
    refine resumeX hgs (GoX.mono hgx fun e s₁ hP hqt => ?_)
    cases its with
    | nil =>
      obtain ⟨rfl, h', tk', rfl, N⟩ := hP
      show wpAny _ _ (newExc (.type "StopIteration") [] >>= _) _ _ _
      refine wpAny_bind ?_
      simp only [newExc, newTuple]
      refine wpAny_bind (wpAny_newObj_type ?_ (by size_fits))
      refine wpAny_bind (m := firstArgMember _ _) (wpAny_of_eq (a := Value.none) (by first | rfl | (simp only [firstArgMember]; rfl)) ?_)
      refine wpAny_newObj_type ?_ (by size_fits)
      simp only [raiseNew]
      refine wpAny_bind (wpAny_bind (wpAny_handled ?_))
      first | rw [show A.in1.handled = none from R.handled] | rw [R.handled]
      refine wpAny_throw ?_
      refine wpAny_bind (wpAny_isInstance (T := "StopIteration") (b := true) ⟨_, Heap.get?_push_size _ rfl, rfl⟩ isSubtype_stop ?_)
      refine wpAny_pure ?_
      simp only [Shared.setGen, hset, End.genState]
      exact hq _ _ ((M.unbase N).ext fun b o hb => Heap.get?_push_of_some _ (Heap.get?_push_of_some _ hb))
    | cons x r =>
      obtain ⟨a, t1, t2, cs', h', tk', rfl, he, N, H'⟩ := hP
      rw [he]
      refine wpAny_pure ⟨_, rfl, wpAny_pure ?_⟩
      simp only [Shared.setGen, hset]
      exact hq a t1 t2 cs' h' tk' _ (M.unbase N) H' (End.bare_of_quiet hqt)
/-- the owned-tuple look of a for over a generator -/
theorem goG {Q : Unit → Shared → Prop} {elts : List Expr} {x1} {pos : Pos} {T : Addr} (M : Mm h₀ h led) (e : At led i (ga, .obj (genO gi nm qn))) (hq : Q () ⟨h, g, d, tk, os⟩) :
    wpAny (MP w) A (letOwnedTupleGo (.Tuple elts x1 pos) (.ref ga) (.ref T)) Q E ⟨h, g, d, tk, os⟩ := by
  unfold letOwnedTupleGo
  refine wpAny_bind (wpAny_load (M.get i e) ?_)
  exact wpAny_pure hq
theorem iterG {Q : Value → Shared → Prop} (M : Mm h₀ h led) (e : At led i (ga, .obj (genO gi nm qn))) (hq : Q (.ref ga) ⟨h, g, d, tk, os⟩) : wpAny (MP w) A (pyIter (.ref ga)) Q E ⟨h, g, d, tk, os⟩ :=
  wpAny_pyIter_gen (g := gi) ⟨_, nm, qn, M.get i e, rfl, rfl, rfl⟩ hq
theorem callG {R : Result → Shared → Prop} {a : Addr} {oc : Value} {od : Option Addr} {osl : Array (Option Value)} {name qual : Str} {params : Arguments} {body : List Stmt} {scope : Scope} {dV kV doc pm cdv ct : Value} {an : Option Addr}
    {args : Args} (ps rest : List Str) (vals : List Value)
    (G : Gd w h₀ mg mb) (M : Mm h₀ h led) (hroom : A.depth < recursionLimit)
    (ho : (Mine.hd.heap_1 w.params).lookup a = some ⟨oc, od, .func ⟨name, qual, params, .stmts body, scope, mainGlobals, [], dV, kV, doc, pm, an, cdv, ct, builtinsNs⟩, osl⟩) (hcd : codeIn (Mine.hd.heap_1 w.params) cdv qual = true)
    (hbind : BindsTo ⟨h, g, d, tk, os⟩ ⟨name, qual, params, .stmts body, scope, mainGlobals, [], dV, kV, doc, pm, an, cdv, ct, builtinsNs⟩ args (ps.zip vals))
    (hcell : ∀ x ∈ scope.names, x.2 ≠ .cell) (hloc : ((ps.zip vals).all fun x => decide (scope.names.lookup x.1 = some .local)) = true)
    (hnd : (ps ++ rest).Nodup) (hlen : vals.length = ps.length)
    (hco : scope.isCoroutine = false) (hgen : scope.isGenerator = true) (hk : scope.kind = .function)
    (hq : ∀ L ga h' tk' nm qn, Mm h₀ h' ((ga, .obj (genO g.size nm qn)) :: (L, .ns (ps ++ rest) (vals.map some ++ rest.map fun _ => none)) :: led) →
      R (.ok (.ret (.ref ga))) ⟨h', g.push (.fresh (.func body (envX qual scope L a cdv []))), d, tk', os⟩) :
    codeAny (MP w) A (.call (.ref a) args) R ⟨h, g, d, tk, os⟩ := by
  have X := G.K.keeps M.old
  refine codeAny_call_generator (body := body) hroom (X _ _ ho) rfl hco hgen rfl (codeRec_of X hcd) ?_
  refine hbind _ _ _ _ ?_
  refine wpAny_newFunctionEnv hcell (locs hloc) (fun h1 hns hsb => ⟨(G.lim.keeps M.old).fresh _ hsb, ?_⟩) hk
  have hk1 : ∀ b o, h.get? b = some o → h1.get? b = some o := fun b o e => hsb.extBut b o (Nat.ne_of_lt (Heap.lt_size e)) (Heap.get?_push_of_some _ e)
  have e1 : (fun x => (ps.zip vals).reverse.lookup x) = lz (ps ++ rest) (vals.map some ++ rest.map fun _ => none) := funext fun x => by
    rw [lz_zip x hlen, lookup_rev x (List.nodup_append.mp hnd).1 hlen]
  have M1 : Mm h₀ h1 ((h.objs.size, .ns (ps ++ rest) (vals.map some ++ rest.map fun _ => none)) :: led) := M.add hk1 ⟨hnd, by simp [hlen], e1 ▸ hns⟩
  exact hq _ _ _ _ _ _ (M1.push _)
end
end Mine
end
section
open PySem PySem.Calls PySem.W PyProof.Rows PySem.Builtin PySem.Builtin.Str PySem.W.X
namespace Mine
noncomputable def jn (sep : List Nat) : List (List Nat) → List Nat
  | [] => []
  | x :: r => x ++ (r.map (sep ++ ·)).flatten
theorem glued_S (sep : List Nat) (xs : List (List Nat)) : glued (S sep) (xs.map S) = S (jn sep xs) := by
  cases xs with
  | nil => rfl
  | cons x r =>
    apply S_of
    show ((r.map S).foldl (fun acc p => acc ++ (S sep).cps ++ p.cps) (S x).cps).toList = _
    have : ∀ (r : List (List Nat)) (acc : Array Nat), ((r.map S).foldl (fun acc p => acc ++ (S sep).cps ++ p.cps) acc).toList = acc.toList ++ (r.map (sep ++ ·)).flatten := by
      intro r
      induction r with
      | nil => intro acc; simp
      | cons y r ih => intro acc; rw [List.map_cons, List.foldl_cons, ih]; simp [S_list]
    rw [this]
    simp [jn, S_list]
theorem foldl_len (sep : Str) : ∀ (xs : List Str) (n : Nat), xs.foldl (fun a p => a + p.length + sep.length) n = n + (xs.map fun p => p.length + sep.length).sum
  | [], n => by simp
  | x :: r, n => by rw [List.foldl_cons, foldl_len sep r, List.map_cons, List.sum_cons]; omega
section
variable {prog : Program} {w : World} {A : Around} {E : Value → Shared → Prop} {h₀ h : Heap} {g : Array GenState} {d : Drawn} {tk : Nat} {os : OsState} {led : Led} {Q : Value → Shared → Prop} {a : Addr} {vs : List Value} {n i : Nat} {t : Tok} {sep : List Nat} {xs : List (List Nat)}
theorem joinM (M : Mm h₀ h led) (e : At led i (a, .obj (lo vs n))) (hs : Strs vs xs) (hz : (xs.map fun p => p.length + sep.length).sum ≤ sizeLine)
    (hq : ∀ t' k', Q (.str (S (jn sep xs)) t') ⟨h, g, d, k', os⟩) : wpAny (model prog w) A (call (.builtin "str.join") [.str (S sep) t, .ref a]) Q E ⟨h, g, d, tk, os⟩ := by
  obtain ⟨ts, rfl, rfl⟩ := hs
  have hl : h.IsList a (strValues (ts.map fun p => (S p.1, p.2))).toArray := by rw [← sv_strValues]; exact ⟨_, M.get i e, rfl, n, rfl⟩
  refine call_meets F.slot_str_join (typeIs_str _ _ _) F.entry_str_join (F.args_str_join_2 _ _) (meets_str_join_list (S sep) t a (ts.map fun p => (S p.1, p.2)) ?_) ⟨hl, ?_⟩
  · rw [List.foldl_toArray, foldl_len]
    unfold Builtin.Str.tooLong
    simp only [List.map_map, Nat.zero_add, decide_eq_false_iff_not, Nat.not_lt] at hz ⊢
    refine Nat.le_trans (Nat.le_of_eq ?_) hz
    congr 1
  · have key : glued (S sep) (ts.map fun p => S p.1) = S (jn sep (ts.map (·.1))) := by rw [← glued_S, List.map_map]; rfl
    have len : (S (jn sep (ts.map (·.1)))).length ≤ sizeLine := by
      rw [S_len]
      refine Nat.le_trans ?_ hz
      have : ∀ (r : List (List Nat)), ((r.map (sep ++ ·)).flatten).length = (r.map fun p => p.length + sep.length).sum := by
        intro r; induction r with
        | nil => rfl
        | cons y r ih => simp [ih]; omega
      cases ts with
      | nil => simp [jn]
      | cons p r => simp only [List.map_cons, jn, List.length_append, this, List.sum_cons]; omega
    cases ts with
    | nil => exact ⟨by rw [show glued (S sep) (List.map (fun x => x.1) (List.map (fun p => (S p.1, p.2)) ([] : List (List Nat × Tok)))) = S (jn sep []) from key]; exact len, by
        show wants Q E _ _
        exact hq _ _⟩
    | cons p r => cases r with
      | nil =>
        have e1 : jn sep [p.1] = p.1 := by simp [jn]
        have := hq p.2 tk
        simp only [List.map_cons, List.map_nil] at this
        rw [e1] at this
        exact this
      | cons q r' =>
        have e2 : glued (S sep) ((List.map (fun p => (S p.1, p.2)) (p :: q :: r')).map (·.1)) = S (jn sep ((p :: q :: r').map (·.1))) := by rw [← key, List.map_map]; rfl
        refine ⟨e2 ▸ len, ?_⟩
        have h3 := hq tk (tk + 1)
        rw [← e2] at h3
        exact h3
end
theorem Mm.rot {h₀ h : Heap} {cs led : Led} (X : Led) (M : Mm h₀ h (cs ++ (X ++ led))) : Mm h₀ h (X ++ (cs ++ led)) := M.perm (by
  rw [← List.append_assoc, ← List.append_assoc]; exact (List.perm_append_comm).append_right _)
theorem jn_nil (xs : List (List Nat)) : jn [] xs = xs.flatten := by cases xs <;> simp [jn]
theorem joinM0 {hh0 hh1 : Heap} {ld : Led} {j m : Nat} {b : Addr} {ws : List Value} {ys : List (List Nat)} {P : Value → Shared → Prop} {u : Tok} {prog : Program} {w : World} {A : Around} {E : Value → Shared → Prop} {g : Array GenState} {d : Drawn} {tk : Nat} {os : OsState}
    (M : Mm hh0 hh1 ld) (e : At ld j (b, .obj (lo ws m))) (hs : Strs ws ys) (hz : (ys.map List.length).sum ≤ sizeLine)
    (hq : ∀ t' k', P (.str (S ys.flatten) t') ⟨hh1, g, d, k', os⟩) : wpAny (model prog w) A (call (.builtin "str.join") [.str (S []) u, .ref b]) P E ⟨hh1, g, d, tk, os⟩ :=
  joinM M e hs (by simpa using hz) fun t' k' => by rw [jn_nil]; exact hq t' k'
theorem joinZ {hh0 hh1 : Heap} {ld : Led} {j m : Nat} {b : Addr} {ws : List Value} {ys : List (List Nat)} {z : List Nat} {P : Value → Shared → Prop} {u : Tok} {prog : Program} {w : World} {A : Around} {E : Value → Shared → Prop} {g : Array GenState} {d : Drawn} {tk : Nat} {os : OsState}
    (M : Mm hh0 hh1 ld) (e : At ld j (b, .obj (lo ws m))) (hs : Strs ws ys) (hz : (ys.map List.length).sum ≤ sizeLine) (hy : ys.flatten = z)
    (hq : ∀ t' k', P (.str (S z) t') ⟨hh1, g, d, k', os⟩) : wpAny (model prog w) A (call (.builtin "str.join") [.str (S []) u, .ref b]) P E ⟨hh1, g, d, tk, os⟩ := by
  subst hy; exact joinM0 M e hs hz hq
theorem AllBare.set {g : Array GenState} (h : AllBare g) (i : Nat) {x : GenState} (hx : x.bare = true) : AllBare (g.setIfInBounds i x) := by
  intro y hy
  rcases Array.mem_or_eq_of_mem_setIfInBounds hy with q | q
  · exact h y q
  · rw [q]; exact hx
theorem AllBare.push {g : Array GenState} (h : AllBare g) {x : GenState} (hx : x.bare = true) : AllBare (g.push x) := by
  intro y hy
  rcases Array.mem_push.mp hy with q | q
  · exact h y q
  · rw [q]; exact hx
theorem forIA {prog : Program} {w : World} {A : Around} {E : Value → Shared → Prop} {Q : Flow → Shared → Prop} {target : Expr} {it : Value} {body orelse : List Stmt} {env : Env} {s : Shared} (I : Around → Nat → Shared → Prop)
    (turn : ∀ n s E', I A n s → wpAny (model prog w) A (pyNext it) (fun r s₁ => match r with
      | none => wpAny (model prog w) A (execs orelse env) Q E' s₁
      | some v => wpAny (model prog w) A (letOwnedTupleGo target it v) (fun _ s₁' =>
          wpAny (model prog w) A (assign target env v) (fun _ s₂ => wpAny (model prog w) A (execs body env) (fun f s₃ => match f with
            | .next | .cont => Again (I A) n s₃
            | .brk => Q .next s₃
            | .ret v => Q (.ret v) s₃) E' s₂) E' s₁') E' s₁) E' s)
    (n : Nat) (h : I A n s) : codeAny (model prog w) A (.forLoop target it body orelse env) (fun r s' => match r with | .ok f => Q f s' | .error e => cameBackBy (model prog w) A env E e s') s := forI (I A) turn n h
theorem ldn {prog : Program} {w : World} {A : Around} {E : Value → Shared → Prop} {h₀ h : Heap} {g : Array GenState} {d : Drawn} {tk : Nat} {os : OsState} {led : Led} {env : Env} {x : Str} {v : Value} {ns : List Str} {vs : List (Option Value)} {Q : Value → Shared → Prop} {i j : Nat} (M : Mm h₀ h led) (ei : At led i (env.locals, .ns ns vs)) (ej : At ns j x) (ev : At vs j (some v))
    (hq : Q v ⟨h, g, d, tk, os⟩) (hk : env.scope.kind = .function := by rfl) (hl : env.kindOf x = some .local := by kernel_rfl) :
    wpAny (model prog w) A (loadName env x) Q E ⟨h, g, d, tk, os⟩ := by
  have c := M.at i ei
  exact wpAny_loadName_local hk hl c.2.2 (lz_get c.1 ej.get ev.get) hq
end Mine
end
open PySem PySem.Calls PySem.W PyProof.Rows PySem.Builtin PySem.Builtin.Str PySem.W.X PySem.Builtin.ObjectAttr
namespace Mine
local macro_rules | `(tactic| walk_at "iM") => `(tactic| (intro hN tN mM; dsimp only [List.set] at mM))
local macro_rules | `(tactic| walk_at "ihM") => `(tactic| (intro hN mM; dsimp only [List.set] at mM))
local macro_rules | `(tactic| walk_at "itk") => `(tactic| intro tN kN)
local macro_rules | `(tactic| walk_at "iaM") => `(tactic| intro aN hN mM)
local macro_rules | `(tactic| walk_at "iSl") => `(tactic| intro hN tN kN mM)
local macro_rules | `(tactic| walk_at "iRg") => `(tactic| intro cN hN kN t1N t2N t3N mM)
local macro_rules | `(tactic| walk_at "ikT") => `(tactic| intro kT)
set_option hygiene false
local macro_rules | `(tactic| walk_at "entered") => `(tactic| ((case ho | hcd => k_is); (case hbind => first | exact BindsTo.of_eq rfl | exact binds_K (Frag.In.keeps (Gd.K (by assumption)) (Mm.old (by assumption))) rfl (by k_is) rfl rfl rfl); (case hcell | nd => decide); (case hloc | hlen | c1 | c2 | c3 => rfl)))
local macro_rules | `(tactic| walk_at "fill") => `(tactic| (have hfill : (Mine.hd.heap_1 _).In _ ∧ PySem.Challenge.rw_pe0225_01 = PySem.Challenge.rw_pe0225_01 := ⟨Gd.K (by assumption), rfl⟩; revert hfill; k_fill; intro hfill; clear hfill))
local macro_rules | `(tactic| walk_at "at") => `(tactic| with_reducible (first | exact At.z | exact .n1 | exact .n2 | exact .n3 | exact .n4 | exact .n5 | exact .n6 | exact .n7 | exact .n8 | exact .n9 | exact .n10 | exact .n11 | exact .n12 | exact .n13 | exact .n14 | exact .n15 | exact .n16))
local macro_rules | `(tactic| walk_at "sz") => `(tactic| first | assumption | (rw [sizeLine_eq]; first | omega | (simp only [List.length_append, List.length_cons, List.length_nil, List.length_take, List.length_drop, sv_len, iv_len, List.length_map] at *; omega)))
local macro_rules | `(tactic| walk_at "eval Name") => `(tactic| first
  | (refine ldv (by assumption) (by walk_at "at") (by walk_at "at") (by walk_at "at") ?_)
  | (refine ldb (by assumption) (by assumption) (by k_is) (by boot_by_name) (by decide) ?_)
  | (refine ldg (by assumption) (by assumption) (by k_is) ?_))
local macro_rules | `(tactic| walk_at "storeName") => `(tactic| (refine stv (by assumption) (by walk_at "at") (by walk_at "at") ?_; walk_at "iM"))
local macro_rules | `(tactic| walk_at "newList") => `(tactic| (refine newL (by assumption) (by walk_at "sz") ?_; walk_at "iaM"))
local macro_rules | `(tactic| walk_at "newTuple") => `(tactic| (refine newT (by assumption) (by walk_at "sz") ?_; walk_at "iaM"))
local macro_rules | `(tactic| walk_at "binaryOp Add str str") => `(tactic| (refine addS ?_ (by walk_at "sz"); walk_at "itk"))
local macro_rules | `(tactic| walk_at "call builtin:len") => `(tactic| ((first
  | ((with_reducible show wpAny _ _ (call _ [Value.str _ _]) _ _ _); refine lenS ?_ (by walk_at "sz"))
  | ((with_reducible show wpAny _ _ (call _ [Value.ref _]) _ _ _); refine lenL (by assumption) (by walk_at "at") (by walk_at "sz") ?_)); walk_at "itk"))
local macro_rules | `(tactic| walk_at "compareOp In str str") => `(tactic| refine in1S ?_)
local macro_rules | `(tactic| walk_at "compareOp NotIn str str") => `(tactic| refine nin1S ?_)
local macro_rules | `(tactic| walk_at "compareOp Eq str str") => `(tactic| refine eqS ?_)
local macro_rules | `(tactic| walk_at "compareOp NotEq str str") => `(tactic| refine neS ?_)
local macro_rules | `(tactic| walk_at "call builtin:str.rstrip") => `(tactic| (refine rstripS ?_ (by walk_at "sz"); walk_at "itk"))
local macro_rules | `(tactic| walk_at "call builtin:str.strip") => `(tactic| (refine stripS ?_ (by walk_at "sz"); walk_at "itk"))
local macro_rules | `(tactic| walk_at "call type:range") => `(tactic| first | (refine rng1 (by assumption) ?_; walk_at "iRg") | (refine rng2 (by assumption) ?_; walk_at "iRg"))
local macro_rules | `(tactic| walk_at "getMethod ref") => `(tactic| first | (refine gmApp (by assumption) (by walk_at "at") ?_) | (refine gmPop (by assumption) (by walk_at "at") ?_))
local macro_rules | `(tactic| walk_at "call builtin:list.append") => `(tactic| (refine appL (by assumption) (by walk_at "at") (by walk_at "sz") ?_; walk_at "ihM"))
local macro_rules | `(tactic| walk_at "eval Constant str") => `(tactic| ((first | refine cst lit_nil ?_ | refine cst lit_bs ?_ | refine cst lit_q ?_ | refine cst lit_ws ?_ | refine cst lit_sp ?_ | refine cst lit_op ?_ | refine cst lit_cl ?_ | refine cst lit_pair ?_ | refine cst lit_bad ?_ | refine cst lit_menu ?_ | refine cst lit_head ?_); walk_at "itk"))
local macro_rules | `(tactic| walk_at "callWith ref") => `(tactic| first | (refine callWith_K (Gd.K (by assumption)) (by k_is) ?_) | (refine callWith_K0 (Frag.In.keeps (Gd.K (by assumption)) (Mm.old (by assumption))) (by k_is) ?_))
local macro_rules | `(tactic| walk_at "And") => `(tactic| ((with_reducible show Frag.In _ _ ∧ _); refine ⟨Frag.In.keeps (Gd.K (by assumption)) (Mm.old (by assumption)), ?_⟩; try dsimp only [List.nil_append, List.cons_append]))
local macro_rules | `(tactic| walk_at "oa") => `(tactic| first | omega | assumption)
local macro_rules | `(tactic| walk_at "subscriptTail") => `(tactic| ((with_reducible show wpAny _ _ (subscriptTail _ (PySem.Expr.Slice _ _ _ _) (Value.str _ _) (Value.ref _)) _ _ _); (first | refine slmidS (by assumption) (by walk_at "oa") (by walk_at "oa") (by walk_at "sz") ?_ | refine slfromS (by assumption) (by walk_at "oa") (by walk_at "sz") ?_ | refine sltoS (by assumption) (by walk_at "oa") (by walk_at "sz") ?_); walk_at "iSl"))
local macro_rules | `(tactic| walk_at "loadName") => `(tactic| (refine ldn (by assumption) (by walk_at "at") (by walk_at "at") (by walk_at "at") ?_))
local macro_rules | `(tactic| walk_at "superd") => `(tactic| ((case hf => k_is); (case hp => rfl); (case hcode => k_is); (case hvs => rfl); (case ej | ev => exact .z); (case hfile | hat | hks | hkc | hka | hk | htop => rfl)))
local macro_rules | `(tactic| walk_at "hide") => `(tactic| ((try clear Qa5); (try clear Qa4); (try clear Qa3); (try clear Qa2); (try clear Qa1); refine Mine.wpAny_let ?_; first | ((fail_if_success revert Qa1); intro Qa1) | ((fail_if_success revert Qa2); intro Qa2) | ((fail_if_success revert Qa3); intro Qa3) | ((fail_if_success revert Qa4); intro Qa4) | ((fail_if_success revert Qa5); intro Qa5)))
local macro_rules | `(tactic| walk_at "execs cons") => `(tactic| ((with_reducible refine wpAny_execs_cons ?_); (try dsimp only); walk_at "hide"))
set_option hygiene true
section
noncomputable def bareP (l sg : List Nat) (k : Nat) : Bool := decide (l.getD k 0 ∈ sg) && decide (((l.take k).length - (rstripL [92] (l.take k)).length) % 2 = 0)
noncomputable def bareL (l sg : List Nat) (k : Nat) : List Nat := (List.range k).filter (bareP l sg)
theorem bareL_succ (l sg : List Nat) (k : Nat) : bareL l sg (k + 1) = bareL l sg k ++ (if bareP l sg k then [k] else []) := by
  simp [bareL, List.range_succ, List.filter_append, List.filter_cons]
theorem bareL_len (l sg : List Nat) (k : Nat) : (bareL l sg k).length ≤ k := by
  have := List.length_filter_le (bareP l sg) (List.range k); simpa [bareL] using this
set_option maxRecDepth 100000 in
set_option maxHeartbeats 8000000 in
theorem bare_spec {w : World} {A : Around} {E : Value → Shared → Prop} {h₀ h : Heap} {g : Array GenState} {d : Drawn} {tk : Nat} {os : OsState} {led : Led} {mg mb : Str → Option Value}
   {l sg : List Nat} {t u : Tok} {Q : Value → Shared → Prop} (G : Gd w h₀ mg mb) (M : Mm h₀ h led) (R : Rm A 3) (hl : l.length ≤ 1000)
   (hq : ∀ a h' tk' vs n, Ints vs ((bareL l sg l.length).map (fun (k : Nat) => (k : Int))) → Mm h₀ h' ((a, .obj (lo vs n)) :: led) → Q (.ref a) ⟨h', g, d, tk', os⟩) :
   wpAny (model PySem.Challenge.rw_pe0225_01.row.prog w) A (call (.ref 246) [.str (S l) t, .str (S sg) u]) Q E ⟨h, g, d, tk, os⟩ := by
  walk_at "fill"
  refine' wpAny_call (callE [Str.ofString "text", Str.ofString "signs"] [Str.ofString "bare", Str.ofString "place", Str.ofString "ahead"] [.str (S l) t, .str (S sg) u] G M R.d ?ho ?hcd ?hbind ?hcell ?hloc ?nd ?hlen ?c1 ?c2 ?c3 ?_)
  walk_at "entered"
  intro L h' tk' E' M'
  have R1 : A.handled = none := R.handled
  dsimp only [List.map, List.cons_append, List.nil_append] at M'
  iterate 5 walk1
  rename_i a h1 M1
  iterate 2 walk1
  refine wpAny_For ?_
  iterate 13 walk1
  rename_i r h2 k2 t1 t2 t3 M2
  refine iterR1 (n := (l.length : Int) - ((0 : Nat) : Int)) M2 (by walk_at "at") (small_one (by omega) (by omega) (by omega) (by omega)) (by split <;> omega) ?_
  intro it h3 M3
  let Pv1 : Nat → Shared → Nat → Heap → Nat → (List Value) → Nat → (Option Value) → (Option Value) → Prop := fun n s k h4 tk4 vs nn pv av => Am5 (n = l.length - k) (k ≤ l.length) (s = ⟨h4, g, d, tk4, os⟩) (Ints vs ((bareL l sg k).map (fun (k : Nat) => (k : Int)))) (Mm h₀ h4 ((L, .ns [Str.ofString "text", Str.ofString "signs", Str.ofString "bare", Str.ofString "place", Str.ofString "ahead"] [some (.str (S l) t), some (.str (S sg) u), some (.ref a), pv, av]) :: (it, .obj (riter k ((l.length : Int) - k) 1)) :: (r, .obj (rng 0 l.length 1 t1 t2 t3)) :: (a, .obj (lo vs nn)) :: led))
  let Iv1 : Nat → Shared → Prop := fun n s => Ex7 (Pv1 n s)
  refine forN Iv1 ?turn l.length ?start
  case start =>
    refine ⟨0, _, _, [], 0, none, none, rfl, Nat.zero_le _, rfl, .nil, ?_⟩
    exact M3
  case turn =>
    intro n s E2 hI0
    walk_at "hide"
    obtain ⟨k, h4, tk4, vs, nn, pv, av, rfl, hk, rfl, hit, M4⟩ := hI0
    have hlen := hit.len
    have hlen2 := bareL_len l sg k
    rw [List.length_map] at hlen
    by_cases hlt : k < l.length
    · refine nextR1 M4 (by walk_at "at") hlt ?_
      intro h5 t5 k5 M5
      dsimp only [List.set] at M5 ⊢
      iterate 10 walk1
      rename_i h6 tk6 M6
      refine sltoS M6 hk (by walk_at "sz") ?_
      intro h7 t7 k7 M7
      have hc : l[k]? = some (l.getD k 0) := by rw [List.getD_eq_getElem?_getD]; simp [hlt]
      have hr := rstripL_len [92] (l.take k)
      have ht : (l.take k).length ≤ 1000 := by rw [List.length_take]; omega
      iterate 8 walk1
      refine itemS hc ?_ (by walk_at "sz")
      intro t8 k8
      have key : ((((l.take k).length : Int) - ((rstripL [92] (l.take k)).length : Int)).fmod 2 = 0) ↔ (((l.take k).length - (rstripL [92] (l.take k)).length) % 2 = 0) := by
        rw [Int.fmod_eq_emod_of_nonneg _ (by omega)]; omega
      repeat' walk1
      all_goals (rename Mm _ _ _ => M9; refine ⟨l.length - (k + 1), dec_lt (by assumption), k + 1, _, _, _, _, _, _, rfl, hlt, rfl, ?_, M9⟩; rw [bareL_succ])
      all_goals simp_all [bareP, Ints.snoc]
    · refine nextRE M4 (by walk_at "at") (by omega) R1 ?_
      intro h5 M5
      dsimp only [List.eraseIdx] at M5 ⊢
      have : k = l.length := by omega
      subst this
      iterate 4 walk1
      refine hq _ _ _ _ nn hit ?_
      exact M5.sub (.cons _ (.cons _ (.refl _)))
end
section
noncomputable def esc : Nat → Bool → List Nat → List Item
  | k, e, [] => if e then [(k - 1, [92])] else []
  | k, true, c :: r => (k, [92, c]) :: esc (k + 1) false r
  | k, false, c :: r => if c = 92 then esc (k + 1) true r else (k, [c]) :: esc (k + 1) false r
theorem sx_loop {prog : Program} {w : World} {A : Around} {fs : List Frame} {env : Env} {target : Expr} {it : Value} {body orelse : List Stmt} (I : Nat → Shared → (End → Shared → Prop) → Prop)
    (turn : ∀ n s P, (∀ m s' P', m < n → I m s' P' → SegX (model prog w) A (.forLoop target it body orelse env) ((model prog w).den (.forLoop target it body orelse env)) fs s' P') → I n s P →
      ∀ E', wpAny (model prog w) (A.over (.forLoop target it body orelse env) fs) (pyNext it) (fun r s₁ => match r with
      | none => SegX (model prog w) A (.block orelse env) ((model prog w).den (.block orelse env)) fs s₁ P
      | some v => wpAny (model prog w) (A.over (.forLoop target it body orelse env) fs) (letOwnedTupleGo target it v) (fun _ s₂ =>
          wpAny (model prog w) (A.over (.forLoop target it body orelse env) fs) (assign target env v) (fun _ s₃ =>
            SegX (model prog w) A (.forLoop target it body orelse env) ((execs body env).wrap (forK (.forLoop target it body orelse env)) (forH env) id id) fs s₃ P) E' s₂) E' s₁) E' s)
    (n : Nat) {s : Shared} {P : End → Shared → Prop} (h : I n s P) : SegX (model prog w) A (.forLoop target it body orelse env) ((model prog w).den (.forLoop target it body orelse env)) fs s P := by
  induction n using Nat.strongRecOn generalizing s P with
  | ind n ih => exact sx_forLoop (turn n s P (fun m s' P' hm hI => ih m hm hI) h)
set_option maxRecDepth 100000 in
set_option maxHeartbeats 8000000 in
theorem gen_spec {w : World} {A : Around} {E : Value → Shared → Prop} {h₀ h : Heap} {g : Array GenState} {d : Drawn} {tk : Nat} {os : OsState} {led : Led} {mg mb : Str → Option Value}
   {l : List Nat} {t : Tok} {Q : Value → Shared → Prop} (G : Gd w h₀ mg mb) (M : Mm h₀ h led) (R : Rm A 3) (hl : l.length ≤ 1000) (ha : Asc l)
   (hq : ∀ ga h' tk' nm qn gs cs, Mm h₀ h' (cs ++ ((ga, .obj (genO g.size nm qn)) :: led)) → gs.bare = true → (∀ A', Rm A' 3 → GenL w A' (esc 0 false l) gs cs) → Q (.ref ga) ⟨h', g.push gs, d, tk', os⟩) :
   wpAny (MP w) A (call (.ref 45) [.str (S l) t]) Q E ⟨h, g, d, tk, os⟩ := by
  walk_at "fill"
  refine' wpAny_call (callG [Str.ofString "addr"] [Str.ofString "pos", Str.ofString "escape", Str.ofString "ch"] [.str (S l) t] G M R.d ?ho ?hcd ?hbind ?hcell ?hloc ?nd ?hlen ?c1 ?c2 ?c3 ?_)
  walk_at "entered"
  intro L ga h' tk' nm qn M'
  dsimp only [List.map, List.cons_append, List.nil_append] at M'
  refine hq ga h' tk' nm qn _ [(L, .ns [Str.ofString "addr", Str.ofString "pos", Str.ofString "escape", Str.ofString "ch"] [some (.str (S l) t), none, none, none])] (M'.perm (List.Perm.swap _ _ _)) rfl ?_
  intro A' R'
  refine GenL.of fun h₀ mg mb h g d tk os G M => ?_
  refine sx_func (sx_cons (sx_plain fun E' => ?_))
  have hh : A'.handled = none := R'.handled
  repeat walk1
  refine sx_cons (sx_plain fun E' => ?_)
  repeat walk1
  refine sx_cons (sx_For fun E' => ?_)
  repeat walk1
  rename_i h4 tk4 M4
  refine enumM M4 ha ?_
  intro en it h5 M5
  refine iterE M5 (by walk_at "at") ?_
  intro p k hk
  let Pv1 : Nat → Shared → ((End → Shared → Prop)) → Nat → Bool → Tok → (Option Value) → Value → Heap → Heap → (Array GenState) → Drawn → Nat → OsState → (Str → Option Value) → (Str → Option Value) → Prop := fun n s P kk e pt cv ov h₀ h6 g d tk6 os mg mb => Am6 (n = l.length - kk) (kk ≤ l.length) (Gd w h₀ mg mb) (s = ⟨h6, g, d, tk6, os⟩) (P = PG w A' h₀ g d os (esc kk e (l.drop kk))) (Mm h₀ h6 [(L, .ns [Str.ofString "addr", Str.ofString "pos", Str.ofString "escape", Str.ofString "ch"] [some (.str (S l) t), some (.int ((kk - 1 : Nat) : Int) pt), some (.bool e), cv]), (en, .obj (enu it kk .none ov)), (it, .any (SitP l t kk))])
  let Iv1 : Nat → Shared → (End → Shared → Prop) → Prop := fun n s P => Ex13 (Pv1 n s P)
  refine sx_loop Iv1 ?turn l.length ?start
  case start => exact ⟨0, false, _, none, _, h₀, h5, g, d, _, os, mg, mb, rfl, Nat.zero_le _, G, rfl, rfl, M5⟩
  case turn =>
    clear G M M5 M4
    rintro n s P IH ⟨kk, e, pt, cv, ov, h₀, h6, g, d, tk6, os, mg, mb, rfl, hkk, G, rfl, rfl, M6⟩ E2
    have hh2 : A'.handled = none := hh
    by_cases hlt : kk < l.length
    · obtain ⟨ch, hc⟩ : ∃ c, l[kk]? = some c := ⟨_, List.getElem?_eq_getElem hlt⟩
      rw [show l.drop kk = ch :: l.drop (kk + 1) from by rw [List.drop_eq_getElem_cons hlt, (List.getElem?_eq_some_iff.mp hc).2]]
      refine nextE M6 hc hh2 ?_
      intro T h7 tk7 t1 t2 M7
      try dsimp only
      refine goE M7 ?_
      intro h8 M8
      refine unpM M8 (by walk_at "at") hh2 ?_
      intro h9 M9
      repeat walk1
      rename_i h10 tk10 M10
      refine sx_cons (sx_If fun E3 => ?_)
      cases e with
      | true =>
        repeat walk1
        refine sx_cons (sx_Yield rfl rfl rfl fun E4 => ?_)
        repeat walk1
        rename_i a11 h11 M11 lv kx px hx
        refine ⟨a11, _, _, [_, _, _], _, _, rfl, rfl, (M11.sub (.cons₂ _ (.cons₂ _ (.cons₂ _ (.cons₂ _ (.cons _ .slnil)))))).perm (List.Perm.swap _ _ _), ?_⟩
        refine GenL.of fun h₀ mg mb h g d tk os G M => ?_
        refine hx _ _ (sx_cons (sx_plain fun E5 => ?_))
        repeat walk1
        rename_i h12 tk12 M12
        refine s_again _ _ _ _ _ _ _ _ rfl (IH (l.length - (kk + 1)) _ _ (by omega) ?_)
        exact ⟨kk + 1, false, _, _, _, h₀, h12, g, d, _, os, mg, mb, rfl, hlt, G, rfl, rfl, M12⟩
      | false =>
        repeat walk1
        refine sx_cons (sx_If fun E4 => ?_)
        repeat' walk1
        · rename_i he
          have he : ch = 92 := by simpa using he
          refine sx_cons (sx_plain fun E5 => ?_)
          repeat walk1
          rename_i h12 tk12 M12
          refine s_again _ _ _ _ _ _ _ _ rfl (IH (l.length - (kk + 1)) _ _ (by omega) ?_)
          refine ⟨kk + 1, true, _, _, _, h₀, h12, g, d, _, os, mg, mb, rfl, hlt, G, rfl, ?_, M12.sub (.cons₂ _ (.cons₂ _ (.cons₂ _ (.cons _ .slnil))))⟩
          rw [esc, if_pos he]
        · rename_i he
          have he : ¬ ch = 92 := by simpa using he
          refine sx_cons (sx_Yield rfl rfl rfl fun E4 => ?_)
          repeat walk1
          rename_i a11 h11 M11 lv kx px hx
          rw [esc, if_neg he]
          refine ⟨a11, _, _, [_, _, _], _, _, rfl, rfl, (M11.sub (.cons₂ _ (.cons₂ _ (.cons₂ _ (.cons₂ _ (.cons _ .slnil)))))).perm (List.Perm.swap _ _ _), ?_⟩
          refine GenL.of fun h₀ mg mb h g d tk os G M => ?_
          refine hx _ _ (s_again _ _ _ _ _ _ _ _ rfl (IH (l.length - (kk + 1)) _ _ (by omega) ?_))
          exact ⟨kk + 1, false, _, _, _, h₀, h, g, d, _, os, mg, mb, rfl, hlt, G, rfl, rfl, M⟩
    · have : kk = l.length := by omega
      subst this
      refine nextEE M6 rfl hh2 ?_
      intro h7 M7
      refine sx_block ?_
      rw [hk, List.drop_length]
      refine sx_cons (sx_If fun E3 => ?_)
      cases e with
      | true =>
        repeat walk1
        refine sx_cons (sx_Yield rfl rfl rfl fun E4 => ?_)
        repeat walk1
        rename_i a11 h11 M11 lv kx px hx
        refine ⟨a11, _, _, [_], _, _, rfl, rfl, M11.perm (List.Perm.swap _ _ _), ?_⟩
        refine GenL.of fun h₀ mg mb h g d tk os G M => ?_
        refine hx _ _ ?_
        exact s_end _ _ _ _ _ _ (.ok (.ret .none)) _ rfl ⟨rfl, _, _, rfl, M.tail⟩
      | false =>
        repeat walk1
        exact s_end _ _ _ _ _ _ (.ok (.ret .none)) _ rfl ⟨rfl, _, _, rfl, M7.tail⟩
end
section
noncomputable def IncL (N : Nat) : Nat → List Item → Prop
  | _, [] => True
  | n, x :: r => n ≤ x.1 ∧ x.1 < N ∧ IncL N (x.1 + 1) r
theorem IncL.le {N : Nat} : ∀ {r : List Item} {n m : Nat}, m ≤ n → IncL N n r → IncL N m r
  | [], _, _, _, _ => trivial
  | _ :: _, _, _, h, ⟨a, b, c⟩ => ⟨Nat.le_trans h a, b, c⟩
theorem esc_inc : ∀ (r : List Nat) (k : Nat), IncL (k + r.length) k (esc k false r) ∧ (1 ≤ k → IncL (k + r.length) (k - 1) (esc k true r))
  | [], k => ⟨trivial, fun h => ⟨Nat.le_refl _, by simp; omega, trivial⟩⟩
  | c :: r, k => by
    have ih := esc_inc r (k + 1)
    have e : k + 1 + r.length = k + (c :: r).length := by simp; omega
    rw [e] at ih
    refine ⟨?_, fun h => ⟨by omega, by simp, ih.1⟩⟩
    rw [esc]
    split
    · have := ih.2 (by omega); simpa using this
    · exact ⟨Nat.le_refl _, by simp, ih.1⟩
noncomputable def uq (l : List Nat) : List Item → Nat → Option Nat → List (List Nat) → Nat × List (List Nat)
  | [], s, _, acc => (s, acc)
  | x :: r, s, o, acc => if x.2 = [34] then (match o with
      | none => uq l r s (some x.1) acc
      | some p => uq l r (x.1 + 1) none (if s ≠ p then acc ++ [(l.drop s).take (p - s)] else acc)) else uq l r s o acc
noncomputable def unq (l : List Nat) : List Nat := if 34 ∈ l then ((uq l (esc 0 false l) 0 none []).2 ++ (if (uq l (esc 0 false l) 0 none []).1 < l.length then [l.drop (uq l (esc 0 false l) 0 none []).1] else [])).flatten else l
noncomputable abbrev opv (o : Option Nat) (t : Tok) : Value := match o with | none => .none | some p => .int (p : Int) t
set_option maxRecDepth 100000 in
set_option maxHeartbeats 8000000 in
theorem strip_spec {w : World} {A : Around} {E : Value → Shared → Prop} {h₀ h : Heap} {g : Array GenState} {d : Drawn} {tk : Nat} {os : OsState} {led : Led} {mg mb : Str → Option Value}
   {l : List Nat} {t : Tok} {Q : Value → Shared → Prop} (G : Gd w h₀ mg mb) (M : Mm h₀ h led) (R : Rm A 6) (hl : l.length ≤ 1000) (ha : Asc l) (hb : AllBare g)
   (hq : ∀ h' g' tk' t', Mm h₀ h' led → AllBare g' → Q (.str (S (unq l)) t') ⟨h', g', d, tk', os⟩) :
   wpAny (MP w) A (call (.ref 52) [.str (S l) t]) Q E ⟨h, g, d, tk, os⟩ := by
  walk_at "fill"
  refine' wpAny_call (callE [Str.ofString "addr"] [Str.ofString "start", Str.ofString "open_pos", Str.ofString "result", Str.ofString "pos", Str.ofString "ch"] [.str (S l) t] G M R.d ?ho ?hcd ?hbind ?hcell ?hloc ?nd ?hlen ?c1 ?c2 ?c3 ?_)
  walk_at "entered"
  intro L h' tk' E' M'
  dsimp only [List.map, List.cons_append, List.nil_append] at M'
  have R1 := fun env => Rm.deeper (R.le (by decide : 5 + 1 ≤ 6)) env
  have hh : A.handled = none := R.handled
  repeat' walk1
  rotate_left
  · rename_i hn
    have : unq l = l := by rw [unq, if_neg hn]
    have h2 := fun k => hq h' g k t M'.tail hb
    simp only [this] at h2
    exact h2 _
  rename_i t2 k2 hin h3 k3 M3 h4 k4 M4 res h5 M5 h6 k6 M6
  clear M3 M4 M5
  refine wpAny_For ?_
  iterate 7 walk1
  refine gen_spec G M6 ((R1 _).le (by decide)) hl ha ?_
  intro ga h7 tk7 nm qn gs cs M7 hbare HG
  refine iterG (i := cs.length) (gi := g.size) (nm := nm) (qn := qn) M7 (At.of (by rw [List.getElem?_append_right (Nat.le_refl _)]; simp)) ?_
  have hinc : IncL l.length 0 (esc 0 false l) := by have := (esc_inc l 0).1; simpa using this
  have hsz : (g.push gs)[g.size]? = some gs := by simp
  let Pv1 : Around → Nat → Shared → (List Item) → GenState → Led → (Array GenState) → Heap → Nat → Nat → Nat → (Option Nat) → Tok → Tok → (List (List Nat)) → (List Value) → Nat → (Option Value) → (Option Value) → Prop := fun AX n s its gs cs g8 h8 tk8 st m o t1 t2 acc vs nn pv cv => Am14 (n = its.length) (s = ⟨h8, g8, d, tk8, os⟩) (AllBare g8) (g8[g.size]? = some gs) (GenL w AX.in1 its gs cs) (IncL l.length m its) (st ≤ m) (m ≤ l.length) ((∀ p, o = some p → st ≤ p ∧ p < m)) (Strs vs acc) (acc.length ≤ st) ((acc.map (·.length)).sum ≤ st) (uq l its st o acc = uq l (esc 0 false l) 0 none []) (Mm h₀ h8 (cs ++ ([(ga, .obj (genO g.size nm qn)), (L, .ns [Str.ofString "addr", Str.ofString "start", Str.ofString "open_pos", Str.ofString "result", Str.ofString "pos", Str.ofString "ch"] [some (.str (S l) t), some (.int st t1), some (opv o t2), some (.ref res), pv, cv]), (res, .obj (lo vs nn))] ++ led)))
  let Iv1 : Around → Nat → Shared → Prop := fun AX n s => Ex16 (Pv1 AX n s)
  refine forIA Iv1 ?turn (esc 0 false l).length ?start
  case start =>
    exact ⟨esc 0 false l, gs, cs, _, h7, _, 0, 0, none, _, 0, [], [], 0, none, none, rfl, rfl, AllBare.push hb hbare, hsz, HG _ ((R1 _).le (by decide)).in1, hinc, Nat.le_refl _, Nat.zero_le _, (by intro p hp; cases hp), .nil, Nat.le_refl _, Nat.le_refl _, rfl, M7⟩
  case turn =>
    intro n s E2 hI0
    walk_at "hide"
    obtain ⟨its, gs, cs, g8, h8, tk8, st, m, o, t1, t2, acc, vs, nn, pv, cv, rfl, rfl, hb8, hg8, HG8, hinc8, hst, hm, ho, hvs, hacc, hsum, hU, M8⟩ := hI0
    have hvl := hvs.len
    refine nextG G M8 At.z hg8 ((R1 _).le (by decide)) HG8 ?_
    cases its with
    | nil =>
      intro h9 tk9 M9
      dsimp only [List.cons_append, List.nil_append] at M9
      try dsimp only
      clear M M' M6 M7 M8
      have hu : unq l = (acc ++ (if st < l.length then [l.drop st] else [])).flatten := by
        rw [unq, if_pos hin, ← hU]; rfl
      repeat' walk1
      · rename_i hlt _ _ _ _ _ _ M10 t11 k11
        have hlt : st < l.length := by omega
        refine joinM0 M10 (by walk_at "at") (hvs.snoc _ _) (by simp [sizeLine_eq]; omega) ?_
        intro t12 k12
        rw [hu, if_pos hlt] at hq
        exact hq _ _ _ _ (M10.sub (.cons _ (.cons _ (.cons _ (.refl _))))) (AllBare.set hb8 _ rfl)
      · rename_i hlt t11 k11
        have hlt : ¬ st < l.length := by omega
        refine joinM0 M9 (by walk_at "at") hvs (by simp [sizeLine_eq]; omega) ?_
        intro t12 k12
        rw [hu, if_neg hlt, List.append_nil] at hq
        exact hq _ _ _ _ (M9.sub (.cons _ (.cons _ (.cons _ (.refl _))))) (AllBare.set hb8 _ rfl)
    | cons x r =>
      intro a u1 u2 cs9 h9 tk9 gs9 M9 HG9 hb9
      have M10 := Mm.rot (cs := (a, .obj (tup [.int x.1 u1, .str (S x.2) u2])) :: cs9) _ M9
      dsimp only [List.cons_append, List.nil_append] at M10
      try dsimp only
      refine goG M10 At.z ?_
      refine unpM M10 (by walk_at "at") hh ?_
      intro h11 M11
      clear M M' M6 M7 M8 M9 M10
      obtain ⟨x1, x2⟩ := x
      obtain ⟨i1, i2, i3⟩ := hinc8
      dsimp only at i1 i2 i3
      have hg9 : (g8.setIfInBounds g.size gs9)[g.size]? = some gs9 := by
        have : g.size < g8.size := (Array.getElem?_eq_some_iff.mp hg8).1
        simp [this]
      cases o with
      | none =>
        rw [uq.eq_def] at hU
        dsimp only at hU
        repeat' walk1
        · rename_i hx h12 k12 M12
          have hx : x2 = [34] := hx
          rw [if_pos hx] at hU
          refine ⟨r.length, Nat.lt_succ_self _, r, gs9, cs9, _, _, _, st, x1 + 1, some x1, t1, u1, acc, vs, nn, _, _, rfl, rfl, AllBare.set hb8 _ hb9, hg9, HG9, i3, by omega, by omega, (by intro p hp; cases hp; omega), hvs, hacc, hsum, hU, Mm.rot (cs := [_, _, _]) _ (M12.sub (.cons₂ _ (.cons₂ _ (.cons₂ _ (.cons _ (.refl _))))))⟩
        · rename_i h12 k12 M12 _ _ hx
          have hx : ¬ x2 = [34] := hx
          rw [if_neg hx] at hU
          refine ⟨r.length, Nat.lt_succ_self _, r, gs9, cs9, _, _, _, st, x1 + 1, none, t1, t2, acc, vs, nn, _, _, rfl, rfl, AllBare.set hb8 _ hb9, hg9, HG9, i3, by omega, by omega, (by intro p hp; cases hp), hvs, hacc, hsum, hU, Mm.rot (cs := [_, _, _]) _ (M12.sub (.cons₂ _ (.cons₂ _ (.cons₂ _ (.cons _ (.refl _))))))⟩
      | some p =>
        rw [uq.eq_def] at hU
        dsimp only at hU
        have hp := ho p rfl
        repeat' walk1
        · rename_i h12 k12 M12
          have hx : x2 = [34] := by assumption
          have hsp : st ≠ p := by omega
          rw [if_pos hx, if_pos hsp] at hU
          have hln : ((l.drop st).take (p - st)).length = p - st := by rw [List.length_take, List.length_drop]; omega
          refine ⟨r.length, Nat.lt_succ_self _, r, gs9, cs9, _, _, _, x1 + 1, x1 + 1, none, _, t2, _, _, _, _, _, rfl, rfl, AllBare.set hb8 _ hb9, hg9, HG9, i3, by omega, by omega, (by intro p hp; cases hp), hvs.snoc _ _, by simp; omega, by simp; omega, hU, Mm.rot (cs := [_, _, _]) _ (M12.sub (.cons₂ _ (.cons₂ _ (.cons₂ _ (.cons _ (.refl _))))))⟩
        · rename_i h12 k12 M12
          have hx : x2 = [34] := by assumption
          have hsp : ¬ st ≠ p := by omega
          rw [if_pos hx, if_neg hsp] at hU
          refine ⟨r.length, Nat.lt_succ_self _, r, gs9, cs9, _, _, _, x1 + 1, x1 + 1, none, _, t2, acc, vs, nn, _, _, rfl, rfl, AllBare.set hb8 _ hb9, hg9, HG9, i3, by omega, by omega, (by intro p hp; cases hp), hvs, by omega, by omega, hU, Mm.rot (cs := [_, _, _]) _ (M12.sub (.cons₂ _ (.cons₂ _ (.cons₂ _ (.cons _ (.refl _))))))⟩
        · rename_i h12 k12 M12 _ _ hx
          have hx : ¬ x2 = [34] := hx
          rw [if_neg hx] at hU
          refine ⟨r.length, Nat.lt_succ_self _, r, gs9, cs9, _, _, _, st, x1 + 1, some p, t1, t2, acc, vs, nn, _, _, rfl, rfl, AllBare.set hb8 _ hb9, hg9, HG9, i3, by omega, by omega, (by intro q hq; cases hq; omega), hvs, hacc, hsum, hU, Mm.rot (cs := [_, _, _]) _ (M12.sub (.cons₂ _ (.cons₂ _ (.cons₂ _ (.cons _ (.refl _))))))⟩
end
section
theorem uq_ok (l : List Nat) : ∀ (its : List Item) (m s : Nat) (o : Option Nat) (acc : List (List Nat)), IncL l.length m its → s ≤ m → m ≤ l.length → (∀ p, o = some p → s ≤ p ∧ p < m) → (acc.map (·.length)).sum ≤ s → (∀ x ∈ acc, ∀ c ∈ x, c ∈ l) →
    (uq l its s o acc).1 ≤ l.length ∧ ((uq l its s o acc).2.map (·.length)).sum ≤ (uq l its s o acc).1 ∧ ∀ x ∈ (uq l its s o acc).2, ∀ c ∈ x, c ∈ l
  | [], m, s, o, acc, hi, hs, hm, ho, ha, hc => ⟨Nat.le_trans hs hm, ha, hc⟩
  | x :: r, m, s, o, acc, ⟨i1, i2, i3⟩, hs, hm, ho, ha, hc => by
    rw [uq.eq_def]
    try dsimp only
    split
    · cases o with
      | none => exact uq_ok l r (x.1 + 1) s (some x.1) acc i3 (by omega) (by omega) (by intro p hp; cases hp; omega) ha hc
      | some p =>
        have hp := ho p rfl
        have hln : ((l.drop s).take (p - s)).length = p - s := by rw [List.length_take, List.length_drop]; omega
        refine uq_ok l r (x.1 + 1) (x.1 + 1) none _ i3 (by omega) (by omega) (by intro p hp; cases hp) ?_ ?_
        · split
          · simp; omega
          · omega
        · split
          · intro y hy c hcy
            rcases List.mem_append.mp hy with q | q
            · exact hc y q c hcy
            · have : y = (l.drop s).take (p - s) := by simpa using q
              subst this
              exact List.mem_of_mem_drop (List.mem_of_mem_take hcy)
          · exact hc
    · exact uq_ok l r (x.1 + 1) s o acc i3 (by omega) (by omega) (by intro p hp; have := ho p hp; omega) ha hc
theorem unq_ok (l : List Nat) : (unq l).length ≤ l.length ∧ ∀ c ∈ unq l, c ∈ l := by
  rw [unq]
  split
  · have hinc : IncL l.length 0 (esc 0 false l) := by have := (esc_inc l 0).1; simpa using this
    obtain ⟨a, b, c⟩ := uq_ok l (esc 0 false l) 0 0 none [] hinc (Nat.le_refl _) (Nat.zero_le _) (by intro p hp; cases hp) (Nat.le_refl _) (by simp)
    have b : ((uq l (esc 0 false l) 0 none []).2.map List.length).sum ≤ (uq l (esc 0 false l) 0 none []).1 := b
    constructor
    · rw [List.length_flatten, List.map_append, List.sum_append]
      split
      · simp; omega
      · simp; omega
    · intro x hx
      obtain ⟨y, hy, hxy⟩ := List.mem_flatten.mp hx
      rcases List.mem_append.mp hy with q | q
      · exact c y q x hxy
      · split at q
        · have : y = l.drop (uq l (esc 0 false l) 0 none []).1 := by simpa using q
          subst this
          exact List.mem_of_mem_drop hxy
        · simp at q
  · exact ⟨Nat.le_refl _, fun c h => h⟩
noncomputable def chk : List Item → Nat → Bool
  | [], o => decide (o = 0)
  | x :: r, o => if x.2 = [40] then chk r (o + 1) else if x.2 = [41] then (if o = 0 then false else chk r (o - 1)) else chk r o
noncomputable def chkL (l : List Nat) : Bool := chk (esc 0 false (unq l)) 0
set_option maxRecDepth 100000 in
set_option maxHeartbeats 8000000 in
theorem check_spec {w : World} {A : Around} {E : Value → Shared → Prop} {h₀ h : Heap} {g : Array GenState} {d : Drawn} {tk : Nat} {os : OsState} {led : Led} {mg mb : Str → Option Value}
   {l : List Nat} {t : Tok} {Q : Value → Shared → Prop} (G : Gd w h₀ mg mb) (M : Mm h₀ h led) (R : Rm A 7) (hl : l.length ≤ 1000) (ha : Asc l) (hb : AllBare g)
   (hq : ∀ h' g' tk', Mm h₀ h' led → AllBare g' → Q (.bool (chkL l)) ⟨h', g', d, tk', os⟩) :
   wpAny (MP w) A (call (.ref 59) [.str (S l) t]) Q E ⟨h, g, d, tk, os⟩ := by
  walk_at "fill"
  refine' wpAny_call (callE [Str.ofString "addr"] [Str.ofString "opens", Str.ofString "pos", Str.ofString "ch"] [.str (S l) t] G M R.d ?ho ?hcd ?hbind ?hcell ?hloc ?nd ?hlen ?c1 ?c2 ?c3 ?_)
  walk_at "entered"
  intro L h' tk' E' M'
  dsimp only [List.map, List.cons_append, List.nil_append] at M'
  have R1 := fun env => Rm.deeper (R.le (by decide : 6 + 1 ≤ 7)) env
  have hh : A.handled = none := R.handled
  obtain ⟨hu1, hu2⟩ := unq_ok l
  repeat walk1
  refine strip_spec G M' ((R1 _).le (by decide)) hl ha hb ?_
  intro h3 g3 k3 t3 M3 hb3
  clear M M'
  repeat walk1
  rename_i h6 k6 M6
  refine wpAny_For ?_
  repeat walk1
  refine gen_spec G M6 ((R1 _).le (by decide)) (by omega) (fun c hc => ha c (hu2 c hc)) ?_
  intro ga h7 tk7 nm qn gs cs M7 hbare HG
  refine iterG (i := cs.length) (gi := g3.size) (nm := nm) (qn := qn) M7 (At.of (by rw [List.getElem?_append_right (Nat.le_refl _)]; simp)) ?_
  have hsz : (g3.push gs)[g3.size]? = some gs := by simp
  let Pv1 : Around → Nat → Shared → (List Item) → GenState → Led → (Array GenState) → Heap → Nat → Nat → Tok → (Option Value) → (Option Value) → Prop := fun AX n s its gs cs g8 h8 tk8 o t1 pv cv => Am7 (n = its.length) (s = ⟨h8, g8, d, tk8, os⟩) (AllBare g8) (g8[g3.size]? = some gs) (GenL w AX.in1 its gs cs) (chk its o = chkL l) (Mm h₀ h8 (cs ++ ([(ga, .obj (genO g3.size nm qn)), (L, .ns [Str.ofString "addr", Str.ofString "opens", Str.ofString "pos", Str.ofString "ch"] [some (.str (S (unq l)) t3), some (.int o t1), pv, cv])] ++ led)))
  let Iv1 : Around → Nat → Shared → Prop := fun AX n s => Ex10 (Pv1 AX n s)
  refine forIA Iv1 ?turn (esc 0 false (unq l)).length ?start
  case start =>
    exact ⟨esc 0 false (unq l), gs, cs, _, h7, _, 0, _, none, none, rfl, rfl, AllBare.push hb3 hbare, hsz, HG _ ((R1 _).le (by decide)).in1, rfl, M7⟩
  case turn =>
    intro n s E2 hI0
    walk_at "hide"
    obtain ⟨its, gs, cs, g8, h8, tk8, o, t1, pv, cv, rfl, rfl, hb8, hg8, HG8, hU, M8⟩ := hI0
    refine nextG G M8 At.z hg8 ((R1 _).le (by decide)) HG8 ?_
    cases its with
    | nil =>
      intro h9 tk9 M9
      dsimp only [List.cons_append, List.nil_append] at M9
      try dsimp only
      clear M3 M6 M7 M8
      repeat' walk1
      have : ((o : Int) == 0) = chkL l := by rw [← hU, chk]; by_cases h : o = 0 <;> simp [h]
      rw [this]
      exact hq _ _ _ (M9.sub (.cons _ (.cons _ (.refl _)))) (AllBare.set hb8 _ rfl)
    | cons x r =>
      intro a u1 u2 cs9 h9 tk9 gs9 M9 HG9 hb9
      have M10 := Mm.rot (cs := (a, .obj (tup [.int x.1 u1, .str (S x.2) u2])) :: cs9) _ M9
      dsimp only [List.cons_append, List.nil_append] at M10
      try dsimp only
      refine goG M10 At.z ?_
      refine unpM M10 (by walk_at "at") hh ?_
      intro h11 M11
      clear M3 M6 M7 M8 M9 M10
      obtain ⟨x1, x2⟩ := x
      have hg9 : (g8.setIfInBounds g3.size gs9)[g3.size]? = some gs9 := by
        have : g3.size < g8.size := (Array.getElem?_eq_some_iff.mp hg8).1
        simp [this]
      rw [chk.eq_def] at hU
      dsimp only at hU
      repeat' walk1
      · rename_i h12 k12 M12
        have hx : x2 = [40] := by assumption
        rw [if_pos hx] at hU
        refine ⟨r.length, Nat.lt_succ_self _, r, gs9, cs9, _, _, _, o + 1, _, _, _, rfl, rfl, AllBare.set hb8 _ hb9, hg9, HG9, hU, Mm.rot (cs := [_, _]) _ (M12.sub (.cons₂ _ (.cons₂ _ (.cons _ (.refl _)))))⟩
      · rename_i h12 k12 M12 hneg
        have hx : ¬ x2 = [40] := by assumption
        have hy : x2 = [41] := by assumption
        have ho : o = 0 := by omega
        rw [if_neg hx, if_pos hy, if_pos ho] at hU
        rw [← hU] at hq
        exact hq _ _ _ (M12.sub (.cons _ (.cons _ (.cons _ (List.sublist_append_right _ _))))) (AllBare.set hb8 _ hb9)
      · rename_i h12 k12 M12 hneg
        have hx : ¬ x2 = [40] := by assumption
        have hy : x2 = [41] := by assumption
        have ho : ¬ o = 0 := by omega
        rw [if_neg hx, if_pos hy, if_neg ho] at hU
        rw [show (o : Int) - 1 = ((o - 1 : Nat) : Int) by omega] at M12
        refine ⟨r.length, Nat.lt_succ_self _, r, gs9, cs9, _, _, _, o - 1, _, _, _, rfl, rfl, AllBare.set hb8 _ hb9, hg9, HG9, hU, Mm.rot (cs := [_, _]) _ (M12.sub (.cons₂ _ (.cons₂ _ (.cons _ (.refl _)))))⟩
      · rename_i h12 k12 M12 _ _ hx _ _ hy
        have hx : ¬ x2 = [40] := by assumption
        have hy : ¬ x2 = [41] := by assumption
        rw [if_neg hx, if_neg hy] at hU
        refine ⟨r.length, Nat.lt_succ_self _, r, gs9, cs9, _, _, _, o, _, _, _, rfl, rfl, AllBare.set hb8 _ hb9, hg9, HG9, hU, Mm.rot (cs := [_, _]) _ (M12.sub (.cons₂ _ (.cons₂ _ (.cons _ (.refl _)))))⟩
end
section
noncomputable abbrev bad : List Nat := [40, 39, 39, 44, 32, 39, 39, 41]
noncomputable def acc1 (l : List Nat) : List Nat := if chkL l then l else bad
theorem Strs.get {vs : List Value} {xs : List (List Nat)} (h : Strs vs xs) {k : Nat} {x : List Nat} (e : xs[k]? = some x) : ∃ t, vs[k]? = some (.str (S x) t) := by
  obtain ⟨ts, rfl, rfl⟩ := h
  rw [List.getElem?_map] at e
  cases q : ts[k]? with
  | none => rw [q] at e; cases e
  | some p => rw [q] at e; cases e; exact ⟨p.2, by simp [sv, q]⟩
theorem take_snoc {α : Type} {xs : List α} {k : Nat} {x : α} (e : xs[k]? = some x) : xs.take (k + 1) = xs.take k ++ [x] := by
  rw [List.take_add_one, e]; rfl
set_option maxRecDepth 100000 in
set_option maxHeartbeats 8000000 in
theorem pre_spec {w : World} {A : Around} {E : Value → Shared → Prop} {h₀ h : Heap} {g : Array GenState} {d : Drawn} {tk : Nat} {os : OsState} {led : Led} {mg mb : Str → Option Value}
   {vs : List Value} {xs : List (List Nat)} {a : Addr} {n i : Nat} {Q : Value → Shared → Prop} (G : Gd w h₀ mg mb) (M : Mm h₀ h led) (e : At led i (a, .obj (lo vs n))) (hvs : Strs vs xs) (R : Rm A 8) (hx : ∀ x ∈ xs, x.length ≤ 1000 ∧ Asc x) (hn : xs.length ≤ 1000) (hb : AllBare g)
   (hq : ∀ r h' g' tk' us n', Mm h₀ h' ((r, .obj (lo us n')) :: led) → Strs us (xs.map acc1) → AllBare g' → Q (.ref r) ⟨h', g', d, tk', os⟩) :
   wpAny (MP w) A (call (.ref 66) [.ref a]) Q E ⟨h, g, d, tk, os⟩ := by
  walk_at "fill"
  refine' wpAny_call (callE [Str.ofString "email_header_fields"] [Str.ofString "accepted_values", Str.ofString "v"] [.ref a] G M R.d ?ho ?hcd ?hbind ?hcell ?hloc ?nd ?hlen ?c1 ?c2 ?c3 ?_)
  walk_at "entered"
  intro L h' tk' E' M'
  dsimp only [List.map, List.cons_append, List.nil_append] at M'
  have R1 := fun env => Rm.deeper (R.le (by decide : 7 + 1 ≤ 8)) env
  have hh : A.handled = none := R.handled
  repeat walk1
  rename_i res h2 M2 h3 k3 M3
  refine wpAny_For ?_
  repeat walk1
  refine iterL M3 (.s (.s e)) ?_
  intro it h4 M4
  let Pv1 : Nat → Shared → Nat → Heap → (Array GenState) → Nat → (List Value) → Nat → (Option Value) → Prop := fun n s k h5 g5 tk5 us nn pv => Am6 (n = xs.length - k) (k ≤ xs.length) (s = ⟨h5, g5, d, tk5, os⟩) (AllBare g5) (Strs us ((xs.take k).map acc1)) (Mm h₀ h5 ((L, .ns [Str.ofString "email_header_fields", Str.ofString "accepted_values", Str.ofString "v"] [some (.ref a), some (.ref res), pv]) :: (it, .obj (liter a k)) :: (res, .obj (lo us nn)) :: led))
  let Iv1 : Nat → Shared → Prop := fun n s => Ex7 (Pv1 n s)
  refine forN Iv1 ?turn xs.length ?start
  case start => exact ⟨0, h4, g, _, [], 0, none, rfl, Nat.zero_le _, rfl, hb, .nil, M4⟩
  case turn =>
    clear M M' M2 M3 M4
    intro n s E2 hI0
    walk_at "hide"
    obtain ⟨k, h5, g5, tk5, us, nn, pv, rfl, hk, rfl, hb5, hus, M5⟩ := hI0
    have hul := hus.len
    rw [List.length_map, List.length_take] at hul
    by_cases hlt : k < xs.length
    · obtain ⟨x, hx1⟩ : ∃ c, xs[k]? = some c := ⟨_, List.getElem?_eq_getElem hlt⟩
      have hx2 := hx _ (List.mem_of_getElem? hx1)
      obtain ⟨tx, hx3⟩ := hvs.get hx1
      refine nextL M5 (by walk_at "at") (.s (.s (.s e))) hx3 ?_
      intro h6 M6
      dsimp only [List.set] at M6 ⊢
      repeat walk1
      refine check_spec G (by assumption) ((R1 _).le (by decide)) hx2.1 hx2.2 hb5 ?_
      intro h7 g7 k7 M7 hb7
      have e1 : (xs.take (k + 1)).map acc1 = (xs.take k).map acc1 ++ [acc1 x] := by rw [take_snoc hx1]; simp
      cases hc : chkL x
      all_goals
        have e2 := acc1.eq_def x
        rw [hc] at e2
        repeat' walk1
        rename Mm _ _ _ => M8
        refine ⟨xs.length - (k + 1), dec_lt (by assumption), k + 1, _, _, _, _, _, _, rfl, hlt, rfl, hb7, ?_, M8⟩
        rw [e1, e2]
        exact hus.snoc _ _
    · refine nextLE M5 (by walk_at "at") (.s (.s (.s e))) (by rw [hvs.len]; omega) hh ?_
      intro h6 M6
      dsimp only [List.eraseIdx] at M6 ⊢
      repeat walk1
      refine hq _ _ _ _ _ _ M6.tail ?_ hb5
      rw [List.take_of_length_le (by omega)] at hus
      exact hus
end
section
theorem lz_no : ∀ {ns : List Str} {vs : List (Option Value)} {x : Str}, x ∉ ns → lz ns vs x = none
  | [], _, _, _ => rfl
  | n :: ns, [], x, _ => rfl
  | n :: ns, v :: vs, x, h => by
    rw [List.mem_cons, not_or] at h
    rw [lz, if_neg h.1]; exact lz_no h.2
section
variable {prog : Program} {w : World} {A : Around} {E : Value → Shared → Prop} {h₀ h : Heap} {g : Array GenState} {d : Drawn} {tk : Nat} {os : OsState} {led : Led} {mg mb : Str → Option Value} {x dx C : Addr} {o : Obj} {i j : Nat} {ns : List Str} {vs : List (Option Value)} {name : Str}
theorem Mm.K (M : Mm h₀ h led) (G : Gd w h₀ mg mb) : (Mine.hd.heap_1 w.params).In h := G.K.keeps M.old
theorem lt (M : Mm h₀ h led) (e : At led i (x, .obj o)) (hc : o.cls = .ref C) : Looks (model prog w) h (typeOf (.ref x)) (.ref C) := hc ▸ (Looks.ld (M.get i e)).andThen .now
theorem lsp (G : Gd w h₀ mg mb) (M : Mm h₀ h led) (e : At led i (x, .obj o)) (hc : o.cls = .ref C) {name : Str} {r : Option Value} (hf : findIn (Mine.hd.heap_1 w.params) (.ref C) name = some r) : Looks (model prog w) h (specialOf (.ref x) name) r :=
  (lt M e hc).andThen (looks_findIn (M.K G) hf)
theorem lisub (G : Gd w h₀ mg mb) (M : Mm h₀ h led) (e : At led i (x, .obj o)) (hc : o.cls = .ref C) {b : Value} {r : Bool} (hf : mroIn (Mine.hd.heap_1 w.params) C b = some r) : Looks (model prog w) h (isInstance (.ref x) b) r :=
  (lt M e hc).andThen (looks_mroIn (M.K G) hf)
theorem gmI {f : Value} {T ga : String} {pl : Sem Bool} {Q : Value × List Value → Shared → Prop} (G : Gd w h₀ mg mb) (M : Mm h₀ h led) {m : Str → Option Value} (e : At led i (x, .obj o)) (ed : h.Ns dx m) (hc : o.cls = .ref C) (hd : o.dict = some dx)
    (hga : findIn (Mine.hd.heap_1 w.params) (.ref C) "__getattribute__" = some (some (.builtin ga))) (hcan : Manifest.canonical ga = "object.__getattribute__") (hgt : findIn (Mine.hd.heap_1 w.params) (.ref C) "__getattr__" = some none)
    (hf : findIn (Mine.hd.heap_1 w.params) (.ref C) name = some (some f)) (ht : typeIn (Mine.hd.heap_1 w.params) f = some (.type T)) (hT : (Value.type T != .type "function" && Value.type T != .type "method_descriptor" && Value.type T != .type "wrapper_descriptor") = false) (hn : m name = none)
    (hq : Q (f, [.ref x]) ⟨h, g, d, tk, os⟩) : wpAny (model prog w) A (getMethod (.ref x) name pl) Q E ⟨h, g, d, tk, os⟩ := by
  have X := M.K G
  unfold getMethod
  refine wpAny_bind ((lsp G M e hc hga).at ?_)
  dsimp only
  rw [if_neg (by rw [hcan]; decide)]
  refine wpAny_bind ((lsp G M e hc hgt).at ?_)
  rw [if_neg (by decide)]
  refine wpAny_bind ((lsp G M e hc hf).at ?_)
  dsimp only
  refine wpAny_bind ((looks_typeIn X ht).at ?_)
  rw [if_neg (by rw [hT]; decide)]
  refine wpAny_bind ((Looks.ld (M.get i e)).at ?_)
  rw [hd]
  dsimp only
  refine wpAny_bind (wpAny_nsGet ed ?_)
  rw [hn]
  refine wpAny_bind (wpAny_rule ?_)
  exact wpAny_pure hq
theorem check_meth {M : Model} {s : Shared} {id owner n : String} {self : Value} {rest : List Value} {kw : List (Str × Value)} {Q : Unit → Shared → Prop}
    (hk : builtinKind id = some .method) (hs : splitId id = some (owner, n)) (hi : Looks M s.heap (isInstance self (.type owner)) true) (ha : argsOk id ⟨self :: rest, kw⟩) (q : Q () s) :
    wpAny M A (checkBuiltinCall id ⟨self :: rest, kw⟩) Q E s := by
  simp only [checkBuiltinCall, hk, hs]
  refine wpAny_bind (hi.here ?_)
  simp only [Bool.not_true, Bool.false_eq_true, if_false]
  cases hsig : Manifest.signature? id with
  | none => exact wpAny_pure q
  | some sig =>
    simp only [argsOk, hsig] at ha
    have h2 : Bind.checkArgs id sig ⟨self :: rest, kw⟩ = pure () := ha
    show wpAny M A (Bind.checkArgs id sig ⟨self :: rest, kw⟩) Q E s
    rw [h2]; exact wpAny_pure q
theorem meetsI {s : Shared} {id owner n : String} {B : Builtin} {self : Value} {rest : List Value} {S : PySem.Spec} {Q : Value → Shared → Prop}
    (hk : builtinKind id = some .slot ∨ builtinKind id = some .method) (hs : splitId id = some (owner, n)) (plain : plainId id = true) (hi : Looks (model prog w) s.heap (isInstance self (.type owner)) true)
    (entry : entryFor table id = some B) (args : argsOk id ⟨self :: rest, []⟩) (m : Meets (B ⟨self :: rest, []⟩) S) (hS : S A (wants Q E) s) :
    wpAny (model prog w) A (call (.builtin id) (self :: rest)) Q E s := by
  refine wpAny_call (codeAny_call_builtin plain entry ?_)
  rcases hk with hk | hk
  · exact check_slot hk hs hi args (m prog w A (wants Q E) s hS)
  · exact check_meth hk hs hi args (m prog w A (wants Q E) s hS)
theorem callB {s : Shared} {id owner n : String} {B : Builtin} {self : Value} {rest : List Value} {Q : Value → Shared → Prop}
    (hk : builtinKind id = some .slot ∨ builtinKind id = some .method) (hs : splitId id = some (owner, n)) (plain : plainId id = true) (hi : Looks (model prog w) s.heap (isInstance self (.type owner)) true)
    (entry : entryFor table id = some B) (args : argsOk id ⟨self :: rest, []⟩)
    (hq : wpAny (model prog w) A.in1 (B ⟨self :: rest, []⟩) (fun fin s' => match fin with | .done (.ret v) => Q v s' | _ => False) E s) :
    wpAny (model prog w) A (call (.builtin id) (self :: rest)) Q E s := by
  have h2 : wpAny (model prog w) A.in1 (B ⟨self :: rest, []⟩) (fun fin s' => match fin with
        | .done f => wants Q E (.ok f) s'
        | .again c' => c'.quiet = true ∧ codeAny (model prog w) A c' (wants Q E) s') (fun e s' => wants Q E (.error e) s') s := by
    refine wpAny_mono hq (fun fin s' z => ?_) fun _ _ z => z
    rcases fin with (_ | _ | _ | _) | _ <;> first | exact z | exact z.elim
  refine wpAny_call (codeAny_call_builtin plain entry ?_)
  rcases hk with hk | hk
  · exact check_slot hk hs hi args h2
  · exact check_meth hk hs hi args h2
end
noncomputable abbrev ac (dx : Addr) (vs : List Value) (n : Nat) : Obj := { cls := .ref 228, dict := some dx, data := .seq vs.toArray n, slots := #[] }
theorem ac_append (l dx : Addr) (vs : List Value) (n : Nat) (x : Value) (hsz : vs.toArray.size ≤ sizeLine) :
    Meets (Builtin.«list.append» ⟨[.ref l, x], []⟩) (fun _ R s => s.heap.get? l = some (ac dx vs n) ∧ R (.ok (.ret Value.none)) { s with heap := s.heap.update l (Obj.mapSeq fun x_1 => x_1.push x), toks := s.toks }) :=
  .of_wp fun prog w A R s h => by
    obtain ⟨hp, g, d, tk, os⟩ := s; obtain ⟨hl, h⟩ := h
    have hz' : (vs.toArray.push x).size ≤ sizeLine + 1 := by rw [Array.size_push]; omega
    wp_walk using (wpAny_updateSeq hl rfl (hz := hsz) (_hz' := hz')); exact ⟨_, rfl, h⟩
set_option maxRecDepth 100000
theorem k_list {w : World} {h₀ : Heap} {mg mb : Str → Option Value} (G : Gd w h₀ mg mb) : mroIn (Mine.hd.heap_1 w.params) 228 (.type "list") = some true := by walk_at "fill"; exact Eq.symm (Eq.symm (by k_is))
theorem k_obj {w : World} {h₀ : Heap} {mg mb : Str → Option Value} (G : Gd w h₀ mg mb) : mroIn (Mine.hd.heap_1 w.params) 228 (.type "object") = some true := by walk_at "fill"; exact Eq.symm (Eq.symm (by k_is))
theorem k_ga {w : World} {h₀ : Heap} {mg mb : Str → Option Value} (G : Gd w h₀ mg mb) : findIn (Mine.hd.heap_1 w.params) (.ref 228) "__getattribute__" = some (some (.builtin "list.__getattribute__")) := by walk_at "fill"; exact Eq.symm (Eq.symm (by k_is))
theorem k_gt {w : World} {h₀ : Heap} {mg mb : Str → Option Value} (G : Gd w h₀ mg mb) : findIn (Mine.hd.heap_1 w.params) (.ref 228) "__getattr__" = some none := by walk_at "fill"; exact Eq.symm (Eq.symm (by k_is))
theorem k_iter {w : World} {h₀ : Heap} {mg mb : Str → Option Value} (G : Gd w h₀ mg mb) : findIn (Mine.hd.heap_1 w.params) (.ref 228) "__iter__" = some (some (.builtin "list.__iter__")) := by walk_at "fill"; exact Eq.symm (Eq.symm (by k_is))
theorem k_gi {w : World} {h₀ : Heap} {mg mb : Str → Option Value} (G : Gd w h₀ mg mb) : findIn (Mine.hd.heap_1 w.params) (.ref 228) "__getitem__" = some (some (.builtin "list.__getitem__")) := by walk_at "fill"; exact Eq.symm (Eq.symm (by k_is))
theorem k_si {w : World} {h₀ : Heap} {mg mb : Str → Option Value} (G : Gd w h₀ mg mb) : findIn (Mine.hd.heap_1 w.params) (.ref 228) "__setitem__" = some (some (.builtin "list.__setitem__")) := by walk_at "fill"; exact Eq.symm (Eq.symm (by k_is))
theorem k_noseq {w : World} {h₀ : Heap} {mg mb : Str → Option Value} (G : Gd w h₀ mg mb) : noSeq (Mine.hd.heap_1 w.params) 228 = true := by walk_at "fill"; exact Eq.symm (Eq.symm (by k_is))
theorem k_cls {w : World} {h₀ : Heap} {mg mb : Str → Option Value} (G : Gd w h₀ mg mb) : ∃ cd, clsIn (Mine.hd.heap_1 w.params) 228 = some cd ∧ cd.hasDict = true ∧ cd.mro = [.ref 228, .type "list", .type "object"] := by
  walk_at "fill"; exact ⟨_, by k_is, rfl, rfl⟩
section
variable {prog : Program} {w : World} {A : Around} {E : Value → Shared → Prop} {h₀ h : Heap} {g : Array GenState} {d : Drawn} {tk : Nat} {os : OsState} {led : Led} {mg mb : Str → Option Value} {x dx C : Addr} {o : Obj} {i j n : Nat} {ns : List Str} {vs : List Value} {name : Str} {Q : Value → Shared → Prop}
theorem appI {v : Value} (G : Gd w h₀ mg mb) (M : Mm h₀ h led) (e : At led i (x, .obj (ac dx vs n))) (hz : vs.length ≤ sizeLine)
    (hq : ∀ h', Mm h₀ h' (led.set i (x, .obj (ac dx (vs ++ [v]) (n + 1)))) → Q .none ⟨h', g, d, tk, os⟩) : wpAny (model prog w) A (call (.builtin "list.append") [.ref x, v]) Q E ⟨h, g, d, tk, os⟩ := by
  have hl := M.get i e
  refine meetsI (.inr (by decide +kernel)) (n := "append") (owner := "list") (by decide +kernel) (by decide +kernel) (lisub G M e rfl (k_list G)) F.entry_list_append (F.args_list_append_2 _ _) (ac_append x dx vs n v (by rw [List.size_toArray]; exact hz)) ⟨hl, ?_⟩
  have M2 := M.update i e (Obj.mapSeq fun y => y.push v)
  have e2 : Obj.mapSeq (fun y => y.push v) (ac dx vs n) = ac dx (vs ++ [v]) (n + 1) := by simp [Obj.mapSeq, ac]
  rw [e2] at M2
  exact hq _ M2
theorem csI {id : String} {args : List Value} {Q : Option Value → Shared → Prop} (G : Gd w h₀ mg mb) (M : Mm h₀ h led) (e : At led i (x, .obj o)) (hc : o.cls = .ref C) (hf : findIn (Mine.hd.heap_1 w.params) (.ref C) name = some (some (.builtin id)))
    (hb : ∀ self, bindSpecial (.builtin id) self = pure (.builtin id, [self])) (hq : wpAny (model prog w) A (call (.builtin id) (.ref x :: args)) (fun v => Q (some v)) E ⟨h, g, d, tk, os⟩) :
    wpAny (model prog w) A (callSpecial? (.ref x) name args) Q E ⟨h, g, d, tk, os⟩ := by
  unfold callSpecial?
  refine wpAny_bind ((lsp G M e hc hf).at ?_)
  refine wpAny_holding (wpAny_bind ?_)
  rw [hb]
  refine wpAny_pure (wpAny_bind (wpAny_mono hq (fun _ _ z => wpAny_pure z) fun _ _ z => z))
theorem it_kind : builtinKind "list.__iter__" = some .slot := by decide +kernel
theorem it_split : splitId "list.__iter__" = some ("list", "__iter__") := by decide +kernel
theorem it_plain : plainId "list.__iter__" = true := by decide +kernel
theorem iterI {p : Addr × Cell} (G : Gd w h₀ mg mb) (M : Mm h₀ h (p :: led)) (e : At (p :: led) i (x, .obj (ac dx vs n)))
    (hq : ∀ c h', Mm h₀ h' (p :: (c, .obj (liter x 0)) :: led) → Q (.ref c) ⟨h', g, d, tk, os⟩) : wpAny (model prog w) A (pyIter (.ref x)) Q E ⟨h, g, d, tk, os⟩ := by
  unfold pyIter
  refine wpAny_bind ((lsp G M e rfl (k_iter G)).at ?_)
  show wpAny _ A (callSpecialIfBoundUnlessNone? (.ref x) "__iter__" _ >>= _) Q E _
  refine wpAny_bind ?_
  unfold callSpecialIfBoundUnlessNone? bindSpecialIfBound?
  refine wpAny_holding (wpAny_bind (wpAny_bind ((lsp G M e rfl (k_iter G)).at ?_)))
  dsimp only
  refine wpAny_bind (wpAny_askSetting ?_)
  have hb := slot_list_iter.bind (.ref x)
  rw [hb]
  have fin : ∀ (P : Value → Shared → Prop), (∀ c h', Mm h₀ h' (p :: (c, .obj (liter x 0)) :: led) → P (.ref c) ⟨h', g, d, tk, os⟩) → wpAny (model prog w) A (call (.builtin "list.__iter__") [.ref x]) P E ⟨h, g, d, tk, os⟩ := by
    intro P hP
    refine callB (rest := []) (.inl it_kind) it_split it_plain (lisub G M e rfl (k_list G)) entry_list_iter (args_list_iter _) ?_
    show wpAny _ _ (do ret (← newFields "list_iterator" [.ref x, rawInt 0])) _ _ _
    exact wpAny_bind (wpAny_newObj_type (wpAny_pure (hP _ _ (M.push2 _))))
  split
  · refine wpAny_bind (wpAny_pure (wpAny_pure ?_))
    refine wpAny_bind (fin _ fun c h' N => wpAny_pure ?_)
    exact wpAny_bind (wpAny_specialOf (T := "list_iterator") ⟨_, N.get 1 .n1, rfl⟩ slot_listiter_next.lookup (wpAny_pure (hq c h' N)))
  · refine wpAny_tryCatch (wpAny_bind (wpAny_pure (wpAny_pure ?_)))
    refine wpAny_bind (fin _ fun c h' N => wpAny_pure ?_)
    exact wpAny_bind (wpAny_specialOf (T := "list_iterator") ⟨_, N.get 1 .n1, rfl⟩ slot_listiter_next.lookup (wpAny_pure (hq c h' N)))
theorem sqI {k : Value} {nm : Str} (G : Gd w h₀ mg mb) (M : Mm h₀ h led) (e : At led i (x, .obj (ac dx vs n))) (hq : Q k ⟨h, g, d, tk, os⟩) : wpAny (model prog w) A (sequenceKey (.ref x) k nm) Q E ⟨h, g, d, tk, os⟩ := by
  unfold sequenceKey
  refine wpAny_bind ((lt M e rfl).at ?_)
  refine wpAny_bind ((anyM_none (M.K G) (k_noseq G)).at ?_)
  exact wpAny_pure hq
theorem tailI {value slice : Expr} {k : Value} {ops : List Value} (G : Gd w h₀ mg mb) (M : Mm h₀ h led) (e : At led i (x, .obj (ac dx vs n))) (hg : wpAny (model prog w) A (getItem (.ref x) k) Q E ⟨h, g, d, tk, os⟩)
    (hs : subscripted slice false (.ref x) k = operate ops (getItem (.ref x) k)) : wpAny (model prog w) A (subscriptTail value slice (.ref x) k) Q E ⟨h, g, d, tk, os⟩ := by
  unfold subscriptTail getitemInPython
  refine wpAny_bind (wpAny_bind ((lsp G M e rfl (k_gi G)).at ?_))
  refine wpAny_pure ?_
  rw [hs]
  exact wpAny_bind (wpAny_operating (wpAny_mono hg (fun r s₃ h₃ => wpAny_bind (wpAny_letTemporaryGo (wpAny_pure h₃))) fun _ _ x => x))
theorem gi_kind : builtinKind "list.__getitem__" = some .method := by decide +kernel
theorem gi_split : splitId "list.__getitem__" = some ("list", "__getitem__") := by decide +kernel
theorem gi_plain : plainId "list.__getitem__" = true := by decide +kernel
set_option maxHeartbeats 2000000 in
theorem callGI {k : Value} (G : Gd w h₀ mg mb) (M : Mm h₀ h led) (e : At led i (x, .obj (ac dx vs n)))
    (hq : wpAny (model prog w) A.in1 (Builtin.«list.__getitem__» ⟨[.ref x, k], []⟩) (fun fin s' => match fin with | .done (.ret v) => Q v s' | _ => False) E ⟨h, g, d, tk, os⟩) :
    wpAny (model prog w) A (getItem (.ref x) k) Q E ⟨h, g, d, tk, os⟩ := by
  unfold getItem
  refine wpAny_holding (wpAny_bind (sqI G M e ?_))
  refine wpAny_bind (csI G M e rfl (k_gi G) slot_list_getitem.bind ?_)
  exact callB (rest := [k]) (.inr gi_kind) gi_split gi_plain (lisub G M e rfl (k_list G)) entry_list_getitem (args_list_getitem _ _) (wpAny_mono hq (fun fin s' z => by
    rcases fin with (_ | _ | _ | _) | _ <;> first | exact wpAny_pure z | exact z.elim) fun _ _ z => z)
theorem itemI0 {k : Int} {u : Tok} {y : Value} (G : Gd w h₀ mg mb) (M : Mm h₀ h led) (e : At led i (x, .obj (ac dx vs n))) (h0 : 0 ≤ k) (hfit : k < 2 ^ 63) (hx : vs.toArray[k.toNat]? = some y) (hq : Q y ⟨h, g, d, tk, os⟩) :
    wpAny (model prog w) A (getItem (.ref x) (.int k u)) Q E ⟨h, g, d, tk, os⟩ := by
  have ho := M.get i e
  refine callGI G M e ?_
  show wpAny _ _ (Builtin.List.listSubscript? (.int k u) >>= _) _ _ _
  refine wpAny_bind (wpAny_listSubscript_int (fitsIndex_of h0 hfit) ?_)
  clear hfit
  obtain ⟨j, rfl⟩ := Int.eq_ofNat_of_zero_le h0
  have hx' : vs.toArray[j]? = some y := hx
  show wpAny _ _ ((seqItemAt x j >>= fun r => pure (r.map (j, ·))) >>= _) _ _ _
  refine wpAny_bind (wpAny_bind (wpAny_seqItemAt ho rfl (wpAny_pure ?_)))
  rw [hx']
  first
    | exact wpAny_bind (wpAny_pure (wpAny_pure hq))
    | exact wpAny_pure hq
theorem itemI {value slice : Expr} {k : Nat} {u : Tok} {y : Value} (G : Gd w h₀ mg mb) (M : Mm h₀ h led) (e : At led i (x, .obj (ac dx vs n))) (hx : vs[k]? = some y) (hz : vs.length ≤ sizeLine) (hq : Q y ⟨h, g, d, tk, os⟩)
    (hs : subscripted slice false (.ref x) (.int (k : Int) u) = operate [.ref x, .int (k : Int) u] (getItem (.ref x) (.int (k : Int) u)) := by with_unfolding_all rfl) :
    wpAny (model prog w) A (subscriptTail value slice (.ref x) (.int (k : Int) u)) Q E ⟨h, g, d, tk, os⟩ := by
  have hk : k < vs.length := (List.getElem?_eq_some_iff.mp hx).1
  exact tailI G M e (itemI0 G M e (by omega) (by unfold sizeLine at hz; omega) (by simpa using hx) hq) hs
end
end
section
set_option maxRecDepth 100000
set_option maxHeartbeats 1000000
open PySem.MeetsSeq
theorem clip_le (n : Nat) (i : Int) : clipAt n i ≤ n := by unfold clipAt; exact Int.toNat_le.mpr (Int.max_le.mpr ⟨Int.natCast_nonneg n, Int.min_le_right _ _⟩)
section
variable {prog : Program} {w : World} {A : Around} {E : Value → Shared → Prop} {s : Shared} {l sl v : Addr} {o : Obj} {items : Array Value} {n : Nat} {vl vu : Value} {lo hi : Option Int}
theorem gi_slice {Q : Fin → Shared → Prop} (ho : s.heap.get? l = some o) (hd : o.data = .seq items n) (hs : s.heap.IsSliceOf sl vl vu .none) (pl : IsPart vl lo) (pu : IsPart vu hi)
    (h : Q (.done (.ret (.ref s.heap.objs.size))) { s with heap := s.heap.push { cls := .type "list", data := .seq (slicePick items lo hi none) } }) (hsz : items.size ≤ sizeLine) :
    wpAny (model prog w) A (Builtin.«list.__getitem__» ⟨[.ref l, .ref sl], []⟩) Q E s := by
  obtain ⟨os, hos, hcs, hds⟩ := id hs
  have hTs : s.TypeIs (.ref sl) "slice" := ⟨os, hos, hcs⟩
  show wpAny _ _ (Builtin.List.listSubscript? (.ref sl) >>= _) _ _ s
  refine wpAny_bind ?_
  unfold Builtin.List.listSubscript?
  refine wpAny_bind (wpAny_specialOf hTs slice_no_index ?_)
  simp only [Option.isNone_none, if_true]
  refine wpAny_pure ?_
  show wpAny _ _ (typeOf (.ref sl) >>= _) _ _ s
  refine wpAny_bind (wpAny_typeOf hTs ?_)
  rw [if_neg (by decide)]
  rw [listSliceParts_eq]
  refine wpAny_bind (wpAny_bind (wpAny_field hos hds (x := .none) rfl (wpAny_bind (wpAny_listPart (k := none) .none ?_))))
  rw [if_neg (show ¬ ((rawPart none == rawInt 0) = true) from Bool.false_ne_true)]
  refine wpAny_bind (wpAny_field hos hds (x := vl) rfl (wpAny_bind (wpAny_listPart pl ?_)))
  refine wpAny_bind (wpAny_field hos hds (x := vu) rfl (wpAny_bind (wpAny_listPart pu (wpAny_pure ?_))))
  refine wpAny_bind (m := Builtin.List.listItems (.ref l)) ?_
  unfold Builtin.List.listItems
  refine wpAny_bind (wpAny_seqItems ho hd (wpAny_pure ?_))
  refine wpAny_bind (wpAny_of_eq (sliceIndices_raw lo hi none items.size (by simp)) ?_)
  exact wpAny_bind (wpAny_newObj_type (wpAny_pure h) (Nat.le_trans (slicePick_size_le items lo hi none) hsz))
theorem si_slice {Q : Fin → Shared → Prop} {new : Array Value} {m a b : Nat} (ho : s.heap.get? l = some o) (hd : o.data = .seq items n) (hs : s.heap.IsSliceOf sl vl vu .none) (pl : IsPart vl lo) (pu : IsPart vu hi)
    (hv : s.heap.get? v = some ⟨.type "list", none, .seq new m, #[]⟩) (hne : l ≠ v) (ea : lo.elim 0 (clipAt items.size) = a) (eb : hi.elim items.size (clipAt items.size) = b)
    (h : Q (.done (.ret .none)) { s with heap := s.heap.update l (Obj.mapSeq fun xs => xs.extract 0 a ++ new ++ xs.extract (max a b) xs.size) }) (hsz : items.size + new.size ≤ sizeLine) :
    wpAny (model prog w) A (Builtin.«list.__setitem__» ⟨[.ref l, .ref sl, .ref v], []⟩) Q E s := by
  obtain ⟨os, hos, hcs, hds⟩ := id hs
  have hTs : s.TypeIs (.ref sl) "slice" := ⟨os, hos, hcs⟩
  show wpAny _ _ (Builtin.List.listSubscript? (.ref sl) >>= _) _ _ s
  refine wpAny_bind ?_
  unfold Builtin.List.listSubscript?
  refine wpAny_bind (wpAny_specialOf hTs slice_no_index ?_)
  simp only [Option.isNone_none, if_true]
  refine wpAny_pure ?_
  show wpAny _ _ (typeOf (.ref sl) >>= _) _ _ s
  refine wpAny_bind (wpAny_typeOf hTs ?_)
  rw [if_neg (by decide)]
  rw [listSliceParts_eq]
  refine wpAny_bind (wpAny_bind (wpAny_field hos hds (x := .none) rfl (wpAny_bind (wpAny_listPart (k := none) .none ?_))))
  rw [if_neg (show ¬ ((rawPart none == rawInt 0) = true) from Bool.false_ne_true)]
  refine wpAny_bind (wpAny_field hos hds (x := vl) rfl (wpAny_bind (wpAny_listPart pl ?_)))
  refine wpAny_bind (wpAny_field hos hds (x := vu) rfl (wpAny_bind (wpAny_listPart pu (wpAny_pure ?_))))
  have hsame : Builtin.List.listSameRef (.ref l) (.ref v) = false := by simp [Builtin.List.listSameRef, hne]
  dsimp only
  rw [hsame]
  rw [if_neg (by decide)]
  refine wpAny_bind (m := Builtin.List.listAllItems (.ref v) _) ?_
  unfold Builtin.List.listAllItems
  refine wpAny_bind (wpAny_typeOf (T := "list") ⟨_, hv, rfl⟩ ?_)
  rw [if_pos (by decide)]
  unfold Builtin.List.listItems
  refine wpAny_bind (wpAny_seqItems hv rfl (wpAny_pure ?_))
  refine wpAny_bind (wpAny_bind (wpAny_seqItems ho hd (wpAny_pure ?_)))
  refine wpAny_bind (wpAny_of_eq (sliceIndices_raw lo hi none items.size (by simp)) ?_)
  rw [sliceBounds_plain, ea, eb]
  dsimp only
  rw [if_pos (by decide)]
  refine wpAny_bind (wpAny_rule ?_)
  have htl : Builtin.List.listTooLong (items.size + new.size) = false := by unfold Builtin.List.listTooLong; simp; exact hsz
  rw [htl, if_neg (by decide)]
  have hb : b ≤ items.size := by
    rw [← eb]; cases hi with
    | none => exact Nat.le_refl _
    | some i => exact clip_le _ _
  have ha : a ≤ items.size := by
    rw [← ea]; cases lo with
    | none => exact Nat.zero_le _
    | some i => exact clip_le _ _
  have hmax : (max (a : Int) (b : Int)).toNat = max a b := mx a b
  simp only [Int.toNat_natCast, hmax]
  refine wpAny_bind (m := Builtin.List.listUpdate _ _) (wpAny_updateSeq ho hd ?_ (by omega) ?_)
  · refine wpAny_bind (wpAny_letGo ?_)
    exact wpAny_pure h
  · simp only [Array.size_append, Array.size_extract, Nat.min_self, Nat.sub_zero]
    rw [Nat.min_eq_left ha]
    exact Nat.le_trans (ar10 (Nat.le_max_left a b) (Nat.max_le.mpr ⟨ha, hb⟩)) (Nat.le_succ_of_le hsz)
end
theorem st_kind : builtinKind "list.__setitem__" = some .slot := by decide +kernel
theorem st_split : splitId "list.__setitem__" = some ("list", "__setitem__") := by decide +kernel
theorem st_plain : plainId "list.__setitem__" = true := by decide +kernel
section
variable {prog : Program} {w : World} {A : Around} {E : Value → Shared → Prop} {h₀ h : Heap} {g : Array GenState} {d : Drawn} {tk : Nat} {os : OsState} {led : Led} {mg mb : Str → Option Value} {x dx v : Addr} {i j n m : Nat} {vs us : List Value} {Q : Value → Shared → Prop} {p : Addr × Cell} {vl vu : Value} {lo' hi' : Option Int} {value slice : Expr}
noncomputable abbrev slObj (vl vu : Value) : Obj := { cls := .type "slice", data := .fields #[vl, vu, .none] }
/-- a slice of a list of ours -/
theorem slL {r : List Value} (M : Mm h₀ h (p :: led)) (e : At (p :: led) i (x, .obj (lo vs n))) (pl : IsPart vl lo') (pu : IsPart vu hi') (hr : slicePick vs.toArray lo' hi' none = r.toArray) (hz : vs.length ≤ sizeLine)
    (hq : ∀ a h', Mm h₀ h' (p :: (a, .obj (lo r 0)) :: led) → Q (.ref a) ⟨h', g, d, tk, os⟩)
    (hs : subscripted slice false (.ref x) (.ref h.objs.size) = operate [.ref h.objs.size, .ref x] (getItem (.ref x) (.ref h.objs.size)) := by with_unfolding_all rfl) :
    wpAny (model prog w) A (subscriptTail value slice (.ref x) (.ref h.objs.size)) Q E ⟨h.push (slObj vl vu), g, d, tk, os⟩ := by
  have M1 := M.ext fun b o e => Heap.get?_push_of_some (slObj vl vu) e
  have hl : Heap.IsList (h.push (slObj vl vu)) x vs.toArray := ⟨_, M1.get i e, rfl, n, rfl⟩
  refine tail_any (Heap.IsList.typeIs (s := ⟨h.push (slObj vl vu), g, d, tk, os⟩) hl) slot_list_getitem.lookup (wpAny_getItem_list_slice hl (Heap.IsSliceOf.new h vl vu .none) pl pu .none (by simp) ?_ (by simpa using hz)) hs
  rw [hr]
  exact hq _ _ (M1.push2 _)
/-- a slice of an accumulator -/
theorem slI {r : List Value} (G : Gd w h₀ mg mb) (M : Mm h₀ h (p :: led)) (e : At (p :: led) i (x, .obj (ac dx vs n))) (pl : IsPart vl lo') (pu : IsPart vu hi') (hr : slicePick vs.toArray lo' hi' none = r.toArray) (hz : vs.length ≤ sizeLine)
    (hq : ∀ a h', Mm h₀ h' (p :: (a, .obj (lo r 0)) :: led) → Q (.ref a) ⟨h', g, d, tk, os⟩)
    (hs : subscripted slice false (.ref x) (.ref h.objs.size) = operate [.ref h.objs.size, .ref x] (getItem (.ref x) (.ref h.objs.size)) := by with_unfolding_all rfl) :
    wpAny (model prog w) A (subscriptTail value slice (.ref x) (.ref h.objs.size)) Q E ⟨h.push (slObj vl vu), g, d, tk, os⟩ := by
  have M1 := M.ext fun b o e => Heap.get?_push_of_some (slObj vl vu) e
  refine tailI G M1 e (callGI G M1 e (gi_slice (M1.get i e) rfl (Heap.IsSliceOf.new h vl vu .none) pl pu ?_ (by simpa using hz))) hs
  rw [hr]
  exact hq _ _ (M1.push2 _)
theorem seq_upd (vs us : List Value) (a b : Nat) : (vs.toArray.extract 0 a ++ us.toArray ++ vs.toArray.extract (max a b) vs.toArray.size) = (vs.take a ++ us ++ vs.drop (max a b)).toArray := by
  simp [List.extract_eq_take_drop]
  rw [List.take_of_length_le]; simp
/-- slice assignment to a list -/
theorem ssL {Q : Unit → Shared → Prop} {a b : Nat} (M : Mm h₀ h led) (e : At led i (x, .obj (lo vs n))) (f : At led j (v, .obj (lo us m))) (hij : x ≠ v) (pl : IsPart vl lo') (pu : IsPart vu hi')
    (ea : lo'.elim 0 (clipAt vs.length) = a) (eb : hi'.elim vs.length (clipAt vs.length) = b) (hz : vs.length + us.length ≤ sizeLine)
    (hq : ∀ h' n', Mm h₀ h' (led.set i (x, .obj (lo (vs.take a ++ us ++ vs.drop (max a b)) n'))) → Q () ⟨h', g, d, tk, os⟩) :
    wpAny (model prog w) A (setItem (.ref x) (.ref h.objs.size) (.ref v)) Q E ⟨h.push (slObj vl vu), g, d, tk, os⟩ := by
  have M1 := M.ext fun b o e => Heap.get?_push_of_some (slObj vl vu) e
  have hl : Heap.IsList (h.push (slObj vl vu)) x vs.toArray := ⟨_, M1.get i e, rfl, n, rfl⟩
  unfold setItem
  refine wpAny_holding (wpAny_bind (wpAny_sequenceKey hl.typeIs (by decide) ?_))
  refine wpAny_bind (wpAny_callSpecial?_slot (name := Str.ofString "__setitem__") hl.typeIs slot_list_setitem
    (wpAny_call_entry slot_list_setitem hl.typeIs entry_list_setitem ?_ (args_list_setitem _ _ _)))
  refine si_slice (a := a) (b := b) (M1.get i e) rfl (Heap.IsSliceOf.new h vl vu .none) pl pu (M1.get j f) hij (by simpa using ea) (by simpa using eb) ⟨_, rfl, wpAny_pure ?_⟩ (by simpa using hz)
  have M2 := M1.update i e (Obj.mapSeq fun xs => xs.extract 0 a ++ us.toArray ++ xs.extract (max a b) xs.size)
  have e2 : Obj.mapSeq (fun xs => xs.extract 0 a ++ us.toArray ++ xs.extract (max a b) xs.size) (lo vs n) = lo (vs.take a ++ us ++ vs.drop (max a b)) (if ((vs.take a ++ us ++ vs.drop (max a b)).toArray.size == vs.toArray.size) = true then n else n + 1) := by
    simp only [Obj.mapSeq, lo, seq_upd]
  rw [e2] at M2
  exact hq _ _ M2
/-- slice assignment to an accumulator -/
theorem ssI {Q : Unit → Shared → Prop} {a b : Nat} (G : Gd w h₀ mg mb) (M : Mm h₀ h led) (e : At led i (x, .obj (ac dx vs n))) (f : At led j (v, .obj (lo us m))) (hij : x ≠ v) (pl : IsPart vl lo') (pu : IsPart vu hi')
    (ea : lo'.elim 0 (clipAt vs.length) = a) (eb : hi'.elim vs.length (clipAt vs.length) = b) (hz : vs.length + us.length ≤ sizeLine)
    (hq : ∀ h' n', Mm h₀ h' (led.set i (x, .obj (ac dx (vs.take a ++ us ++ vs.drop (max a b)) n'))) → Q () ⟨h', g, d, tk, os⟩) :
    wpAny (model prog w) A (setItem (.ref x) (.ref h.objs.size) (.ref v)) Q E ⟨h.push (slObj vl vu), g, d, tk, os⟩ := by
  have M1 := M.ext fun b o e => Heap.get?_push_of_some (slObj vl vu) e
  unfold setItem
  refine wpAny_holding (wpAny_bind (sqI G M1 e ?_))
  refine wpAny_bind (csI G M1 e rfl (k_si G) slot_list_setitem.bind ?_)
  refine callB (rest := [_, _]) (.inl st_kind) st_split st_plain (lisub G M1 e rfl (k_list G)) entry_list_setitem (args_list_setitem _ _ _) ?_
  refine si_slice (a := a) (b := b) (M1.get i e) rfl (Heap.IsSliceOf.new h vl vu .none) pl pu (M1.get j f) hij (by simpa using ea) (by simpa using eb) (wpAny_pure ?_) (by simpa using hz)
  have M2 := M1.update i e (Obj.mapSeq fun xs => xs.extract 0 a ++ us.toArray ++ xs.extract (max a b) xs.size)
  have e2 : Obj.mapSeq (fun xs => xs.extract 0 a ++ us.toArray ++ xs.extract (max a b) xs.size) (ac dx vs n) = ac dx (vs.take a ++ us ++ vs.drop (max a b)) (if ((vs.take a ++ us ++ vs.drop (max a b)).toArray.size == vs.toArray.size) = true then n else n + 1) := by
    simp only [Obj.mapSeq, ac, seq_upd]
  rw [e2] at M2
  exact hq _ _ M2
end
end
section
set_option maxRecDepth 100000
set_option maxHeartbeats 1000000
theorem Ns_look {h : Heap} {a : Addr} {m : Str → Option Value} (c : h.Ns a m) : ∃ o, h.get? a = some o ∧ ∀ name, lookIn name o = some (m name) := by
  obtain ⟨o, es, ep, ho, hd, hk, hf⟩ := c
  refine ⟨o, ho, fun name => ?_⟩
  unfold lookIn
  rw [hd]
  dsimp only
  have h2 := hf name
  unfold nsFind findBy at h2
  rw [← Array.find?_toList] at h2
  cases q : es.toList.find? (fun e => e.key.isStr name) with
  | some e => rw [q] at h2; simp at h2; rw [← h2]
  | none =>
    rw [q] at h2; simp at h2
    rw [← h2]
    have : es.toList.any (·.refKey) = false := by
      rw [List.any_eq_false]
      intro e he
      obtain ⟨s, t, hs⟩ := hk e (by simpa using he)
      simp [DictEntry.refKey, hs]
    simp [this]
noncomputable def DP (ns : List Str) (as : List (Option Value)) (o : Obj) : Prop := ns.Nodup ∧ as.length = ns.length ∧ ∃ es ep, o.data = .dict es ep ∧ StrKeys es ∧ (∀ name, nsFind es name = lz ns as name) ∧ es.size ≤ as.countP Option.isSome
theorem DP.ns {h : Heap} {dx : Addr} {ns : List Str} {as : List (Option Value)} (c : Cell.At h dx (.any (DP ns as))) : h.Ns dx (lz ns as) := by
  obtain ⟨o, ho, _, _, es, ep, hd, hk, hf, _⟩ := c
  exact ⟨o, es, ep, ho, hd, hk, hf⟩
theorem DP.nd {h : Heap} {dx : Addr} {ns : List Str} {as : List (Option Value)} (c : Cell.At h dx (.any (DP ns as))) : ns.Nodup := c.choose_spec.2.1
theorem DP.len {h : Heap} {dx : Addr} {ns : List Str} {as : List (Option Value)} (c : Cell.At h dx (.any (DP ns as))) : as.length = ns.length := c.choose_spec.2.2.1
noncomputable abbrev fm (dx : Addr) : Obj := { cls := .ref 144, dict := some dx, data := .plain, slots := #[] }
theorem f_ga {w : World} {h₀ : Heap} {mg mb : Str → Option Value} (G : Gd w h₀ mg mb) : findIn (Mine.hd.heap_1 w.params) (.ref 144) "__getattribute__" = some (some (.builtin "object.__getattribute__")) := by walk_at "fill"; exact Eq.symm (Eq.symm (by k_is))
theorem f_gt {w : World} {h₀ : Heap} {mg mb : Str → Option Value} (G : Gd w h₀ mg mb) : findIn (Mine.hd.heap_1 w.params) (.ref 144) "__getattr__" = some none := by walk_at "fill"; exact Eq.symm (Eq.symm (by k_is))
theorem f_sa {w : World} {h₀ : Heap} {mg mb : Str → Option Value} (G : Gd w h₀ mg mb) : findIn (Mine.hd.heap_1 w.params) (.ref 144) "__setattr__" = some (some (.builtin "object.__setattr__")) := by walk_at "fill"; exact Eq.symm (Eq.symm (by k_is))
theorem k_sa {w : World} {h₀ : Heap} {mg mb : Str → Option Value} (G : Gd w h₀ mg mb) : findIn (Mine.hd.heap_1 w.params) (.ref 228) "__setattr__" = some (some (.builtin "object.__setattr__")) := by walk_at "fill"; exact Eq.symm (Eq.symm (by k_is))
theorem f_cls {w : World} {h₀ : Heap} {mg mb : Str → Option Value} (G : Gd w h₀ mg mb) : ∃ cd, clsIn (Mine.hd.heap_1 w.params) 144 = some cd ∧ cd.hasDict = true ∧ cd.mro = [.ref 144, .type "object"] := by
  walk_at "fill"; exact ⟨_, by k_is, rfl, rfl⟩
theorem count_set : ∀ {as : List (Option Value)} {k : Nat} {v : Value}, k < as.length → (as.set k (some v)).countP Option.isSome = as.countP Option.isSome + (if (as[k]?).join.isSome then 0 else 1)
  | a :: as, 0, v, _ => by cases a <;> simp
  | a :: as, k + 1, v, h => by
    have := count_set (as := as) (k := k) (v := v) (by simpa using h)
    simp only [List.set_cons_succ, List.countP_cons, this, List.getElem?_cons_succ]; omega
  | [], _, _, h => by simp at h
theorem DP.line {ns : List Str} {as : List (Option Value)} {o : Obj} (x : DP ns as o) (hz : ns.length ≤ 1000) : o.data.pastItsLine = none := by
  obtain ⟨_, hl, es, ep, hd, _, _, hs⟩ := x
  rw [hd]
  refine pastItsLine_dict ?_
  have : as.countP Option.isSome ≤ as.length := List.countP_le_length
  rw [sizeLine_eq]; omega
theorem nsSetD {M : Model} {A : Around} {E : Value → Shared → Prop} {s : Shared} {dx : Addr} {ns : List Str} {as : List (Option Value)} {name : Str} {v : Value} {k : Nat} {Q : Unit → Shared → Prop} (c : Cell.At s.heap dx (.any (DP ns as))) (ej : At ns k name) (hz : ns.length ≤ 1000)
    (hQ : ∀ h' tk', Heap.SameBut dx s.heap h' → Cell.At h' dx (.any (DP ns (as.set k (some v)))) → Q () { s with heap := h', toks := tk' }) : wpAny M A (nsSet dx name v) Q E s := by
  intro Γ p _
  obtain ⟨o, ho, nd, hlen, es, ep, hd, hk, hm, hsz⟩ := c
  have hk2 : k < as.length := by
    have := (List.getElem?_eq_some_iff.mp ej.get).1; omega
  have hl : lz ns as name = (as[k]?).join := by
    cases q : as[k]? with
    | none => rw [List.getElem?_eq_none_iff] at q; omega
    | some u => rw [lz_get nd ej.get q]; rfl
  have hcnt := count_set (v := v) hk2
  simp only [nsSet, strHash, Sem.wp_bind', Sem.wp_cmd_ask, Sem.wp_pure', Sem.wp_cmd_mkText]
  rw [Sem.wp_loadPart_of M Γ _ p { s with toks := s.toks + 1 } (o := o) _ ho]
  have hany : es.any (·.refKey) = false := by
    rw [Array.any_eq_false']; intro e he; obtain ⟨n, t, h⟩ := hk e he; simp [DictEntry.refKey, h]
  simp only [hd, aRefKeyMayBeTheName_eq, aRefKeyMayBeTheNameByArray, hany, Bool.and_false, Bool.false_eq_true, if_false, Sem.wp_cmd_updatePart]
  refine ⟨by rw [ho]; rfl, hQ _ _ (Heap.SameBut.update ..) ?_⟩
  obtain ⟨c, d, dt, sl⟩ := o
  subst hd
  have hfin := hm name
  unfold nsFind findBy at hfin
  cases hi : es.findIdx? (·.key.isStr name) with
  | some i =>
    have hsome : ((as[k]?).join).isSome = true := by
      rw [← hl, ← hm name]
      unfold nsFind findBy
      have : (es.find? fun e => e.key.isStr name).isSome = true := by
        rw [Array.find?_isSome]
        obtain ⟨h1, h2, _⟩ := Array.findIdx?_eq_some_iff_getElem.mp hi
        exact ⟨_, Array.getElem_mem h1, h2⟩
      simp [this]
    refine ⟨_, Heap.get?_update_self _ ho (by simp only [Obj.putName_eq, Obj.putNameByArray, hi]; rfl), nd, by simp [hlen], _, ep, by simp only [Obj.putName_eq, Obj.putNameByArray, hi]; rfl, hk.modify _ _, fun x => ?_, ?_⟩
    · rw [← lz_set nd ej.get hlen]
      show _ = if x = name then some v else lz ns as x
      rw [← hm]; exact findBy_modify (fun n v => v.isStr n) Value.isStr_inj es name x v i hi
    · rw [hcnt, if_pos hsome]; simpa using hsz
  | none =>
    have hnone : ¬ ((as[k]?).join).isSome = true := by
      rw [← hl, ← hm name]
      unfold nsFind findBy
      have : es.find? (fun e => e.key.isStr name) = none := by
        rw [Array.find?_eq_none]
        intro x hx
        rw [Array.findIdx?_eq_none_iff.mp hi x hx]; exact Bool.false_ne_true
      simp [this]
    refine ⟨_, Heap.get?_update_self _ ho (by simp only [Obj.putName_eq, Obj.putNameByArray, hi]; rfl), nd, by simp [hlen], _, ep + 1, by simp only [Obj.putName_eq, Obj.putNameByArray, hi]; rfl, hk.push _ _ _ _, fun x => ?_, ?_⟩
    · rw [← lz_set nd ej.get hlen]
      show _ = if x = name then some v else lz ns as x
      rw [← hm]
      exact findBy_push (fun n v => v.isStr n) es name x _ _ v (fun y => by
        show (name == y) = decide (y = name)
        by_cases h : y = name
        · subst h; simp
        · have : ¬ name = y := fun e => h e.symm
          simp [h, this]) hi
    · rw [hcnt, if_neg hnone]; simpa using hsz
section
variable {prog : Program} {w : World} {A : Around} {E : Value → Shared → Prop} {h₀ h : Heap} {g : Array GenState} {d : Drawn} {tk : Nat} {os : OsState} {led : Led} {mg mb : Str → Option Value} {x dx C : Addr} {i j k n : Nat} {vs : List Value} {Q : Value → Shared → Prop} {o : Obj} {ns : List Str} {as : List (Option Value)} {name : Str} {v : Value} {ex : Bool}
theorem instI (M : Mm h₀ h led) (e : At led i (x, .obj o)) (ed : At led j (dx, .any (DP ns as))) (hc : o.cls = .ref C) (hd : o.dict = some dx) (hn : notCls o = true) : ∃ od, InstAt h x o C (some od) ∧ ∀ name, lookIn name od = some (lz ns as name) := by
  obtain ⟨od, ho, hl⟩ := Ns_look (DP.ns (M.at j ed))
  exact ⟨od, ⟨M.get i e, hc, hn, by rw [hd]; exact ho⟩, hl⟩
theorem findI {cd : ClassData} {od : Obj} {K : Frag} (hc : clsIn K C = some cd) (hh : cd.hasDict = true) (hf : findIn K (.ref C) name = some none) (hl : lookIn name od = some (some v)) : findObj K C (some od) name = some (.value v) := by
  unfold findObj
  rw [hc, Option.bind_some, hf, Option.bind_some]
  simp only [Option.bind_some, W.ownOf, hh, if_true, hl]
/-- an attribute of the maker's own -/
theorem gaF (G : Gd w h₀ mg mb) (M : Mm h₀ h led) (e : At led i (x, .obj (fm dx))) (ed : At led j (dx, .any (DP ns as))) (ej : At ns k name) (ev : At as k (some v)) (hf : findIn (Mine.hd.heap_1 w.params) (.ref 144) name = some none) (hh : handedIn v = true)
    (hq : Q v ⟨h, g, d, tk + 1, os⟩) : wpAny (model prog w) A (getAttr (.ref x) name ex) Q E ⟨h, g, d, tk, os⟩ := by
  obtain ⟨od, I, hl⟩ := instI M e ed rfl rfl rfl
  obtain ⟨cd, hc, hd, _⟩ := f_cls G
  have c := M.at j ed
  have := hl name
  rw [lz_get (DP.nd c) ej.get ev.get] at this
  exact get_value (s := ⟨h, g, d, tk, os⟩) (M.K G) I (f_ga G) (findI hc hd hf this) hh hq
theorem ga_kind : builtinKind "list.__getattribute__" = some .slot := by decide +kernel
theorem ga_split : splitId "list.__getattribute__" = some ("list", "__getattribute__") := by decide +kernel
theorem ga_plain : plainId "list.__getattribute__" = true := by decide +kernel
theorem ga_args (a b : Value) : argsOk "list.__getattribute__" ⟨[a, b], []⟩ := by unfold argsOk; kernel_rfl
theorem ga_bind (self : Value) : bindSpecial (.builtin "list.__getattribute__") self = pure (.builtin "list.__getattribute__", [self]) :=
  (Slot.of (T := "list") (name := "__getattribute__") (owner := "list") (n := "__getattribute__") (by rw [typeLookup_type, builtinLookup_eq_fast]; kernel_rfl) (by decide +kernel) (by decide +kernel) (by decide +kernel)
    (.inl (by decide +kernel)) (by rw [isSubtype_type]; kernel_rfl)).bind self
/-- an attribute of an accumulator's own -/
theorem gaI (G : Gd w h₀ mg mb) (M : Mm h₀ h led) (e : At led i (x, .obj (ac dx vs n))) (ed : At led j (dx, .any (DP ns as))) (ej : At ns k name) (ev : At as k (some v)) (hf : findIn (Mine.hd.heap_1 w.params) (.ref 228) name = some none) (hh : handedIn v = true)
    (hq : Q v ⟨h, g, d, tk + 1, os⟩) : wpAny (model prog w) A (getAttr (.ref x) name ex) Q E ⟨h, g, d, tk, os⟩ := by
  obtain ⟨od, I, hl⟩ := instI M e ed rfl rfl rfl
  obtain ⟨cd, hc, hd, _⟩ := k_cls G
  have c := M.at j ed
  have hlv := hl name
  rw [lz_get (DP.nd c) ej.get ev.get] at hlv
  have L0 := lt (prog := prog) (w := w) M e rfl
  have L1 := looks_find (M := model prog w) (M.K G) I (findI hc hd hf hlv)
  have L2 := looks_findIn (M := model prog w) (M.K G) (k_ga G)
  have L3 := looks_findIn (M := model prog w) (M.K G) (k_gt G)
  unfold getAttr getAttrBy
  refine wpAny_bind (wpAny_mkText (wpAny_holding (wpAny_bind (L0.at (wpAny_bind (L2.at ?_))))))
  show wpAny _ _ (getAttrByItsOwn _ _ _ _ _ _) _ _ _
  unfold getAttrByItsOwn
  refine wpAny_bind (m := hookBefore _) (L3.at ?_)
  refine wpAny_bind (wpAny_attempt ?_)
  show wpAny _ _ (holding _ (callGetattribute _ _ _ _)) _ _ _
  unfold callGetattribute boundAndCalled
  rw [if_neg (by simp [onTheHeap])]
  refine wpAny_holding (wpAny_bind ?_)
  rw [ga_bind]
  refine wpAny_pure ?_
  refine callB (rest := [_]) (.inl ga_kind) ga_split ga_plain (lisub G M e rfl (k_list G)) PySem.am_entry_list_getattribute (ga_args _ _) ?_
  refine wpAny_bind (wpAny_pure (wpAny_bind (wpAny_pure (wpAny_bind (L0.at (wpAny_bind (L1.at ?_)))))))
  refine wpAny_pure ?_
  show wpAny _ _ (handedOut v) _ _ _
  rw [handedOut_of hh]; exact wpAny_pure hq
theorem lp1 (self : Value) : refuseLoop self "__setattr__" [.ref 144, .type "object"] = pure () := by rw [refuseLoop_ref]; exact PySem.F.store_object.passes self
theorem lp2 (self : Value) : refuseLoop self "__setattr__" [.ref 228, .type "list", .type "object"] = pure () := by rw [refuseLoop_ref]; kernel_rfl
/-- storing an attribute into an object's own names -/
theorem saG {cd : ClassData} {Q : Unit → Shared → Prop} (G : Gd w h₀ mg mb) (M : Mm h₀ h led) (e : At led i (x, .obj o)) (ed : At led j (dx, .any (DP ns as))) (hcl : o.cls = .ref C) (hdi : o.dict = some dx) (hno : notCls o = true)
    (hc : clsIn (Mine.hd.heap_1 w.params) C = some cd) (hh : cd.hasDict = true) (hpass : ∀ self, refuseLoop self "__setattr__" cd.mro = pure ()) (hsub : mroIn (Mine.hd.heap_1 w.params) C (.type "object") = some true)
    (hs : findIn (Mine.hd.heap_1 w.params) (.ref C) "__setattr__" = some (some (.builtin "object.__setattr__"))) (hf : findIn (Mine.hd.heap_1 w.params) (.ref C) name = some none) (ej : At ns k name)
    (hz : ns.length ≤ 1000)
    (hq : ∀ h' tk', Mm h₀ h' (led.set j (dx, .any (DP ns (as.set k (some v))))) → Q () ⟨h', g, d, tk', os⟩) : wpAny (model prog w) A (setAttr (.ref x) name v) Q E ⟨h, g, d, tk, os⟩ := by
  obtain ⟨od, I, hl⟩ := instI M e ed hcl hdi hno
  have X := M.K G
  have c := M.at j ed
  have SF := PySem.F.store_object
  have T := lt (prog := prog) (w := w) M e hcl
  refine set_plain (s := ⟨h, g, d, tk, os⟩) X I hs ?_
  have sub : Looks (model prog w) h (isInstance (.ref x) (.type "object")) true := T.andThen (looks_mroIn X hsub)
  refine codeAny_call_builtin SF.slot.plain SF.entry (@check_slot (model prog w) _ _ ⟨h, g, d, tk + 1, os⟩ "object.__setattr__" "object" "__setattr__" (.ref x) [.str name tk, v] [] _ SF.kind SF.split sub (SF.args (.ref x) (.str name tk) v) ?_)
  have hm : Looks (model prog w) h (mroOf (.ref C)) cd.mro := (looks_clsIn X hc).andThen .now
  rw [osa_eq, refuse_eq]
  refine wpAny_bind (wpAny_bind (T.at (wpAny_bind (hm.at ?_))))
  rw [hpass]
  refine wpAny_pure (wpAny_bind (T.at (wpAny_bind ((looks_findIn X hf).at (wpAny_bind (wpAny_pure ?_))))))
  show wpAny _ _ (storeInOwnDict (.ref x) (.ref C) (.str name tk) name v false) _ _ _
  have hx := M.get i e
  obtain ⟨oc, odi, oda, osl⟩ := o
  dsimp only at hcl hdi
  subst hcl hdi
  refine wpAny_bind (wpAny_pure (wpAny_bind (wpAny_bind (wpAny_loadPart hx (wpAny_bind ((looks_clsIn X hc).at ?_))))))
  rw [hh]
  refine wpAny_pure (a := some dx) (wpAny_bind (wpAny_pure (wpAny_bind ?_)))
  refine nsSetD c ej hz fun h' tk' hsame c' => ?_
  obtain ⟨o', ho', hdp⟩ := id c'
  refine wpAny_bind (wpAny_lookBehind ho' (hdp.line hz) ?_)
  exact wpAny_pure (hq _ _ (M.changeB j ed hsame c'))
end
end
section
set_option maxRecDepth 100000
set_option maxHeartbeats 1000000
theorem lz_nones : ∀ (ns : List Str) (x : Str), lz ns (ns.map fun _ => none) x = none
  | [], _ => rfl
  | n :: ns, x => by simp only [List.map_cons, lz]; split; · rfl
                     · exact lz_nones ns x
theorem DP.empty {ns : List Str} (hn : ns.Nodup) : DP ns (ns.map fun _ => none) emptyDict :=
  ⟨hn, by simp, #[], 0, rfl, fun e he => by simp at he, fun x => by rw [lz_nones]; rfl, Nat.zero_le _⟩
theorem Mm.addC {h₀ h : Heap} {led : Led} (M : Mm h₀ h led) (o : Obj) {P : Obj → Prop} (hp : P o) (hf : o.isFreed = false := by rfl) : Mm h₀ (h.push o) ((h.objs.size, .any P) :: led) :=
  M.add (fun _ _ e => Heap.get?_push_of_some o e) ⟨o, Heap.get?_push_size _ hf, hp⟩
theorem f_mk {w : World} {h₀ : Heap} {mg mb : Str → Option Value} (G : Gd w h₀ mg mb) : makesIn (Mine.hd.heap_1 w.params) 144 = true := by walk_at "fill"; exact Eq.symm (Eq.symm (by k_is))
theorem f_in {w : World} {h₀ : Heap} {mg mb : Str → Option Value} (G : Gd w h₀ mg mb) : findIn (Mine.hd.heap_1 w.params) (.ref 144) "__init__" = some (some (.ref 85)) := by walk_at "fill"; exact Eq.symm (Eq.symm (by k_is))
theorem f_ft {w : World} {h₀ : Heap} {mg mb : Str → Option Value} (G : Gd w h₀ mg mb) : typeIn (Mine.hd.heap_1 w.params) (.ref 85) = some (.type "function") := by walk_at "fill"; exact Eq.symm (Eq.symm (by k_is))
theorem k_in {w : World} {h₀ : Heap} {mg mb : Str → Option Value} (G : Gd w h₀ mg mb) : findIn (Mine.hd.heap_1 w.params) (.ref 228) "__init__" = some (some (.ref 165)) := by walk_at "fill"; exact Eq.symm (Eq.symm (by k_is))
theorem k_ft {w : World} {h₀ : Heap} {mg mb : Str → Option Value} (G : Gd w h₀ mg mb) : typeIn (Mine.hd.heap_1 w.params) (.ref 165) = some (.type "function") := by walk_at "fill"; exact Eq.symm (Eq.symm (by k_is))
theorem k_call {w : World} {h₀ : Heap} {mg mb : Str → Option Value} (G : Gd w h₀ mg mb) : specialIn (Mine.hd.heap_1 w.params) (.ref 228) "__call__" = some (some (.builtin "type.__call__")) := by walk_at "fill"; exact Eq.symm (Eq.symm (by k_is))
theorem k_typ {w : World} {h₀ : Heap} {mg mb : Str → Option Value} (G : Gd w h₀ mg mb) : instIn (Mine.hd.heap_1 w.params) (.ref 228) (.type "type") = some true := by walk_at "fill"; exact Eq.symm (Eq.symm (by k_is))
theorem k_self {w : World} {h₀ : Heap} {mg mb : Str → Option Value} (G : Gd w h₀ mg mb) : mroIn (Mine.hd.heap_1 w.params) 228 (.ref 228) = some true := by walk_at "fill"; exact Eq.symm (Eq.symm (by k_is))
theorem k_obj228 {w : World} {h₀ : Heap} {mg mb : Str → Option Value} (G : Gd w h₀ mg mb) : ∃ cd sl, (Mine.hd.heap_1 w.params).lookup 228 = some ⟨.type "type", none, .cls cd, sl⟩ ∧ cd.abstract = false ∧ cd.hasDel = false ∧ cd.mro = [.ref 228, .type "list", .type "object"] ∧ (sl.toList[4]?).join = some (.builtin "list.__new__") := by
  walk_at "fill"; exact ⟨_, _, by k_is, rfl, rfl, rfl, rfl⟩
theorem ln_kind : builtinKind "list.__new__" = some .builtinFn := by decide +kernel
theorem ln_split : splitId "list.__new__" = some ("list", "__new__") := by decide +kernel
theorem ln_row : Manifest.signature? "list.__new__" = some ⟨.any, "list", "list", .cls, [⟨"args", .varPos, false⟩, ⟨"kwargs", .varKw, false⟩]⟩ := by kernel_rfl
theorem ln_entry : entryFor table "list.__new__" = some Builtin.«list.__new__» := entryFor_of_tree (by kernel_rfl)
theorem ln_quiet : "list.__new__".startsWith "lifetime." = false := by decide +kernel
section
variable {prog : Program} {w : World} {A : Around} {h₀ h : Heap} {g : Array GenState} {d : Drawn} {tk : Nat} {os : OsState} {led : Led} {mg mb : Str → Option Value} {R : Result → Shared → Prop}
theorem mkF (ns : List Str) (hns : ns.Nodup) {rest : List Value} (G : Gd w h₀ mg mb) (M : Mm h₀ h led)
    (hq : ∀ x dx h', Mm h₀ h' ((x, .obj (fm dx)) :: (dx, .any (DP ns (ns.map fun _ => none))) :: led) → codeAny (model prog w) (A.under (.builtin "type.__call__" ⟨.ref 144 :: rest, []⟩)) (.call (.ref 85) ⟨.ref x :: rest, []⟩) (InitBack x R) ⟨h', g, d, tk, os⟩) :
    codeAny (model prog w) A (.call (.ref 144) ⟨rest, []⟩) R ⟨h, g, d, tk, os⟩ := by
  have X := M.K G
  refine make_core (makes_of X (f_mk G)) (looks_findIn X (f_in G)) (fun self => bind_fn X self (f_ft G)) (.inl rfl) (hq _ h.objs.size _ ?_)
  have := (M.addC emptyDict (DP.empty hns)).push (instObj 144 h.objs.size)
  rw [Heap.size_push] at this
  exact this
theorem lookA {M : Model} (X : (Mine.hd.heap_1 w.params).In h) (G : Gd w h₀ mg mb) : Looks M h (Bind.madeBy (.ref 228)) (some "list.__new__") ∧ Looks M h (Bind.staticBase (.ref 228)) (.ref 228) := by
  obtain ⟨cd, sl, ho, e1, e2, e3, e4⟩ := k_obj228 G
  have hc : clsIn (Mine.hd.heap_1 w.params) 228 = some cd := by unfold clsIn; rw [ho]
  have hm : Looks M h (mroOf (.ref 228)) cd.mro := (looks_clsIn X hc).andThen .now
  have made : Looks M h (Bind.madeBy (.ref 228)) (some "list.__new__") := by
    intro A Q E s k q
    unfold Bind.madeBy
    refine wpAny_bind (hm A _ E s k ?_)
    rw [e3, List.forIn_cons]
    refine wpAny_bind (wpAny_bind (wpAny_bind (wpAny_bind (wpAny_loadPart (k _ _ (X _ _ ho)) (wpAny_pure ?_)))))
    dsimp only
    rw [← Array.getElem?_toList, e4]
    exact wpAny_pure (wpAny_pure (wpAny_pure q))
  refine ⟨made, ?_⟩
  intro A Q E s k q
  unfold Bind.staticBase
  refine wpAny_bind (hm A _ E s k ?_)
  rw [e3, List.forIn_cons]
  exact wpAny_bind (wpAny_bind (wpAny_bind (made A _ E s k (wpAny_pure (wpAny_pure (wpAny_pure q))))))
theorem newA {rest : List Value} (X : (Mine.hd.heap_1 w.params).In h) (G : Gd w h₀ mg mb)
    (hq : R (.ok (.ret (.ref (h.objs.size + 1)))) ⟨(h.push emptyDict).push (ac h.objs.size [] 0), g, d, tk, os⟩) :
    codeAny (model prog w) A (.call (.builtin "list.__new__") ⟨.ref 228 :: rest, []⟩) R ⟨h, g, d, tk, os⟩ := by
  obtain ⟨cd, sl, ho, e1, e2, e3, e4⟩ := k_obj228 G
  have hC := X _ _ ho
  obtain ⟨made, base⟩ := lookA (M := model prog w) X G
  have sub := looks_mroIn (M := model prog w) X (k_list G)
  refine codeAny_call_builtin_code (Code.quiet_builtin _ ln_quiet) ?_
  simp only [checkBuiltinCall, ln_kind, ln_split, ln_row]
  have args : Bind.checkArgs "list.__new__" ⟨.any, "list", "list", .cls, [⟨"args", .varPos, false⟩, ⟨"kwargs", .varKw, false⟩]⟩ ⟨.ref 228 :: rest, []⟩ = pure () := by kernel_rfl
  rw [args]
  repeat (first | simp only [bne_self_eq_false, Bool.false_eq_true, if_false] | lk)
  refine codeAny_builtin_stack ln_entry rfl fun p st => ?_
  rw [Around.under_plainId PySem.F.plain_list_new _]
  have hown := owner_list_new
  dsimp only
  simp only [hown]
  have ty : Looks (model prog w) h (isType (.ref 228)) true := (Looks.ld hC).andThen .now
  refine wpAny_bind (ty.at ?_)
  rw [if_neg (by decide)]
  refine wpAny_bind (sub.at ?_)
  rw [if_neg (by decide)]
  refine wpAny_bind (wpAny_pure ?_)
  rw [if_neg (by decide)]
  refine wpAny_bind (wpAny_newObj_type ?_ (by size_fits))
  refine wpAny_bind ?_
  show wpAny _ _ (newObj (.ref 228) (.seq #[]) (some h.objs.size)) _ _ _
  unfold newObj
  dsimp only
  rw [if_neg (by decide)]
  unfold newObjAsIs classHasDel
  have hC2 := Heap.get?_push_of_some (ac h.objs.size [] 0) (Heap.get?_push_of_some emptyDict hC)
  refine wpAny_bind (wpAny_alloc (wpAny_bind (wpAny_bind (wpAny_load hC2 (wpAny_pure ?_)))))
  rw [e2]
  refine wpAny_pure (wpAny_pure ?_)
  show R _ _
  rw [Heap.size_push]
  exact hq
theorem mkA (ns : List Str) (hns : ns.Nodup) {rest : List Value} (G : Gd w h₀ mg mb) (M : Mm h₀ h led)
    (hq : ∀ x dx h', Mm h₀ h' ((x, .obj (ac dx [] 0)) :: (dx, .any (DP ns (ns.map fun _ => none))) :: led) → codeAny (model prog w) (A.under (.builtin "type.__call__" ⟨.ref 228 :: rest, []⟩)) (.call (.ref 165) ⟨.ref x :: rest, []⟩) (InitBack x R) ⟨h', g, d, tk, os⟩) :
    codeAny (model prog w) A (.call (.ref 228) ⟨rest, []⟩) R ⟨h, g, d, tk, os⟩ := by
  have X := M.K G
  obtain ⟨cd, sl, ho, e1, e2, e3, e4⟩ := k_obj228 G
  have hC := X _ _ ho
  obtain ⟨made, base⟩ := lookA (M := model prog w) X G
  have call := looks_specialIn (M := model prog w) X (k_call G)
  have typ := looks_instIn (M := model prog w) X (k_typ G)
  have self := looks_mroIn (M := model prog w) X (k_self G)
  have hi := looks_findIn (M := model prog w) X (k_in G)
  have hb := fun self => bind_fn (M := model prog w) X self (k_ft G)
  have e5 : cd.mro.isEmpty = false := by rw [e3]; rfl
  refine codeAny_of_tree ?_
  show wpAny _ _ (callAny (.ref 228) _) _ _ _
  refine nd_load hC ?_
  show wpAny _ _ (callAny.viaDunder (.ref 228) _) _ _ _
  unfold callAny.viaDunder
  refine wpAny_bind (call.at ?_)
  dsimp only
  rw [tc_bind]
  refine wpAny_bind (wpAny_pure (wpAny_bind (wpAny_pure ?_)))
  refine wpAny_pure (a := Fin.again (.call (.builtin "type.__call__") ⟨.ref 228 :: rest, []⟩)) (And.intro rfl ?_)
  refine codeAny_call_builtin_at (Code.quiet_builtin _ (by decide +kernel)) entry_typeCall (check_slot tc_kind tc_split typ (tc_args _ _ _) ?_)
  unfold Builtin.«type.__call__»
  have hm : Looks (model prog w) h (mroOf (.ref 228)) cd.mro := ((Looks.ld (part := none) hC).andThen .now).andThen .now
  repeat (first | simp only [e5, Bool.false_eq_true, if_false] | with_reducible refine wpAny_call ?_ | lk)
  refine newA X G ?_
  have k : ∀ b o, h.get? b = some o → ((h.push emptyDict).push (ac h.objs.size [] 0)).get? b = some o := fun b o e => Heap.get?_push_of_some _ (Heap.get?_push_of_some _ e)
  have hx : ((h.push emptyDict).push (ac h.objs.size [] 0)).get? (h.objs.size + 1) = some (ac h.objs.size [] 0) := by heap_get
  have t1 : Looks (model prog w) ((h.push emptyDict).push (ac h.objs.size [] 0)) (typeOf (.ref (h.objs.size + 1))) (.ref 228) := (Looks.ld hx).andThen .now
  have s1 := self.keeps k
  have i1 := hi.keeps k
  have b1 := (hb (.ref (h.objs.size + 1))).keeps k
  unfold isInstance callSpecial? specialOf
  repeat (first | with_reducible refine wpAny_call ?_ | lk)
  have N := (M.addC emptyDict (DP.empty hns)).push (ac h.objs.size [] 0)
  rw [Heap.size_push] at N
  refine codeAny_mono (hq _ _ _ N) fun r s' z => ?_
  rcases r with e | (v | _ | _ | _) <;> first | exact z | exact z.elim | skip
  obtain ⟨rfl, z⟩ := z
  exact wpAny_pure (wpAny_pure z)
end
end
section
set_option maxRecDepth 100000
set_option maxHeartbeats 1000000
noncomputable abbrev soO (x : Addr) : Obj := { cls := .type "super", dict := none, data := .fields #[.ref 228, .ref x, .ref 228], slots := #[] }
noncomputable abbrev bfO (bt id : String) (x : Addr) : Obj := { cls := .type bt, dict := none, data := .fields #[.builtin id, .ref x], slots := #[] }
theorem md_slot : Slot "method_descriptor" "__get__" "method_descriptor.__get__" := .of (owner := "method_descriptor") (n := "__get__") (by rw [typeLookup_type, builtinLookup_eq_fast]; kernel_rfl) (by decide +kernel) (by decide +kernel) (by decide +kernel)
  (by first | exact .inl (by decide +kernel) | exact .inr (by decide +kernel)) (by rw [isSubtype_type]; kernel_rfl)
theorem md_entry : entryFor table "method_descriptor.__get__" = some Builtin.«method_descriptor.__get__» := entryFor_of_tree (by kernel_rfl)
theorem md_args (a b c : Value) : argsOk "method_descriptor.__get__" ⟨[a, b, c], []⟩ := by unfold argsOk; kernel_rfl
theorem wd_slot : Slot "wrapper_descriptor" "__get__" "wrapper_descriptor.__get__" := .of (owner := "wrapper_descriptor") (n := "__get__") (by rw [typeLookup_type, builtinLookup_eq_fast]; kernel_rfl) (by decide +kernel) (by decide +kernel) (by decide +kernel)
  (by first | exact .inl (by decide +kernel) | exact .inr (by decide +kernel)) (by rw [isSubtype_type]; kernel_rfl)
theorem wd_entry : entryFor table "wrapper_descriptor.__get__" = some Builtin.«wrapper_descriptor.__get__» := entryFor_of_tree (by kernel_rfl)
theorem wd_args (a b c : Value) : argsOk "wrapper_descriptor.__get__" ⟨[a, b, c], []⟩ := by unfold argsOk; kernel_rfl
section
variable {prog : Program} {w : World} {A : Around} {E : Value → Shared → Prop} {h₀ h : Heap} {g : Array GenState} {d : Drawn} {tk : Nat} {os : OsState} {led : Led} {mg mb : Str → Option Value} {x dx : Addr} {i j n : Nat} {vs : List Value}
theorem wd_get {Q : Fin → Shared → Prop} {id : String} (hid : id = "list.__len__" ∨ id = "list.__init__") (hi : Looks (model prog w) h (isInstance (.ref x) (.type "list")) true)
    (hq : Q (.done (.ret (.ref h.objs.size))) ⟨h.push (bfO "method-wrapper" id x), g, d, tk, os⟩) :
    wpAny (model prog w) A (Builtin.«wrapper_descriptor.__get__» ⟨[.builtin id, .ref x, .ref 228], []⟩) Q E ⟨h, g, d, tk, os⟩ := by
  rcases hid with rfl | rfl
  all_goals
    unfold Builtin.«wrapper_descriptor.__get__»
    repeat (first | (refine Looks.at (show Looks _ _ (isInstance _ _) _ from hi) ?_) | lk)
    exact hq
theorem md_get {Q : Fin → Shared → Prop} (hi : Looks (model prog w) h (isInstance (.ref x) (.type "list")) true)
    (hq : Q (.done (.ret (.ref h.objs.size))) ⟨h.push (bfO "builtin_function_or_method" "list.pop" x), g, d, tk, os⟩) :
    wpAny (model prog w) A (Builtin.«method_descriptor.__get__» ⟨[.builtin "list.pop", .ref x, .ref 228], []⟩) Q E ⟨h, g, d, tk, os⟩ := by
  unfold Builtin.«method_descriptor.__get__»
  repeat (first | (refine Looks.at (show Looks _ _ (isInstance _ _) _ from hi) ?_) | lk)
  exact hq
/-- what super() finds in list -/
inductive SupM : Str → String → String → Prop
  | pop : SupM "pop" "list.pop" "builtin_function_or_method"
  | len : SupM "__len__" "list.__len__" "method-wrapper"
  | init : SupM "__init__" "list.__init__" "method-wrapper"
theorem sup_get {name : Str} {id bt : String} (S : SupM name id bt) {Q : Value → Shared → Prop} (hi : Looks (model prog w) h (isInstance (.ref x) (.type "list")) true)
    (hq : Q (.ref h.objs.size) ⟨h.push (bfO bt id x), g, d, tk, os⟩) :
    ∃ T gid, typeOf (.builtin id) = pure (.type T) ∧ typeLookup (.type T) "__get__" = pure (some (.builtin gid)) ∧ builtinOwn "list" name = some (.builtin id) ∧ wpAny (model prog w) A (call (.builtin gid) [.builtin id, .ref x, .ref 228]) Q E ⟨h, g, d, tk, os⟩ := by
  cases S with
  | pop =>
    refine ⟨"method_descriptor", "method_descriptor.__get__", by kernel_rfl, md_slot.lookup, by (rw [builtinOwn_eq_fast]; kernel_rfl), ?_⟩
    exact wpAny_call_entry md_slot (show typeOf _ = _ by kernel_rfl) md_entry (md_get hi ⟨_, rfl, hq⟩) (md_args _ _ _)
  | len =>
    refine ⟨"wrapper_descriptor", "wrapper_descriptor.__get__", by kernel_rfl, wd_slot.lookup, by (rw [builtinOwn_eq_fast]; kernel_rfl), ?_⟩
    exact wpAny_call_entry wd_slot (show typeOf _ = _ by kernel_rfl) wd_entry (wd_get (.inl rfl) hi ⟨_, rfl, hq⟩) (wd_args _ _ _)
  | init =>
    refine ⟨"wrapper_descriptor", "wrapper_descriptor.__get__", by kernel_rfl, wd_slot.lookup, by (rw [builtinOwn_eq_fast]; kernel_rfl), ?_⟩
    exact wpAny_call_entry wd_slot (show typeOf _ = _ by kernel_rfl) wd_entry (wd_get (.inr rfl) hi ⟨_, rfl, hq⟩) (wd_args _ _ _)
theorem sup_ga {name : Str} {id bt : String} (S : SupM name id bt) {so : Addr} {tkn : Tok} {Q : Fin → Shared → Prop} (G : Gd w h₀ mg mb) (M : Mm h₀ h led) (e : At led i (x, .obj (ac dx vs n))) (hso : h.get? so = some (soO x))
    (hno : Looks (model prog w) h (opaqueClassAbove (.ref 228)) none) (hq : Q (.done (.ret (.ref h.objs.size))) ⟨h.push (bfO bt id x), g, d, tk, os⟩) :
    wpAny (model prog w) A (Builtin.«super.__getattribute__» ⟨[.ref so, .str name tkn], []⟩) Q E ⟨h, g, d, tk, os⟩ := by
  obtain ⟨cd, hc, hd, hmro⟩ := k_cls G
  have X := M.K G
  have hC : Looks (model prog w) h (mroOf (.ref 228)) [.ref 228, .type "list", .type "object"] := hmro ▸ (looks_clsIn X hc).andThen .now
  have hxC : x ≠ 228 := by
    rintro rfl
    unfold clsIn at hc
    split at hc
    · rename_i ho
      have e1 := X _ _ ho
      rw [M.get i e] at e1
      cases e1
    · cases hc
  have hne : (Value.ref x == Value.ref 228) = false := by simp [hxC]
  have hn : (name == ("__class__" : Str)) = false := by cases S <;> decide
  have hi := lisub (prog := prog) G M e rfl (k_list G)
  obtain ⟨T, gid, t1, t2, t3, hcall⟩ := sup_get (A := A) (E := E) (g := g) (d := d) (tk := tk) (os := os) S hi (Q := fun v s' => Q (.done (.ret v)) s') hq
  unfold Builtin.«super.__getattribute__»
  dsimp only
  have f0 := looks_field (M := model prog w) hso 0 (v := .ref 228) rfl
  have f1 := looks_field (M := model prog w) hso 1 (v := .ref x) rfl
  have f2 := looks_field (M := model prog w) hso 2 (v := .ref 228) rfl
  repeat (first | (with_reducible refine ks_wpAny_notOpaque hno ?_) | (simp only [hn, Bool.or_false, Bool.false_eq_true, if_false]) | lk)
  rw [t3]
  dsimp only
  rw [t1]
  refine wpAny_bind (wpAny_pure ?_)
  rw [t2]
  refine wpAny_bind (wpAny_pure ?_)
  dsimp only
  rw [hne, if_neg Bool.false_ne_true]
  refine wpAny_bind (wpAny_holding (wpAny_mono hcall (fun v s' z => ?_) fun _ _ z => z))
  exact wpAny_bind (wpAny_pure (wpAny_pure (wpAny_pure (wpAny_pure z))))
theorem gmS {name : Str} {id bt : String} (S : SupM name id bt) {so : Addr} {pl : Sem Bool} {Q : Value × List Value → Shared → Prop} (G : Gd w h₀ mg mb) (M : Mm h₀ h led) (e : At led i (x, .obj (ac dx vs n))) (es : At led j (so, .obj (soO x)))
    (hno : Looks (model prog w) h (opaqueClassAbove (.ref 228)) none) (hq : ∀ b h', Mm h₀ h' ((b, .obj (bfO bt id x)) :: led) → Q (.ref b, []) ⟨h', g, d, tk + 1, os⟩) :
    wpAny (model prog w) A (getMethod (.ref so) name pl) Q E ⟨h, g, d, tk, os⟩ := by
  have hso := M.get j es
  have hlk := PySem.F.ks_slot_super_ga.lookup
  have hcan := PySem.F.ks_canon_super_ga
  have hT : ∀ t', (⟨h, g, d, t', os⟩ : Shared).TypeIs (.ref so) "super" := fun _ => ⟨_, hso, rfl⟩
  unfold getMethod
  refine wpAny_bind (wpAny_specialOf (hT _) hlk ?_)
  show wpAny _ _ (if (Manifest.canonical "super.__getattribute__" != "object.__getattribute__") = true then _ else _) _ _ _
  rw [if_pos hcan]
  unfold getAttr getAttrBy
  refine wpAny_bind (wpAny_bind (wpAny_mkText (wpAny_holding (wpAny_bind (wpAny_typeOf (hT _) (wpAny_bind (wpAny_of_eq hlk ?_)))))))
  show wpAny _ _ (getAttrByItsOwn (.ref so) (.str name tk) (.type "super") (.builtin "super.__getattribute__") true false) _ _ _
  unfold getAttrByItsOwn hookBefore callGetattribute boundAndCalled
  refine wpAny_bind (wpAny_of_eq (show (if onTheHeap (.type "super") then typeLookup (.type "super") "__getattr__" else pure none) = pure none from rfl) ?_)
  refine wpAny_bind (wpAny_attempt (wpAny_holding ?_))
  show wpAny _ _ (bindSpecial (.builtin "super.__getattribute__") (.ref so) >>= _) _ _ _
  refine wpAny_bind (wpAny_of_eq (PySem.F.ks_slot_super_ga.bind _) ?_)
  refine wpAny_mono (Q := fun v s' => v = .ref h.objs.size ∧ s' = ⟨h.push (bfO bt id x), g, d, tk + 1, os⟩) (E := fun _ _ => False)
    (wpAny_call_entry PySem.F.ks_slot_super_ga (hT _) PySem.F.ks_entry_super_ga (sup_ga S G M e hso hno ⟨_, rfl, rfl, rfl⟩) (PySem.F.ks_gaArgs_super _ _)) (fun v s' hv => ?_) fun _ _ z => z.elim
  obtain ⟨rfl, rfl⟩ := hv
  exact wpAny_pure (wpAny_pure (hq _ _ (M.push _)))
theorem k_mod {w : World} {h₀ : Heap} {mg mb : Str → Option Value} (G : Gd w h₀ mg mb) : mroIn (Mine.hd.heap_1 w.params) 228 (.type "module") = some false := by walk_at "fill"; exact Eq.symm (Eq.symm (by k_is))
theorem k_ty {w : World} {h₀ : Heap} {mg mb : Str → Option Value} (G : Gd w h₀ mg mb) : typeIn (Mine.hd.heap_1 w.params) (.ref 228) = some (.type "type") := by walk_at "fill"; exact Eq.symm (Eq.symm (by k_is))
theorem k_cls2 {w : World} {h₀ : Heap} {mg mb : Str → Option Value} (G : Gd w h₀ mg mb) : ∃ cd, clsIn (Mine.hd.heap_1 w.params) 228 = some cd ∧ cd.qualname = Str.ofString "_Accumulator" := by
  walk_at "fill"; exact ⟨_, by k_is, rfl⟩
theorem pop_sig : ∃ sig, Manifest.signature? "list.pop" = some sig ∧ ∀ x, Bind.checkArgs "list.pop" { sig with full := s!"{(Str.ofString "_Accumulator").toString}.{Bind.lastOf "list.pop"}" } ⟨[x], []⟩ = pure () := ⟨⟨.positional, "list.pop", "pop", .self, [⟨"index", .posOnly, false⟩]⟩, by kernel_rfl, fun x => by kernel_rfl⟩
theorem pop_kind : builtinKind "list.pop" = some .method := by decide +kernel
theorem pop_va : Manifest.varargsMethods.contains "list.pop" = false := by decide +kernel
theorem bd_pop {Q : Unit → Shared → Prop} (G : Gd w h₀ mg mb) (M : Mm h₀ h led) (e : At led i (x, .obj (ac dx vs n))) (hq : Q () ⟨h, g, d, tk, os⟩) : wpAny (model prog w) A (checkBoundCall "list.pop" ⟨[.ref x], []⟩) Q E ⟨h, g, d, tk, os⟩ := by
  obtain ⟨sig, h1, h2⟩ := pop_sig
  obtain ⟨cd, hc, hqn⟩ := k_cls2 G
  have X := M.K G
  have hi := lisub (prog := prog) G M e rfl (k_mod G)
  have hT := lt (prog := prog) (w := w) M e rfl
  have ht : Looks (model prog w) h (isType (.ref x)) false := (Looks.ld (M.get i e)).andThen .now
  have hcd := looks_clsIn (M := model prog w) X hc
  have htt := looks_typeIn (M := model prog w) X (k_ty G)
  unfold checkBoundCall
  simp only [h1, pop_kind]
  rw [if_neg (by decide)]
  refine wpAny_bind (hi.at ?_)
  rw [pop_va, if_neg (by decide)]
  refine wpAny_bind (ht.at ?_)
  rw [if_neg (by decide)]
  refine wpAny_bind (hT.at ?_)
  dsimp only
  refine wpAny_bind (hcd.at ?_)
  refine wpAny_bind (htt.at ?_)
  rw [if_pos (by decide), hqn]
  exact wpAny_of_eq (h2 _) hq
theorem bd_len (x : Value) : checkBoundCall "list.__len__" ⟨[x], []⟩ = pure () := by kernel_rfl
theorem bd_init (x : Value) : checkBoundCall "list.__init__" ⟨[x], []⟩ = pure () := by kernel_rfl
theorem sup_plain {name : Str} {id bt : String} (S : SupM name id bt) : plainId id = true := by cases S <;> decide +kernel
theorem callWith_f {b : Addr} {bt id : String} {env : Env} {pos : Pos} {Q : Value → Shared → Prop} {s : Shared} (hb : s.heap.get? b = some (bfO bt id x)) (hbt : bt = "builtin_function_or_method" ∨ bt = "method-wrapper")
    (hq : wpAny (model prog w) A (call (.ref b) []) Q E s) : wpAny (model prog w) A (callWith pos (.ref b) [] (backTo pos (starEach [] env)) []) Q E s := by
  unfold callWith
  refine wpAny_bind (wpAny_holding ?_)
  show wpAny _ _ (evalArgs _ true [] []) _ _ _
  refine wpAny_of_eq (a := ⟨[], []⟩) (by rfl) ?_
  refine wpAny_bind (wpAny_standAt ?_)
  refine wpAny_bind (m := keeperOf (.ref b)) ?_
  unfold keeperOf
  refine wpAny_bind (wpAny_load hb ?_)
  have : (bfO bt id x).cls = .type bt := rfl
  rcases hbt with rfl | rfl
  all_goals
    refine wpAny_pure ?_
    refine wpAny_bind (wpAny_mono hq (fun v s' z => ?_) fun _ _ z => z)
    exact wpAny_bind (wpAny_holding (wpAny_point (wpAny_pure z)))
/-- a call of what super() found -/
theorem callS {name : Str} {id bt : String} (S : SupM name id bt) {b : Addr} {B : Builtin} {env : Env} {pos : Pos} {Q : Value → Shared → Prop} (G : Gd w h₀ mg mb) (M : Mm h₀ h led) (e : At led i (x, .obj (ac dx vs n))) (eb : At led j (b, .obj (bfO bt id x))) (entry : entryFor table id = some B)
    (hq : wpAny (model prog w) A.in1 (B ⟨[.ref x], []⟩) (fun fin s' => match fin with | .done (.ret v) => Q v s' | _ => False) E ⟨h, g, d, tk, os⟩) :
    wpAny (model prog w) A (callWith pos (.ref b) [] (backTo pos (starEach [] env)) []) Q E ⟨h, g, d, tk, os⟩ := by
  have hb := M.get j eb
  refine callWith_f (s := ⟨h, g, d, tk, os⟩) hb (by cases S <;> simp) ?_
  refine wpAny_call (codeAny_of_tree ?_)
  show wpAny _ A.in1 (callAny (.ref b) _) _ _ _
  unfold callAny
  refine wpAny_bind (wpAny_load hb ?_)
  have hpl := sup_plain S
  have fin : wpAny (model prog w) A.in1 (again (.builtin id ⟨[.ref x], []⟩)) (fun fin s' => match fin with | .done f => wants Q E (.ok f) s' | .again c' => c'.quiet = true ∧ codeAny (model prog w) A c' (wants Q E) s') (fun e s' => wants Q E (.error e) s') ⟨h, g, d, tk, os⟩ := by
    refine wpAny_pure ⟨plainId_quiet hpl _, codeAny_builtin entry ?_⟩
    rw [Around.under_plainId hpl _]
    refine wpAny_mono hq (fun fin s' z => ?_) fun _ _ z => z
    rcases fin with (_ | _ | _ | _) | _ <;> first | exact z | exact z.elim
  have hc : wpAny (model prog w) A.in1 (do checkBoundCall id ⟨[.ref x], []⟩; again (.builtin id ⟨[.ref x], []⟩)) (fun fin s' => match fin with | .done f => wants Q E (.ok f) s' | .again c' => c'.quiet = true ∧ codeAny (model prog w) A c' (wants Q E) s') (fun e s' => wants Q E (.error e) s') ⟨h, g, d, tk, os⟩ := by
    cases S with
    | pop => exact wpAny_bind (bd_pop G M e fin)
    | len => rw [bd_len]; exact wpAny_bind (wpAny_pure fin)
    | init => rw [bd_init]; exact wpAny_bind (wpAny_pure fin)
  cases S <;> exact hc
end
end
section
set_option maxRecDepth 100000
set_option maxHeartbeats 1000000
section
variable {prog : Program} {w : World} {A : Around} {E : Value → Shared → Prop} {h₀ h : Heap} {g : Array GenState} {d : Drawn} {tk : Nat} {os : OsState} {led : Led} {mg mb : Str → Option Value} {x dx : Addr} {i j n : Nat} {vs : List Value}
/-- a call of a method that says super() -/
theorem callEAt {R : Result → Shared → Prop} {a : Addr} {oc : Value} {od : Option Addr} {osl : Array (Option Value)} {name qual : Str} {params : Arguments} {body : List Stmt} {scope : Scope} {cl : List (Str × Addr)} {dV kV doc pm cdv ct : Value} {an : Option Addr}
    {args : Args} (ps rest : List Str) (vals : List Value)
    (G : Gd w h₀ mg mb) (M : Mm h₀ h led) (hroom : A.depth < recursionLimit)
    (ho : (Mine.hd.heap_1 w.params).lookup a = some ⟨oc, od, .func ⟨name, qual, params, .stmts body, scope, mainGlobals, cl, dV, kV, doc, pm, an, cdv, ct, builtinsNs⟩, osl⟩) (hcd : codeIn (Mine.hd.heap_1 w.params) cdv qual = true)
    (hbind : BindsTo ⟨h, g, d, tk, os⟩ ⟨name, qual, params, .stmts body, scope, mainGlobals, cl, dV, kV, doc, pm, an, cdv, ct, builtinsNs⟩ args (ps.zip vals))
    (hcell : ∀ x ∈ scope.names, x.2 ≠ .cell) (hloc : ((ps.zip vals).all fun x => decide (scope.names.lookup x.1 = some .local)) = true)
    (hnd : (ps ++ rest).Nodup) (hlen : vals.length = ps.length)
    (hco : scope.isCoroutine = false) (hgen : scope.isGenerator = false) (hk : scope.kind = .function)
    (hq : ∀ L h' tk' E', Mm h₀ h' ((L, .ns (ps ++ rest) (vals.map some ++ rest.map fun _ => none)) :: led) →
      PySem.wpAt (model prog w) (A.deeper (envX qual scope L a cdv cl)) (.func body (envX qual scope L a cdv cl)) (execs body (envX qual scope L a cdv cl)) (fun f s' => R (.ok (.ret (match f with | .ret v => v | _ => .none))) s') E' ⟨h', g, d, tk', os⟩) :
    codeAny (model prog w) A (.call (.ref a) args) R ⟨h, g, d, tk, os⟩ := by
  have X := G.K.keeps M.old
  refine ks_codeAny_call_defAt hroom (X _ _ ho) rfl (G.lim.keeps M.old) (codeRec_of X hcd) rfl hbind hcell (locs hloc) (fun h1 hns hk1 => ?_) hco hgen hk
  refine hq _ _ _ _ (M.add hk1 ⟨hnd, by simp [hlen], ?_⟩)
  have : (fun x => (ps.zip vals).reverse.lookup x) = lz (ps ++ rest) (vals.map some ++ rest.map fun _ => none) := funext fun x => by
    rw [lz_zip x hlen, lookup_rev x (List.nodup_append.mp hnd).1 hlen]
  exact this ▸ hns
theorem k_opq (G : Gd w h₀ mg mb) (M : Mm h₀ h led) : Looks (model prog w) h (opaqueClassAbove (.ref 228)) none := by
  walk_at "fill"
  exact looks_opaque (M.K G) (by k_is)
theorem k_super (G : Gd w h₀ mg mb) : nsIn (Mine.hd.heap_1 w.params) mainGlobals "super" = some none := by walk_at "fill"; exact Eq.symm (Eq.symm (by k_is))
theorem k_cell (G : Gd w h₀ mg mb) : ∃ sl, (Mine.hd.heap_1 w.params).lookup 152 = some ⟨.type "cell", none, .cell (some (.ref 228)), sl⟩ := by walk_at "fill"; exact ⟨_, by k_is⟩
theorem supB {ns : List Str} {as : List (Option Value)} {body : List Stmt} {q : Str} {scope : Scope} {p0 p1 : Pos} {attr : Str} {whole : Sem Value} {f cda L : Addr} {fd : FuncData} {ar : Arg} {vsc : Array Value} {file : Str} {tf : Tok} {oc ccl : Value} {od cdd : Option Addr} {osl ccs : Array (Option Value)} {k : Nat} {Q : Value → Shared → Prop}
    (G : Gd w h₀ mg mb) (M : Mm h₀ h led) (e : At led i (x, .obj (ac dx vs n))) (el : At led j (L, .ns ns as)) (ej : At ns k ar.arg) (ev : At as k (some (.ref x)))
    (hf : (Mine.hd.heap_1 w.params).lookup f = some ⟨oc, od, .func fd, osl⟩) (hp : (fd.params.posonlyargs ++ fd.params.args).head? = some ar)
    (hcode : (Mine.hd.heap_1 w.params).lookup cda = some ⟨ccl, cdd, .fields vsc, ccs⟩) (hvs : vsc[2]? = some (.str file tf)) (hfile : ((prog.main.file : Str) == file) = true)
    (hat : (attr == ("__class__" : Str)) = false) (hks : scope.names.lookup ("super" : Str) = some .globalImplicit) (hkc : scope.names.lookup ("__class__" : Str) = some .free) (hka : scope.names.lookup ar.arg = some .local) (hk : scope.kind = .function)
    (htop : (prog.main.scope.names.lookup ("super" : Str)).isSome = false)
    (hq : ∀ so h', Mm h₀ h' ((so, .obj (soO x)) :: led) → Q (.ref so) ⟨h', g, d, tk, os⟩) :
    PySem.wpAt (model prog w) A (.func body (envX q scope L f (.ref cda) [("__class__", 152)])) (attributeBase (.Call (.Name "super" p0) [] [] p1) attr (envX q scope L f (.ref cda) [("__class__", 152)]) whole) Q E ⟨h, g, d, tk, os⟩ := by
  have X := M.K G
  have hboot : bootBuiltins "super" = some (.type "super") := by boot_by_name
  obtain ⟨cl, hcell⟩ := k_cell G
  obtain ⟨cd, sl, hD, _, _, hmro, _⟩ := k_obj228 G
  have c := M.at j el
  refine ks_wpAt_super_base (env := envX q scope L f (.ref cda) [("__class__", 152)]) hks hkc hat rfl (X _ _ hf) rfl hp rfl (X _ _ hcode) rfl hvs hfile htop ?_
  refine ks_loadName_global hk hks (loadGlobal_builtin (env := envX q scope L f (.ref cda) [("__class__", 152)]) (G.g.keeps M.old) (mg_none_of G.K G.g (k_super G)) (G.b.keeps M.old) ((G.bn _ (by decide +kernel)).trans hboot) ⟨rfl, ?_⟩)
  refine wpAny_loadName_free hk hkc rfl ⟨_, X _ _ hcell, rfl⟩ ?_
  refine wpAny_loadName_local hk hka c.2.2 (lz_get c.1 ej.get ev.get) ?_
  refine ks_wpAny_isType_cls (X _ _ hD) rfl ⟨rfl, ?_⟩
  refine ks_wpAny_call_super (X _ _ hD) rfl (M.get i e) rfl (fun c e => by cases e) (looks_mroIn X (k_self G)) (fun h' e' kk => ?_)
  exact hq _ _ (M.add (c := .obj (soO x)) kk e')
end
end
section
noncomputable abbrev isz (sz : Int) (t : Tok) : Cell := .any (DP [Str.ofString "_initial_size"] [some (.int sz t)])
set_option maxRecDepth 100000
set_option maxHeartbeats 4000000
section
variable {w : World} {A : Around} {E : Value → Shared → Prop} {h₀ h : Heap} {g : Array GenState} {d : Drawn} {tk : Nat} {os : OsState} {led : Led} {mg mb : Str → Option Value} {x dx : Addr} {i j n : Nat} {vs : List Value} {Q : Value → Shared → Prop}
theorem ac_len_w {P : Fin → Shared → Prop} {s : Shared} (hl : s.heap.get? x = some (ac dx vs n)) (hq : P (.done (.ret (.int vs.length s.toks))) { s with toks := s.toks + 1 }) : wpAny (MP w) A (Builtin.«list.__len__» ⟨[.ref x], []⟩) P E s := by
  obtain ⟨hp, g, d, tk, os⟩ := s
  wp_walk using wpAny_loadPart' hl
  rw [List.size_toArray]
  exact hq
theorem ac_init_w {P : Fin → Shared → Prop} {s : Shared} (hl : s.heap.get? x = some (ac dx [] 0)) (hq : P (.done (.ret .none)) { s with heap := s.heap.update x (Obj.mapSeq fun _ => #[]) }) : wpAny (MP w) A (Builtin.«list.__init__» ⟨[.ref x], []⟩) P E s := by
  obtain ⟨hp, g, d, tk, os⟩ := s
  have hz : (#[] : Array Value).size ≤ sizeLine := by decide
  have hz' : ((fun _ => #[]) (#[] : Array Value) : Array Value).size ≤ sizeLine + 1 := by decide
  wp_walk using (wpAny_updateSeq hl rfl (hz := hz) (_hz' := hz')), wpAny_loadPart' hl
  exact hq
theorem ac_pop_w {P : Fin → Shared → Prop} {s : Shared} {y : Value} (hl : s.heap.get? x = some (ac dx (vs ++ [y]) n)) (hs1 : vs.length + 1 ≤ sizeLine) (hq : P (.done (.ret y)) { s with heap := s.heap.update x (Obj.mapSeq fun xs => xs.eraseIdxIfInBounds ((vs ++ [y]).toArray.size - 1)) }) : wpAny (MP w) A (Builtin.«list.pop» ⟨[.ref x], []⟩) P E s := by
  obtain ⟨hp, g, d, tk, os⟩ := s
  have hs2 : (vs ++ [y]).toArray.size ≤ sizeLine := by simpa using hs1
  generalize hitems : (vs ++ [y]).toArray = items at *
  have hy : items[items.size - 1]? = some y := by rw [← hitems]; simp
  have hpos : 0 < items.size := by rw [← hitems]; simp
  have hne : ¬ items.isEmpty = true := by
    intro he; have : items.size = 0 := by simpa using he
    omega
  have hk : seqIndex? (-1) items.size = some (items.size - 1) := by
    exact PyProof.Rows.seqIndex?_neg_one hpos
  have hl : hp.get? x = some { cls := .ref 228, dict := some dx, data := .seq items n, slots := #[] } := by rw [← hitems]; exact hl
  wp_walk using wpAny_loadPart' hl
  simp only [hk, hy, Option.bind_some, Option.map_some]
  have hz' : (items.eraseIdxIfInBounds (items.size - 1)).size ≤ sizeLine + 1 := Nat.le_trans (MeetsSeq.size_erased items _) (Nat.le_succ_of_le hs2)
  wp_walk using (wpAny_updateSeq hl rfl (hz := hs2) (_hz' := hz')), wpAny_loadPart' hl
  exact hq
theorem count_spec (G : Gd w h₀ mg mb) (M : Mm h₀ h led) (R : Rm A 3) (e : At led i (x, .obj (ac dx vs n)))
   (hq : ∀ h' tk' t', Mm h₀ h' led → Q (.int vs.length t') ⟨h', g, d, tk', os⟩) :
   wpAny (MP w) A (call (.ref 225) [.ref x]) Q E ⟨h, g, d, tk, os⟩ := by
  walk_at "fill"
  refine' wpAny_call (callEAt [Str.ofString "self"] [] [.ref x] G M R.d ?ho ?hcd ?hbind ?hcell ?hloc ?nd ?hlen ?c1 ?c2 ?c3 ?_)
  walk_at "entered"
  intro L h' tk' E' M'
  dsimp only [List.map, List.cons_append, List.nil_append] at M'
  refine ks_wpAt_execs_cons (ks_wpAt_Return_some (ks_wpAt_MethodCall ?_))
  refine' supB G M' (.s e) .z ?ej ?ev ?hf ?hp ?hcode ?hvs ?hfile ?hat ?hks ?hkc ?hka ?hk ?htop ?_
  walk_at "superd"
  intro so h2 M2
  refine gmS .len G M2 (.s (.s e)) .z (k_opq G M2) ?_
  intro b h3 M3
  refine callS .len G M3 (.s (.s (.s e))) .z F.entry_list_len (ac_len_w (M3.get _ (.s (.s (.s e)))) ?_)
  exact hq _ _ _ M3.tail.tail.tail
theorem init_spec {sz : Int} {t : Tok} (G : Gd w h₀ mg mb) (M : Mm h₀ h ((x, .obj (ac dx [] 0)) :: (dx, .any (DP [Str.ofString "_initial_size"] [none])) :: led)) (R : Rm A 3) {R' : Result → Shared → Prop}
   (hq : ∀ h' tk', Mm h₀ h' ((x, .obj (ac dx [] 0)) :: (dx, isz sz t) :: led) → R' (.ok (.ret .none)) ⟨h', g, d, tk', os⟩) :
   codeAny (MP w) A (.call (.ref 165) ⟨[.ref x, .int sz t], []⟩) R' ⟨h, g, d, tk, os⟩ := by
  walk_at "fill"
  refine' callEAt [Str.ofString "self", Str.ofString "initial_size"] [] [.ref x, .int sz t] G M R.d ?ho ?hcd ?hbind ?hcell ?hloc ?nd ?hlen ?c1 ?c2 ?c3 ?_
  walk_at "entered"
  intro L h' tk' E' M'
  dsimp only [List.map, List.cons_append, List.nil_append] at M'
  refine ks_wpAt_execs_cons (ks_wpAt_Assign_Attr ?_)
  refine wpAt_of_wpAny ?_
  repeat walk1
  obtain ⟨cd, hc, hd, hmro⟩ := k_cls G
  refine saG G M' .n1 .n2 rfl rfl rfl hc hd (fun self => by rw [hmro]; exact lp2 self) (k_obj G) (k_sa G) (by k_is) .z (by decide) ?_
  intro h2 k2 M2
  dsimp only [List.set] at M2
  try dsimp only
  refine ks_wpAt_execs_cons (ks_wpAt_Expr_any (ks_wpAt_MethodCall ?_))
  refine' supB G M2 .n1 .z ?ej ?ev ?hf ?hp ?hcode ?hvs ?hfile ?hat ?hks ?hkc ?hka ?hk ?htop ?_
  walk_at "superd"
  intro so h3 M3
  refine gmS .init G M3 .n2 .z (k_opq G M3) ?_
  intro b h4 M4
  refine callS .init G M4 .n3 .z (B := Builtin.«list.__init__») (entryFor_of_tree (by kernel_rfl)) (ac_init_w (M4.get _ .n3) ?_)
  have M5 := M4.update 3 .n3 (Obj.mapSeq fun _ => #[])
  refine wpAt_of_wpAny ?_
  repeat walk1
  exact hq _ _ M5.tail.tail.tail
end
end
section
section
variable {prog : Program} {w : World} {A : Around} {E : Value → Shared → Prop} {h₀ h : Heap} {g : Array GenState} {d : Drawn} {tk : Nat} {os : OsState} {led : Led} {mg mb : Str → Option Value} {x dx : Addr} {i j n : Nat} {vs : List Value} {ns : List Str} {as : List (Option Value)} {name : Str} {f : Value} {T : String} {pl : Sem Bool} {Q : Value × List Value → Shared → Prop}
theorem can_l : Manifest.canonical "list.__getattribute__" = "object.__getattribute__" := by decide +kernel
theorem can_o : Manifest.canonical "object.__getattribute__" = "object.__getattribute__" := by decide +kernel
theorem gm228 (G : Gd w h₀ mg mb) (M : Mm h₀ h led) (e : At led i (x, .obj (ac dx vs n))) (ed : At led j (dx, .any (DP ns as))) (hf : findIn (Mine.hd.heap_1 w.params) (.ref 228) name = some (some f)) (ht : typeIn (Mine.hd.heap_1 w.params) f = some (.type T))
    (hT : (Value.type T != .type "function" && Value.type T != .type "method_descriptor" && Value.type T != .type "wrapper_descriptor") = false) (hn : name ∉ ns) (hq : Q (f, [.ref x]) ⟨h, g, d, tk, os⟩) : wpAny (model prog w) A (getMethod (.ref x) name pl) Q E ⟨h, g, d, tk, os⟩ :=
  gmI G M e (DP.ns (M.at j ed)) rfl rfl (k_ga G) can_l (k_gt G) hf ht hT (lz_no hn) hq
theorem gm144 (G : Gd w h₀ mg mb) (M : Mm h₀ h led) (e : At led i (x, .obj (fm dx))) (ed : At led j (dx, .any (DP ns as))) (hf : findIn (Mine.hd.heap_1 w.params) (.ref 144) name = some (some f)) (ht : typeIn (Mine.hd.heap_1 w.params) f = some (.type T))
    (hT : (Value.type T != .type "function" && Value.type T != .type "method_descriptor" && Value.type T != .type "wrapper_descriptor") = false) (hn : name ∉ ns) (hq : Q (f, [.ref x]) ⟨h, g, d, tk, os⟩) : wpAny (model prog w) A (getMethod (.ref x) name pl) Q E ⟨h, g, d, tk, os⟩ :=
  gmI G M e (DP.ns (M.at j ed)) rfl rfl (f_ga G) can_o (f_gt G) hf ht hT (lz_no hn) hq
theorem f_obj (G : Gd w h₀ mg mb) : mroIn (Mine.hd.heap_1 w.params) 144 (.type "object") = some true := by walk_at "fill"; exact Eq.symm (Eq.symm (by k_is))
theorem saI {v : Value} {k : Nat} {Q : Unit → Shared → Prop} (G : Gd w h₀ mg mb) (M : Mm h₀ h led) (e : At led i (x, .obj (ac dx vs n))) (ed : At led j (dx, .any (DP ns as))) (ej : At ns k name) (hf : findIn (Mine.hd.heap_1 w.params) (.ref 228) name = some none) (hz : ns.length ≤ 1000)
    (hq : ∀ h' tk', Mm h₀ h' (led.set j (dx, .any (DP ns (as.set k (some v))))) → Q () ⟨h', g, d, tk', os⟩) : wpAny (model prog w) A (setAttr (.ref x) name v) Q E ⟨h, g, d, tk, os⟩ := by
  obtain ⟨cd, hc, hd, hmro⟩ := k_cls G
  exact saG G M e ed rfl rfl rfl hc hd (fun self => by rw [hmro]; exact lp2 self) (k_obj G) (k_sa G) hf ej hz hq
theorem saF {v : Value} {k : Nat} {Q : Unit → Shared → Prop} (G : Gd w h₀ mg mb) (M : Mm h₀ h led) (e : At led i (x, .obj (fm dx))) (ed : At led j (dx, .any (DP ns as))) (ej : At ns k name) (hf : findIn (Mine.hd.heap_1 w.params) (.ref 144) name = some none) (hz : ns.length ≤ 1000)
    (hq : ∀ h' tk', Mm h₀ h' (led.set j (dx, .any (DP ns (as.set k (some v))))) → Q () ⟨h', g, d, tk', os⟩) : wpAny (model prog w) A (setAttr (.ref x) name v) Q E ⟨h, g, d, tk, os⟩ := by
  obtain ⟨cd, hc, hd, hmro⟩ := f_cls G
  exact saG G M e ed rfl rfl rfl hc hd (fun self => by rw [hmro]; exact lp1 self) (f_obj G) (f_sa G) hf ej hz hq
end
theorem asgA {M : Model} {A : Around} {E : Value → Shared → Prop} {s : Shared} {env : Env} {o : Expr} {attr : Str} {pos' pos : Pos} {value : Expr} {Q : Flow → Shared → Prop}
    (h : wpAny M A (eval value env) (fun v s₁ => wpAny M A (eval o env) (fun ov s₂ => wpAny M A (setAttr ov attr v) (fun _ => Q .next) E s₂) E s₁) E s)
    (hs : swapsWith value (some (.Attribute o attr pos')) pos.line env = pure false := by rfl) : wpAny M A (exec (.Assign [.Attribute o attr pos'] value pos) env) Q E s := fun Γ p hΓ => by
  simp only [plainObj_exec_Assign_Attribute o attr pos' value pos hs, assign_Attribute, Sem.wp_bind', Sem.wp_holding, Sem.wp_cmd_standAt, Sem.wp_release, Sem.wp_pure']
  exact Sem.wp_mono M Γ _ (fun v p₁ s₁ h₁ => Sem.wp_mono M Γ _ (fun ov _ s₂ h₂ => h₂ Γ _ hΓ) (fun _ _ _ h' => h') _ _ (h₁ Γ p₁ hΓ)) (fun _ _ _ h' => h') _ _ (h Γ _ hΓ)
end
set_option hygiene false
local macro_rules | `(tactic| walk_at "getMethod ref") => `(tactic| first
  | (refine gmApp (by assumption) (by walk_at "at") ?_) | (refine gmPop (by assumption) (by walk_at "at") ?_)
  | (refine gm228 (by assumption) (by assumption) (by walk_at "at") (by walk_at "at") (by k_is) (by k_is) (by decide) (by decide) ?_)
  | (refine gm144 (by assumption) (by assumption) (by walk_at "at") (by walk_at "at") (by k_is) (by k_is) (by decide) (by decide) ?_))
local macro_rules | `(tactic| walk_at "setAttr ref") => `(tactic| ((first
  | (refine saI (by assumption) (by assumption) (by walk_at "at") (by walk_at "at") (by walk_at "at") (by k_is) (by decide) ?_)
  | (refine saF (by assumption) (by assumption) (by walk_at "at") (by walk_at "at") (by walk_at "at") (by k_is) (by decide) ?_)); walk_at "iM"))
local macro_rules | `(tactic| walk_at "getAttr ref") => `(tactic| first
  | (refine gaI (by assumption) (by assumption) (by walk_at "at") (by walk_at "at") (by walk_at "at") (by walk_at "at") (by k_is) rfl ?_)
  | (refine gaF (by assumption) (by assumption) (by walk_at "at") (by walk_at "at") (by walk_at "at") (by walk_at "at") (by k_is) rfl ?_))
local macro_rules | `(tactic| walk_at "call builtin:list.append") => `(tactic| ((first
  | (refine appL (by assumption) (by walk_at "at") (by walk_at "sz") ?_)
  | (refine appI (by assumption) (by assumption) (by walk_at "at") (by walk_at "sz") ?_)); walk_at "ihM"))
local macro_rules | `(tactic| walk_at "exec Assign") => `(tactic| refine asgA ?_)
local macro_rules | `(tactic| walk_at "perm") => `(tactic| (repeat (first | exact List.Perm.refl _ | (refine List.Perm.trans (List.Perm.cons _ ?_) (perm_front (At.get (by walk_at "at"))); dsimp only [List.eraseIdx]))))
set_option hygiene true
section
set_option maxRecDepth 100000
set_option maxHeartbeats 4000000
theorem Mm.ne {h₀ h : Heap} {led : Led} (M : Mm h₀ h led) {i j : Nat} {a b : Addr} {c c' : Cell} (e : At led i (a, c)) (f : At led j (b, c')) (hij : i ≠ j) : a ≠ b := by
  intro q
  have h1 : (led.map (·.1))[i]? = some a := by rw [List.getElem?_map, e.get]; rfl
  have h2 : (led.map (·.1))[j]? = some a := by rw [List.getElem?_map, f.get, q]; rfl
  exact hij ((List.getElem?_inj (List.getElem?_eq_some_iff.mp h1).1 M.nd).mp (h1.trans h2.symm))
theorem cut_from (vs : List Value) (k : Nat) (hk : k ≤ vs.length) : vs.take k ++ [] ++ vs.drop (max k vs.length) = vs.take k := by
  rw [List.append_nil, Nat.max_eq_right hk, List.drop_length, List.append_nil]
theorem cut_all (vs us : List Value) : vs.take 0 ++ us ++ vs.drop (max 0 vs.length) = us := by
  rw [Nat.max_eq_right (Nat.zero_le _), List.drop_length]; simp
section
variable {w : World} {A : Around} {E : Value → Shared → Prop} {h₀ h : Heap} {g : Array GenState} {d : Drawn} {tk : Nat} {os : OsState} {led : Led} {mg mb : Str → Option Value} {x dx : Addr} {i j n : Nat} {vs : List Value} {Q : Value → Shared → Prop} {sz : Int} {t : Tok}
theorem push_spec {a b : Value} (G : Gd w h₀ mg mb) (M : Mm h₀ h ((x, .obj (ac dx vs n)) :: (dx, isz sz t) :: led)) (R : Rm A 3) (hz : vs.length ≤ 1000)
   (hq : ∀ T h' tk', Mm h₀ h' ((x, .obj (ac dx (vs ++ [.ref T]) (n + 1))) :: (dx, isz sz t) :: (T, .obj (tup [a, b])) :: led) → Q .none ⟨h', g, d, tk', os⟩) :
   wpAny (MP w) A (call (.ref 172) [.ref x, a, b]) Q E ⟨h, g, d, tk, os⟩ := by
  walk_at "fill"
  refine' wpAny_call (callE [Str.ofString "self", Str.ofString "fws", Str.ofString "string"] [] [.ref x, a, b] G M R.d ?ho ?hcd ?hbind ?hcell ?hloc ?nd ?hlen ?c1 ?c2 ?c3 ?_)
  walk_at "entered"
  intro L h' tk' E' M'
  dsimp only [List.map, List.cons_append, List.nil_append] at M'
  have hh : A.handled = none := R.handled
  repeat walk1
  rename_i T h2 M2 h3 M3
  refine hq T _ _ ?_
  exact M3.tail.perm (((List.Perm.swap _ _ _).cons _).trans (List.Perm.swap _ _ _))
theorem pop_nil_spec (G : Gd w h₀ mg mb) (M : Mm h₀ h ((x, .obj (ac dx [] n)) :: (dx, isz sz t) :: led)) (R : Rm A 5)
   (hq : ∀ T h' tk' t1 t2, Mm h₀ h' ((x, .obj (ac dx [] n)) :: (dx, isz sz t) :: (T, .obj (tup [.str (S []) t1, .str (S []) t2])) :: led) → Q (.ref T) ⟨h', g, d, tk', os⟩) :
   wpAny (MP w) A (call (.ref 188) [.ref x]) Q E ⟨h, g, d, tk, os⟩ := by
  walk_at "fill"
  refine' wpAny_call (callEAt [Str.ofString "self"] [] [.ref x] G M R.d ?ho ?hcd ?hbind ?hcell ?hloc ?nd ?hlen ?c1 ?c2 ?c3 ?_)
  walk_at "entered"
  intro L h' tk' E' M'
  dsimp only [List.map, List.cons_append, List.nil_append] at M'
  have R1 := fun env => Rm.deeper (R.le (by decide : 4 + 1 ≤ 5)) env
  have hh : A.handled = none := R.handled
  refine ks_wpAt_execs_cons (ks_wpAt_If (wpAt_of_wpAny ?_))
  repeat walk1
  refine count_spec G M' ((R1 _).le (by decide)) .n1 ?_
  intro h2 k2 t2 M2
  clear M'
  repeat walk1
  rename_i M3
  exact hq _ _ _ _ _ (M3.tail.perm (((List.Perm.swap _ _ _).cons _).trans (List.Perm.swap _ _ _)))
theorem pop_spec {y : Value} (G : Gd w h₀ mg mb) (M : Mm h₀ h ((x, .obj (ac dx (vs ++ [y]) n)) :: (dx, isz sz t) :: led)) (R : Rm A 5) (hz : vs.length + 1 ≤ 1000)
   (hq : ∀ h' tk', Mm h₀ h' ((x, .obj (ac dx vs (n + 1))) :: (dx, isz sz t) :: led) → Q y ⟨h', g, d, tk', os⟩) :
   wpAny (MP w) A (call (.ref 188) [.ref x]) Q E ⟨h, g, d, tk, os⟩ := by
  walk_at "fill"
  refine' wpAny_call (callEAt [Str.ofString "self"] [] [.ref x] G M R.d ?ho ?hcd ?hbind ?hcell ?hloc ?nd ?hlen ?c1 ?c2 ?c3 ?_)
  walk_at "entered"
  intro L h' tk' E' M'
  dsimp only [List.map, List.cons_append, List.nil_append] at M'
  have R1 := fun env => Rm.deeper (R.le (by decide : 4 + 1 ≤ 5)) env
  have hh : A.handled = none := R.handled
  refine ks_wpAt_execs_cons (ks_wpAt_If (wpAt_of_wpAny ?_))
  repeat walk1
  refine count_spec G M' ((R1 _).le (by decide)) .n1 ?_
  intro h2 k2 t2 M2
  clear M'
  repeat walk1
  all_goals first | (exfalso; have hc := List.length_append (as := vs) (bs := [y]); simp only [List.length_append, List.length_singleton] at *; omega) | skip
  refine wpAt_of_wpAny ?_
  walk1
  try dsimp only
  refine ks_wpAt_execs_cons (ks_wpAt_Return_some (ks_wpAt_MethodCall ?_))
  refine' supB G M2 .n1 .z ?ej ?ev ?hf ?hp ?hcode ?hvs ?hfile ?hat ?hks ?hkc ?hka ?hk ?htop ?_
  walk_at "superd"
  intro so h3 M3
  refine gmS .pop G M3 .n2 .z (k_opq G M3) ?_
  intro b h4 M4
  refine callS .pop G M4 .n3 .z F.entry_list_pop (ac_pop_w (M4.get _ .n3) (by rw [sizeLine_eq]; omega) ?_)
  have M5 := M4.update 3 .n3 (Obj.mapSeq fun xs => xs.eraseIdxIfInBounds ((vs ++ [y]).toArray.size - 1))
  have e2 : Obj.mapSeq (fun xs => xs.eraseIdxIfInBounds ((vs ++ [y]).toArray.size - 1)) (ac dx (vs ++ [y]) n) = ac dx vs (n + 1) := by
    simp [Obj.mapSeq, ac, Array.eraseIdxIfInBounds, List.eraseIdx_append_of_length_le]
  rw [e2] at M5
  exact hq _ _ M5.tail.tail.tail
theorem popfrom_spec {k : Nat} {u : Tok} (G : Gd w h₀ mg mb) (M : Mm h₀ h ((x, .obj (ac dx vs n)) :: (dx, isz sz t) :: led)) (R : Rm A 3) (hz : vs.length ≤ 1000) (hk : k ≤ vs.length)
   (hq : ∀ T h' tk' n', Mm h₀ h' ((x, .obj (ac dx (vs.take k) n')) :: (dx, isz sz t) :: (T, .obj (lo (vs.drop k) 0)) :: led) → Q (.ref T) ⟨h', g, d, tk', os⟩) :
   wpAny (MP w) A (call (.ref 180) [.ref x, .int k u]) Q E ⟨h, g, d, tk, os⟩ := by
  walk_at "fill"
  refine' wpAny_call (callE [Str.ofString "self", Str.ofString "i"] [Str.ofString "popped"] [.ref x, .int k u] G M R.d ?ho ?hcd ?hbind ?hcell ?hloc ?nd ?hlen ?c1 ?c2 ?c3 ?_)
  walk_at "entered"
  intro L h' tk' E' M'
  dsimp only [List.map, List.cons_append, List.nil_append] at M'
  have hh : A.handled = none := R.handled
  repeat walk1
  refine slI G M' .n1 (.int _ _) .none (slicePick_from' vs.toArray k) (by rw [sizeLine_eq]; omega) ?_
  intro T h2 M2
  clear M'
  repeat walk1
  rename_i h3 k3 M3 l4 h4 M4
  clear M2 M3
  refine ssI (b := vs.length) G M4 .n3 .n1 (M4.ne .n3 .n1 (by decide)) (.int _ _) .none (show (some ((k : Nat) : Int)).elim 0 (clipAt vs.length) = k by simp only [Option.elim, clipAt_nat]; omega) rfl (by rw [sizeLine_eq]; simp; omega) ?_
  intro h5 n5 M5
  dsimp only [List.set] at M5
  rw [cut_from vs k hk] at M5
  repeat walk1
  refine hq T _ _ n5 ?_
  exact ((M5.tail.tail).perm (((List.Perm.swap _ _ _).cons _).trans (List.Perm.swap _ _ _)))
theorem reset_none_spec (G : Gd w h₀ mg mb) (M : Mm h₀ h ((x, .obj (ac dx vs n)) :: (dx, isz sz t) :: led)) (R : Rm A 3) (hz : vs.length ≤ 1000)
   (hq : ∀ h' tk' n' t', Mm h₀ h' ((x, .obj (ac dx [] n')) :: (dx, isz 0 t') :: led) → Q .none ⟨h', g, d, tk', os⟩) :
   wpAny (MP w) A (call (.ref 210) [.ref x]) Q E ⟨h, g, d, tk, os⟩ := by
  walk_at "fill"
  refine' wpAny_call (callE [Str.ofString "self", Str.ofString "startval"] [] [.ref x, .none] G M R.d ?ho ?hcd ?hbind ?hcell ?hloc ?nd ?hlen ?c1 ?c2 ?c3 ?_)
  walk_at "entered"
  intro L h' tk' E' M'
  dsimp only [List.map, List.cons_append, List.nil_append] at M'
  have hh : A.handled = none := R.handled
  repeat walk1
  rename_i l2 h2 M2 h3 k3 M3
  clear M' M2
  refine ssI (a := 0) (b := vs.length) G M3 .n2 .n1 (M3.ne .n2 .n1 (by decide)) .none .none rfl rfl (by rw [sizeLine_eq]; simp; omega) ?_
  intro h5 n5 M5
  dsimp only [List.set] at M5
  rw [cut_all] at M5
  clear M3
  repeat walk1
  rename_i M6
  exact hq _ _ n5 _ M6.tail.tail
theorem reset_spec {T : Addr} {us : List Value} {m : Nat} (G : Gd w h₀ mg mb) (M : Mm h₀ h ((x, .obj (ac dx vs n)) :: (dx, isz sz t) :: (T, .obj (lo us m)) :: led)) (R : Rm A 3) (hz : vs.length ≤ 1000) (hz2 : us.length ≤ 1000)
   (hq : ∀ h' tk' n' t', Mm h₀ h' ((x, .obj (ac dx us n')) :: (dx, isz 0 t') :: (T, .obj (lo us m)) :: led) → Q .none ⟨h', g, d, tk', os⟩) :
   wpAny (MP w) A (call (.ref 210) [.ref x, .ref T]) Q E ⟨h, g, d, tk, os⟩ := by
  walk_at "fill"
  refine' wpAny_call (callE [Str.ofString "self", Str.ofString "startval"] [] [.ref x, .ref T] G M R.d ?ho ?hcd ?hbind ?hcell ?hloc ?nd ?hlen ?c1 ?c2 ?c3 ?_)
  walk_at "entered"
  intro L h' tk' E' M'
  dsimp only [List.map, List.cons_append, List.nil_append] at M'
  have hh : A.handled = none := R.handled
  repeat walk1
  refine ssI (a := 0) (b := vs.length) G M' .n1 .n3 (M'.ne .n1 .n3 (by decide)) .none .none rfl rfl (by rw [sizeLine_eq]; omega) ?_
  intro h5 n5 M5
  dsimp only [List.set] at M5
  rw [cut_all] at M5
  clear M'
  repeat walk1
  rename_i M6
  exact hq _ _ n5 _ M6.tail
end
end
section
set_option maxRecDepth 100000
set_option maxHeartbeats 1000000
section
variable {prog : Program} {w : World} {A : Around} {E : Value → Shared → Prop} {s : Shared}
theorem seqn_item {it l : Addr} {i n : Nat} {items : Array Value} {o' : Obj} {x : Value} {Q : Option Value → Shared → Prop} (hit : s.heap.IsListIter it l i)
    (hol : s.heap.get? l = some o') (hdl : o'.data = .seq items n) (hx : items[i]? = some x)
    (hQ : ∀ h', h'.IsListIter it l (i + 1) → Heap.SameBut it s.heap h' → Q (some x) { s with heap := h' }) :
    wpAny (model prog w) A (pyNext (.ref it)) Q E s := by
  obtain ⟨o, ho, hc, hd⟩ := id hit
  unfold pyNext
  refine wpAny_bind (wpAny_attempt (wpAny_callSpecial?_slot (name := Str.ofString "__next__") hit.typeIs slot_listiter_next
    (wpAny_call_entry slot_listiter_next hit.typeIs entry_listiter_next ?_ (args_listiter_next _))))
  show wpAny _ _ (field (.ref it) 0 >>= _) _ _ s
  refine wpAny_bind (wpAny_field ho hd (x := .ref l) rfl ?_)
  show wpAny _ _ (if (Value.ref l == Value.none) = true then _ else _) _ _ s
  rw [if_neg (show ¬ ((Value.ref l == Value.none) = true) from Bool.false_ne_true)]
  show wpAny _ _ (field (.ref it) 1 >>= _) _ _ s
  refine wpAny_bind (wpAny_field ho hd (x := .int i 0) rfl ?_)
  show wpAny _ _ (seqItems? (.ref l) >>= _) _ _ s
  refine wpAny_bind (wpAny_seqItems hol hdl ?_)
  simp only [Int.toNat_natCast, hx]
  refine wpAny_bind (wpAny_setField ho hd (by simp) (wpAny_pure ⟨x, rfl, wpAny_pure (hQ _ ?_ (Heap.SameBut.update ..))⟩))
  exact ⟨_, Heap.get?_update_self _ ho (Obj.isFreed_of_fields (Obj.data_mapFields hd _)), (Obj.cls_mapFields ..).trans hc, by
    rw [Obj.data_mapFields hd]; simp [rawInt]⟩
theorem seqn_end {it l : Addr} {i n : Nat} {items : Array Value} {o' : Obj} {Q : Option Value → Shared → Prop} (hh : A.handled = none)
    (hit : s.heap.IsListIter it l i) (hol : s.heap.get? l = some o') (hdl : o'.data = .seq items n) (hx : items[i]? = none)
    (hQ : ∀ h', Heap.ExtBut it s.heap h' → Q none { s with heap := h' }) : wpAny (model prog w) A (pyNext (.ref it)) Q E s := by
  obtain ⟨o, ho, hc, hd⟩ := id hit
  unfold pyNext
  refine wpAny_bind (wpAny_attempt (wpAny_callSpecial?_slot (name := Str.ofString "__next__") hit.typeIs slot_listiter_next
    (wpAny_call_entry slot_listiter_next hit.typeIs entry_listiter_next ?_ (args_listiter_next _))))
  show wpAny _ _ (field (.ref it) 0 >>= _) _ _ s
  refine wpAny_bind (wpAny_field ho hd (x := .ref l) rfl ?_)
  show wpAny _ _ (if (Value.ref l == Value.none) = true then _ else _) _ _ s
  rw [if_neg (show ¬ ((Value.ref l == Value.none) = true) from Bool.false_ne_true)]
  show wpAny _ _ (field (.ref it) 1 >>= _) _ _ s
  refine wpAny_bind (wpAny_field ho hd (x := .int i 0) rfl ?_)
  show wpAny _ _ (seqItems? (.ref l) >>= _) _ _ s
  refine wpAny_bind (wpAny_seqItems hol hdl ?_)
  simp only [Int.toNat_natCast, hx]
  refine wpAny_bind (wpAny_rule (wpAny_bind (wpAny_setField ho hd (by simp) ?_)))
  show wpAny _ _ (newExc (.type "StopIteration") [] >>= _) _ _ _
  refine wpAny_bind ?_
  simp only [newExc, newTuple]
  refine wpAny_bind (wpAny_newObj_type ?_ (by size_fits))
  refine wpAny_bind (m := firstArgMember _ _) (wpAny_of_eq (a := Value.none) (by first | rfl | (simp only [firstArgMember]; rfl)) ?_)
  refine wpAny_newObj_type ?_ (by size_fits)
  simp only [raiseNew]
  refine wpAny_bind (wpAny_handled ?_)
  rw [show A.in1.handled = none from hh]
  refine wpAny_bind (wpAny_pure (wpAny_throw ?_))
  refine wpAny_bind (wpAny_isInstance (T := "StopIteration") (b := true) ⟨_, Heap.get?_push_size _ rfl, rfl⟩ isSubtype_stop ?_)
  exact wpAny_pure (hQ _ (((Heap.SameBut.update ..).extBut.push _).push _))
theorem walksA (hh : A.handled = none) (I x : Addr) (o : Obj) (n : Nat) (hne : x ≠ I) (items : Array Value) (hd : o.data = .seq items n) (Ts : Nat → Addr) (vals : Nat → Array Value)
    (hit : ∀ j, j < items.size → items[j]? = some (.ref (Ts j))) (hTI : ∀ j, j < items.size → Ts j ≠ I) :
    WalksU prog w A I (I :: x :: (List.range items.size).map Ts) [I] items.size (fun j v => v = vals j)
      (fun j h => h.IsListIter I x j ∧ h.get? x = some o ∧ ∀ k, k < items.size → h.IsTuple (Ts k) (vals k))
      (fun j T h => (j < items.size ∧ T = Ts j) ∧ h.IsListIter I x (j + 1) ∧ h.get? x = some o ∧ ∀ k, k < items.size → h.IsTuple (Ts k) (vals k)) where
  sub := fun b hb => by simp at hb; simp [hb]
  frame := fun _ _ _ st hk => ⟨st.1.at fun o e => hk I (by simp) o e, hk x (by simp) _ st.2.1,
    fun k hk' => (st.2.2 k hk').at fun o e => hk (Ts k) (List.mem_cons_of_mem _ (List.mem_cons_of_mem _ (List.mem_map.mpr ⟨k, List.mem_range.mpr hk', rfl⟩))) o e⟩
  item := fun i s Q E hi st hQ => by
    refine seqn_item st.1 st.2.1 hd (x := .ref (Ts i)) (hit i hi) fun h' hit' hs' => ?_
    have tup : ∀ k, k < items.size → h'.IsTuple (Ts k) (vals k) := fun k hk' => (st.2.2 k hk').extBut hs'.extBut (hTI k hk')
    exact hQ (Ts i) (vals i) h' s.toks rfl (tup i hi) ⟨⟨hi, rfl⟩, hit', hs'.extBut _ _ hne st.2.1, tup⟩ fun b o hb e => hs'.extBut b o (fun h => hb (by simp [h])) e
  go := fun _ _ _ _ _ s Q _ hm hQ => wpAny_letOwnedTupleGo_listiter hm.2.1 (hQ s.heap hm.2 fun _ _ _ e => e)
  apart := fun j T _ hm hmem => by
    rcases List.mem_cons.mp hmem with e | e
    · exact hTI j hm.1.1 (hm.1.2 ▸ e)
    · cases e
  done := fun s Q E st hQ => seqn_end hh st.1 st.2.1 hd (by simp) fun h' he' => hQ h' s.toks fun b o hb e => he' b o (fun h => hb (by simp [h])) e
  self := fun _ _ _ _ st hQ => wpAny_pyIter_listiter st.1 hQ
/-- a walk with one item ahead that is taken already -/
theorem walksUp {I : Addr} {fp wr : List Addr} {G : Array GenState → Array GenState → Prop} {n : Nat} {P : Nat → Value → Prop} {St : Nat → Shared → Prop} (P0 : Value → Prop) (W : WalksS prog w A I fp wr G n P St) :
    WalksS prog w A I fp wr G (n + 1) (fun i v => match i with | 0 => P0 v | i + 1 => P i v) (fun i s => match i with | 0 => False | i + 1 => St i s) where
  sub := W.sub
  grefl := W.grefl
  gtrans := W.gtrans
  frame := fun i s h' tk st ht hk => match i, st with | i + 1, st => W.frame i s h' tk st ht hk
  item := fun i s Q E hi st hQ => match i, st, hi, hQ with | i + 1, st, hi, hQ => W.item i s Q E (by omega) st hQ
  done := fun s Q E st hQ => W.done s Q E st hQ
  self := fun i s Q E st hQ => match i, st with | i + 1, st => W.self i s Q E st hQ
noncomputable def sumI (val : Nat → Int) : Nat → Int
  | 0 => 0
  | n + 1 => sumI val n + val n
theorem preSum_up (s0 : Int) (val : Nat → Int) : ∀ n, preSum (fun i => match i with | 0 => s0 | i + 1 => val i) (n + 1) = s0 + sumI val n
  | 0 => by simp [preSum, sumI]
  | n + 1 => by rw [preSum, preSum_up s0 val n, sumI]; exact Int.add_assoc _ _ _
theorem args_sum2 (a b : Value) : argsOk "sum" ⟨[a, b], []⟩ := by unfold argsOk; kernel_rfl
theorem sum2 {I : Addr} {fp wr : List Addr} {G : Array GenState → Array GenState → Prop} {n : Nat} {P : Nat → Value → Prop} {St : Nat → Shared → Prop} {Q : Value → Shared → Prop} {s0 : Int} {t0 : Tok} (W : WalksS prog w A.in1.in1 I fp wr G n P St) (hst : St 0 s) (hfp : ∀ b ∈ fp, b < s.heap.objs.size)
    (val : Nat → Int) (hval : ∀ i v, P i v → ∃ t, v = .int (val i) t)
    (hq : ∀ s' t', Moved wr G s s' → Q (.int (s0 + sumI val n) t') s') : wpAny (model prog w) A (call (.builtin "sum") [.ref I, .int s0 t0]) Q E s := by
  refine call_function_tree PySem.F.kind_sum PySem.F.plain_sum PySem.F.entry_sum (args_sum2 _ _) ?_
  unfold Builtin.«sum»
  simp only [List.length_cons, List.length_nil]
  rw [if_neg (by decide)]
  refine wpAny_bind (wpAny_of_eq (show Builtin.Builtins.bindParams "sum" ["start"] 0 ⟨[.int s0 t0], []⟩ = pure [some (.int s0 t0)] from rfl) ?_)
  refine wpAny_bind (W.of_in1.self 0 s _ _ hst ?_)
  have fin : ∀ (st : Int) (tA : Tok) (tk : Nat), (st = 0 ∨ st = 2) → s.toks ≤ tk → wpAny (model prog w) A.in1 (do
      forIn [("str", "strings", "''"), ("bytes", "bytes", "b''"), ("bytearray", "bytearray", "b''")] PUnit.unit
          fun x __s => do
          let __do_lift ← isInstance (.int s0 tA) (Value.type x.fst)
          if __do_lift = true then do
              rule "sum.start-refused"
              raiseErrorMade "TypeError"
                  (toString "sum() can't sum " ++ toString x.2.fst ++ toString " [use " ++ toString x.2.snd ++
                    toString ".join(seq) instead]")
              pure (ForInStep.yield PUnit.unit)
            else pure (ForInStep.yield PUnit.unit)
      let __do_lift ← newList [.int s0 tA]
      again (Code.builtin "sum.loop" { pos := [Value.ref I, __do_lift, rawInt st, rawInt 0] }))
      (fun fin s' => match fin with | .done f => wants Q E (.ok f) s' | .again c' => c'.quiet = true ∧ codeAny (model prog w) A c' (wants Q E) s') (fun e s' => wants Q E (.error e) s') { s with toks := tk } := by
    intro st tA tk hs htk
    simp only [List.forIn_cons, List.forIn_nil]
    refine wpAny_bind (wpAny_bind (wpAny_bind (wpAny_isInstance (T := "int") (b := false) (typeIs_int _ _ _) PySem.sub_int_str ?_)))
    simp only [Bool.false_eq_true, if_false]
    refine wpAny_pure (wpAny_bind (wpAny_bind (wpAny_isInstance (T := "int") (b := false) (typeIs_int _ _ _) PySem.sub_int_bytes ?_)))
    simp only [Bool.false_eq_true, if_false]
    refine wpAny_pure (wpAny_bind (wpAny_bind (wpAny_isInstance (T := "int") (b := false) (typeIs_int _ _ _) PySem.sub_int_bytearray ?_)))
    simp only [Bool.false_eq_true, if_false]
    refine wpAny_pure (wpAny_pure ?_)
    refine wpAny_bind (wpAny_newObj_type ?_)
    have hSf : s.heap.objs.size ∉ fp := fun hm => Nat.lt_irrefl _ (hfp _ hm)
    have hp0 : preSum (fun i => match i with | 0 => s0 | i + 1 => val i) 1 = s0 := by simp [preSum]
    have hval' : ∀ i v, (match i with | 0 => v = Value.int s0 tA | i + 1 => P i v) → ∃ t, v = Value.int ((fun i => match i with | 0 => s0 | i + 1 => val i) i) t := by
      intro i v
      cases i with
      | zero => intro h; exact ⟨tA, h⟩
      | succ i => intro h; exact hval i v h
    refine wpAny_pure ⟨plainId_quiet PySem.F.plain_sum_loop _, codeAny_sum_loopAnyS (walksUp (fun v => v = Value.int s0 tA) W.of_in1) (fun i => match i with | 0 => s0 | i + 1 => val i) hval' s.heap.objs.size hSf n 1 _ tA 0 st hs (by omega) (by omega)
      (W.frame _ s _ tk hst htk fun b _ o e => Heap.get?_push_of_some _ e) (by rw [hp0]; exact Heap.get?_push_size _ rfl) fun s' t' hm => ?_⟩
    rw [preSum_up]
    refine hq s' t' ⟨fun b o hb e => hm.heap b o (fun hm2 => ?_) (Heap.get?_push_of_some _ e), hm.gens, hm.drawn, hm.os, Nat.le_trans htk hm.toks⟩
    rcases List.mem_cons.mp hm2 with q | q
    · exact Nat.ne_of_lt (Heap.lt_size e) q
    · exact hb q
  dsimp only
  split
  · exact wpAny_bind (wpAny_rule (wpAny_bind (wpAny_mkInt (wpAny_bind (wpAny_pure (fin 0 _ _ (.inl rfl) (Nat.le_succ _)))))))
  · exact wpAny_bind (wpAny_pure (fin 2 _ _ (.inr rfl) (Nat.le_refl _)))
end
end
section
set_option maxRecDepth 100000
set_option maxHeartbeats 4000000
noncomputable def TabP (o : Obj) : Prop := ∃ ps, o = { cls := .none, data := .fields ps } ∧ TriplesOk ps.toList
theorem genexprY {M : Model} {A : Around} {E : Value → Shared → Prop} {s : Shared} {env : Env} {c P : Addr} {ps : Array Value} {pos : Pos} {qualname : Str} {scope : Scope} {Q : Value → Shared → Prop} (hc : env.code = .ref c) (hok : s.heap.IsCode c P ps) (htab : s.heap.TableAt c P ps)
    (hQ : ∀ code h' tk ps', Heap.ExtBut P s.heap h' → h'.IsCode c P ps' → h'.TableAt c P ps' → Q code { s with heap := h', toks := tk }) :
    wpAny M A (genexprCode env pos qualname scope) Q E s := by
  cases hnf : codeAmong pos ps.toList with
  | some cv => exact wpAny_genexprCode_hit hc hok hnf (hQ cv s.heap s.toks ps (Heap.ExtBut.refl _ _) hok htab)
  | none => exact wpAny_genexprCodeX hc hok htab hnf fun c' h' tk a _ _ b _ c _ => hQ _ _ _ _ a b c
theorem Mm.extC {h₀ h h' : Heap} {led : Led} {a : Addr} {c c' : Cell} (M : Mm h₀ h led) (i : Nat) (e : At led i (a, c)) (k : Heap.ExtBut a h h') (hc : c'.At h' a) : Mm h₀ h' (led.set i (a, c')) := by
  have e1 := e.get
  have hm := List.mem_of_getElem? e1
  refine ⟨fun b o q => ?_, fun p hp => ?_, fun p hp => ?_, by rw [set_fst e1]; exact M.nd⟩
  · refine k b o (fun z => ?_) (M.old b o q)
    have := M.new _ hm; rw [z] at q; rw [q] at this; cases this
  · obtain ⟨j, hj⟩ := List.mem_iff_getElem?.mp hp
    by_cases q : i = j
    · subst q
      rw [List.getElem?_set_self (List.getElem?_eq_some_iff.mp e1).1] at hj
      cases hj; exact hc
    · rw [List.getElem?_set_ne q] at hj
      have hx := M.at j (a := p.1) (c := p.2) (At.of hj)
      exact hx.ext fun o z => k _ _ (M.ne (At.of hj) e (Ne.symm q)) z
  · obtain ⟨j, hj⟩ := List.mem_iff_getElem?.mp hp
    by_cases q : i = j
    · subst q
      rw [List.getElem?_set_self (List.getElem?_eq_some_iff.mp e1).1] at hj
      cases hj; exact M.new (a, c) hm
    · rw [List.getElem?_set_ne q] at hj
      exact M.new _ (List.mem_of_getElem? hj)
theorem Mm.moved {h₀ h h' : Heap} {led : Led} {wr : List Addr} (M : Mm h₀ h led) (hk : ∀ b o, b ∉ wr → h.get? b = some o → h'.get? b = some o) (hw : ∀ p ∈ led, p.1 ∉ wr) (h0 : ∀ b ∈ wr, h₀.get? b = none) : Mm h₀ h' led :=
  ⟨fun b o e => hk b o (fun hb => by rw [h0 b hb] at e; cases e) (M.old b o e), fun p hp => (M.cells p hp).ext fun o e => hk _ o (hw p hp) e, M.new, M.nd⟩
theorem nd_uniq : ∀ {led : Led} {p q : Addr × Cell}, (led.map (·.1)).Nodup → p ∈ led → q ∈ led → p.1 = q.1 → p = q
  | [], _, _, _, hp, _, _ => by cases hp
  | r :: led, p, q, nd, hp, hq, e => by
    rw [List.map_cons, List.nodup_cons] at nd
    rcases List.mem_cons.mp hp with e1 | h1
    · rcases List.mem_cons.mp hq with e2 | h2
      · rw [e1, e2]
      · have h := List.mem_map_of_mem (f := fun x : Addr × Cell => x.1) h2
        rw [← e, e1] at h; exact absurd h nd.1
    · rcases List.mem_cons.mp hq with e2 | h2
      · have h := List.mem_map_of_mem (f := fun x : Addr × Cell => x.1) h1
        rw [e, e2] at h; exact absurd h nd.1
      · exact nd_uniq nd.2 h1 h2 e
theorem Mm.lt {h₀ h : Heap} {led : Led} (M : Mm h₀ h led) {p : Addr × Cell} (hp : p ∈ led) : p.1 < h.objs.size := (M.cells p hp).lt
/-- pairs of texts as tuples of the ledger -/
noncomputable def Prs (led : Led) (ps : List (List Nat × List Nat)) (vs : List Value) : Prop :=
  vs.length = ps.length ∧ ∀ (k : Nat) (p : List Nat × List Nat), ps[k]? = some p → ∃ (T : Addr) (t u : Tok), vs[k]? = some (Value.ref T) ∧ (T, Cell.obj (tup [Value.str (S p.1) t, Value.str (S p.2) u])) ∈ led
theorem Prs.mono {led led' : Led} {ps : List (List Nat × List Nat)} {vs : List Value} (x : Prs led ps vs) (h : ∀ p ∈ led, p ∈ led') : Prs led' ps vs :=
  ⟨x.1, fun k p e => let ⟨T, t, u, a, b⟩ := x.2 k p e; ⟨T, t, u, a, h _ b⟩⟩
theorem bare_moved {g g' : Array GenState} {gs : GenState} (hb : AllBare g) (hgs : gs.bare = true) (hm : GenOnlyQ g.size (g.push gs) g') : AllBare g' := by
  rcases hm with rfl | ⟨⟨h1, h2⟩, h3⟩
  · exact AllBare.push hb hgs
  · intro x hx
    obtain ⟨k, hk, rfl⟩ := Array.mem_iff_getElem.mp hx
    by_cases q : k = g.size
    · exact h3 _ (by rw [← q]; exact Array.getElem?_eq_getElem hk)
    · have e := h2 k q
      rw [Array.getElem?_eq_getElem hk] at e
      exact AllBare.push hb hgs _ (Array.mem_of_getElem? e.symm)
noncomputable def BM (h₀ : Heap) (mg : Str → Option Value) : Prop := ∃ bm ob, mg "__builtins__" = some (.ref bm) ∧ bm ≠ builtinsNs ∧ h₀.get? bm = some ob ∧ ob.cls = .type "module" ∧ ob.dict = some builtinsNs ∧ ob.data = .plain
noncomputable def plen (ps : List (List Nat × List Nat)) : Nat := (ps.map fun p => p.1.length + p.2.length).sum
theorem ldm {prog : Program} {w : World} {A : Around} {E : Value → Shared → Prop} {s : Shared} {env : Env} {x : Str} {pos : Pos} {v : Value} {m : Str → Option Value} {Q : Value → Shared → Prop} (hn : s.heap.Ns env.locals m) (hv : m x = some v) (hq : Q v s)
    (hk : env.scope.kind = .function := by rfl) (hl : env.kindOf x = some .local := by kernel_rfl) (hd : (x == ("__debug__" : Str)) = false := by decide) : wpAny (model prog w) A (eval (.Name x pos) env) Q E s :=
  wpAny_Name (wpAny_loadName_local hk hl hn hv hq) hd
section
variable {w : World} {A : Around} {E : Value → Shared → Prop} {h₀ h : Heap} {g : Array GenState} {d : Drawn} {tk : Nat} {os : OsState} {led : Led} {mg mb : Str → Option Value} {x dx : Addr} {i j n : Nat} {vs : List Value} {Q : Value → Shared → Prop} {sz : Int} {t : Tok} {ps : List (List Nat × List Nat)}
theorem sum_len (ps : List (List Nat × List Nat)) : ∀ n, n ≤ ps.length → sumI (fun k => (((ps[k]?).getD ([], [])).1.length + ((ps[k]?).getD ([], [])).2.length : Nat)) n = ((plen (ps.take n) : Nat) : Int)
  | 0, _ => rfl
  | n + 1, h => by
    have e : ps[n]? = some ps[n] := by simp
    rw [sumI, sum_len ps n (by omega), List.take_add_one, e]
    simp only [plen, Option.getD_some, Option.toList_some, List.map_append, List.map_cons, List.map_nil, List.sum_append, List.sum_cons, List.sum_nil]
    omega
set_option hygiene false in
local macro_rules | `(tactic| walk_at "eval Name") => `(tactic| (refine ldm (by assumption) (by assumption) ?_))
theorem len_spec (G : Gd w h₀ mg mb) (B : BM h₀ mg) (M : Mm h₀ h ((190, .any TabP) :: (x, .obj (ac dx vs n)) :: (dx, isz sz t) :: led)) (R : Rm A 5) (hps : Prs led ps vs) (hz : vs.length ≤ 1000) (hlz : ∀ p ∈ ps, p.1.length ≤ 1000 ∧ p.2.length ≤ 1000) (hb : AllBare g)
   (hq : ∀ h' g' tk' t', Mm h₀ h' ((190, .any TabP) :: (x, .obj (ac dx vs n)) :: (dx, isz sz t) :: led) → AllBare g' → Q (.int (sz + (plen ps : Nat)) t') ⟨h', g', d, tk', os⟩) :
   wpAny (MP w) A (call (.ref 195) [.ref x]) Q E ⟨h, g, d, tk, os⟩ := by
  walk_at "fill"
  refine' wpAny_call (callE [Str.ofString "self"] [] [.ref x] G M R.d ?ho ?hcd ?hbind ?hcell ?hloc ?nd ?hlen ?c1 ?c2 ?c3 ?_)
  walk_at "entered"
  intro L h' tk' E' M'
  dsimp only [List.map, List.cons_append, List.nil_append] at M'
  have R1 := fun env => Rm.deeper (R.le (by decide : 4 + 1 ≤ 5)) env
  have hh : A.handled = none := R.handled
  obtain ⟨bm, ob, b1, b2, b3, b4, b5, b6⟩ := B
  have q2 := (by k_is : (Mine.hd.heap_1 w.params).lookup 194 = _)
  repeat walk1
  refine wpAny_GeneratorExp_walksQT hh rfl rfl (by decide) rfl rfl rfl (by decide) rfl (R1 _).d ?_ (fun x => rfl)
  walk1
  refine iterI G M' .n2 ?_
  intro I h2 M2
  refine ⟨G.lim.keeps M2.old, ?_⟩
  obtain ⟨otab, hotab, pst, hpd0, htr⟩ := M2.at 2 .n2
  have hpd : otab.data = .fields pst := by rw [hpd0]
  refine genexprY (c := 194) (P := 190) (ps := pst) rfl ⟨_, _, _, _, _, _, _, _, _, otab, M2.K G _ _ q2, rfl, rfl, rfl, rfl, rfl, rfl, hotab, hpd, htr, by decide⟩ ⟨⟨_, _, M2.K G _ _ q2, rfl, rfl, rfl⟩, hpd0 ▸ hotab⟩ ?_
  intro code h3 tk3 pst' hext hcode htab'
  have M3 : Mm h₀ h3 _ := M2.extC 2 .n2 hext (c' := .any TabP) (by
    obtain ⟨o, vs', file, tf, flags, tg, inF, text, tt, op, a1, a2, a3, a4, a5, a6, a7, a8, a9, a10, a11⟩ := hcode
    exact ⟨_, htab'.2, _, rfl, a10⟩)
  dsimp only [List.set] at M3
  refine wpAny_builtinsFor (G.g.keeps M3.old) b1 b2 (M3.old _ _ b3) b4 b5 b6 ?_
  have hps3 : ∀ k, ∃ r : Addr × Tok × Tok, k < vs.length → vs[k]? = some (Value.ref r.1) ∧ (r.1, Cell.obj (tup [Value.str (S ((ps[k]?).getD ([], [])).1) r.2.1, Value.str (S ((ps[k]?).getD ([], [])).2) r.2.2])) ∈ led := by
    intro k
    by_cases hk : k < ps.length
    · have e : ps[k]? = some ps[k] := by simp [hk]
      obtain ⟨T, t, u, a, b⟩ := hps.2 k _ e
      exact ⟨(T, t, u), fun _ => ⟨a, by rw [e]; exact b⟩⟩
    · exact ⟨(0, 0, 0), fun h => absurd (hps.1 ▸ h) hk⟩
  obtain ⟨f3, hf3⟩ := Classical.axiomOfChoice hps3
  have hsz : vs.toArray.size = vs.length := by simp
  refine ⟨I, _, [I], vs.toArray.size, _, _, _, fun _ => true, fun k y => ∃ t, y = .int (((ps[k]?).getD ([], [])).1.length + ((ps[k]?).getD ([], [])).2.length : Nat) t, rfl,
    fun A' hA => walksA hA I x (ac dx vs n) n (M3.ne .n3 .n1 (by decide)) vs.toArray rfl (fun k => (f3 k).1) (fun k => #[.str (S ((ps[k]?).getD ([], [])).1) (f3 k).2.1, .str (S ((ps[k]?).getD ([], [])).2) (f3 k).2.2]) ?w1 ?w2, ?w3, ?w4, ?w5, G.lim.keeps M3.old, ?w6, ?w7, ?w8⟩
  case w1 =>
    intro k hk
    rw [hsz] at hk
    have := (hf3 k hk).1
    simpa using this
  case w2 =>
    intro k hk
    rw [hsz] at hk
    have h1 := (hf3 k hk).2
    intro q
    have := nd_uniq M3.nd (List.mem_cons_of_mem _ (List.mem_cons_of_mem _ (List.mem_cons_of_mem _ (List.mem_cons_of_mem _ (List.mem_cons_of_mem _ h1))))) (List.mem_cons_of_mem _ (List.mem_cons_self)) q
    have h4 := (Prod.mk.inj this).2
    injection h4 with h4
    exact absurd (congrArg Obj.cls h4) (by simp)
  case w3 => intro k v hv; exact ⟨_, _, hv⟩
  case w4 =>
    refine ⟨⟨_, M3.get 1 .n1, rfl, rfl⟩, M3.get 3 .n3, fun k hk => ?_⟩
    rw [hsz] at hk
    have h1 := (hf3 k hk).2
    have h2 := M3.cells _ (List.mem_cons_of_mem _ (List.mem_cons_of_mem _ (List.mem_cons_of_mem _ (List.mem_cons_of_mem _ (List.mem_cons_of_mem _ h1)))))
    exact ⟨_, h2, rfl, 0, rfl⟩
  case w5 =>
    intro b hb
    rcases List.mem_cons.mp hb with rfl | hb
    · exact M3.lt (p := (_, _)) (List.mem_cons_of_mem _ List.mem_cons_self)
    rcases List.mem_cons.mp hb with rfl | hb
    · exact Heap.lt_size (M3.get 3 .n3)
    · obtain ⟨k, hk, rfl⟩ := List.mem_map.mp hb
      have hk := List.mem_range.mp hk
      rw [hsz] at hk
      have h1 := (hf3 k hk).2
      exact M3.lt (p := (_, _)) (List.mem_cons_of_mem _ (List.mem_cons_of_mem _ (List.mem_cons_of_mem _ (List.mem_cons_of_mem _ (List.mem_cons_of_mem _ h1)))))
  case w6 =>
    intro hm
    have hI : I = cStatics := (by simpa using hm : cStatics = I).symm
    have h1 := M3.new _ (List.mem_cons_of_mem _ (List.mem_cons_self) : (I, _) ∈ _)
    obtain ⟨mc, hmc, _⟩ := G.lim
    obtain ⟨o, es, ep, ho, _⟩ := hmc
    rw [hI, ho] at h1; cases h1
  case w7 =>
    intro href hhref
    refine ⟨fun A' E2 k va vb s2 m2 hA hP hn ha hb2 hfp => ?_, fun A' E2 k va vb s2 m2 hA hP _ hn ha hb2 hfp => ?_⟩
    · exact wpAny_pure ⟨rfl, _, _, rfl, fun _ _ e => e⟩
    · obtain ⟨hp2, g2, d2, tk2, os2⟩ := s2
      obtain ⟨rfl, rfl⟩ : va = _ ∧ vb = _ := by simpa using hP
      have hold : ∀ b o, h₀.get? b = some o → hp2.get? b = some o := by
        intro b o e
        refine hfp b (List.mem_range.mpr (Heap.lt_size (M3.old b o e))) (fun hm => ?_) o (hhref b o (M3.old b o e))
        have hbI : b = I := by simpa using hm
        have h1 := M3.new _ (List.mem_cons_of_mem _ (List.mem_cons_self) : (I, _) ∈ _)
        rw [hbI, h1] at e; cases e
      have N : Mm h₀ hp2 [] := ⟨hold, fun p hp => (by cases hp), fun p hp => (by cases hp), List.nodup_nil⟩
      have hk1 : ((ps[k]?).getD ([], [])).1.length ≤ 1000 ∧ ((ps[k]?).getD ([], [])).2.length ≤ 1000 := by
        cases q : ps[k]? with
        | none => simp
        | some p => exact hlz p (List.mem_of_getElem? q)
      have hh2 : A'.handled = none := hA
      obtain ⟨hk1, hk2⟩ := hk1
      clear M M' M2 M3
      repeat walk1
      exact ⟨_, _, rfl, fun _ _ e => e⟩
  case w8 =>
    intro a h5 tk5 gs hgs hlt hs5 hk5 W hgen
    have M5 := M3.ext hk5
    clear M M' M2
    repeat walk1
    have hpass : passing (fun _ => true) vs.toArray.size 0 = List.range vs.length := by unfold passing; simp
    rw [hpass] at W
    have hst : GenAt _ _ _ _ _ _ _ _ _ _ _ _ ⟨h5, g.push gs, d, tk5 + 1, os⟩ := W.frame 0 _ h5 (tk5 + 1) hgen (Nat.le_succ _) fun b _ o e => e
    have hC : h3.objs.size < h5.objs.size := by rw [hs5]; exact Nat.lt_succ_of_lt hlt
    refine sum2 (W.of_in1.of_in1) hst ?f1 (fun k => (((ps[k]?).getD ([], [])).1.length + ((ps[k]?).getD ([], [])).2.length : Nat)) ?f2 ?f3
    case f1 =>
      intro b hb
      show b < h5.objs.size
      rw [hs5]
      rcases List.mem_cons.mp hb with rfl | hb
      · exact Nat.lt_succ_self _
      rcases List.mem_cons.mp hb with rfl | hb
      · exact Nat.lt_succ_of_lt hlt
      · have := List.mem_range.mp hb
        exact Nat.lt_succ_of_lt (Nat.lt_trans this hlt)
    case f2 =>
      rintro k v ⟨k', hk', hF⟩
      have : k' = k := by
        have h1 := List.getElem?_eq_some_iff.mp hk'
        obtain ⟨h1, h2⟩ := h1
        simpa using h2.symm
      subst this
      exact hF
    case f3 =>
      intro s' t' hmv
      obtain ⟨hp6, g6, d6, tk6, os6⟩ := s'
      obtain ⟨m1, m2, m3, m4, m5⟩ := hmv
      dsimp only at m1 m2 m3 m4 m5
      subst m3 m4
      have hlen : (List.range vs.length).length = ps.length := by rw [List.length_range, hps.1]
      rw [hlen, sum_len ps ps.length (Nat.le_refl _), List.take_length]
      have M6 := M5.sub (led' := (190, .any TabP) :: (x, .obj (ac dx vs n)) :: (dx, isz sz t) :: led) (.cons _ (.cons _ (.refl _)))
      refine hq _ _ _ _ (M6.moved m1 ?_ ?_) (bare_moved hb hgs m2)
      · intro p hp hm
        rcases List.mem_cons.mp hm with q | q
        · have h1 := (M3.sub (led' := (190, .any TabP) :: (x, .obj (ac dx vs n)) :: (dx, isz sz t) :: led) (.cons _ (.cons _ (.refl _)))).lt hp
          rw [q] at h1; exact Nat.lt_irrefl _ h1
        · have hpI : p.1 = I := by simpa using q
          have h1 := nd_uniq M5.nd (List.mem_cons_of_mem _ (List.mem_cons_of_mem _ hp)) (List.mem_cons_of_mem _ (List.mem_cons_self) : (I, _) ∈ _) hpI
          have h2 := M5.tail.nd
          rw [List.map_cons, List.nodup_cons] at h2
          exact h2.1 (hpI ▸ List.mem_map_of_mem (f := (·.1)) hp)
      · intro b hb
        rcases List.mem_cons.mp hb with q | q
        · cases z : h₀.get? b with
          | none => rfl
          | some o => exact absurd (Heap.lt_size (M3.old _ _ z)) (by rw [q]; exact Nat.lt_irrefl _)
        · have hbI : b = I := by simpa using q
          rw [hbI]; exact M5.new _ (List.mem_cons_of_mem _ (List.mem_cons_self) : (I, _) ∈ _)
end
end
section
set_option maxRecDepth 100000
set_option maxHeartbeats 4000000
section
variable {prog : Program} {w : World} {A : Around} {E : Value → Shared → Prop} {h₀ h : Heap} {g : Array GenState} {d : Drawn} {tk : Nat} {os : OsState} {led : Led} {Q : Value → Shared → Prop} {a : Addr} {vs : List Value} {n i : Nat} {t : Tok} {sep : List Nat} {xs : List (List Nat)}
theorem joinT (M : Mm h₀ h led) (e : At led i (a, .obj (tup vs))) (hs : Strs vs xs) (hz : (xs.map fun p => p.length + sep.length).sum ≤ sizeLine)
    (hq : ∀ t' k', Q (.str (S (jn sep xs)) t') ⟨h, g, d, k', os⟩) : wpAny (model prog w) A (call (.builtin "str.join") [.str (S sep) t, .ref a]) Q E ⟨h, g, d, tk, os⟩ := by
  obtain ⟨ts, rfl, rfl⟩ := hs
  have hl : ∃ o n, h.get? a = some o ∧ o.cls = .type "tuple" ∧ o.data = .seq (strValues (ts.map fun p => (S p.1, p.2))).toArray n := by rw [← sv_strValues]; exact ⟨_, 0, M.get i e, rfl, rfl⟩
  refine call_meets F.slot_str_join (typeIs_str _ _ _) F.entry_str_join (F.args_str_join_2 _ _) (meets_str_join_tuple (S sep) t a (ts.map fun p => (S p.1, p.2)) ?_) ⟨hl, ?_⟩
  · rw [List.foldl_toArray, foldl_len]
    unfold Builtin.Str.tooLong
    simp only [List.map_map, Nat.zero_add, decide_eq_false_iff_not, Nat.not_lt] at hz ⊢
    refine Nat.le_trans (Nat.le_of_eq ?_) hz
    congr 1
  · have key : glued (S sep) (ts.map fun p => S p.1) = S (jn sep (ts.map (·.1))) := by rw [← glued_S, List.map_map]; rfl
    have len : (S (jn sep (ts.map (·.1)))).length ≤ sizeLine := by
      rw [S_len]
      refine Nat.le_trans ?_ hz
      have : ∀ (r : List (List Nat)), ((r.map (sep ++ ·)).flatten).length = (r.map fun p => p.length + sep.length).sum := by
        intro r; induction r with
        | nil => rfl
        | cons y r ih => simp [ih]; omega
      cases ts with
      | nil => simp [jn]
      | cons p r => simp only [List.map_cons, jn, List.length_append, this, List.sum_cons]; omega
    cases ts with
    | nil => exact ⟨by rw [show glued (S sep) (List.map (fun x => x.1) (List.map (fun p => (S p.1, p.2)) ([] : List (List Nat × Tok)))) = S (jn sep []) from key]; exact len, by
        show wants Q E _ _
        exact hq _ _⟩
    | cons p r => cases r with
      | nil =>
        have e1 : jn sep [p.1] = p.1 := by simp [jn]
        have := hq p.2 tk
        simp only [List.map_cons, List.map_nil] at this
        rw [e1] at this
        exact this
      | cons q r' =>
        have e2 : glued (S sep) ((List.map (fun p => (S p.1, p.2)) (p :: q :: r')).map (·.1)) = S (jn sep ((p :: q :: r').map (·.1))) := by rw [← key, List.map_map]; rfl
        refine ⟨e2 ▸ len, ?_⟩
        have h3 := hq tk (tk + 1)
        rw [← e2] at h3
        exact h3
theorem newT0 (M : Mm h₀ h led) (hz : vs.length ≤ sizeLine) (hq : ∀ a h', Mm h₀ h' ((a, .obj (tup vs)) :: led) → Q (.ref a) ⟨h', g, d, tk, os⟩) : wpAny (model prog w) A (newTuple vs) Q E ⟨h, g, d, tk, os⟩ :=
  wpAny_newObj_type (hq _ _ (M.push _)) (by show vs.toArray.size ≤ sizeLine; rw [List.size_toArray]; exact hz)
end
theorem items_eq {ps : List (List Nat × List Nat)} {l : List (Str × Tok)} (hlen : l.length = ps.length) (h : ∀ (j : Nat) (v : Value), (strValues l).toArray[j]? = some v → ∃ i : Nat, (List.range ps.length)[j]? = some i ∧ ∃ t, v = Value.str (S (((ps[i]?).getD ([], [])).1 ++ ((ps[i]?).getD ([], [])).2)) t) : l.map (·.1) = (ps.map fun p => p.1 ++ p.2).map S := by
  apply List.ext_getElem?
  intro j
  by_cases hj : j < l.length
  · have e1 : l[j]? = some l[j] := by simp [hj]
    have e2 : (strValues l).toArray[j]? = some (Value.str l[j].1 l[j].2) := by simp [strValues, hj]
    obtain ⟨i, hi, t, ht⟩ := h j _ e2
    have hij : i = j := by
      obtain ⟨_, h2⟩ := List.getElem?_eq_some_iff.mp hi
      simpa using h2.symm
    subst hij
    have e3 : ps[i]? = some ps[i] := by simp [hlen ▸ hj]
    rw [e3] at ht
    injection ht with h1 h2
    simp [e1, e3, h1]
  · rw [List.getElem?_eq_none (by simpa using hj), List.getElem?_eq_none (by simp; omega)]
noncomputable def ptext (ps : List (List Nat × List Nat)) : List Nat := (ps.map fun p => p.1 ++ p.2).flatten
set_option hygiene false in
local macro_rules | `(tactic| walk_at "eval Name") => `(tactic| (refine ldm (by assumption) (by assumption) ?_))
set_option hygiene false in
local macro_rules | `(tactic| walk_at "newTuple") => `(tactic| (refine newT0 (by assumption) (by walk_at "sz") ?_; walk_at "iaM"))
section
variable {w : World} {A : Around} {E : Value → Shared → Prop} {h₀ h : Heap} {g : Array GenState} {d : Drawn} {tk : Nat} {os : OsState} {led : Led} {mg mb : Str → Option Value} {x dx : Addr} {i j n : Nat} {vs : List Value} {Q : Value → Shared → Prop} {sz : Int} {t : Tok} {ps : List (List Nat × List Nat)}
theorem str_spec (G : Gd w h₀ mg mb) (B : BM h₀ mg) (M : Mm h₀ h ((197, .any TabP) :: (x, .obj (ac dx vs n)) :: (dx, isz sz t) :: led)) (R : Rm A 5) (hps : Prs led ps vs) (hz : vs.length ≤ 1000) (hpl : plen ps ≤ 100000) (hlz : ∀ p ∈ ps, p.1.length ≤ 1000 ∧ p.2.length ≤ 1000) (hb : AllBare g)
   (hq : ∀ h' g' tk' t', Mm h₀ h' ((197, .any TabP) :: (x, .obj (ac dx vs n)) :: (dx, isz sz t) :: led) → AllBare g' → Q (.str (S (ptext ps)) t') ⟨h', g', d, tk', os⟩) :
   wpAny (MP w) A (call (.ref 202) [.ref x]) Q E ⟨h, g, d, tk, os⟩ := by
  walk_at "fill"
  refine' wpAny_call (callE [Str.ofString "self"] [] [.ref x] G M R.d ?ho ?hcd ?hbind ?hcell ?hloc ?nd ?hlen ?c1 ?c2 ?c3 ?_)
  walk_at "entered"
  intro L h' tk' E' M'
  dsimp only [List.map, List.cons_append, List.nil_append] at M'
  have R1 := fun env => Rm.deeper (R.le (by decide : 4 + 1 ≤ 5)) env
  have hh : A.handled = none := R.handled
  obtain ⟨bm, ob, b1, b2, b3, b4, b5, b6⟩ := B
  have q2 := (by k_is : (Mine.hd.heap_1 w.params).lookup 201 = _)
  repeat walk1
  refine wpAny_GeneratorExp_walksQT hh rfl rfl (by decide) rfl rfl rfl (by decide) rfl (R1 _).d ?_ (fun x => rfl)
  walk1
  refine iterI G M' .n2 ?_
  intro I h2 M2
  refine ⟨G.lim.keeps M2.old, ?_⟩
  obtain ⟨otab, hotab, pst, hpd0, htr⟩ := M2.at 2 .n2
  have hpd : otab.data = .fields pst := by rw [hpd0]
  refine genexprY (c := 201) (P := 197) (ps := pst) rfl ⟨_, _, _, _, _, _, _, _, _, otab, M2.K G _ _ q2, rfl, rfl, rfl, rfl, rfl, rfl, hotab, hpd, htr, by decide⟩ ⟨⟨_, _, M2.K G _ _ q2, rfl, rfl, rfl⟩, hpd0 ▸ hotab⟩ ?_
  intro code h3 tk3 pst' hext hcode htab'
  have M3 : Mm h₀ h3 _ := M2.extC 2 .n2 hext (c' := .any TabP) (by
    obtain ⟨o, vs', file, tf, flags, tg, inF, text, tt, op, a1, a2, a3, a4, a5, a6, a7, a8, a9, a10, a11⟩ := hcode
    exact ⟨_, htab'.2, _, rfl, a10⟩)
  dsimp only [List.set] at M3
  refine wpAny_builtinsFor (G.g.keeps M3.old) b1 b2 (M3.old _ _ b3) b4 b5 b6 ?_
  have hps3 : ∀ k, ∃ r : Addr × Tok × Tok, k < vs.length → vs[k]? = some (Value.ref r.1) ∧ (r.1, Cell.obj (tup [Value.str (S ((ps[k]?).getD ([], [])).1) r.2.1, Value.str (S ((ps[k]?).getD ([], [])).2) r.2.2])) ∈ led := by
    intro k
    by_cases hk : k < ps.length
    · have e : ps[k]? = some ps[k] := by simp [hk]
      obtain ⟨T, t, u, a, b⟩ := hps.2 k _ e
      exact ⟨(T, t, u), fun _ => ⟨a, by rw [e]; exact b⟩⟩
    · exact ⟨(0, 0, 0), fun h => absurd (hps.1 ▸ h) hk⟩
  obtain ⟨f3, hf3⟩ := Classical.axiomOfChoice hps3
  have hsz : vs.toArray.size = vs.length := by simp
  refine ⟨I, _, [I], vs.toArray.size, _, _, _, fun _ => true, fun k y => ∃ t, y = .str (S (((ps[k]?).getD ([], [])).1 ++ ((ps[k]?).getD ([], [])).2)) t, rfl,
    fun A' hA => walksA hA I x (ac dx vs n) n (M3.ne .n3 .n1 (by decide)) vs.toArray rfl (fun k => (f3 k).1) (fun k => #[.str (S ((ps[k]?).getD ([], [])).1) (f3 k).2.1, .str (S ((ps[k]?).getD ([], [])).2) (f3 k).2.2]) ?w1 ?w2, ?w3, ?w4, ?w5, G.lim.keeps M3.old, ?w6, ?w7, ?w8⟩
  case w1 =>
    intro k hk
    rw [hsz] at hk
    have := (hf3 k hk).1
    simpa using this
  case w2 =>
    intro k hk
    rw [hsz] at hk
    have h1 := (hf3 k hk).2
    intro q
    have := nd_uniq M3.nd (List.mem_cons_of_mem _ (List.mem_cons_of_mem _ (List.mem_cons_of_mem _ (List.mem_cons_of_mem _ (List.mem_cons_of_mem _ h1))))) (List.mem_cons_of_mem _ (List.mem_cons_self)) q
    have h4 := (Prod.mk.inj this).2
    injection h4 with h4
    exact absurd (congrArg Obj.cls h4) (by simp)
  case w3 => intro k v hv; exact ⟨_, _, hv⟩
  case w4 =>
    refine ⟨⟨_, M3.get 1 .n1, rfl, rfl⟩, M3.get 3 .n3, fun k hk => ?_⟩
    rw [hsz] at hk
    have h1 := (hf3 k hk).2
    have h2 := M3.cells _ (List.mem_cons_of_mem _ (List.mem_cons_of_mem _ (List.mem_cons_of_mem _ (List.mem_cons_of_mem _ (List.mem_cons_of_mem _ h1)))))
    exact ⟨_, h2, rfl, 0, rfl⟩
  case w5 =>
    intro b hb
    rcases List.mem_cons.mp hb with rfl | hb
    · exact M3.lt (p := (_, _)) (List.mem_cons_of_mem _ List.mem_cons_self)
    rcases List.mem_cons.mp hb with rfl | hb
    · exact Heap.lt_size (M3.get 3 .n3)
    · obtain ⟨k, hk, rfl⟩ := List.mem_map.mp hb
      have hk := List.mem_range.mp hk
      rw [hsz] at hk
      have h1 := (hf3 k hk).2
      exact M3.lt (p := (_, _)) (List.mem_cons_of_mem _ (List.mem_cons_of_mem _ (List.mem_cons_of_mem _ (List.mem_cons_of_mem _ (List.mem_cons_of_mem _ h1)))))
  case w6 =>
    intro hm
    have hI : I = cStatics := (by simpa using hm : cStatics = I).symm
    have h1 := M3.new _ (List.mem_cons_of_mem _ (List.mem_cons_self) : (I, _) ∈ _)
    obtain ⟨mc, hmc, _⟩ := G.lim
    obtain ⟨o, es, ep, ho, _⟩ := hmc
    rw [hI, ho] at h1; cases h1
  case w7 =>
    intro href hhref
    refine ⟨fun A' E2 k va vb s2 m2 hA hP hn ha hb2 hfp => ?_, fun A' E2 k va vb s2 m2 hA hP _ hn ha hb2 hfp => ?_⟩
    · exact wpAny_pure ⟨rfl, _, _, rfl, fun _ _ e => e⟩
    · obtain ⟨hp2, g2, d2, tk2, os2⟩ := s2
      obtain ⟨rfl, rfl⟩ : va = _ ∧ vb = _ := by simpa using hP
      have hold : ∀ b o, h₀.get? b = some o → hp2.get? b = some o := by
        intro b o e
        refine hfp b (List.mem_range.mpr (Heap.lt_size (M3.old b o e))) (fun hm => ?_) o (hhref b o (M3.old b o e))
        have hbI : b = I := by simpa using hm
        have h1 := M3.new _ (List.mem_cons_of_mem _ (List.mem_cons_self) : (I, _) ∈ _)
        rw [hbI, h1] at e; cases e
      have N : Mm hp2 hp2 [] := ⟨fun _ _ e => e, fun p hp => (by cases hp), fun p hp => (by cases hp), List.nodup_nil⟩
      have G2 := G.keeps hold
      clear G
      have hk1 : ((ps[k]?).getD ([], [])).1.length ≤ 1000 ∧ ((ps[k]?).getD ([], [])).2.length ≤ 1000 := by
        cases q : ps[k]? with
        | none => simp
        | some p => exact hlz p (List.mem_of_getElem? q)
      have hh2 : A'.handled = none := hA
      obtain ⟨hk1, hk2⟩ := hk1
      clear M M' M2 M3
      repeat walk1
      rename_i M9
      rw [lit_nil]
      refine joinT M9 .z (xs := [((ps[k]?).getD ([], [])).1, ((ps[k]?).getD ([], [])).2]) ⟨[(((ps[k]?).getD ([], [])).1, _), (((ps[k]?).getD ([], [])).2, _)], rfl, rfl⟩ (by rw [sizeLine_eq]; simp only [List.map_cons, List.map_nil, List.sum_cons, List.sum_nil, List.length_nil]; omega) ?_
      intro t9 k9
      rw [jn_nil]
      exact ⟨⟨t9, by simp⟩, _, _, rfl, M9.old⟩
  case w8 =>
    intro a h5 tk5 gs hgs hlt hs5 hk5 W hgen
    have M5 := M3.ext hk5
    clear M M' M2
    repeat walk1
    have hpass : passing (fun _ => true) vs.toArray.size 0 = List.range vs.length := by unfold passing; simp
    rw [hpass] at W
    rw [lit_nil]
    refine SC.joinGen (W.of_in1.of_in1) ?f0 hgen ?f1 List.mem_cons_self ?f2 ?f3 (by rw [sizeLine_eq]; simp; omega)
    case f0 =>
      intro k s hs
      obtain ⟨⟨o, nm, qn, ho, hc, _⟩, _⟩ := hs
      exact ⟨o, ho, hc⟩
    case f1 =>
      intro b hb
      show b < h5.objs.size
      rw [hs5]
      rcases List.mem_cons.mp hb with rfl | hb
      · exact Nat.lt_succ_self _
      rcases List.mem_cons.mp hb with rfl | hb
      · exact Nat.lt_succ_of_lt hlt
      · have := List.mem_range.mp hb
        exact Nat.lt_succ_of_lt (Nat.lt_trans this hlt)
    case f2 =>
      rintro k v ⟨k', hk', t', hF⟩
      exact ⟨_, _, hF⟩
    case f3 =>
      intro s' l hmv hit
      obtain ⟨hp6, g6, d6, tk6, os6⟩ := s'
      obtain ⟨m1, m2, m3, m4, m5⟩ := hmv
      dsimp only at m1 m2 m3 m4 m5
      subst m3 m4
      obtain ⟨i1, i2⟩ := hit
      have hlen : l.length = ps.length := by
        have : (strValues l).length = vs.length := by simpa using i1
        rw [← hps.1, ← this]; simp [strValues]
      rw [hps.1] at i2
      have hl : l.map (·.1) = (ps.map fun p => p.1 ++ p.2).map S := items_eq hlen i2
      rw [hl]
      have hj : Txt.join (S []) ((ps.map fun p => p.1 ++ p.2).map S) = S (ptext ps) := by
        show glued (S []) _ = _
        rw [glued_S, jn_nil]; rfl
      have hok : JoinOk (S []) ((ps.map fun p => p.1 ++ p.2).map S) = true := by
        unfold JoinOk
        rw [List.foldl_toArray, foldl_len]
        unfold Builtin.Str.tooLong
        have : (List.map (fun p => Str.length p + Str.length (S [])) (List.map S (List.map (fun p => p.1 ++ p.2) ps))).sum = plen ps := by
          simp only [List.map_map, plen]
          congr 1
          apply List.map_congr_left
          intro p _
          simp [S_len]
        rw [this, sizeLine_eq]
        simp; omega
      refine ⟨hok, fun t' k => ?_⟩
      rw [hj]
      have M6 := M5.sub (led' := (197, .any TabP) :: (x, .obj (ac dx vs n)) :: (dx, isz sz t) :: led) (.cons _ (.cons _ (.refl _)))
      refine hq _ _ _ _ (M6.moved m1 ?_ ?_) (bare_moved hb hgs m2)
      · intro p hp hm
        rcases List.mem_cons.mp hm with q | q
        · have h1 := (M3.sub (led' := (197, .any TabP) :: (x, .obj (ac dx vs n)) :: (dx, isz sz t) :: led) (.cons _ (.cons _ (.refl _)))).lt hp
          rw [q] at h1; exact Nat.lt_irrefl _ h1
        · have hpI : p.1 = I := by simpa using q
          have h2 := M5.tail.nd
          rw [List.map_cons, List.nodup_cons] at h2
          exact h2.1 (hpI ▸ List.mem_map_of_mem (f := (·.1)) hp)
      · intro b hb
        rcases List.mem_cons.mp hb with q | q
        · cases z : h₀.get? b with
          | none => rfl
          | some o => exact absurd (Heap.lt_size (M3.old _ _ z)) (by rw [q]; exact Nat.lt_irrefl _)
        · have hbI : b = I := by simpa using q
          rw [hbI]; exact M5.new _ (List.mem_cons_of_mem _ (List.mem_cons_self) : (I, _) ∈ _)
end
end
section
set_option maxRecDepth 100000
set_option maxHeartbeats 2000000
section
variable {w : World} {A : Around} {E : Value → Shared → Prop} {h₀ h : Heap} {g : Array GenState} {d : Drawn} {tk : Nat} {os : OsState} {led : Led} {mg mb : Str → Option Value} {x dx : Addr} {i j n : Nat} {vs : List Value} {sz : Int} {t : Tok} {ps : List (List Nat × List Nat)}
theorem k_len (G : Gd w h₀ mg mb) : findIn (Mine.hd.heap_1 w.params) (.ref 228) "__len__" = some (some (.ref 195)) := by walk_at "fill"; exact Eq.symm (Eq.symm (by k_is))
theorem k_str (G : Gd w h₀ mg mb) : findIn (Mine.hd.heap_1 w.params) (.ref 228) "__str__" = some (some (.ref 202)) := by walk_at "fill"; exact Eq.symm (Eq.symm (by k_is))
theorem k_bool (G : Gd w h₀ mg mb) : findIn (Mine.hd.heap_1 w.params) (.ref 228) "__bool__" = some none := by walk_at "fill"; exact Eq.symm (Eq.symm (by k_is))
theorem k_f195 (G : Gd w h₀ mg mb) : typeIn (Mine.hd.heap_1 w.params) (.ref 195) = some (.type "function") := by walk_at "fill"; exact Eq.symm (Eq.symm (by k_is))
theorem k_f202 (G : Gd w h₀ mg mb) : typeIn (Mine.hd.heap_1 w.params) (.ref 202) = some (.type "function") := by walk_at "fill"; exact Eq.symm (Eq.symm (by k_is))
theorem csF {C : Addr} {o : Obj} {f : Addr} {name : Str} {args : List Value} {Q : Option Value → Shared → Prop} (G : Gd w h₀ mg mb) (M : Mm h₀ h led) (e : At led i (x, .obj o)) (hc : o.cls = .ref C) (hf : findIn (Mine.hd.heap_1 w.params) (.ref C) name = some (some (.ref f)))
    (ht : typeIn (Mine.hd.heap_1 w.params) (.ref f) = some (.type "function")) (hq : wpAny (MP w) A (call (.ref f) (.ref x :: args)) (fun v => Q (some v)) E ⟨h, g, d, tk, os⟩) :
    wpAny (MP w) A (callSpecial? (.ref x) name args) Q E ⟨h, g, d, tk, os⟩ := by
  unfold callSpecial?
  refine wpAny_bind ((lsp G M e hc hf).at ?_)
  refine wpAny_holding (wpAny_bind ((bind_fn (M.K G) _ ht).at ?_))
  exact wpAny_bind (wpAny_mono hq (fun _ _ z => wpAny_pure z) fun _ _ z => z)
/-- the body of len() on an accumulator -/
theorem lenBody {Q : Value → Shared → Prop} (G : Gd w h₀ mg mb) (B : BM h₀ mg) (M : Mm h₀ h ((190, .any TabP) :: (x, .obj (ac dx vs n)) :: (dx, isz sz t) :: led)) (R : Rm A 6) (hps : Prs led ps vs) (hz : vs.length ≤ 1000) (hlz : ∀ p ∈ ps, p.1.length ≤ 1000 ∧ p.2.length ≤ 1000) (hb : AllBare g)
   (h0 : 0 ≤ sz) (h1 : sz + (plen ps : Nat) < 2 ^ 62)
   (hq : ∀ h' g' tk' t', Mm h₀ h' ((190, .any TabP) :: (x, .obj (ac dx vs n)) :: (dx, isz sz t) :: led) → AllBare g' → Q (.int (sz + (plen ps : Nat)) t') ⟨h', g', d, tk', os⟩) :
   wpAny (MP w) A (Builtin.«len» ⟨[.ref x], []⟩) (fun fin s' => ∃ v, fin = .done (.ret v) ∧ Q v s') E ⟨h, g, d, tk, os⟩ := by
  unfold Builtin.«len»
  refine wpAny_bind (m := oneArg "len" _) (wpAny_pure ?_)
  refine wpAny_bind (csF G M .n1 rfl (k_len G) (k_f195 G) (len_spec G B M (R.le (by omega)) hps hz hlz hb ?_))
  intro h' g' tk' t' M' hb'
  refine wpAny_bind (wpAny_holding (wpAny_pure ?_))
  refine wpAny_bind (wpAny_letGo ?_)
  show wpAny _ _ (if sz + (plen ps : Nat) < 0 then _ else _) _ _ _
  rw [if_neg (by omega)]
  show wpAny _ _ (if sz + (plen ps : Nat) ≥ 2 ^ 63 then _ else _) _ _ _
  rw [if_neg (by omega)]
  exact wpAny_bind (wpAny_mkInt (wpAny_pure ⟨_, rfl, hq _ _ _ _ M' hb'⟩))
theorem lenB {Q : Value → Shared → Prop} (G : Gd w h₀ mg mb) (B : BM h₀ mg) (M : Mm h₀ h ((190, .any TabP) :: (x, .obj (ac dx vs n)) :: (dx, isz sz t) :: led)) (R : Rm A 7) (hps : Prs led ps vs) (hz : vs.length ≤ 1000) (hlz : ∀ p ∈ ps, p.1.length ≤ 1000 ∧ p.2.length ≤ 1000) (hb : AllBare g)
   (h0 : 0 ≤ sz) (h1 : sz + (plen ps : Nat) < 2 ^ 62)
   (hq : ∀ h' g' tk' t', Mm h₀ h' ((190, .any TabP) :: (x, .obj (ac dx vs n)) :: (dx, isz sz t) :: led) → AllBare g' → Q (.int (sz + (plen ps : Nat)) t') ⟨h', g', d, tk', os⟩) :
   wpAny (MP w) A (call (.builtin "len") [.ref x]) Q E ⟨h, g, d, tk, os⟩ :=
  Calls.call_function_entry kind_len plain_len entry_len (args_len1 _) (lenBody G B M R.in1 hps hz hlz hb h0 h1 hq)
theorem truB {Q : Bool → Shared → Prop} (G : Gd w h₀ mg mb) (B : BM h₀ mg) (M : Mm h₀ h ((190, .any TabP) :: (x, .obj (ac dx vs n)) :: (dx, isz sz t) :: led)) (R : Rm A 7) (hps : Prs led ps vs) (hz : vs.length ≤ 1000) (hlz : ∀ p ∈ ps, p.1.length ≤ 1000 ∧ p.2.length ≤ 1000) (hb : AllBare g)
   (h0 : 0 ≤ sz) (h1 : sz + (plen ps : Nat) < 2 ^ 62)
   (hq : ∀ h' g' tk', Mm h₀ h' ((190, .any TabP) :: (x, .obj (ac dx vs n)) :: (dx, isz sz t) :: led) → AllBare g' → Q (sz + (plen ps : Nat) != 0) ⟨h', g', d, tk', os⟩) :
   wpAny (MP w) A (truthy (.ref x)) Q E ⟨h, g, d, tk, os⟩ := by
  unfold truthy
  refine wpAny_bind (m := callSpecial? (.ref x) (Str.ofString "__bool__")) (wpAny_bind ((lsp G M .n1 rfl (k_bool G)).at (wpAny_pure ?_)))
  refine wpAny_bind ((lsp G M .n1 rfl (k_len G)).at ?_)
  refine wpAny_bind (wpAny_runValue (codeAny_builtin entry_len ?_))
  rw [Around.under_plainId plain_len _]
  refine wpAny_mono (lenBody (Q := fun v s' => ∃ t, v = .int (sz + (plen ps : Nat)) t ∧ Q (sz + (plen ps : Nat) != 0) s') G B M R.in1 hps hz hlz hb h0 h1 (fun h' g' tk' t' N hb' => ⟨t', rfl, hq _ _ _ N hb'⟩)) (fun fin s' z => ?_) fun _ _ z => z
  obtain ⟨v, rfl, t', rfl, z⟩ := z
  exact wpAny_pure z
theorem strOfB {Q : Value → Shared → Prop} (G : Gd w h₀ mg mb) (B : BM h₀ mg) (M : Mm h₀ h ((197, .any TabP) :: (x, .obj (ac dx vs n)) :: (dx, isz sz t) :: led)) (R : Rm A 6) (hps : Prs led ps vs) (hz : vs.length ≤ 1000) (hpl : plen ps ≤ 100000) (hlz : ∀ p ∈ ps, p.1.length ≤ 1000 ∧ p.2.length ≤ 1000) (hb : AllBare g)
   (hq : ∀ h' g' tk' t', Mm h₀ h' ((197, .any TabP) :: (x, .obj (ac dx vs n)) :: (dx, isz sz t) :: led) → AllBare g' → Q (.str (S (ptext ps)) t') ⟨h', g', d, tk', os⟩) :
   wpAny (MP w) A (Builtin.Str.strOf (.ref x)) Q E ⟨h, g, d, tk, os⟩ := by
  unfold Builtin.Str.strOf
  rw [if_neg (by simp [isExactStr])]
  refine wpAny_bind (wpAny_cRoomFor (by have := R.units; omega) ?_)
  refine wpAny_bind (csF G M .n1 rfl (k_str G) (k_f202 G) (str_spec G B M (R.le (by omega)) hps hz hpl hlz hb ?_))
  intro h' g' tk' t' M' hb'
  exact wpAny_pure (hq _ _ _ _ M' hb')
theorem strB {Q : Value → Shared → Prop} (G : Gd w h₀ mg mb) (B : BM h₀ mg) (M : Mm h₀ h ((197, .any TabP) :: (x, .obj (ac dx vs n)) :: (dx, isz sz t) :: led)) (R : Rm A 8) (hps : Prs led ps vs) (hz : vs.length ≤ 1000) (hpl : plen ps ≤ 100000) (hlz : ∀ p ∈ ps, p.1.length ≤ 1000 ∧ p.2.length ≤ 1000) (hb : AllBare g)
   (hq : ∀ h' g' tk' t', Mm h₀ h' ((197, .any TabP) :: (x, .obj (ac dx vs n)) :: (dx, isz sz t) :: led) → AllBare g' → Q (.str (S (ptext ps)) t') ⟨h', g', d, tk', os⟩) :
   wpAny (MP w) A (call (.type "str") [.ref x]) Q E ⟨h, g, d, tk, os⟩ := by
  refine callType_codes (Q₁ := fun v s' => (∃ t, v = .str (S (ptext ps)) t) ∧ Q v s') PySem.F.called_str (PySem.F.typeCall_str_1 _) PySem.F.entry_object_init ?_ ?_
  · refine codeAny_of_tree ?_
    show wpAny _ A.in1.in1 (do checkBuiltinCall "str.__new__" ⟨[.type "str", .ref x], []⟩; again (.builtin "str.__new__" ⟨[.type "str", .ref x], []⟩)) _ _ _
    have hpl2 : plainId "str.__new__" = true := by decide +kernel
    refine wpAny_bind (wpAny_of_eq (PySem.F.newCall_str_1 _) (wpAny_pure ⟨plainId_quiet hpl2 _, codeAny_builtin PySem.F.entry_str_new ?_⟩))
    rw [Around.under_plainId hpl2 _, str_new_tree]
    refine wpAny_bind (wpAny_pure ?_)
    refine wpAny_bind (wpAny_of_eq isSubtype_str_str ?_)
    refine wpAny_bind (strOfB G B M (R.in1.in1) hps hz hpl hlz hb ?_)
    intro h' g' tk' t' M' hb'
    exact wpAny_pure ⟨⟨_, rfl⟩, hq _ _ _ _ M' hb'⟩
  · rintro obj s₁ ⟨⟨t', rfl⟩, hQ⟩
    refine ⟨typeIs_str _ _ _, PySem.F.args_object_init_2 _ _, ?_⟩
    exact object_init_meets PySem.F.called_str.init.lookup PySem.F.called_str.made (by decide) _ _ _ _ _ ⟨typeIs_str _ _ _, rfl, hQ⟩
end
end
section
set_option maxRecDepth 100000
set_option maxHeartbeats 4000000
noncomputable abbrev acl (x dx : Addr) (vs : List Value) (n : Nat) (sz : Int) (t : Tok) (led : Led) : Led := (190, .any TabP) :: (197, .any TabP) :: (x, .obj (ac dx vs n)) :: (dx, isz sz t) :: led
theorem acl_len {x dx : Addr} {vs : List Value} {n : Nat} {sz : Int} {t : Tok} {led : Led} : ((190, Cell.any TabP) :: (x, .obj (ac dx vs n)) :: (dx, isz sz t) :: (197, .any TabP) :: led).Perm (acl x dx vs n sz t led) :=
  ((((List.Perm.swap _ _ _).cons _).trans (List.Perm.swap _ _ _)).cons _)
theorem acl_str {x dx : Addr} {vs : List Value} {n : Nat} {sz : Int} {t : Tok} {led : Led} : ((197, Cell.any TabP) :: (x, .obj (ac dx vs n)) :: (dx, isz sz t) :: (190, .any TabP) :: led).Perm (acl x dx vs n sz t led) :=
  ((((List.Perm.swap _ _ _).cons _).trans (List.Perm.swap _ _ _)).cons _).trans (List.Perm.swap _ _ _)
theorem acl_in {x dx : Addr} {vs : List Value} {n : Nat} {sz : Int} {t : Tok} {led : Led} {p : Addr × Cell} : (acl x dx vs n sz t (p :: led)).Perm (p :: acl x dx vs n sz t led) := by
  have h := List.perm_middle (a := p) (l₁ := acl x dx vs n sz t []) (l₂ := led)
  exact h
structure Sml (ps : List (List Nat × List Nat)) : Prop where
  n : ps.length ≤ 1000
  l : plen ps ≤ 100000
  e : ∀ p ∈ ps, p.1.length ≤ 1000 ∧ p.2.length ≤ 1000
section
variable {w : World} {A : Around} {E : Value → Shared → Prop} {h₀ h : Heap} {g : Array GenState} {d : Drawn} {tk : Nat} {os : OsState} {led : Led} {mg mb : Str → Option Value} {x dx : Addr} {i j n : Nat} {vs : List Value} {sz : Nat} {t : Tok} {ps : List (List Nat × List Nat)}
theorem lenC {Q : Value → Shared → Prop} (G : Gd w h₀ mg mb) (B : BM h₀ mg) (M : Mm h₀ h (acl x dx vs n sz t led)) (R : Rm A 7) (hps : Prs led ps vs) (H : Sml ps) (hb : AllBare g) (hsz : sz ≤ 1000)
   (hq : ∀ h' g' tk' t', Mm h₀ h' (acl x dx vs n sz t led) → AllBare g' → Q (.int ((sz + plen ps : Nat) : Int) t') ⟨h', g', d, tk', os⟩) :
   wpAny (MP w) A (call (.builtin "len") [.ref x]) Q E ⟨h, g, d, tk, os⟩ := by
  have := H.l
  refine lenB G B (M.perm acl_len) R (hps.mono fun p hp => List.mem_cons_of_mem _ hp) (by rw [hps.1]; exact H.n) H.e hb (by omega) (by omega) ?_
  intro h' g' tk' t' N hb'
  have := hq h' g' tk' t' (N.perm acl_len.symm) hb'
  rwa [show (((sz + plen ps : Nat)) : Int) = (sz : Int) + (plen ps : Nat) by omega] at this
theorem truC {Q : Bool → Shared → Prop} (G : Gd w h₀ mg mb) (B : BM h₀ mg) (M : Mm h₀ h (acl x dx vs n sz t led)) (R : Rm A 7) (hps : Prs led ps vs) (H : Sml ps) (hb : AllBare g) (hsz : sz ≤ 1000)
   (hq : ∀ h' g' tk', Mm h₀ h' (acl x dx vs n sz t led) → AllBare g' → Q (decide (sz + plen ps ≠ 0)) ⟨h', g', d, tk', os⟩) :
   wpAny (MP w) A (truthy (.ref x)) Q E ⟨h, g, d, tk, os⟩ := by
  have := H.l
  refine truB G B (M.perm acl_len) R (hps.mono fun p hp => List.mem_cons_of_mem _ hp) (by rw [hps.1]; exact H.n) H.e hb (by omega) (by omega) ?_
  intro h' g' tk' N hb'
  have h2 := hq h' g' tk' (N.perm acl_len.symm) hb'
  have e : ((sz : Int) + (plen ps : Nat) != 0) = decide (sz + plen ps ≠ 0) := by
    rw [Bool.eq_iff_iff]; simp only [bne_iff_ne, decide_eq_true_eq, ne_eq]; omega
  rw [e]; exact h2
theorem strC {Q : Value → Shared → Prop} (G : Gd w h₀ mg mb) (B : BM h₀ mg) (M : Mm h₀ h (acl x dx vs n sz t led)) (R : Rm A 8) (hps : Prs led ps vs) (H : Sml ps) (hb : AllBare g)
   (hq : ∀ h' g' tk' t', Mm h₀ h' (acl x dx vs n sz t led) → AllBare g' → Q (.str (S (ptext ps)) t') ⟨h', g', d, tk', os⟩) :
   wpAny (MP w) A (call (.type "str") [.ref x]) Q E ⟨h, g, d, tk, os⟩ := by
  refine strB G B (M.perm acl_str) R (hps.mono fun p hp => List.mem_cons_of_mem _ hp) (by rw [hps.1]; exact H.n) H.l H.e hb ?_
  intro h' g' tk' t' N hb'
  exact hq h' g' tk' t' (N.perm acl_str.symm) hb'
noncomputable def owl (sz : Nat) (ps : List (List Nat × List Nat)) : Bool := decide (sz = 0) && (decide (plen ps = 0) || Txt.isspace (S (ptext ps)))
theorem only_spec {Q : Value → Shared → Prop} (G : Gd w h₀ mg mb) (B : BM h₀ mg) (M : Mm h₀ h (acl x dx vs n sz t led)) (R : Rm A 9) (hps : Prs led ps vs) (H : Sml ps) (hb : AllBare g) (hsz : sz ≤ 1000)
   (hq : ∀ h' g' tk', Mm h₀ h' (acl x dx vs n sz t led) → AllBare g' → Q (.bool (owl sz ps)) ⟨h', g', d, tk', os⟩) :
   wpAny (MP w) A (call (.ref 217) [.ref x]) Q E ⟨h, g, d, tk, os⟩ := by
  walk_at "fill"
  refine' wpAny_call (callE [Str.ofString "self"] [] [.ref x] G M R.d ?ho ?hcd ?hbind ?hcell ?hloc ?nd ?hlen ?c1 ?c2 ?c3 ?_)
  walk_at "entered"
  intro L h' tk' E' M'
  dsimp only [List.map, List.cons_append, List.nil_append] at M'
  have R1 := fun env => Rm.deeper (R.le (by decide : 8 + 1 ≤ 9)) env
  have hh : A.handled = none := R.handled
  repeat walk1
  rotate_left
  · rename_i hne
    have e : ((sz : Int) == 0) = owl sz ps := by
      rw [owl, decide_eq_false (by omega)]; simp; omega
    rw [e]
    exact hq _ _ _ M'.tail hb
  rename_i heq
  have heq : sz = 0 := by omega
  refine truC G B (M'.perm acl_in) ((R1 _).le (by decide)) (hps.mono fun p hp => List.mem_cons_of_mem _ hp) H hb hsz ?_
  intro h2 g2 k2 M2 hb2
  have M2 := M2.perm acl_in.symm
  clear M M'
  repeat' walk1
  · rename_i hne
    refine strC G B (M2.perm acl_in) ((R1 _).le (by decide)) (hps.mono fun p hp => List.mem_cons_of_mem _ hp) H hb2 ?_
    intro h3 g3 k3 t3 M3 hb3
    have M3 := M3.perm acl_in.symm
    repeat walk1
    have e : owl sz ps = Txt.isspace (S (ptext ps)) := by
      rw [owl, decide_eq_true heq, decide_eq_false (by omega)]; simp
    rw [← e]
    exact hq _ _ _ M3.tail hb3
  · rename_i hne
    have e : (!decide (sz + plen ps ≠ 0)) = owl sz ps := by
      rw [owl, decide_eq_true heq, decide_eq_true (by omega : plen ps = 0)]; simp; omega
    rw [e]
    exact hq _ _ _ M2.tail hb2
end
end
section
set_option maxRecDepth 100000
set_option maxHeartbeats 1000000
theorem S_beq (a b : List Nat) : (S a == S b) = decide (a = b) := by
  rw [Bool.eq_iff_iff]; simp [S_inj]
section
variable {w : World} {A : Around} {E : Value → Shared → Prop} {h₀ h : Heap} {g : Array GenState} {d : Drawn} {tk : Nat} {os : OsState} {led : Led} {mg mb : Str → Option Value} {a b : Addr} {i j : Nat} {p q p' q' : List Nat} {t u t' u' : Tok}
theorem neT {Q : Value → Shared → Prop} (M : Mm h₀ h led) (e : At led i (a, .obj (tup [.str (S p) t, .str (S q) u]))) (f : At led j (b, .obj (tup [.str (S p') t', .str (S q') u']))) (hu : A.units < cLine)
    (hq : Q (.bool (!(decide (p = p') && decide (q = q')))) ⟨h, g, d, tk, os⟩) : wpAny (MP w) A (compareOp .NotEq (.ref a) (.ref b)) Q E ⟨h, g, d, tk, os⟩ := by
  have h1 : Heap.IsTuple h a #[.str (S p) t, .str (S q) u] := ⟨_, M.get i e, rfl, 0, rfl⟩
  have h2 : Heap.IsTuple h b #[.str (S p') t', .str (S q') u'] := ⟨_, M.get j f, rfl, 0, rfl⟩
  have key := SeqAt.RcNeAt.tuples (A := A) (s := ⟨h, g, d, tk, os⟩) (e := fun j => if j = 0 then decide (p = p') else decide (q = q')) h1 h2 hu (by
    intro j hj1 hj2
    have hj : j < 2 := hj1
    rcases j with _ | _ | j
    · have := SeqAt.EqAt.str_str (A := A.in1) (s := ⟨h, g, d, tk, os⟩) (S p) t (S p') t'
      rw [S_beq] at this
      exact this
    · have := SeqAt.EqAt.str_str (A := A.in1) (s := ⟨h, g, d, tk, os⟩) (S q) u (S q') u'
      rw [S_beq] at this
      exact this
    · omega)
  refine key _ _ _ _ ?_
  have : (!((List.range (min 2 2)).all (fun j => if j = 0 then decide (p = p') else decide (q = q')) && (2 == 2))) = !(decide (p = p') && decide (q = q')) := by
    simp [List.range, List.range.loop]
  have h3 : (!((List.range (min (#[Value.str (S p) t, .str (S q) u] : Array Value).size (#[Value.str (S p') t', .str (S q') u'] : Array Value).size)).all (fun j => if j = 0 then decide (p = p') else decide (q = q')) && (#[Value.str (S p) t, .str (S q) u] : Array Value).size == (#[Value.str (S p') t', .str (S q') u'] : Array Value).size)) = !(decide (p = p') && decide (q = q')) := this
  rw [h3]; exact hq
theorem starT {M' : Unit} {vs : List Value} {Q : List Value → Shared → Prop} (M : Mm h₀ h led) (e : At led i (a, .obj (tup vs))) (hz : vs.length ≤ 1000) (hq : ∀ h', Mm h₀ h' led → Q vs ⟨h', g, d, tk, os⟩) : StarOf (MP w) A E (.ref a) Q ⟨h, g, d, tk, os⟩ := by
  have ho := M.get i e
  have hT : (⟨h, g, d, tk, os⟩ : Shared).TypeIs (.ref a) "tuple" := ⟨_, ho, rfl⟩
  unfold StarOf notIterableAtAll
  refine wpAny_bind (wpAny_specialOf hT PySem.F.slot_tuple_iter.lookup ?_)
  refine wpAny_pure ⟨rfl, ?_⟩
  refine wpAny_collect_seq a (.inr rfl) ho rfl rfl (fun h' hk => ?_) (by rw [List.size_toArray, sizeLine_eq]; omega)
  have := hq h' (M.ext hk)
  simpa using this
end
noncomputable def Hold (P : Shared → Prop) (s : Shared) : Prop := P s
/-- a statement by a mid condition -/
theorem mid {M : Model} {A : Around} {E : Value → Shared → Prop} {s : Shared} {st : Stmt} {rest : List Stmt} {env : Env} {Q : Flow → Shared → Prop} (P : Shared → Prop) (h1 : wpAny M A (exec st env) (fun f s' => f = .next ∧ Hold P s') E s)
    (h2 : ∀ s', P s' → wpAny M A (execs rest env) Q E s') : wpAny M A (execs (st :: rest) env) Q E s := by
  rw [execs_cons]
  refine wpAny_bind (wpAny_mono h1 (fun f s' z => ?_) fun _ _ z => z)
  obtain ⟨rfl, z⟩ := z
  exact h2 s' z
theorem Prs.last {led : Led} {ps : List (List Nat × List Nat)} {p : List Nat × List Nat} {vs : List Value} (x : Prs led (ps ++ [p]) vs) : ∃ us T t u, vs = us ++ [Value.ref T] ∧ Prs led ps us ∧ (T, Cell.obj (tup [Value.str (S p.1) t, Value.str (S p.2) u])) ∈ led := by
  obtain ⟨hl, hx⟩ := x
  obtain ⟨T, t, u, a, b⟩ := hx ps.length p (by simp)
  have hvl : vs.length = ps.length + 1 := by simpa using hl
  have hne : vs ≠ [] := by intro q; rw [q] at hvl; simp at hvl
  have hlast : vs.getLast? = some (Value.ref T) := by rw [List.getLast?_eq_getElem?, hvl]; simpa using a
  have hvs : vs = vs.dropLast ++ [Value.ref T] := by
    have := List.dropLast_concat_getLast hne
    rw [List.getLast?_eq_some_getLast hne] at hlast
    rw [← Option.some.inj hlast]; exact this.symm
  refine ⟨vs.dropLast, T, t, u, hvs, ⟨by simp [hvl], fun k q hk => ?_⟩, b⟩
  have hk2 : k < ps.length := (List.getElem?_eq_some_iff.mp hk).1
  obtain ⟨T', t', u', a', b'⟩ := hx k q (by rw [List.getElem?_append_left hk2]; exact hk)
  refine ⟨T', t', u', ?_, b'⟩
  rw [List.getElem?_dropLast]
  rw [if_pos (by omega)]; exact a'
theorem Prs.snoc {led : Led} {ps : List (List Nat × List Nat)} {p : List Nat × List Nat} {vs : List Value} {T : Addr} {t u : Tok} (x : Prs led ps vs) (hm : (T, Cell.obj (tup [Value.str (S p.1) t, Value.str (S p.2) u])) ∈ led) : Prs led (ps ++ [p]) (vs ++ [Value.ref T]) := by
  obtain ⟨hl, hx⟩ := x
  refine ⟨by simp [hl], fun k q hk => ?_⟩
  by_cases hk2 : k < ps.length
  · rw [List.getElem?_append_left hk2] at hk
    obtain ⟨T', t', u', a', b'⟩ := hx k q hk
    exact ⟨T', t', u', by rw [List.getElem?_append_left (by omega)]; exact a', b'⟩
  · rw [List.getElem?_append_right (by omega)] at hk
    have hk3 : k - ps.length = 0 := by
      have := (List.getElem?_eq_some_iff.mp hk).1
      simp at this; omega
    rw [hk3] at hk
    simp at hk
    subst hk
    refine ⟨T, t, u, ?_, hm⟩
    rw [List.getElem?_append_right (by omega), hl, hk3]; rfl
end
section
set_option maxRecDepth 100000
set_option maxHeartbeats 1000000
noncomputable abbrev mtO (f x : Addr) : Obj := { cls := .type "method", dict := none, data := .fields #[.ref f, .ref x], slots := #[] }
section
variable {w : World} {A : Around} {E : Value → Shared → Prop} {h₀ h : Heap} {g : Array GenState} {d : Drawn} {tk : Nat} {os : OsState} {led : Led} {mg mb : Str → Option Value} {x dx : Addr} {i j n : Nat} {vs : List Value} {ns : List Str} {as : List (Option Value)} {Q : Value → Shared → Prop} {ex : Bool}
theorem k_push (G : Gd w h₀ mg mb) : findIn (Mine.hd.heap_1 w.params) (.ref 228) "push" = some (some (.ref 172)) := by walk_at "fill"; exact Eq.symm (Eq.symm (by k_is))
theorem k_pushg (G : Gd w h₀ mg mb) : specialIn (Mine.hd.heap_1 w.params) (.ref 172) "__get__" = some (some (.builtin "function.__get__")) := by walk_at "fill"; exact Eq.symm (Eq.symm (by k_is))
theorem k_pusht (G : Gd w h₀ mg mb) : takesIn (Mine.hd.heap_1 w.params) (.ref 172) = some false := by walk_at "fill"; exact Eq.symm (Eq.symm (by k_is))
theorem k_pushy (G : Gd w h₀ mg mb) : typeIn (Mine.hd.heap_1 w.params) (.ref 172) = some (.type "function") := by walk_at "fill"; exact Eq.symm (Eq.symm (by k_is))
theorem gaM (G : Gd w h₀ mg mb) (M : Mm h₀ h led) (e : At led i (x, .obj (ac dx vs n))) (ed : At led j (dx, .any (DP ns as))) (hn : Str.ofString "push" ∉ ns)
    (hq : ∀ b h' k', Mm h₀ h' ((b, .obj (mtO 172 x)) :: led) → Q (.ref b) ⟨h', g, d, k', os⟩) : wpAny (MP w) A (getAttr (.ref x) (Str.ofString "push") ex) Q E ⟨h, g, d, tk, os⟩ := by
  obtain ⟨od, I, hl⟩ := instI M e ed rfl rfl rfl
  obtain ⟨cd, hc, hd, hmro⟩ := k_cls G
  have X := M.K G
  have hlv := hl (Str.ofString "push")
  rw [lz_no hn] at hlv
  have hfo : findObj (Mine.hd.heap_1 w.params) 228 (some od) (Str.ofString "push") = some (.bind (.builtin "function.__get__") (.ref 172)) := by
    unfold findObj
    rw [hc, Option.bind_some, k_push G, Option.bind_some]
    dsimp only
    rw [k_pushg G, Option.bind_some]
    dsimp only
    rw [k_pusht G, Option.bind_some]
    simp only [W.ownOf, hd, if_true, hlv, Option.bind_some]
    have hcp : copiedNames.contains (Str.ofString "push") = false := by decide +kernel
    simp only [hcp, Bool.false_and, Bool.false_eq_true, if_false]
  have L0 := lt (prog := PySem.Challenge.rw_pe0225_01.row.prog) (w := w) M e rfl
  have L1 := looks_find (M := MP w) X I hfo
  have L2 := looks_findIn (M := MP w) X (k_ga G)
  have L3 := looks_findIn (M := MP w) X (k_gt G)
  unfold getAttr getAttrBy
  refine wpAny_bind (wpAny_mkText (wpAny_holding (wpAny_bind (L0.at (wpAny_bind (L2.at ?_))))))
  show wpAny _ _ (getAttrByItsOwn _ _ _ _ _ _) _ _ _
  unfold getAttrByItsOwn
  refine wpAny_bind (m := hookBefore _) (L3.at ?_)
  refine wpAny_bind (wpAny_attempt ?_)
  show wpAny _ _ (holding _ (callGetattribute _ _ _ _)) _ _ _
  unfold callGetattribute boundAndCalled
  rw [if_neg (by simp [onTheHeap])]
  refine wpAny_holding (wpAny_bind ?_)
  rw [ga_bind]
  refine wpAny_pure ?_
  refine callB (rest := [_]) (.inl ga_kind) ga_split ga_plain (lisub G M e rfl (k_list G)) PySem.am_entry_list_getattribute (ga_args _ _) ?_
  refine wpAny_bind (wpAny_pure (wpAny_bind (wpAny_pure (wpAny_bind (L0.at (wpAny_bind (L1.at ?_)))))))
  dsimp only
  refine wpAny_bind (wpAny_holding (wpAny_call (fn_get (s := ⟨h, g, d, _, os⟩) X (k_pushy G) ?_)))
  refine wpAny_pure ?_
  show wpAny _ _ (handedOut (.ref _)) _ _ _
  rw [handedOut_of rfl]
  exact wpAny_pure (hq _ _ _ (M.push _))
end
section
variable {M : Model} {A : Around} {E : Value → Shared → Prop} {s : Shared} {env : Env} {pos p apos : Pos} {o e : Expr} {name : Str} {Q : Value → Shared → Prop}
theorem MethodStar
    (h : wpAny M A (eval o env) (fun ov s₁ => wpAny M A (getAttr ov name true) (fun f s₂ => wpAny M A (callWith pos f [] (backTo pos (starEach [.Starred e p] env)) []) Q E s₂) E s₁) E s)
    (he : eval (.Call (.Attribute o name apos) [.Starred e p] [] pos) env = (do
      let ov ← eval o env
      standAt apos.atName
      let (f, first) ← holding [ov] (do pure (← getAttr ov name true, []))
      callWith pos f first (backTo pos (starEach [.Starred e p] env)) []) := by rfl) :
    wpAny M A (eval (.Call (.Attribute o name apos) [.Starred e p] [] pos) env) Q E s := by
  rw [he]
  refine wpAny_bind (wpAny_mono h (fun ov s₁ h₁ => wpAny_bind (wpAny_standAt (wpAny_bind (wpAny_holding (wpAny_bind (wpAny_mono h₁ (fun fx s₂ h₂ => wpAny_pure ?_) fun _ _ x => x)))))) fun _ _ x => x)
  exact h₂
theorem callWith_B {K : Frag} {b f : Addr} {self : Value} (hk : fnIn K f = true) (h : wpAny M A (eval e env) (fun v s₁ => StarOf M A E v (fun vs s₂ => MethP K b f self s₂.heap ∧ wpAny M A (call (.ref b) vs) Q E s₂) s₁) E s)
    (he : starEach [.Starred e p] env = [(true, eval e env)] := by rfl) :
    wpAny M A (callWith pos (.ref b) [] (backTo pos (starEach [.Starred e p] env)) []) Q E s := by
  rw [he]
  exact ks_call (first := []) rfl (keeps_M hk) (ks_lone h)
end
theorem k_pushf {w : World} {h₀ : Heap} {mg mb : Str → Option Value} (G : Gd w h₀ mg mb) : fnIn (Mine.hd.heap_1 w.params) 172 = true := by walk_at "fill"; exact Eq.symm (Eq.symm (by k_is))
section
variable {w : World} {A : Around} {h₀ h : Heap} {g : Array GenState} {d : Drawn} {tk : Nat} {os : OsState} {led : Led} {mg mb : Str → Option Value} {x dx : Addr} {n : Nat} {vs : List Value} {sz : Int} {t : Tok}
theorem push_code {a b : Value} (G : Gd w h₀ mg mb) (M : Mm h₀ h ((x, .obj (ac dx vs n)) :: (dx, isz sz t) :: led)) (R : Rm A 3) (hz : vs.length ≤ 1000)
   {R' : Result → Shared → Prop} (hq : ∀ T h' tk', Mm h₀ h' ((x, .obj (ac dx (vs ++ [.ref T]) (n + 1))) :: (dx, isz sz t) :: (T, .obj (tup [a, b])) :: led) → R' (.ok (.ret .none)) ⟨h', g, d, tk', os⟩) :
   codeAny (MP w) A (.call (.ref 172) ⟨[.ref x, a, b], []⟩) R' ⟨h, g, d, tk, os⟩ := by
  walk_at "fill"
  refine' callE [Str.ofString "self", Str.ofString "fws", Str.ofString "string"] [] [.ref x, a, b] G M R.d ?ho ?hcd ?hbind ?hcell ?hloc ?nd ?hlen ?c1 ?c2 ?c3 ?_
  walk_at "entered"
  intro L h' tk' E' M'
  dsimp only [List.map, List.cons_append, List.nil_append] at M'
  have hh : A.handled = none := R.handled
  repeat walk1
  rename_i T h2 M2 h3 M3
  refine hq T _ _ ?_
  exact M3.tail.perm (((List.Perm.swap _ _ _).cons _).trans (List.Perm.swap _ _ _))
end
end
section
noncomputable abbrev isp (c : Nat) : Bool := Unicode.isSpace c
noncomputable abbrev Pr := List Nat × List Nat
/-! the law's rows -/
noncomputable def pcStep (ps : List (List Nat)) (c : Nat) : List (List Nat) :=
  if c ∈ [32, 9] ∧ stripL [32, 9] (ps.getLastD []) ≠ [] then ps ++ [[c]] else ps.dropLast ++ [ps.getLastD [] ++ [c]]
noncomputable def pcs (l : List Nat) : List (List Nat) := l.foldl pcStep [[]]
noncomputable def hit (o : Nat) (row : List (List Nat)) (k : Nat) : Bool := decide (o = (row.getD (k - 1) []).getLastD 0) || decide (o = (row.getD k []).headD 0)
noncomputable def placesAt (o r : Nat) (row : List (List Nat)) (n : Nat) : List (Nat × Nat) := ((List.range' 1 n).filter (hit o row)).map fun k => (r, k)
noncomputable def places (order : List Nat) (row : List (List Nat)) (m : Nat) : List (Nat × Nat) := (List.range m).flatMap fun r => placesAt (order.getD r 0) r row (row.length - 1)
noncomputable def beats (a b : Nat × Nat) : Bool := decide (a.1 < b.1) || (decide (a.1 = b.1) && decide (b.2 < a.2))
noncomputable def best : List (Nat × Nat) → Nat × Nat
  | [] => (0, 0)
  | x :: r => r.foldl (fun b a => if beats a b then a else b) x
noncomputable abbrev RS := List (List Nat) × List (List Nat) × Nat
noncomputable def rowStep (width : Nat) (order : List Nat) (st : RS) (piece : List Nat) : RS :=
  let row := st.2.1 ++ [piece]
  if width < st.2.2 + row.flatten.length then
    if places order row order.length ≠ [] then
      let cut := (best (places order row order.length)).2
      (st.1 ++ [(row.take cut).flatten], row.drop cut, 0)
    else if 0 < st.2.2 then (st.1 ++ [row.dropLast.flatten], [if piece.headD 0 ∈ [32, 9] then piece else 32 :: piece], 0)
    else (st.1, row, st.2.2)
  else (st.1, row, st.2.2)
noncomputable def rowsEnd (pieces : List (List Nat)) (st : RS) : List (List Nat) :=
  let rows := st.1 ++ [st.2.1.flatten]
  let rows := if stripL [32, 9] (rows.getLastD []) = [] then rows.dropLast.dropLast ++ [rows.dropLast.getLastD [] ++ rows.getLastD []] else rows
  if pieces.getLastD [] = [32] then rows.dropLast ++ [(rows.getLastD []).dropLast] else rows
noncomputable def rowsL (text : List Nat) (room width : Nat) (order : List Nat) : List (List Nat) :=
  rowsEnd (pcs text) ((pcs text).foldl (rowStep width order) ([], [], room))
/-! what the law sees -/
noncomputable abbrev SS := List Nat × List Nat × Bool × Nat
noncomputable def seenStep (marks br : List Nat) (st : SS) (c : Nat) : SS :=
  if st.2.2.2 ∈ marks then (st.1, st.2.1, !st.2.2.1, st.2.2.2 + 1)
  else if !st.2.2.1 then (st.1 ++ [c], if st.2.2.2 ∈ br then st.2.1 ++ [c] else st.2.1, st.2.2.1, st.2.2.2 + 1)
  else (st.1, st.2.1, st.2.2.1, st.2.2.2 + 1)
noncomputable def seenRow (marks br en : List Nat) (n : Nat) (st : SS) (row : List Nat) : SS :=
  row.foldl (seenStep marks br) (if 0 < n ∧ st.2.2.1 = false then (st.1 ++ en, st.2) else st)
noncomputable def seenRows (marks br en : List Nat) : Nat → SS → List (List Nat) → SS
  | _, st, [] => st
  | n, st, row :: r => seenRows marks br en (n + 1) (seenRow marks br en n st row) r
noncomputable def marksL (whole : List Nat) : List Nat := let m := bareL whole [34] whole.length; m.take (m.length / 2 * 2)
noncomputable def seenL (rows : List (List Nat)) (en : List Nat) : SS :=
  seenRows (marksL rows.flatten) (bareL rows.flatten [40, 41] rows.flatten.length) en 0 ([], [], false, 0) rows
noncomputable def rep2 : List Nat → List Nat
  | 40 :: 41 :: r => rep2 r
  | c :: r => c :: rep2 r
  | [] => []
noncomputable def has2 : List Nat → Bool
  | 40 :: 41 :: _ => true
  | _ :: r => has2 r
  | [] => false
noncomputable def redN : Nat → List Nat → List Nat
  | 0, l => l
  | n + 1, l => if has2 l then redN n (rep2 l) else l
noncomputable def closedL (outer : List Nat) : Bool := decide (redN outer.length outer = [])
/-! the formatter -/
noncomputable def popd (ps : List Pr) : List Pr × Pr := match ps.getLast? with | none => ([], ([], [])) | some p => (ps.dropLast, p)
noncomputable def nlps (ps : List Pr) : List Pr := if (popd ps).2 = ([32], []) then (popd ps).1 else (popd ps).1 ++ [(popd ps).2]
noncomputable def owl2 (sz : Nat) (ps : List Pr) : Bool := decide (sz = 0) && (decide (plen ps = 0) || (decide (ptext ps ≠ []) && (ptext ps).all isp))
noncomputable def addLine (lines : List (List Nat)) (sz : Nat) (q : List Pr) : List (List Nat) :=
  if 0 < sz + plen q then (if owl2 sz q ∧ lines ≠ [] then lines.dropLast ++ [lines.getLastD [] ++ ptext q] else lines ++ [ptext q]) else lines
noncomputable def newlF (lines : List (List Nat)) (sz : Nat) (ps : List Pr) : List (List Nat) := addLine lines sz (nlps ps)
noncomputable def fhit (c : Nat) (ps : List Pr) (i : Nat) : Bool := (isp c && decide ((ps.getD i ([], [])).1.head? = some c)) || decide ((ps.getD (i - 1) ([], [])).2.getLast? = some c)
noncomputable def fndI (c : Nat) (ps : List Pr) : Option Nat := ((List.range' 1 (ps.length - 1)).reverse).find? (fhit c ps)
noncomputable def findCut (order : List Nat) (ps : List Pr) : Option Nat := order.findSome? fun c => fndI c ps
noncomputable abbrev FS := List (List Nat) × List Pr × Nat
noncomputable def chunkF (mx : Nat) (order : List Nat) (st : FS) (p : Pr) : FS :=
  let ps := st.2.1 ++ [p]
  if mx < st.2.2 + plen ps then
    match findCut order ps with
    | some i => (st.1 ++ [ptext (ps.take i)], ps.drop i, 0)
    | none => if 0 < st.2.2 then (newlF st.1 st.2.2 st.2.1, [(if p.1 = [] then [32] else p.1, p.2)], 0) else (st.1, ps, st.2.2)
  else (st.1, ps, st.2.2)
/-- the pieces of the split text: what the pattern gives, two by two -/
noncomputable def wsp (l : List Nat) : List Nat × List Nat := (l.takeWhile (· ∈ [32, 9]), l.dropWhile (· ∈ [32, 9]))
noncomputable def nws (l : List Nat) : List Nat × List Nat := (l.takeWhile (· ∉ [32, 9]), l.dropWhile (· ∉ [32, 9]))
noncomputable def splN : Nat → List Nat → List Pr
  | 0, _ => []
  | n + 1, l => if l = [] then [] else ((wsp l).1, (nws (wsp l).2).1) :: splN n (nws (wsp l).2).2
noncomputable def spl (text : List Nat) : List Pr := ([], (nws text).1) :: splN text.length (nws text).2
noncomputable def fmtL (text : List Nat) (room width : Nat) (order : List Nat) : List (List Nat) :=
  let st := (spl text).foldl (chunkF width order) ([], [], room)
  newlF st.1 st.2.2 st.2.1
/-! the law's text -/
noncomputable def sgn (k : Nat) : Nat := [97, 32, 34, 92, 40, 41, 44, 32, 34, 9].getD k 0
noncomputable def pre8 : List Nat := [98, 44, 32, 34, 99, 32, 100, 34]
noncomputable def orders : List (List Nat) := [[44, 32], [32, 44], [44], [32], [9, 44, 32], []]
theorem isspace_S (l : List Nat) : Txt.isspace (S l) = (decide (l ≠ []) && l.all isp) := by
  unfold Txt.isspace
  rw [S_len]
  have : (S l).cps.all Unicode.isSpace = l.all isp := by simp [S]
  rw [this]
  cases l <;> simp
theorem owl_eq (sz : Nat) (ps : List Pr) : owl sz ps = owl2 sz ps := by
  unfold owl owl2; rw [isspace_S]
end
section
/-! the two ways to find the cut agree -/
noncomputable def plc : Nat → List (List Nat) → List (Nat × Nat)
  | _, [] => []
  | r, g :: gs => g.map (fun k => (r, k)) ++ plc (r + 1) gs
theorem flat_plc (h : Nat → List Nat) : ∀ (order : List Nat) (k : Nat) (f : Nat → Nat), (∀ r, r < order.length → f (k + r) = order.getD r 0) →
    (List.range' k order.length).flatMap (fun r => (h (f r)).map fun x => (r, x)) = plc k (order.map h)
  | [], k, f, hf => rfl
  | o :: order, k, f, hf => by
    have h0 := hf 0 (by simp)
    have ih := flat_plc h order (k + 1) f (fun r hr => by
      have := hf (r + 1) (by simp; omega)
      rw [show k + 1 + r = k + (r + 1) by omega, this]; simp)
    simp only [Nat.add_zero, List.getD_cons_zero] at h0
    simp only [List.length_cons, List.range'_succ, List.flatMap_cons, List.map_cons, plc, ih, h0]
theorem bestf_ge (b : Nat × Nat) : ∀ (l : List (Nat × Nat)), (∀ x ∈ l, b.1 < x.1) → l.foldl (fun b a => if beats a b then a else b) b = b
  | [], _ => rfl
  | x :: l, h => by
    have hx := h x (by simp)
    have : beats x b = false := by unfold beats; simp; omega
    rw [List.foldl_cons, this]
    exact bestf_ge b l fun y hy => h y (by simp [hy])
theorem bestf_up (r : Nat) : ∀ (g : List Nat) (k : Nat), (k :: g).Pairwise (· < ·) → (g.map fun x => (r, x)).foldl (fun b a => if beats a b then a else b) (r, k) = (r, (k :: g).getLast (by simp))
  | [], k, _ => rfl
  | x :: g, k, h => by
    have hx : k < x := (List.pairwise_cons.mp h).1 x (by simp)
    have : beats (r, x) (r, k) = true := by unfold beats; simp; omega
    rw [List.map_cons, List.foldl_cons, this]
    simp only [if_true]
    rw [bestf_up r g x (List.pairwise_cons.mp h).2]
    simp
theorem plc_rank : ∀ (gs : List (List Nat)) (r : Nat), ∀ x ∈ plc r gs, r ≤ x.1
  | [], r, x, h => by simp [plc] at h
  | g :: gs, r, x, h => by
    rcases List.mem_append.mp h with q | q
    · obtain ⟨k, _, rfl⟩ := List.mem_map.mp q; exact Nat.le_refl _
    · have := plc_rank gs (r + 1) x q; omega
theorem best_plc : ∀ (gs : List (List Nat)) (r : Nat), (∀ g ∈ gs, g.Pairwise (· < ·)) → match gs.findSome? List.getLast? with
    | none => plc r gs = []
    | some i => plc r gs ≠ [] ∧ (best (plc r gs)).2 = i
  | [], r, _ => rfl
  | [] :: gs, r, h => by
    have ih := best_plc gs (r + 1) fun g hg => h g (by simp [hg])
    simp only [List.findSome?_cons, List.getLast?_nil, plc, List.map_nil, List.nil_append]
    exact ih
  | (k :: g) :: gs, r, h => by
    simp only [List.findSome?_cons, List.getLast?_cons, plc, List.map_cons, List.cons_append]
    refine ⟨by simp, ?_⟩
    show (List.foldl (fun b a => if beats a b then a else b) (r, k) (g.map (fun k => (r, k)) ++ plc (r + 1) gs)).2 = _
    rw [List.foldl_append, bestf_up r g k (h _ (by simp)), bestf_ge]
    · have z := List.getLast?_eq_some_getLast (l := k :: g) (by simp)
      rw [List.getLast?_cons] at z
      exact (Option.some.inj z).symm
    · intro x hx
      have := plc_rank gs (r + 1) x hx
      show r < x.1; omega
theorem fndI_last (c : Nat) (ps : List Pr) : fndI c ps = ((List.range' 1 (ps.length - 1)).filter (fhit c ps)).getLast? := by
  unfold fndI
  rw [← List.head?_filter, List.filter_reverse, List.head?_reverse]
noncomputable abbrev cat (p : Pr) : List Nat := p.1 ++ p.2
theorem cut_agree (order : List Nat) (ps : List Pr) (hh : ∀ o ∈ order, ∀ k, 1 ≤ k → k < ps.length → hit o (ps.map cat) k = fhit o ps k) :
    match findCut order ps with
    | none => places order (ps.map cat) order.length = []
    | some i => places order (ps.map cat) order.length ≠ [] ∧ (best (places order (ps.map cat) order.length)).2 = i := by
  have e1 : places order (ps.map cat) order.length = plc 0 (order.map fun o => (List.range' 1 (ps.length - 1)).filter (hit o (ps.map cat))) := by
    unfold places placesAt
    rw [List.length_map, List.range_eq_range']
    exact flat_plc (fun o => (List.range' 1 (ps.length - 1)).filter (hit o (ps.map cat))) order 0 (fun r => order.getD r 0) (fun r _ => by simp)
  have e2 : findCut order ps = (order.map fun o => (List.range' 1 (ps.length - 1)).filter (hit o (ps.map cat))).findSome? List.getLast? := by
    unfold findCut
    rw [List.findSome?_map]
    have : ∀ (os : List Nat), (∀ o ∈ os, ∀ k, 1 ≤ k → k < ps.length → hit o (ps.map cat) k = fhit o ps k) → os.findSome? (fun c => fndI c ps) = os.findSome? (List.getLast? ∘ fun o => (List.range' 1 (ps.length - 1)).filter (hit o (ps.map cat))) := by
      intro os
      induction os with
      | nil => intro _; rfl
      | cons o os ih =>
        intro hx
        have e3 : fndI o ps = (List.getLast? ∘ fun o => (List.range' 1 (ps.length - 1)).filter (hit o (ps.map cat))) o := by
          rw [fndI_last]
          show _ = List.getLast? _
          congr 1
          refine List.filter_congr fun k hk => ?_
          rw [List.mem_range'_1] at hk
          exact (hx o (by simp) k hk.1 (by omega)).symm
        rw [List.findSome?_cons, List.findSome?_cons, e3, ih fun o' ho' => hx o' (by simp [ho'])]
    exact this order hh
  rw [e1, e2]
  refine best_plc _ 0 fun g hg => ?_
  obtain ⟨o, _, rfl⟩ := List.mem_map.mp hg
  exact List.Pairwise.filter _ (List.pairwise_lt_range' (step := 1) (s := 1) (n := ps.length - 1) (by omega))
/-! one piece -/
structure GoodP (p : Pr) : Prop where
  w : ∀ c ∈ p.1, c ∈ [32, 9]
  s : ∀ c ∈ p.2, c ∉ [32, 9] ∧ isp c = false
noncomputable def Ord (order : List Nat) : Prop := ∀ o ∈ order, o = 44 ∨ o = 32 ∨ o = 9
structure Cl (cl : List Pr) : Prop where
  g : ∀ q ∈ cl, GoodP q
  s : ∀ q ∈ cl, q.2 ≠ []
  w : ∀ q ∈ cl.tail, q.1 ≠ []
theorem fhit_hit {order : List Nat} (ho : Ord order) {cl : List Pr} {p : Pr} (C : Cl cl) (hp : GoodP p) (hw : cl ≠ [] → p.1 ≠ []) :
    ∀ o ∈ order, ∀ k, 1 ≤ k → k < (cl ++ [p]).length → hit o ((cl ++ [p]).map cat) k = fhit o (cl ++ [p]) k := by
  intro o hoo k h1 h2
  have hl : (cl ++ [p]).length = cl.length + 1 := by simp
  have hk1 : k - 1 < cl.length := by omega
  obtain ⟨a, ha⟩ : ∃ a, cl[k - 1]? = some a := ⟨_, List.getElem?_eq_getElem hk1⟩
  obtain ⟨b, hb⟩ : ∃ b, (cl ++ [p])[k]? = some b := ⟨_, List.getElem?_eq_getElem h2⟩
  have ham : a ∈ cl := List.mem_of_getElem? ha
  have ha2 : (cl ++ [p])[k - 1]? = some a := by rw [List.getElem?_append_left hk1]; exact ha
  have hbg : GoodP b ∧ b.1 ≠ [] := by
    by_cases hlt : k < cl.length
    · rw [List.getElem?_append_left hlt] at hb
      refine ⟨C.g b (List.mem_of_getElem? hb), C.w b ?_⟩
      cases cl with
      | nil => simp at hlt
      | cons x cl =>
        obtain ⟨j, rfl⟩ : ∃ j, k = j + 1 := ⟨k - 1, by omega⟩
        simp at hb
        exact List.mem_of_getElem? hb
    · have hke : k = cl.length := by omega
      subst hke
      simp at hb
      subst hb
      exact ⟨hp, hw (by intro q; subst q; simp at h1)⟩
  have e1 : ((cl ++ [p]).map cat).getD (k - 1) [] = cat a := by rw [List.getD_eq_getElem?_getD, List.getElem?_map, ha2]; rfl
  have e2 : ((cl ++ [p]).map cat).getD k [] = cat b := by rw [List.getD_eq_getElem?_getD, List.getElem?_map, hb]; rfl
  have e3 : (cl ++ [p]).getD (k - 1) ([], []) = a := by rw [List.getD_eq_getElem?_getD, ha2]; rfl
  have e4 : (cl ++ [p]).getD k ([], []) = b := by rw [List.getD_eq_getElem?_getD, hb]; rfl
  unfold hit fhit
  rw [e1, e2, e3, e4]
  obtain ⟨a1, a2⟩ := a
  obtain ⟨b1, b2⟩ := b
  have has := C.s _ ham
  have hag := C.g _ ham
  obtain ⟨hbg, hbn⟩ := hbg
  dsimp only at has hbn
  obtain ⟨a2', x, rfl⟩ : ∃ l x, a2 = l ++ [x] := ⟨a2.dropLast, a2.getLast has, (List.dropLast_concat_getLast has).symm⟩
  cases b1 with
  | nil => exact absurd rfl hbn
  | cons y b1 =>
    have hx := (hag.s x (by simp)).1
    have hy := hbg.w y (by simp)
    have l1 : (cat (a1, a2' ++ [x])).getLastD 0 = x := by simp [cat, ← List.append_assoc]
    rw [l1]
    have l2 : (cat (y :: b1, b2)).headD 0 = y := rfl
    have l3 : (a2' ++ [x]).getLast? = some x := by simp
    have l4 : (y :: b1).head? = some y := rfl
    rw [l2, l3, l4, Bool.eq_iff_iff]
    simp only [Bool.or_eq_true, decide_eq_true_eq, Bool.and_eq_true, Option.some.injEq]
    simp at hx hy
    rcases ho o hoo with rfl | rfl | rfl
    · constructor
      · rintro (h | h)
        · exact .inr h.symm
        · omega
      · rintro (h | h)
        · exact absurd h.1 (by decide +kernel)
        · exact .inl h.symm
    · constructor
      · rintro (h | h)
        · omega
        · exact .inl ⟨by decide +kernel, h.symm⟩
      · rintro (h | h)
        · exact .inr h.2.symm
        · omega
    · constructor
      · rintro (h | h)
        · omega
        · exact .inl ⟨by decide +kernel, h.symm⟩
      · rintro (h | h)
        · exact .inr h.2.symm
        · omega
theorem ptext_eq (ps : List Pr) : ptext ps = (ps.map cat).flatten := rfl
theorem plen_eq (ps : List Pr) : plen ps = (ps.map cat).flatten.length := by
  unfold plen; rw [List.length_flatten, List.map_map]; congr 1; refine List.map_congr_left fun p _ => ?_; simp [cat]
theorem popd_snoc' (qs : List Pr) (p : Pr) : popd (qs ++ [p]) = (qs, p) := by simp [popd]
theorem nlps_id {cl : List Pr} {p : Pr} (h : p ≠ ([32], [])) : nlps (cl ++ [p]) = cl ++ [p] := by
  unfold nlps; rw [popd_snoc', if_neg h]
theorem fndI_rng {c i : Nat} {ps : List Pr} (h : fndI c ps = some i) : 1 ≤ i ∧ i < ps.length := by
  unfold fndI at h
  have := List.mem_of_find?_eq_some h
  rw [List.mem_reverse, List.mem_range'_1] at this
  omega
theorem findCut_rng : ∀ {order : List Nat} {i : Nat} {ps : List Pr}, findCut order ps = some i → 1 ≤ i ∧ i < ps.length
  | [], i, ps, h => by simp [findCut] at h
  | o :: order, i, ps, h => by
    unfold findCut at h
    rw [List.findSome?_cons] at h
    split at h
    · rename_i q; cases h; exact fndI_rng q
    · exact findCut_rng (order := order) h
structure After (cl' : List Pr) (p : Pr) (lines' : List (List Nat)) (sz' : Nat) (cl : List Pr) (f : List Nat) (cl0 : List Pr) : Prop where
  e : cl' = cl0 ++ [(f, p.2)]
  gf : GoodP (f, p.2)
  fe : f = p.1 ∨ (p.1 = [] ∧ f = [32])
  g : ∀ q ∈ cl0, GoodP q
  s : ∀ q ∈ cl0, q.2 ≠ []
  w : ∀ q ∈ cl'.tail, q.1 ≠ []
  n : cl ≠ [] → cl0 = [] → sz' = 0 ∧ lines' ≠ []
theorem newl_of_room {lines : List (List Nat)} {sz : Nat} {cl : List Pr} (hs : 0 < sz) (h : ∀ q ∈ cl, q.2 ≠ []) : newlF lines sz cl = lines ++ [ptext cl] := by
  have : ptext (nlps cl) = ptext cl := by
    rcases List.eq_nil_or_concat cl with rfl | ⟨qs, q, rfl⟩
    · rfl
    · rw [List.concat_eq_append] at *
      rw [nlps_id]
      intro e
      exact h q (by simp) (by rw [e])
  unfold newlF addLine
  rw [if_pos (by omega), if_neg (by unfold owl2; simp; omega), this]
theorem step_agree {order : List Nat} (ho : Ord order) {mx sz : Nat} {lines : List (List Nat)} {cl : List Pr} {p : Pr} (C : Cl cl) (hp : GoodP p) (hw : cl ≠ [] → p.1 ≠ []) :
    ∃ lines' cl' sz' f cl0, chunkF mx order (lines, cl, sz) p = (lines', cl', sz') ∧ rowStep mx order (lines, cl.map cat, sz) (cat p) = (lines', cl'.map cat, sz') ∧ After cl' p lines' sz' cl f cl0 := by
  have hrow : cl.map cat ++ [cat p] = (cl ++ [p]).map cat := by simp
  have hlen : ((cl ++ [p]).map cat).flatten.length = plen (cl ++ [p]) := (plen_eq _).symm
  have hwt : ∀ q ∈ (cl ++ [p]).tail, q.1 ≠ [] := by
    cases cl with
    | nil => intro q hq; simp at hq
    | cons x cl =>
      intro q hq
      simp only [List.cons_append, List.tail_cons, List.mem_append, List.mem_singleton] at hq
      rcases hq with hq | rfl
      · exact C.w q hq
      · exact hw (by simp)
  have keep : After (cl ++ [p]) p lines sz cl p.1 cl := ⟨rfl, hp, .inl rfl, C.g, C.s, hwt, fun h1 h2 => absurd h2 h1⟩
  unfold chunkF rowStep
  dsimp only
  rw [hrow, hlen]
  by_cases hm : mx < sz + plen (cl ++ [p])
  · rw [if_pos hm, if_pos hm]
    have hc := cut_agree order (cl ++ [p]) (fhit_hit ho C hp hw)
    cases hf : findCut order (cl ++ [p]) with
    | some i =>
      rw [hf] at hc
      dsimp only at hc ⊢
      rw [if_pos hc.1, hc.2]
      obtain ⟨i1, i2⟩ := findCut_rng hf
      have i3 : i ≤ cl.length := by simp at i2; omega
      refine ⟨_, _, _, p.1, cl.drop i, rfl, ?_, ?_⟩
      · simp only [ptext_eq, List.map_take, List.map_drop]
      · refine ⟨by rw [List.drop_append_of_le_length i3], hp, .inl rfl, fun q hq => C.g q (List.mem_of_mem_drop hq), fun q hq => C.s q (List.mem_of_mem_drop hq), fun q hq => hwt q ?_, fun _ _ => ⟨rfl, by simp⟩⟩
        rw [List.tail_drop] at hq
        rw [← List.drop_one]
        have : List.drop (i + 1) (cl ++ [p]) = List.drop i (List.drop 1 (cl ++ [p])) := by rw [List.drop_drop, Nat.add_comm]
        rw [this] at hq
        exact List.mem_of_mem_drop hq
    | none =>
      rw [hf] at hc
      dsimp only at hc ⊢
      rw [if_neg (c := places order (List.map cat (cl ++ [p])) order.length ≠ []) (by rw [hc]; simp)]
      by_cases hs : 0 < sz
      · rw [if_pos hs, if_pos hs]
        refine ⟨_, _, _, if p.1 = [] then [32] else p.1, [], rfl, ?_, ?_⟩
        · have e1 : ((cl ++ [p]).map cat).dropLast.flatten = ptext cl := by simp [ptext_eq]
          rw [newl_of_room hs C.s, e1]
          have e2 : (if (cat p).headD 0 ∈ [32, 9] then cat p else 32 :: cat p) = cat (if p.1 = [] then [32] else p.1, p.2) := by
            obtain ⟨p1, p2⟩ := p
            cases p1 with
            | nil =>
              cases p2 with
              | nil => simp [cat]
              | cons y p2 =>
                have := (hp.s y (by simp)).1
                show (if y ∈ [32, 9] then y :: p2 else 32 :: y :: p2) = 32 :: y :: p2
                rw [if_neg this]
            | cons y p1 =>
              have := hp.w y (by simp)
              show (if y ∈ [32, 9] then y :: p1 ++ p2 else 32 :: (y :: p1 ++ p2)) = y :: p1 ++ p2
              rw [if_pos this]
          rw [e2]; rfl
        · refine ⟨rfl, ?_, ?_, by simp, by simp, by simp, fun _ _ => ⟨rfl, by rw [newl_of_room hs C.s]; simp⟩⟩
          · refine ⟨?_, hp.s⟩
            by_cases h : p.1 = []
            · simp [h]
            · rw [if_neg h]; exact hp.w
          · by_cases h : p.1 = []
            · exact .inr ⟨h, by rw [if_pos h]⟩
            · exact .inl (by rw [if_neg h])
      · rw [if_neg hs, if_neg hs]
        exact ⟨_, _, _, _, _, rfl, rfl, keep⟩
  · rw [if_neg hm, if_neg hm]
    exact ⟨_, _, _, _, _, rfl, rfl, keep⟩
end
section
set_option maxRecDepth 100000
set_option maxHeartbeats 1000000
section
variable {prog : Program} {w : World} {A : Around} {E : Value → Shared → Prop} {h₀ h : Heap} {g : Array GenState} {d : Drawn} {tk : Nat} {os : OsState} {led : Led} {Q : Value → Shared → Prop} {a : Addr} {vs : List Value} {n i : Nat} {t u : Tok} {x y v : Value} {l k : List Nat}
theorem truL {Q : Bool → Shared → Prop} (M : Mm h₀ h led) (e : At led i (a, .obj (lo vs n))) (hz : vs.length ≤ sizeLine) (hq : ∀ k', Q (decide (vs ≠ [])) ⟨h, g, d, k', os⟩) : wpAny (model prog w) A (truthy (.ref a)) Q E ⟨h, g, d, tk, os⟩ := by
  refine wpAny_truthy_list (items := vs.toArray) ⟨_, M.get i e, rfl, n, rfl⟩ (by rw [List.size_toArray]; unfold sizeLine at hz; omega) ?_
  have : (!vs.toArray.isEmpty) = decide (vs ≠ []) := by cases vs <;> simp
  rw [this]; exact hq _
theorem gilL (M : Mm h₀ h led) (e : At led i (a, .obj (lo vs n))) (hx : vs.getLast? = some x) (hz : vs.length ≤ sizeLine) (hq : Q x ⟨h, g, d, tk, os⟩) :
    wpAny (model prog w) A (getItem (.ref a) (.int (-1) u)) Q E ⟨h, g, d, tk, os⟩ := by
  have hl : Heap.IsList h a vs.toArray := ⟨_, M.get i e, rfl, n, rfl⟩
  have hne : vs ≠ [] := by intro q; subst q; simp at hx
  have hp : 1 ≤ vs.length := by cases vs; exact absurd rfl hne; simp
  refine wpAny_getItem_list_neg hl (by omega) ?_ ?_ ?_ hq
  all_goals first | omega | (simp; omega) | skip
  rw [List.getLast?_eq_getElem?] at hx
  have e3 : ((-1 : Int) + vs.toArray.size).toNat = vs.length - 1 := by simp; omega
  rw [e3]; simpa using hx
theorem silL {Q : Unit → Shared → Prop} (M : Mm h₀ h led) (e : At led i (a, .obj (lo (vs ++ [y]) n))) (hz : vs.length + 1 ≤ sizeLine)
    (hq : ∀ h' n', Mm h₀ h' (led.set i (a, .obj (lo (vs ++ [v]) n'))) → Q () ⟨h', g, d, tk, os⟩) :
    wpAny (model prog w) A (setItem (.ref a) (.int (-1) u) v) Q E ⟨h, g, d, tk, os⟩ := by
  have ho := M.get i e
  have hl : Heap.IsList h a (vs ++ [y]).toArray := ⟨_, ho, rfl, n, rfl⟩
  unfold setItem
  try with_reducible refine wpAny_holding ?_
  first | refine wpAny_bind (wpAny_pure ?_) | skip
  refine wpAny_bind (wpAny_sequenceKey (Heap.IsList.typeIs (s := ⟨h, g, d, tk, os⟩) hl) (by decide) ?_)
  refine wpAny_bind (wpAny_callSpecial?_slot (name := Str.ofString "__setitem__") (Heap.IsList.typeIs (s := ⟨h, g, d, tk, os⟩) hl) slot_list_setitem
    (wpAny_call_entry slot_list_setitem (Heap.IsList.typeIs (s := ⟨h, g, d, tk, os⟩) hl) entry_list_setitem ?_ (args_list_setitem _ _ _)))
  show wpAny _ _ (Builtin.List.listSubscript? (.int (-1) u) >>= _) _ _ _
  refine wpAny_bind (wpAny_listSubscript_int (fitsIndex_neg (by omega) (by omega)) ?_)
  have hidx : seqIndex? (-1) (vs ++ [y]).toArray.size = some vs.length := by
    rw [PyProof.Rows.seqIndex?_neg_one (by simp)]; simp
  show wpAny _ _ ((Builtin.List.listItems (.ref a) >>= fun xs => pure ((seqIndex? (-1) xs.size).bind fun i => xs[i]?.map (i, ·))) >>= _) _ _ _
  refine wpAny_bind (wpAny_bind ?_)
  show wpAny _ _ (seqItems? (.ref a) >>= _) _ _ _
  refine wpAny_bind (wpAny_seqItems ho rfl (wpAny_pure (wpAny_pure ?_)))
  rw [hidx]
  have hx : (vs ++ [y]).toArray[vs.length]? = some y := by simp
  simp only [Option.bind_some, hx, Option.map_some]
  show wpAny _ _ (setSeqItemAt a vs.length v >>= _) _ _ _
  refine wpAny_bind (wpAny_setSeqItemAt ho rfl ?_)
  have M2 := M.update i e (Obj.mapSeq fun xs => xs.setIfInBounds vs.length v)
  obtain ⟨n', e2⟩ : ∃ n', Obj.mapSeq (fun xs => xs.setIfInBounds vs.length v) (lo (vs ++ [y]) n) = lo (vs ++ [v]) n' := by
    simp only [Obj.mapSeq, lo, List.setIfInBounds_toArray, List.set_append_right _ _ (Nat.le_refl _), Nat.sub_self, List.set_cons_zero]
    exact ⟨_, rfl⟩
  rw [e2] at M2
  first
    | exact wpAny_bind (wpAny_pure (wpAny_pure ⟨.none, rfl, wpAny_pure (hq _ _ M2)⟩))
    | exact wpAny_pure ⟨.none, rfl, wpAny_pure (hq _ _ M2)⟩
theorem iaddS (hq : ∀ t' k', Q (.str (S (l ++ k)) t') ⟨h, g, d, k', os⟩) (hz : l.length + k.length ≤ sizeLine) : wpAny (model prog w) A (inplaceOp .Add (.str (S l) t) (.str (S k) u)) Q E ⟨h, g, d, tk, os⟩ := by
  exact PyProof.Rows.iadd_str (fun t' k' => by rw [S_app]; exact hq t' k') (by rw [S_len, S_len]; exact hz)
end
theorem Strs.last {vs : List Value} {xs : List (List Nat)} (h : Strs vs xs) (hne : xs ≠ []) : ∃ us t, vs = us ++ [.str (S (xs.getLastD [])) t] ∧ Strs us xs.dropLast := by
  obtain ⟨ts, rfl, rfl⟩ := h
  have hn : ts ≠ [] := by intro q; subst q; exact hne rfl
  obtain ⟨ys, y, rfl⟩ : ∃ l x, ts = l ++ [x] := ⟨ts.dropLast, ts.getLast hn, (List.dropLast_concat_getLast hn).symm⟩
  refine ⟨sv ys, y.2, ?_, ys, rfl, by simp⟩
  simp [sv]
end
section
set_option maxRecDepth 100000
set_option maxHeartbeats 8000000
noncomputable abbrev fnames : List Str := [Str.ofString "_maxlen", Str.ofString "_continuation_ws", Str.ofString "_continuation_ws_len", Str.ofString "_splitchars", Str.ofString "_lines", Str.ofString "_current_line"]
set_option hygiene false in
local macro_rules | `(tactic| walk_at "truthy ref") => `(tactic| (refine truL (by assumption) (by walk_at "at") (by walk_at "sz") ?_; walk_at "ikT"))
set_option hygiene false in
local macro_rules | `(tactic| walk_at "inplaceOp Add str str") => `(tactic| (refine iaddS ?_ (by walk_at "sz"); walk_at "itk"))
/-- the maker's cells -/
noncomputable abbrev mkl (m dm ln x : Addr) (a1 a2 a3 a4 : Value) (lvs : List Value) (k : Nat) (led : Led) : Led :=
  (m, .obj (fm dm)) :: (dm, .any (DP fnames [some a1, some a2, some a3, some a4, some (.ref ln), some (.ref x)])) :: (ln, .obj (lo lvs k)) :: led
section
variable {w : World} {A : Around} {E : Value → Shared → Prop} {h₀ h : Heap} {g : Array GenState} {d : Drawn} {tk : Nat} {os : OsState} {led : Led} {mg mb : Str → Option Value} {m dm ln x dx : Addr} {a1 a2 a3 a4 : Value} {i j n k : Nat} {vs lvs : List Value} {sz : Nat} {t : Tok} {ps : List (List Nat × List Nat)}
theorem popd_snoc (qs : List (List Nat × List Nat)) (p : List Nat × List Nat) : popd (qs ++ [p]) = (qs, p) := by simp [popd]
theorem newline_spec {Q : Value → Shared → Prop} {lines : List (List Nat)} (G : Gd w h₀ mg mb) (B : BM h₀ mg) (M : Mm h₀ h (mkl m dm ln x a1 a2 a3 a4 lvs k (acl x dx vs n sz t led))) (R : Rm A 12) (hps : Prs led ps vs) (hq : ∀ h' g' tk' lus j' n' t', Mm h₀ h' (mkl m dm ln x a1 a2 a3 a4 lus j' (acl x dx [] n' 0 t' led)) → Strs lus (newlF lines sz ps) → AllBare g' → Q .none ⟨h', g', d, tk', os⟩) (H : Sml ps) (HN : Sml (nlps ps)) (hlv : Strs lvs lines) (hlz : lines.length ≤ 1000) (hle : ∀ l ∈ lines, l.length ≤ 1000) (hb : AllBare g) (hsz : sz ≤ 1000) :
   wpAny (MP w) A (call (.ref 106) [.ref m]) Q E ⟨h, g, d, tk, os⟩ := by
  walk_at "fill"
  refine' wpAny_call (callE [Str.ofString "self"] [Str.ofString "end_of_line"] [.ref m] G M R.d ?ho ?hcd ?hbind ?hcell ?hloc ?nd ?hlen ?c1 ?c2 ?c3 ?_)
  walk_at "entered"
  intro L h' tk' E' M'
  dsimp only [List.map, List.cons_append, List.nil_append] at M'
  have R1 := fun env => Rm.deeper (R.le (by decide : 11 + 1 ≤ 12)) env
  have hh : A.handled = none := R.handled
  let Pv1 : Shared → Heap → Nat → (List Value) → Nat → Addr → Tok → Tok → Led → Prop := fun s h1 k1 us n1 T t1 u1 X => Am5 (s = ⟨h1, g, d, k1, os⟩) (us.length ≤ 1000) ((T, Cell.obj (tup [Value.str (S (popd ps).2.1) t1, Value.str (S (popd ps).2.2) u1])) ∈ X ++ led) (Prs (X ++ led) (popd ps).1 us) (Mm h₀ h1 ((L, .ns [Str.ofString "self", Str.ofString "end_of_line"] [some (.ref m), some (.ref T)]) :: mkl m dm ln x a1 a2 a3 a4 lvs k (acl x dx us n1 sz t (X ++ led))))
  let Iv1 : Shared → Prop := fun s => Ex8 (Pv1 s)
  refine mid Iv1 ?s1 ?s2
  case s1 =>
    repeat walk1
    have M2 := (M'.front 7 .n7).front 7 .n7
    dsimp only [List.eraseIdx] at M2
    rcases List.eq_nil_or_concat ps with rfl | ⟨qs, p, rfl⟩
    · have hv : vs = [] := List.eq_nil_of_length_eq_zero hps.1
      subst hv
      refine pop_nil_spec G M2 ((R1 _).le (by decide)) ?_
      intro T h3 k3 t1 t2 M3
      repeat walk1
      rename_i h4 k4 M4
      refine ⟨h4, k4, [], n, T, t1, t2, [(T, Cell.obj (tup [Value.str (S []) t1, Value.str (S []) t2]))], rfl, by simp, List.mem_cons_self, ⟨rfl, fun k p hk => by simp [popd] at hk⟩, ?_⟩
      exact M4.perm (by walk_at "perm")
    · rw [List.concat_eq_append] at *
      obtain ⟨us, T, t1, u1, rfl, hus, hT⟩ := hps.last
      refine pop_spec G M2 ((R1 _).le (by decide)) (by have := hps.1; have := H.n; simp at *; omega) ?_
      intro h3 k3 M3
      repeat walk1
      rename_i h4 k4 M4
      refine ⟨h4, k4, us, n + 1, T, t1, u1, [], rfl, by have := hus.1; have := H.n; simp at *; omega, by rw [List.concat_eq_append, popd_snoc]; exact hT, by rw [List.concat_eq_append, popd_snoc]; exact hus, ?_⟩
      exact M4.perm (by walk_at "perm")
  case s2 =>
    clear M M'
    rintro _ ⟨h1, k1, us, n1, T, t1, u1, X, rfl, hul, hT, hus, M1⟩
    obtain ⟨iT, hiT⟩ := List.mem_iff_getElem?.mp hT
    have aT := At.of hiT
    let Pv2 : Shared → Heap → Nat → (List Value) → Nat → Led → Prop := fun s h1 k1 us n1 X => Am3 (s = ⟨h1, g, d, k1, os⟩) (Prs (X ++ led) (nlps ps) us) (Mm h₀ h1 ((L, .ns [Str.ofString "self", Str.ofString "end_of_line"] [some (.ref m), some (.ref T)]) :: mkl m dm ln x a1 a2 a3 a4 lvs k (acl x dx us n1 sz t (X ++ led))))
    let Iv2 : Shared → Prop := fun s => Ex5 (Pv2 s)
    refine mid Iv2 ?s3 ?s4
    case s3 =>
      repeat walk1
      rename_i t2 k2 t3 k3 T2 h3 M3
      refine neT M3 (.s (.s (.s (.s (.s (.s (.s (.s (.s aT))))))))) .n1 ((R1 _).u) ?_
      clear M1
      repeat' walk1
      · rename_i heq
        have hp : (popd ps).2 = ([32], []) := by
          have : (popd ps).2.1 = [32] ∧ (popd ps).2.2 = [] := by simpa using heq
          exact Prod.ext this.1 this.2
        refine ⟨h3, _, us, n1, (T2, .obj (tup [.str (S [32]) t2, .str (S []) t3])) :: X, rfl, ?_, M3.perm (by walk_at "perm")⟩
        rw [nlps, if_pos hp]
        exact hus.mono fun p hp => List.mem_cons_of_mem _ hp
      · rename_i hne
        have hp : ¬ (popd ps).2 = ([32], []) := by
          intro q
          simp [q] at hne
        refine MethodStar ?_
        repeat walk1
        refine gaM G M3 .n7 .n8 (by decide) ?_
        intro b h4 k4 M4
        refine callWith_B (self := .ref x) (k_pushf G) ?_
        repeat walk1
        refine starT (M' := ()) M4 (.s (.s (.s (.s (.s (.s (.s (.s (.s (.s aT)))))))))) (by simp) ?_
        intro h5 M5
        refine ⟨⟨M5.get 0 .z, M5.K G⟩, wpAny_call (ks_codeAny_call_bound (M5.get 0 .z) ?_)⟩
        have M6 := (M5.front 9 .n9).front 9 .n9
        dsimp only [List.eraseIdx] at M6
        refine push_code G M6 ((R1 _).le (by decide)) hul ?_
        intro T4 h7 k7 M7
        repeat walk1
        refine ⟨h7, _, _, _, (T4, .obj (tup [.str (S (popd ps).2.1) t1, .str (S (popd ps).2.2) u1])) :: (b, .obj (mtO 172 x)) :: (T2, .obj (tup [.str (S [32]) t2, .str (S []) t3])) :: X, rfl, ?_, M7.perm (by walk_at "perm")⟩
        rw [nlps, if_neg hp]
        refine Prs.snoc (hus.mono fun p hp => List.mem_cons_of_mem _ (List.mem_cons_of_mem _ (List.mem_cons_of_mem _ hp))) (p := (popd ps).2) List.mem_cons_self
    case s4 =>
      clear M1 hus hul hT aT hiT
      rintro _ ⟨h1, k1, us, n1, X, rfl, hus, M1⟩
      let Pv3 : Shared → Heap → (Array GenState) → Nat → (List Value) → Nat → Led → Prop := fun s h1 g1 k1 lus j1 X => Am4 (s = ⟨h1, g1, d, k1, os⟩) (AllBare g1) (Strs lus (newlF lines sz ps)) (Mm h₀ h1 ((L, .ns [Str.ofString "self", Str.ofString "end_of_line"] [some (.ref m), some (.ref T)]) :: mkl m dm ln x a1 a2 a3 a4 lus j1 (acl x dx us n1 sz t (X ++ led))))
      let Iv3 : Shared → Prop := fun s => Ex6 (Pv3 s)
      refine mid Iv3 ?s5 ?s6
      case s5 =>
        repeat walk1
        refine lenC G B (M1.rot (cs := [_, _, _, _]) [_, _, _, _]) ((R1 _).le (by decide)) (hus.mono fun p hp => List.mem_cons_of_mem _ (List.mem_cons_of_mem _ (List.mem_cons_of_mem _ (List.mem_cons_of_mem _ hp)))) HN hb hsz ?_
        intro h2 g2 k2 t2 M2 hb2
        have M3 := M2.rot (cs := [_, _, _, _]) [_, _, _, _]
        dsimp only [List.cons_append, List.nil_append] at M3
        clear M1 M2
        repeat' walk1
        · rename_i hpos
          show wpAny _ _ (call (.ref 217) [.ref x]) _ _ _
          refine only_spec G B (M3.rot (cs := [_, _, _, _]) [_, _, _, _]) ((R1 _).le (by decide)) (hus.mono fun p hp => List.mem_cons_of_mem _ (List.mem_cons_of_mem _ (List.mem_cons_of_mem _ (List.mem_cons_of_mem _ hp)))) HN hb2 hsz ?_
          intro h3 g3 k3 M4 hb3
          have M5 := M4.rot (cs := [_, _, _, _]) [_, _, _, _]
          dsimp only [List.cons_append, List.nil_append] at M5
          clear M3 M4
          have hll := hlv.len
          have hp4 := hus.mono (led' := (L, Cell.ns [Str.ofString "self", Str.ofString "end_of_line"] [some (.ref m), some (.ref T)]) :: (m, .obj (fm dm)) :: (dm, .any (DP fnames [some a1, some a2, some a3, some a4, some (.ref ln), some (.ref x)])) :: (ln, .obj (lo lvs k)) :: (X ++ led)) (fun p hp => List.mem_cons_of_mem _ (List.mem_cons_of_mem _ (List.mem_cons_of_mem _ (List.mem_cons_of_mem _ hp))))
          repeat' walk1
          · rename_i how hne
            have hln : lines ≠ [] := by
              intro q; subst q
              exact hne (List.eq_nil_of_length_eq_zero (by simpa using hll))
            obtain ⟨us', ty, rfl, hus'⟩ := hlv.last hln
            refine gilL M5 (by walk_at "at") List.getLast?_concat (by walk_at "sz") ?_
            repeat walk1
            refine strC G B (M5.rot (cs := [_, _, _, _]) [_, _, _, _]) ((R1 _).le (by decide)) hp4 HN hb3 ?_
            intro h6 g6 k6 t6 M6 hb6
            have M7 := M6.rot (cs := [_, _, _, _]) [_, _, _, _]
            dsimp only [List.cons_append, List.nil_append] at M7
            clear M5 M6
            have hz1 : (lines.getLastD []).length ≤ 1000 := hle _ (by rw [List.getLastD_eq_getLast?]; exact List.mem_of_getLast? (by rw [List.getLast?_eq_some_getLast hln]; rfl))
            have hz2 := HN.l
            rw [plen_eq] at hz2
            rw [← ptext_eq] at hz2
            repeat walk1
            refine silL M7 (by walk_at "at") (by rw [sizeLine_eq]; simp at hll; omega) ?_
            intro h8 n8 M8
            dsimp only [List.set] at M8
            repeat walk1
            refine ⟨h8, g6, _, _, _, X, rfl, hb6, ?_, M8⟩
            unfold newlF addLine
            rw [if_pos (by omega), if_pos ⟨by rw [← owl_eq]; assumption, hln⟩]
            exact hus'.snoc _ _
          · rename_i how hne
            have hln : lines = [] := by
              have : lvs = [] := by simpa using hne
              subst this
              exact List.eq_nil_of_length_eq_zero (by simpa using hll.symm)
            refine strC G B (M5.rot (cs := [_, _, _, _]) [_, _, _, _]) ((R1 _).le (by decide)) hp4 HN hb3 ?_
            intro h6 g6 k6 t6 M6 hb6
            have M7 := M6.rot (cs := [_, _, _, _]) [_, _, _, _]
            dsimp only [List.cons_append, List.nil_append] at M7
            clear M5 M6
            repeat walk1
            rename_i h8 M8
            refine ⟨h8, g6, _, _, _, X, rfl, hb6, ?_, M8⟩
            unfold newlF addLine
            rw [if_pos (by omega), if_neg (fun q => q.2 hln)]
            exact hlv.snoc _ _
          · rename_i how
            refine strC G B (M5.rot (cs := [_, _, _, _]) [_, _, _, _]) ((R1 _).le (by decide)) hp4 HN hb3 ?_
            intro h6 g6 k6 t6 M6 hb6
            have M7 := M6.rot (cs := [_, _, _, _]) [_, _, _, _]
            dsimp only [List.cons_append, List.nil_append] at M7
            clear M5 M6
            repeat walk1
            rename_i h8 M8
            refine ⟨h8, g6, _, _, _, X, rfl, hb6, ?_, M8⟩
            unfold newlF addLine
            rw [if_pos (by omega), if_neg (fun q => by rw [← owl_eq, how] at q; exact Bool.false_ne_true q.1)]
            exact hlv.snoc _ _
        · rename_i hpos
          refine ⟨h2, g2, _, _, _, X, rfl, hb2, ?_, M3⟩
          unfold newlF addLine
          rw [if_neg (by omega)]
          exact hlv
      case s6 =>
        clear M1
        rintro _ ⟨h1, g1, k1, lus, j1, X, rfl, hb1, hlus, M1⟩
        repeat walk1
        have M2 := M1.rot (cs := [_, _, _, _, _, _]) [_, _]
        dsimp only [List.cons_append, List.nil_append] at M2
        refine reset_none_spec G M2 ((R1 _).le (by decide)) (by rw [hus.1]; exact HN.n) ?_
        intro h3 k3 n3 t3 M3
        repeat walk1
        have M4 := M3.sub (.cons₂ _ (.cons₂ _ (.cons _ (.cons₂ _ (.cons₂ _ (.cons₂ _ (.cons₂ _ (.cons₂ _ (List.sublist_append_right X led)))))))))
        have M5 := M4.rot (cs := [_, _]) [_, _, _, _, _]
        dsimp only [List.cons_append, List.nil_append] at M5
        exact hq h3 g1 k3 lus j1 n3 t3 M5 hlus hb1
end
end
section
set_option maxRecDepth 100000
set_option maxHeartbeats 1000000
section
variable {prog : Program} {w : World} {A : Around} {E : Value → Shared → Prop} {h₀ h : Heap} {g : Array GenState} {d : Drawn} {tk : Nat} {os : OsState} {led : Led} {Q : Value → Shared → Prop} {a : Addr} {vs : List Value} {n i : Nat} {t u : Tok} {x y v : Value} {l : List Nat}
theorem rngD {p : Addr × Cell} {k : Nat} {t1 t2 t3 : Tok} (M : Mm h₀ h (p :: led)) (hk : k ≤ 1000) (hq : ∀ c h' k' t1 t2 t3, Mm h₀ h' (p :: (c, .obj (rng k 0 (-1) t1 t2 t3)) :: led) → Q (.ref c) ⟨h', g, d, k', os⟩) :
    wpAny (model prog w) A (call (.type "range") [.int k t1, .int 0 t2, .int (-1) t3]) Q E ⟨h, g, d, tk, os⟩ :=
  call_range_3 (by decide) (hq _ _ _ _ _ _ (M.push2 _)) (.inl (PyProof.noPylong_small (by omega)))
theorem size_down (k : Nat) : Builtin.Range.rangeSize (k : Int) 0 (-1) = k := by
  unfold Builtin.Range.rangeSize
  rw [if_neg (by decide)]
  split
  · simp
  · omega
theorem small_down {k : Nat} (hk : k ≤ 1000) : Builtin.Range.small (k : Int) 0 (-1) = true := by
  unfold Builtin.Range.small
  rw [size_down]
  simp only [Builtin.Range.rangeFitsLong, Bool.and_eq_true, Bool.or_eq_true, decide_eq_true_eq, beq_iff_eq]
  simp
  omega
theorem itemT {value slice : Expr} {k : Nat} (M : Mm h₀ h led) (e : At led i (a, .obj (tup vs))) (hx : vs[k]? = some x) (hz : vs.length ≤ 1000) (hq : Q x ⟨h, g, d, tk, os⟩)
    (hs : subscripted slice false (.ref a) (.int k u) = operate [.ref a, .int k u] (getItem (.ref a) (.int k u)) := by with_unfolding_all rfl) :
    wpAny (model prog w) A (subscriptTail value slice (.ref a) (.int (k : Int) u)) Q E ⟨h, g, d, tk, os⟩ := by
  have hi : k < vs.length := (List.getElem?_eq_some_iff.mp hx).1
  refine tail_any (T := "tuple") ⟨_, M.get i e, rfl⟩ F.slot_tuple_getitem.lookup (P.getItem_tuple (items := vs.toArray) (n := 0) (k := k) (y := x) (M.get i e) (by omega) (by omega) ?_ (by simpa using hx) hq) hs
  rw [List.size_toArray]; exact PySem.seqIndex_of (Int.natCast_nonneg _) (Int.ofNat_lt.mpr hi)
theorem itemTz {value slice : Expr} {z : Int} {k : Nat} (hk : z = (k : Int)) (M : Mm h₀ h led) (e : At led i (a, .obj (tup vs))) (hx : vs[k]? = some x) (hz : vs.length ≤ 1000) (hq : Q x ⟨h, g, d, tk, os⟩)
    (hs : subscripted slice false (.ref a) (.int k u) = operate [.ref a, .int k u] (getItem (.ref a) (.int k u)) := by with_unfolding_all rfl) :
    wpAny (model prog w) A (subscriptTail value slice (.ref a) (.int z u)) Q E ⟨h, g, d, tk, os⟩ := by
  subst hk; exact itemT M e hx hz hq hs
theorem truS {Q : Bool → Shared → Prop} (hz : l.length ≤ sizeLine) (hq : ∀ k', Q (decide (l ≠ [])) ⟨h, g, d, k', os⟩) : wpAny (model prog w) A (truthy (.str (S l) t)) Q E ⟨h, g, d, tk, os⟩ := by
  refine P.truthy_str (by rw [S_len]; unfold sizeLine at hz; omega) ?_
  have : (((S l).length : Int) != 0) = decide (l ≠ []) := by
    rw [S_len, Bool.eq_iff_iff]; cases l <;> simp <;> omega
  rw [this]; exact hq _
theorem ispS {c : Nat} (hq : Q (.bool (isp c)) ⟨h, g, d, tk, os⟩) : wpAny (model prog w) A (call (.builtin "str.isspace") [.str (S [c]) t]) Q E ⟨h, g, d, tk, os⟩ := by
  refine SC.isspace ?_
  rw [isspace_S]
  simpa using hq
end
noncomputable def Hold2 (P P' : Shared → Prop) (f : Flow) (s : Shared) : Prop := (f = .next ∧ P s) ∨ (f = .cont ∧ P' s)
/-- a statement by a mid condition, or on to the next turn -/
noncomputable def Hold3 (P : Shared → Prop) (Q : Value → Shared → Prop) (f : Flow) (s : Shared) : Prop := (f = .next ∧ P s) ∨ (∃ v, f = .ret v ∧ Q v s)
/-- a statement by a mid condition, or a return -/
theorem midX {M : Model} {A : Around} {E : Value → Shared → Prop} {s : Shared} {st : Stmt} {env : Env} {Q : Flow → Shared → Prop} (P : Shared → Prop) (P' : Value → Shared → Prop) (h1 : wpAny M A (exec st env) (fun f s' => Hold3 P P' f s') E s)
    (h2 : ∀ s', P s' → Q .next s') (h3 : ∀ v s', P' v s' → Q (.ret v) s') : wpAny M A (exec st env) Q E s := by
  refine wpAny_mono h1 (fun f s' z => ?_) fun _ _ z => z
  rcases z with ⟨rfl, z⟩ | ⟨v, rfl, z⟩
  · exact h2 s' z
  · exact h3 v s' z
theorem midY {M : Model} {A : Around} {E : Value → Shared → Prop} {s : Shared} {st : Stmt} {env : Env} {Q : Flow → Shared → Prop} (P P' : Shared → Prop) (h1 : wpAny M A (exec st env) (fun f s' => Hold2 P P' f s') E s)
    (h2 : ∀ s', P s' → Q .next s') (h3 : ∀ s', P' s' → Q .cont s') : wpAny M A (exec st env) Q E s := by
  refine wpAny_mono h1 (fun f s' z => ?_) fun _ _ z => z
  rcases z with ⟨rfl, z⟩ | ⟨rfl, z⟩
  · exact h2 s' z
  · exact h3 s' z
/-- a statement that goes on, by a mid condition -/
theorem midZ {M : Model} {A : Around} {E : Value → Shared → Prop} {s : Shared} {st : Stmt} {env : Env} {Q : Flow → Shared → Prop} (P : Shared → Prop) (h1 : wpAny M A (exec st env) (fun f s' => f = .next ∧ Hold P s') E s)
    (h2 : ∀ s', P s' → Q .next s') : wpAny M A (exec st env) Q E s := by
  refine wpAny_mono h1 (fun f s' z => ?_) fun _ _ z => z
  obtain ⟨rfl, z⟩ := z
  exact h2 s' z
theorem Prs.take {led : Led} {ps : List (List Nat × List Nat)} {vs : List Value} (x : Prs led ps vs) (i : Nat) : Prs led (ps.take i) (vs.take i) := by
  refine ⟨by simp [x.1], fun k p hk => ?_⟩
  rw [List.getElem?_take] at hk
  split at hk
  · rename_i hlt
    obtain ⟨T, t, u, a, b⟩ := x.2 k p hk
    exact ⟨T, t, u, by rw [List.getElem?_take, if_pos hlt]; exact a, b⟩
  · cases hk
theorem Prs.drop {led : Led} {ps : List (List Nat × List Nat)} {vs : List Value} (x : Prs led ps vs) (i : Nat) : Prs led (ps.drop i) (vs.drop i) := by
  refine ⟨by simp [x.1], fun k p hk => ?_⟩
  rw [List.getElem?_drop] at hk
  obtain ⟨T, t, u, a, b⟩ := x.2 _ p hk
  exact ⟨T, t, u, by rw [List.getElem?_drop]; exact a, b⟩
theorem Sml.take {ps : List (List Nat × List Nat)} (H : Sml ps) (i : Nat) : Sml (ps.take i) := by
  refine ⟨by have := H.n; rw [List.length_take]; omega, Nat.le_trans ?_ H.l, fun p hp => H.e p (List.mem_of_mem_take hp)⟩
  have : plen ps = plen (ps.take i) + plen (ps.drop i) := by
    unfold plen
    rw [← List.sum_append, ← List.map_append, List.take_append_drop]
  omega
theorem rngDz {prog : Program} {w : World} {A : Around} {E : Value → Shared → Prop} {h₀ h : Heap} {g : Array GenState} {d : Drawn} {tk : Nat} {os : OsState} {led : Led} {Q : Value → Shared → Prop} {p : Addr × Cell} {k : Nat} {z : Int} {t1 t2 t3 : Tok} (M : Mm h₀ h (p :: led)) (hz : z = (k : Int)) (hk : k ≤ 1000) (hq : ∀ c h' k' t1 t2 t3, Mm h₀ h' (p :: (c, .obj (rng k 0 (-1) t1 t2 t3)) :: led) → Q (.ref c) ⟨h', g, d, k', os⟩) :
    wpAny (model prog w) A (call (.type "range") [.int z t1, .int 0 t2, .int (-1) t3]) Q E ⟨h, g, d, tk, os⟩ := by
  subst hz; exact rngD M hk hq
theorem itemIz {prog : Program} {w : World} {A : Around} {E : Value → Shared → Prop} {h₀ h : Heap} {g : Array GenState} {d : Drawn} {tk : Nat} {os : OsState} {led : Led} {mg mb : Str → Option Value} {Q : Value → Shared → Prop} {x dx : Addr} {vs : List Value} {n i : Nat} {value slice : Expr} {k : Nat} {z : Int} {u : Tok} {y : Value} (G : Gd w h₀ mg mb) (M : Mm h₀ h led) (e : At led i (x, .obj (ac dx vs n))) (hzk : z = (k : Int)) (hx : vs[k]? = some y) (hz : vs.length ≤ sizeLine) (hq : Q y ⟨h, g, d, tk, os⟩)
    (hs : subscripted slice false (.ref x) (.int z u) = operate [.ref x, .int z u] (getItem (.ref x) (.int z u)) := by with_unfolding_all rfl) :
    wpAny (model prog w) A (subscriptTail value slice (.ref x) (.int z u)) Q E ⟨h, g, d, tk, os⟩ := by
  subst hzk; exact itemI G M e hx hz hq hs
theorem fndI_none {c : Nat} {ps : List Pr} (h : ∀ i, 1 ≤ i → i < ps.length → fhit c ps i = false) : fndI c ps = none := by
  unfold fndI
  rw [List.find?_eq_none]
  intro i hi
  rw [List.mem_reverse, List.mem_range'_1] at hi
  rw [h i hi.1 (by omega)]; decide
theorem fndI_some {c r : Nat} {ps : List Pr} (h1 : 1 ≤ r) (h2 : r < ps.length) (hr : fhit c ps r = true) (h : ∀ i, r < i → i < ps.length → fhit c ps i = false) : fndI c ps = some r := by
  unfold fndI
  rw [List.find?_eq_some_iff_append]
  refine ⟨hr, (List.range' (r + 1) (ps.length - 1 - r)).reverse, (List.range' 1 (r - 1)).reverse, ?_, fun i hi => ?_⟩
  · have e : List.range' 1 (ps.length - 1) = List.range' 1 (r - 1) ++ r :: List.range' (r + 1) (ps.length - 1 - r) := by
      have e1 : r :: List.range' (r + 1) (ps.length - 1 - r) = List.range' r (ps.length - 1 - r + 1) := by rw [List.range'_succ]
      have e2 := List.range'_append (s := 1) (m := r - 1) (n := ps.length - 1 - r + 1) (step := 1)
      rw [show 1 + 1 * (r - 1) = r by rw [Nat.one_mul, Nat.add_comm, Nat.sub_add_cancel h1], show r - 1 + (ps.length - 1 - r + 1) = ps.length - 1 by rw [Nat.add_comm _ 1, ← Nat.add_assoc, Nat.sub_add_cancel h1, Nat.add_comm, Nat.sub_add_cancel (Nat.le_sub_one_of_lt h2)]] at e2
      rw [e1, e2]
    rw [e]; simp
  · rw [List.mem_reverse, List.mem_range'_1] at hi
    rw [h i (by omega) (by omega)]; rfl
end
section
set_option maxRecDepth 100000
set_option maxHeartbeats 8000000
set_option hygiene false in
local macro_rules | `(tactic| walk_at "truthy str") => `(tactic| (refine truS (by walk_at "sz") ?_; walk_at "ikT"))
set_option hygiene false in
local macro_rules | `(tactic| walk_at "call builtin:str.isspace") => `(tactic| refine ispS ?_)
noncomputable abbrev cns : List Str := [Str.ofString "self", Str.ofString "fws", Str.ofString "string", Str.ofString "ch", Str.ofString "i", Str.ofString "prevpart", Str.ofString "part", Str.ofString "remainder"]
section
variable {w : World} {A : Around} {E : Value → Shared → Prop} {h₀ h : Heap} {g : Array GenState} {d : Drawn} {tk : Nat} {os : OsState} {led : Led} {mg mb : Str → Option Value} {m dm ln x dx : Addr} {a2 a3 : Value} {i j n k : Nat} {vs lvs : List Value} {sz mx : Nat} {t t1 t4 tf ts : Tok} {ps : List Pr} {lines : List (List Nat)} {order f s : List Nat}
theorem findCut_some : ∀ {order : List Nat} {kk c i : Nat} {ps : List Pr}, order[kk]? = some c → fndI c ps = some i → (∀ j, j < kk → ∀ c, order[j]? = some c → fndI c ps = none) → findCut order ps = some i
  | [], kk, c, i, ps, h, _, _ => by simp at h
  | o :: order, 0, c, i, ps, h, hf, _ => by
    simp at h; subst h
    unfold findCut; rw [List.findSome?_cons, hf]
  | o :: order, kk + 1, c, i, ps, h, hf, hn => by
    have h0 := hn 0 (by omega) o (by simp)
    unfold findCut; rw [List.findSome?_cons, h0]
    exact findCut_some (order := order) (kk := kk) (by simpa using h) hf fun j hj c' hc' => hn (j + 1) (by omega) c' (by simpa using hc')
theorem findCut_none {order : List Nat} {ps : List Pr} (hn : ∀ j, j < order.length → ∀ c, order[j]? = some c → fndI c ps = none) : findCut order ps = none := by
  unfold findCut
  rw [List.findSome?_eq_none_iff]
  intro c hc
  obtain ⟨j, hj⟩ := List.mem_iff_getElem?.mp hc
  exact hn j (List.getElem?_eq_some_iff.mp hj).1 c hj
theorem chunk_spec {Q : Value → Shared → Prop} (G : Gd w h₀ mg mb) (B : BM h₀ mg) (M : Mm h₀ h (mkl m dm ln x (.int mx t1) a2 a3 (.str (S order) t4) lvs k (acl x dx vs n sz t led))) (R : Rm A 14) (hps : Prs led ps vs) (H : Sml (ps ++ [(f, s)])) (H2 : Sml (nlps ps)) (hlv : Strs lvs lines) (hlz : lines.length ≤ 900) (hle : ∀ l ∈ lines, l.length ≤ 1000) (hb : AllBare g) (hsz : sz ≤ 1000) (ho : order.length ≤ 1000) (hoa : Asc order)
   (hq : ∀ h' g' tk' us lus j' n' t' X, Mm h₀ h' (mkl m dm ln x (.int mx t1) a2 a3 (.str (S order) t4) lus j' (acl x dx us n' (chunkF mx order (lines, ps, sz) (f, s)).2.2 t' (X ++ led))) → Strs lus (chunkF mx order (lines, ps, sz) (f, s)).1 → Prs (X ++ led) (chunkF mx order (lines, ps, sz) (f, s)).2.1 us → AllBare g' → Q .none ⟨h', g', d, tk', os⟩) :
   wpAny (MP w) A (call (.ref 141) [.ref m, .str (S f) tf, .str (S s) ts]) Q E ⟨h, g, d, tk, os⟩ := by
  walk_at "fill"
  refine' wpAny_call (callE [Str.ofString "self", Str.ofString "fws", Str.ofString "string"] [Str.ofString "ch", Str.ofString "i", Str.ofString "prevpart", Str.ofString "part", Str.ofString "remainder"] [.ref m, .str (S f) tf, .str (S s) ts] G M R.d ?ho ?hcd ?hbind ?hcell ?hloc ?nd ?hlen ?c1 ?c2 ?c3 ?_)
  walk_at "entered"
  intro L h' tk' E' M'
  dsimp only [List.map, List.cons_append, List.nil_append] at M'
  have R1 := fun env => Rm.deeper (R.le (by decide : 13 + 1 ≤ 14)) env
  have hh : A.handled = none := R.handled
  have hvl : vs.length = ps.length := hps.1
  have hHn : ps.length + 1 ≤ 1000 := by have := H.n; simpa using this
  repeat walk1
  have M2 := M'.rot (cs := [_, _, _, _, _, _]) [_, _]
  dsimp only [List.cons_append, List.nil_append] at M2
  refine push_spec G M2 ((R1 _).le (by decide)) (by omega) ?_
  intro T h3 k3 M3
  have M4 := M3.rot (cs := [_, _, _]) [_, _, _, _, _, _]
  dsimp only [List.cons_append, List.nil_append] at M4
  clear M M' M2 M3
  have hps1 : Prs ((T, Cell.obj (tup [.str (S f) tf, .str (S s) ts])) :: led) (ps ++ [(f, s)]) (vs ++ [.ref T]) := (hps.mono fun p hp => List.mem_cons_of_mem _ hp).snoc (p := (f, s)) List.mem_cons_self
  have hg : (vs ++ [Value.ref T]).length = ps.length + 1 := by simp [hvl]
  generalize hps1e : ps ++ [(f, s)] = ps1 at *
  have hp1l : ps1.length = ps.length + 1 := by rw [← hps1e]; simp
  generalize hus1 : vs ++ [Value.ref T] = us1 at *
  repeat walk1
  generalize hled1 : (T, Cell.obj (tup [.str (S f) tf, .str (S s) ts])) :: led = led1 at *
  set_option tactic.hygienic false in (revert ps1 us1 led1; refine Mine.hold ?_; intros)
  have hF : chunkF mx order (lines, ps, sz) (f, s) = (if mx < sz + plen ps1 then
    match findCut order ps1 with
    | some i => (lines ++ [ptext (ps1.take i)], ps1.drop i, 0)
    | none => if 0 < sz then (newlF lines sz ps, [(if f = [] then [32] else f, s)], 0) else (lines, ps1, sz)
  else (lines, ps1, sz)) := by rw [← hps1e]; rfl
  refine lenC G B (M4.rot (cs := [_, _, _, _]) [_, _, _, _]) ((R1 _).le (by decide)) (hps1.mono fun p hp => List.mem_cons_of_mem _ (List.mem_cons_of_mem _ (List.mem_cons_of_mem _ (List.mem_cons_of_mem _ hp)))) H hb hsz ?_
  intro h5 g5 k5 t5 M5 hb5
  have M6 := M5.rot (cs := [_, _, _, _]) [_, _, _, _]
  dsimp only [List.cons_append, List.nil_append] at M6
  clear M4 M5
  repeat' walk1
  rotate_left
  · rename_i hgt
    rw [if_neg (by omega)] at hF
    rw [hF] at hq
    have M7 := M6.tail
    rw [← hled1] at M7 hps1
    exact hq _ _ _ _ _ _ _ _ [_] M7 hlv hps1 hb5
  rename_i hgt
  rw [if_pos (by omega)] at hF
  let Pv1 : Shared → Nat → Nat → Heap → Nat → (Option Value) → (Option Value) → (Option Value) → (Option Value) → (Option Value) → (Option Value) → Tok → Prop := fun s' c i h7 k7 fv cv iv pv qv rv ti => Am3 (s' = ⟨h7, g5, d, k7, os⟩) (findCut order ps1 = some i) (Mm h₀ h7 ((L, .ns cns [some (.ref m), fv, some (.str (S s) ts), cv, some (.int i ti), pv, qv, rv]) :: mkl m dm ln x (.int mx t1) a2 a3 (.str (S order) t4) lvs k (acl x dx us1 (n + 1) sz t led1)))
  let Iv1 : Shared → Prop := fun s' => Ex11 (Pv1 s')
  let Iv2 : Value → Shared → Prop := fun v s' => v = .none ∧ Q .none s'
  refine midX Iv1 Iv2 ?f1 ?f2 ?f3
  case f3 => rintro v s' ⟨rfl, z⟩; exact z
  case f2 =>
    rintro _ ⟨c, i, h7, k7, fv, cv, iv, pv, qv, rv, ti, rfl, hcut, M7⟩
    obtain ⟨hi1, hi2⟩ := findCut_rng hcut
    rw [hcut] at hF
    dsimp only at hF
    rw [hF] at hq
    clear M6
    try dsimp only
    repeat walk1
    have M8 := M7.rot (cs := [_, _, _, _, _, _]) [_, _]
    dsimp only [List.cons_append, List.nil_append] at M8
    refine popfrom_spec G M8 ((R1 _).le (by decide)) (by omega) (by omega) ?_
    intro T2 h9 k9 n9 M9
    have M10 := M9.rot (cs := [_, _, _]) [_, _, _, _, _, _]
    dsimp only [List.cons_append, List.nil_append] at M10
    clear M7 M8 M9
    repeat walk1
    rename_i hA kA MA
    clear M10
    refine strC G B (MA.rot (cs := [_, _, _, _]) [_, _, _, _]) ((R1 _).le (by decide)) ((hps1.take i).mono fun p hp => List.mem_cons_of_mem _ (List.mem_cons_of_mem _ (List.mem_cons_of_mem _ (List.mem_cons_of_mem _ (List.mem_cons_of_mem _ hp))))) (H.take i) hb5 ?_
    intro h11 g11 k11 t11 M11 hb11
    have M12 := M11.rot (cs := [_, _, _, _]) [_, _, _, _]
    dsimp only [List.cons_append, List.nil_append] at M12
    clear MA M11
    have hll := hlv.len
    repeat walk1
    rename_i h13 M13
    clear M12
    have M14 := M13.rot (cs := [_, _, _, _, _, _]) [_, _, _]
    dsimp only [List.cons_append, List.nil_append] at M14
    refine reset_spec G M14 ((R1 _).le (by decide)) (by rw [List.length_take]; omega) (by rw [List.length_drop]; omega) ?_
    intro h15 k15 n15 t15 M15
    clear M13 M14
    have M16 := M15.rot (cs := [_, _, _]) [_, _, _, _, _, _]
    dsimp only [List.cons_append, List.nil_append] at M16
    repeat walk1
    have M17 := M16.tail
    rw [← hled1] at M17 hps1
    exact hq _ _ _ _ _ _ _ _ [_, _] M17 (hlv.snoc _ _) ((hps1.drop i).mono fun p hp => List.mem_cons_of_mem _ hp) hb11
  case f1 =>
    refine wpAny_For ?_
    repeat walk1
    refine iterS M6 hoa ?_
    intro it h6 M7
    clear M6
    let Pv3 : Nat → Shared → Nat → Heap → Nat → (Option Value) → (Option Value) → (Option Value) → (Option Value) → (Option Value) → (Option Value) → Prop := fun n0 s' kk h7 k7 fv cv iv pv qv rv => Am5 (n0 = order.length - kk) (kk ≤ order.length) (s' = ⟨h7, g5, d, k7, os⟩) ((∀ j, j < kk → ∀ c, order[j]? = some c → fndI c ps1 = none)) (Mm h₀ h7 ((L, .ns cns [some (.ref m), fv, some (.str (S s) ts), cv, iv, pv, qv, rv]) :: (it, .obj (siter order t4 kk)) :: mkl m dm ln x (.int mx t1) a2 a3 (.str (S order) t4) lvs k (acl x dx us1 (n + 1) sz t led1)))
    let Iv3 : Nat → Shared → Prop := fun n0 s' => Ex9 (Pv3 n0 s')
    refine forN Iv3 ?turn order.length ?start
    case start => exact ⟨0, h6, _, _, _, _, _, _, _, rfl, Nat.zero_le _, rfl, (by intro j hj; omega), M7⟩
    case turn =>
      clear M7
      intro n0 s' E2 hI0
      walk_at "hide"
      obtain ⟨kk, h7, k7, fv, cv, iv, pv, qv, rv, rfl, hkk, rfl, hno, M7⟩ := hI0
      by_cases hlt : kk < order.length
      · obtain ⟨c, hc⟩ : ∃ c, order[kk]? = some c := ⟨_, List.getElem?_eq_getElem hlt⟩
        refine nextS M7 (by walk_at "at") hc ?_
        intro h8 t8 k8 M8
        dsimp only [List.set] at M8 ⊢
        clear M7
        repeat walk1
        rename_i h9 k9 M9
        clear M8
        let Pv4 : Shared → Nat → Heap → Nat → (Option Value) → (Option Value) → (Option Value) → (Option Value) → Tok → Prop := fun s' i h7 k7 fv pv qv rv ti => Am3 (s' = ⟨h7, g5, d, k7, os⟩) (fndI c ps1 = some i) (Mm h₀ h7 ((L, .ns cns [some (.ref m), fv, some (.str (S s) ts), some (.str (S [c]) t8), some (.int i ti), pv, qv, rv]) :: (it, .obj (siter order t4 (kk + 1))) :: mkl m dm ln x (.int mx t1) a2 a3 (.str (S order) t4) lvs k (acl x dx us1 (n + 1) sz t led1)))
        let Iv4 : Shared → Prop := fun s' => Ex8 (Pv4 s')
        let Pv6 : Shared → Heap → Nat → (Option Value) → (Option Value) → (Option Value) → (Option Value) → (Option Value) → Prop := fun s' h7 k7 fv iv pv qv rv => Am3 (s' = ⟨h7, g5, d, k7, os⟩) (fndI c ps1 = none) (Mm h₀ h7 ((L, .ns cns [some (.ref m), fv, some (.str (S s) ts), some (.str (S [c]) t8), iv, pv, qv, rv]) :: (it, .obj (siter order t4 (kk + 1))) :: mkl m dm ln x (.int mx t1) a2 a3 (.str (S order) t4) lvs k (acl x dx us1 (n + 1) sz t led1)))
        let Iv6 : Shared → Prop := fun s' => Ex7 (Pv6 s')
        refine midY Iv4 Iv6 ?e1 ?e2 ?e3
        case e3 =>
          rintro _ ⟨h7, k7, fv, iv, pv, qv, rv, rfl, hf, M10⟩
          refine ⟨order.length - (kk + 1), dec_lt (by assumption), kk + 1, _, _, _, _, _, _, _, _, rfl, hlt, rfl, ?_, M10⟩
          intro j hj c' hc'
          by_cases hjk : j = kk
          · subst hjk
            rw [hc] at hc'
            cases hc'
            exact hf
          · exact hno j (by omega) c' hc'
        case e2 =>
          rintro _ ⟨i, h7, k7, fv, pv, qv, rv, ti, rfl, hf, M10⟩
          clear M9
          try dsimp only
          repeat walk1
          refine Or.inl ⟨rfl, c, i, h7, _, fv, _, none, pv, qv, rv, ti, rfl, ?_, M10.sub (.cons_cons _ (.cons _ (.refl _)))⟩
          exact findCut_some hc hf hno
        case e1 =>
          refine wpAny_For ?_
          repeat walk1
          refine count_spec G M9 ((R1 _).le (by decide)) .n7 ?_
          intro h10 k10 t10 M10
          clear M9
          repeat walk1
          refine rngDz (k := ps.length) M10 (by omega) (by omega) ?_
          intro rg h11 k11 t11 t12 t13 M11
          clear M10
          refine iterRn M11 (by walk_at "at") (small_down (by omega)) (size_down _) ?_
          intro jt h12 M12
          clear M11
          let Pv5 : Nat → Shared → Heap → Nat → (Option Value) → (Option Value) → (Option Value) → (Option Value) → (Option Value) → Prop := fun n0 s' h7 k7 fv iv pv qv rv => Am4 (n0 ≤ ps.length) (s' = ⟨h7, g5, d, k7, os⟩) ((∀ i, n0 < i → i < ps1.length → fhit c ps1 i = false)) (Mm h₀ h7 ((L, .ns cns [some (.ref m), fv, some (.str (S s) ts), some (.str (S [c]) t8), iv, pv, qv, rv]) :: (jt, .obj (riter n0 n0 (-1))) :: (rg, .obj (rng ps.length 0 (-1) t11 t12 t13)) :: (it, .obj (siter order t4 (kk + 1))) :: mkl m dm ln x (.int mx t1) a2 a3 (.str (S order) t4) lvs k (acl x dx us1 (n + 1) sz t led1)))
          let Iv5 : Nat → Shared → Prop := fun n0 s' => Ex7 (Pv5 n0 s')
          refine forN Iv5 ?turn2 ps.length ?start2
          case start2 => exact ⟨_, _, _, _, _, _, _, Nat.le_refl _, rfl, (by intro i hi hi2; omega), M12⟩
          case turn2 =>
            clear M12
            rintro r s' E3 ⟨h7, k7, fv, iv, pv, qv, rv, hr, rfl, hno2, M12⟩
            by_cases hr0 : 0 < r
            · obtain ⟨r, rfl⟩ : ∃ q, r = q + 1 := ⟨r - 1, by omega⟩
              refine nextRd M12 (by walk_at "at") ?_
              intro h13 t13 k13 M13
              dsimp only [List.set] at M13 ⊢
              clear M12
              obtain ⟨q1, hp1⟩ : ∃ q, ps1[r + 1]? = some q := ⟨_, List.getElem?_eq_getElem (by omega)⟩
              obtain ⟨q0, hp0⟩ : ∃ q, ps1[r]? = some q := ⟨_, List.getElem?_eq_getElem (by omega)⟩
              obtain ⟨T1, v1, v2, hv1, hT1⟩ := hps1.2 _ _ hp1
              obtain ⟨T0, v3, v4, hv3, hT0⟩ := hps1.2 _ _ hp0
              obtain ⟨i1, hi1⟩ := List.mem_iff_getElem?.mp hT1
              obtain ⟨i0, hi0⟩ := List.mem_iff_getElem?.mp hT0
              have aT1 := At.of hi1
              have aT0 := At.of hi0
              have hfh : fhit c ps1 (r + 1) = ((isp c && decide (q1.1.head? = some c)) || decide (q0.2.getLast? = some c)) := by
                unfold fhit
                rw [List.getD_eq_getElem?_getD, List.getD_eq_getElem?_getD, hp1, Nat.add_sub_cancel, hp0]; rfl
              have hl1 := (H.e _ (List.mem_of_getElem? hp1)).1
              have hl0 := (H.e _ (List.mem_of_getElem? hp0)).2
              repeat' walk1
              · rename_i h14 k14 M14 hsp
                refine itemIz (k := r + 1) G M14 (by walk_at "at") rfl hv1 (by rw [sizeLine_eq]; omega) ?_
                repeat' walk1
                refine itemT (k := 0) M14 (.s (.s (.s (.s (.s (.s (.s (.s (.s (.s (.s aT1))))))))))) rfl (by simp) ?_
                repeat' walk1
                · rename_i hne
                  obtain ⟨y, q1t, hy⟩ := List.exists_cons_of_ne_nil hne
                  refine itemS (i := 0) (c := y) (by rw [hy]; rfl) ?_ (by rw [sizeLine_eq]; omega)
                  intro t15 k15
                  repeat' walk1
                  · rename_i hyc
                    rename Mm _ _ _ => M20
                    have hyc : y = c := by simpa using hyc
                    refine Or.inl ⟨rfl, r + 1, _, _, _, _, _, _, _, rfl, fndI_some (by omega) (by omega) (by rw [hfh, hsp, hy, hyc]; simp) hno2, M20.sub (.cons_cons _ (.cons _ (.cons _ (.refl _))))⟩
                  · rename_i hyc
                    have hyc : ¬ y = c := by simpa using hyc
                    have hA : (isp c && decide (q1.1.head? = some c)) = false := by rw [hy]; simp [hyc]
                    rename Mm _ _ _ => MM
                    refine itemIz (k := r) G MM (by walk_at "at") (by omega) hv3 (by rw [sizeLine_eq]; omega) ?_
                    repeat' walk1
                    refine itemT (k := 1) MM (.s (.s (.s (.s (.s (.s (.s (.s (.s (.s (.s aT0))))))))))) rfl (by simp) ?_
                    repeat' walk1
                    · rename_i hne
                      obtain ⟨z, hz⟩ : ∃ z, q0.2.getLast? = some z := ⟨_, List.getLast?_eq_some_getLast hne⟩
                      refine lastS hz ?_ (by rw [sizeLine_eq]; omega)
                      intro t20 k20
                      repeat' walk1
                      · rename_i hzc
                        rename Mm _ _ _ => M20
                        have hzc : z = c := by simpa using hzc
                        refine Or.inl ⟨rfl, r + 1, _, _, _, _, _, _, _, rfl, fndI_some (by omega) (by omega) (by rw [hfh, hz, hzc]; simp) hno2, M20.sub (.cons_cons _ (.cons _ (.cons _ (.refl _))))⟩
                      · rename_i hzc
                        rename Mm _ _ _ => M20
                        have hzc : ¬ z = c := by simpa using hzc
                        refine ⟨r, by omega, _, _, _, _, _, _, _, by omega, rfl, fun i hi1 hi2 => ?_, M20⟩
                        by_cases hi : i = r + 1
                        · subst hi; rw [hfh, hA, hz]; simpa using hzc
                        · exact hno2 i (by omega) hi2
                    · rename_i hne
                      rename Mm _ _ _ => M20
                      have hne : q0.2 = [] := by simpa using hne
                      refine ⟨r, by omega, _, _, _, _, _, _, _, by omega, rfl, fun i hi1 hi2 => ?_, M20⟩
                      by_cases hi : i = r + 1
                      · subst hi; rw [hfh, hA, hne]; simp
                      · exact hno2 i (by omega) hi2
                · rename_i hne
                  have hne : q1.1 = [] := by simpa using hne
                  have hA : (isp c && decide (q1.1.head? = some c)) = false := by rw [hne]; simp
                  rename Mm _ _ _ => MM
                  refine itemIz (k := r) G MM (by walk_at "at") (by omega) hv3 (by rw [sizeLine_eq]; omega) ?_
                  repeat' walk1
                  refine itemT (k := 1) MM (.s (.s (.s (.s (.s (.s (.s (.s (.s (.s (.s aT0))))))))))) rfl (by simp) ?_
                  repeat' walk1
                  · rename_i hne
                    obtain ⟨z, hz⟩ : ∃ z, q0.2.getLast? = some z := ⟨_, List.getLast?_eq_some_getLast hne⟩
                    refine lastS hz ?_ (by rw [sizeLine_eq]; omega)
                    intro t20 k20
                    repeat' walk1
                    · rename_i hzc
                      rename Mm _ _ _ => M20
                      have hzc : z = c := by simpa using hzc
                      refine Or.inl ⟨rfl, r + 1, _, _, _, _, _, _, _, rfl, fndI_some (by omega) (by omega) (by rw [hfh, hz, hzc]; simp) hno2, M20.sub (.cons_cons _ (.cons _ (.cons _ (.refl _))))⟩
                    · rename_i hzc
                      rename Mm _ _ _ => M20
                      have hzc : ¬ z = c := by simpa using hzc
                      refine ⟨r, by omega, _, _, _, _, _, _, _, by omega, rfl, fun i hi1 hi2 => ?_, M20⟩
                      by_cases hi : i = r + 1
                      · subst hi; rw [hfh, hA, hz]; simpa using hzc
                      · exact hno2 i (by omega) hi2
                  · rename_i hne
                    rename Mm _ _ _ => M20
                    have hne : q0.2 = [] := by simpa using hne
                    refine ⟨r, by omega, _, _, _, _, _, _, _, by omega, rfl, fun i hi1 hi2 => ?_, M20⟩
                    by_cases hi : i = r + 1
                    · subst hi; rw [hfh, hA, hne]; simp
                    · exact hno2 i (by omega) hi2
              · rename_i hsp
                have hA : (isp c && decide (q1.1.head? = some c)) = false := by rw [hsp]; rfl
                rename Mm _ _ _ => MM
                refine itemIz (k := r) G MM (by walk_at "at") (by omega) hv3 (by rw [sizeLine_eq]; omega) ?_
                repeat' walk1
                refine itemT (k := 1) MM (.s (.s (.s (.s (.s (.s (.s (.s (.s (.s (.s aT0))))))))))) rfl (by simp) ?_
                repeat' walk1
                · rename_i hne
                  obtain ⟨z, hz⟩ : ∃ z, q0.2.getLast? = some z := ⟨_, List.getLast?_eq_some_getLast hne⟩
                  refine lastS hz ?_ (by rw [sizeLine_eq]; omega)
                  intro t20 k20
                  repeat' walk1
                  · rename_i hzc
                    rename Mm _ _ _ => M20
                    have hzc : z = c := by simpa using hzc
                    refine Or.inl ⟨rfl, r + 1, _, _, _, _, _, _, _, rfl, fndI_some (by omega) (by omega) (by rw [hfh, hz, hzc]; simp) hno2, M20.sub (.cons_cons _ (.cons _ (.cons _ (.refl _))))⟩
                  · rename_i hzc
                    rename Mm _ _ _ => M20
                    have hzc : ¬ z = c := by simpa using hzc
                    refine ⟨r, by omega, _, _, _, _, _, _, _, by omega, rfl, fun i hi1 hi2 => ?_, M20⟩
                    by_cases hi : i = r + 1
                    · subst hi; rw [hfh, hA, hz]; simpa using hzc
                    · exact hno2 i (by omega) hi2
                · rename_i hne
                  rename Mm _ _ _ => M20
                  have hne : q0.2 = [] := by simpa using hne
                  refine ⟨r, by omega, _, _, _, _, _, _, _, by omega, rfl, fun i hi1 hi2 => ?_, M20⟩
                  by_cases hi : i = r + 1
                  · subst hi; rw [hfh, hA, hne]; simp
                  · exact hno2 i (by omega) hi2
            · refine nextRE M12 (by walk_at "at") (by omega) hh ?_
              intro h13 M13
              dsimp only [List.eraseIdx] at M13 ⊢
              clear M12
              repeat walk1
              refine Or.inr ⟨rfl, h13, _, _, _, _, _, _, rfl, fndI_none fun i hi1 hi2 => hno2 i (by omega) hi2, M13.sub (.cons_cons _ (.cons _ (.refl _)))⟩
      · refine nextSE M7 (by walk_at "at") (by omega) hh ?_
        intro h8 M8
        dsimp only [List.eraseIdx] at M8 ⊢
        clear M7
        have hcut : findCut order ps1 = none := findCut_none fun j hj => hno j (by omega)
        rw [hcut] at hF
        dsimp only at hF
        rw [← hus1, ← hled1] at M8
        have hps1' := hps1
        rw [← hps1e, ← hus1, ← hled1] at hps1'
        have H0 : Sml ps := by have := H.take ps.length; rw [← hps1e, List.take_left] at this; exact this
        have hfl := H.e (f, s) (by rw [← hps1e]; simp)
        dsimp only at hfl
        repeat walk1
        have M9 := M8.rot (cs := [_, _, _, _, _, _]) [_, _]
        dsimp only [List.cons_append, List.nil_append] at M9
        refine pop_spec G M9 ((R1 _).le (by decide)) (by omega) ?_
        intro h10 k10 M10
        have M11 := M10.rot (cs := [_, _]) [_, _, _, _, _, _]
        dsimp only [List.cons_append, List.nil_append] at M11
        clear M8 M9 M10
        repeat walk1
        refine unpM M11 .n8 hh ?_
        intro h12 M12
        clear M11
        repeat' walk1
        · rename_i hs
          rename Mm _ _ _ => MM
          have M14 := MM.rot (cs := [_]) [_, _, _, _, _, _, _]
          dsimp only [List.cons_append, List.nil_append] at M14
          refine newline_spec (lines := lines) G B M14 ((R1 _).le (by decide)) (hps.mono fun p hp => List.mem_cons_of_mem _ (List.mem_cons_of_mem _ hp)) ?_ H0 H2 hlv (by omega) hle hb5 hsz
          intro h15 g15 k15 lus j15 n15 t15 M15 hlus hb15
          have M16 := M15.rot (cs := [_, _, _, _, _, _, _]) [_]
          dsimp only [List.cons_append, List.nil_append] at M16
          clear MM M14 M15 M12
          rw [if_pos (by omega)] at hF
          rw [hF] at hq
          repeat' walk1
          · rename_i hfe
            rename Mm _ _ _ => MM
            have M20 := MM.rot (cs := [_, _, _, _, _, _]) [_, _]
            dsimp only [List.cons_append, List.nil_append] at M20
            refine push_spec G M20 ((R1 _).le (by decide)) (by first | omega | simp) ?_
            intro T2 h21 k21 M21
            have M22 := M21.rot (cs := [_, _, _]) [_, _, _, _, _, _]
            dsimp only [List.cons_append, List.nil_append] at M22
            repeat walk1
            have hP : Prs [(T2, Cell.obj (tup [.str (S f) tf, .str (S s) ts]))] [(f, s)] [Value.ref T2] := Prs.snoc (ps := []) (vs := []) (p := (f, s)) ⟨rfl, by simp⟩ List.mem_cons_self
            have hE : (if f = [] then [32] else f) = f := by
              rw [if_neg (by first | assumption | simpa using hfe)]
            rw [hE] at hq
            exact Or.inr ⟨_, rfl, rfl, hq _ _ _ _ _ _ _ _ [_, _] M22.tail hlus (hP.mono fun p hp => by simp at hp; simp [hp]) hb15⟩
          · rename_i hfe _ _ _ _ _
            rename Mm _ _ _ => MM
            have M20 := MM.rot (cs := [_, _, _, _, _, _]) [_, _]
            dsimp only [List.cons_append, List.nil_append] at M20
            refine push_spec G M20 ((R1 _).le (by decide)) (by first | omega | simp) ?_
            intro T2 h21 k21 M21
            have M22 := M21.rot (cs := [_, _, _]) [_, _, _, _, _, _]
            dsimp only [List.cons_append, List.nil_append] at M22
            repeat walk1
            have hE : (if f = [] then [32] else f) = [32] := by
              rw [if_pos (by first | assumption | simp_all)]
            rw [hE] at hq
            exact Or.inr ⟨_, rfl, rfl, hq _ _ _ _ _ _ _ _ [_, _] M22.tail hlus (Prs.snoc (ps := []) (vs := []) (p := ([32], s)) ⟨rfl, by simp⟩ List.mem_cons_self) hb15⟩
        · rename_i hs
          rename Mm _ _ _ => MM
          rw [if_neg (by omega)] at hF
          rw [hF] at hq
          have M20 := MM.rot (cs := [_, _, _, _, _, _]) [_, _]
          dsimp only [List.cons_append, List.nil_append] at M20
          refine push_spec G M20 ((R1 _).le (by decide)) (by first | omega | simp) ?_
          intro T2 h21 k21 M21
          have M22 := M21.rot (cs := [_, _, _]) [_, _, _, _, _, _]
          dsimp only [List.cons_append, List.nil_append] at M22
          repeat walk1
          rw [← hps1e] at hq
          exact Or.inr ⟨_, rfl, rfl, hq _ _ _ _ _ _ _ _ [_, _] M22.tail hlv ((hps.mono fun p hp => by simp [hp]).snoc (p := (f, s)) List.mem_cons_self) hb5⟩
end
end
section
set_option maxRecDepth 100000
open PySem.Sre in
noncomputable def cdA : Array Nat := #[14, 4, 0, 1, 4294967295, 17, 0, 24, 11, 1, 4294967295, 13, 6, 16, 32, 16, 9, 0, 1, 17, 1, 1]
noncomputable def isW (c : Nat) : Bool := c == 32 || c == 9
noncomputable def stepN : Nat → Sre.M → Sre.M
  | 0, m => m
  | n + 1, m => stepN n m.step
theorem step_done {m : Sre.M} (h : m.outcome.isSome = true) : m.step = m := by unfold Sre.M.step; rw [if_pos h]
theorem stepN_done : ∀ (n : Nat) {m : Sre.M}, m.outcome.isSome = true → stepN n m = m
  | 0, m, _ => rfl
  | n + 1, m, h => by rw [stepN, step_done h]; exact stepN_done n h
theorem stepN_add : ∀ (a b : Nat) (m : Sre.M), stepN (a + b) m = stepN b (stepN a m)
  | 0, b, m => by rw [Nat.zero_add]; rfl
  | a + 1, b, m => by rw [show a + 1 + b = (a + b) + 1 by omega, stepN, stepN_add a b]; rfl
theorem runFor_eq : ∀ (n : Nat) (m : Sre.M), m.runFor n = stepN n m
  | 0, m => rfl
  | n + 1, m => by
    rw [Sre.M.runFor]
    split
    · rename_i h; rw [stepN_done _ h]
    · rw [runFor_eq n]; rfl
theorem in_ok (c : Nat) (seen : Sre.Seen) : ∃ seen', Sre.accepts cdA 11 c seen = .ok (isW c, seen') := by
  have e : Sre.accepts cdA 11 c seen = Sre.inSet cdA c 22 13 true seen := rfl
  rw [e]
  by_cases h1 : c = 32
  · subst h1; exact ⟨_, rfl⟩
  · by_cases h2 : c = 9
    · subst h2; exact ⟨_, rfl⟩
    · have e1 : (c == 32) = false := by simpa using h1
      have e2 : (c == 9) = false := by simpa using h2
      have e3 : Sre.inSet cdA c 22 13 true seen = (if (c == 32) = true then .ok (true, seen.add 16) else Sre.inSet cdA c 21 15 true (seen.add 16)) := rfl
      have e4 : ∀ sn, Sre.inSet cdA c 21 15 true sn = (if (c == 9) = true then .ok (true, sn.add 16) else Sre.inSet cdA c 20 17 true (sn.add 16)) := fun _ => rfl
      rw [e3, e1, e4, e2]
      refine ⟨((seen.add 16).add 16).add 0, ?_⟩
      unfold isW
      rw [e1, e2]; rfl
theorem run_ok (text : Array Nat) : ∀ (n p found : Nat) (seen : Sre.Seen), ∃ seen', Sre.run cdA text 11 n p found seen = .ok (found + (((text.toList.drop p ++ List.replicate n 0).take n).takeWhile isW).length, seen')
  | 0, p, found, seen => ⟨seen, by simp [Sre.run]⟩
  | n + 1, p, found, seen => by
    obtain ⟨s1, h1⟩ := in_ok (text.getD p 0) seen
    have hd : ∃ r, text.toList.drop p ++ List.replicate (n + 1) 0 = text.getD p 0 :: r ∧ r.take n = (text.toList.drop (p + 1) ++ List.replicate n 0).take n := by
      by_cases hp : p < text.size
      · refine ⟨_, by rw [List.drop_eq_getElem_cons (by simpa using hp)]; simp [hp]; rfl, ?_⟩
        simp [List.take_append, List.take_replicate]
        omega
      · refine ⟨List.replicate n 0, by rw [List.drop_eq_nil_of_le (by simp; omega)]; simp [List.replicate_succ, hp], ?_⟩
        rw [List.drop_eq_nil_of_le (by simp; omega)]; simp
    obtain ⟨r, hr1, hr2⟩ := hd
    rw [Sre.run, h1, hr1, List.take_succ_cons, List.takeWhile_cons, hr2]
    cases hw : isW (text.getD p 0) with
    | false => exact ⟨s1, by simp; rfl⟩
    | true =>
      obtain ⟨s2, h2⟩ := run_ok text n (p + 1) (found + 1) s1
      refine ⟨s2, ?_⟩
      show Sre.run cdA text 11 n (p + 1) (found + 1) s1 = _
      rw [h2]; simp; omega
noncomputable abbrev fr0 (s : Nat) (o : Bool) : Sre.Frame := { wait := .nextStart, pc := 5, pos := s, outermost := o }
/-- the machine as it stands ahead of a start -/
noncomputable abbrev mA (text : Array Nat) (lim s : Nat) (o : Bool) (marks : Array (Option Nat)) (seen : Sre.Seen) : Sre.M :=
  { code := cdA, text, lim, start := s, lastStart := lim, pc := 5, pos := s, handed := s, outermost := o, marks, frames := [fr0 s o], weight := 1, seen }
noncomputable abbrev mB (text : Array Nat) (lim s : Nat) (o : Bool) (marks : Array (Option Nat)) (seen : Sre.Seen) : Sre.M :=
  { code := cdA, text, lim, start := s, lastStart := lim, pc := 7, pos := s, handed := s, outermost := o, marks := marks.setIfInBounds 0 (some s), lastmark := 0, frames := [fr0 s o], weight := 1, seen }
theorem step_A (text lim s o marks seen) : (mA text lim s o marks seen).step = mB text lim s o marks (seen.add 17) := rfl
theorem step_B_end {text : Array Nat} {lim s : Nat} {o marks seen} (h : lim ≤ s) : (mB text lim s o marks seen).step = { mB text lim s o marks (seen.add 24) with answer := some false } := by
  have e : (mB text lim s o marks seen).step = (if ((1 : Nat) : Int) > (lim : Int) - s then { mB text lim s o marks (seen.add 24) with answer := some false } else _) := rfl
  rw [e, if_pos (by omega)]
theorem step_F {text : Array Nat} {lim s : Nat} {o marks seen} (h : s < lim) : ∃ marks', marks'.size = marks.size ∧ Sre.M.step { mB text lim s o marks seen with answer := some false } = mA text lim (s + 1) false marks' seen := by
  have e : Sre.M.step { mB text lim s o marks seen with answer := some false } = (if s < lim then mA text lim (s + 1) false (marks.setIfInBounds 0 (some s)) seen else _) := rfl
  rw [e, if_pos h]
  exact ⟨_, by simp, rfl⟩
theorem step_F_end {text : Array Nat} {lim s : Nat} {o marks seen} (h : lim ≤ s) : (stepN 2 { mB text lim s o marks seen with answer := some false }).outcome = some .failed := by
  have e : Sre.M.step { mB text lim s o marks seen with answer := some false } = (if s < lim then _ else { mB text lim s o marks seen with answer := some false, frames := [], weight := 0, pc := 5 }) := rfl
  rw [stepN, e, if_neg (by omega)]; rfl
noncomputable abbrev gb (s k : Nat) (o : Bool) : Sre.Frame := { wait := .giveBack, pc := 7, pos := s + k, outermost := o, count := (k : Int), kept := { lastmark := 0 } }
noncomputable abbrev mC (text : Array Nat) (lim s k : Nat) (o : Bool) (marks : Array (Option Nat)) (seen : Sre.Seen) : Sre.M :=
  { code := cdA, text, lim, start := s, lastStart := lim, pc := 19, pos := s + k, handed := s + k, outermost := o, marks := marks.setIfInBounds 0 (some s), lastmark := 0, frames := [gb s k o, fr0 s o], weight := 2, seen }
theorem step_B {text : Array Nat} {lim s : Nat} {o marks seen} (h : s < lim) (hz : lim = text.size) (hl : lim ≤ 4294967295) :
    ∃ seen', (mB text lim s o marks seen).step = if ((text.toList.drop s).takeWhile isW).length = 0 then { mB text lim s o marks seen' with answer := some false } else mC text lim s ((text.toList.drop s).takeWhile isW).length o marks seen' := by
  obtain ⟨s1, h1⟩ := run_ok text (min 4294967295 ((lim : Int) - s).toNat) s 0 ((seen.add 24).add 13)
  have hn : min 4294967295 ((lim : Int) - s).toNat = (text.toList.drop s).length := by simp; omega
  rw [hn, List.take_left, Nat.zero_add] at h1
  refine ⟨s1, ?_⟩
  have e : (mB text lim s o marks seen).step = (if ((1 : Nat) : Int) > (lim : Int) - s then { mB text lim s o marks (seen.add 24) with answer := some false } else
      match Sre.run cdA text 11 (min 4294967295 ((lim : Int) - s).toNat) s 0 ((seen.add 24).add 13) with
      | .error why => { mB text lim s o marks (seen.add 24) with outcome := some (.stuck why) }
      | .ok (n, sn) => if n < 1 then { mB text lim s o marks sn with answer := some false } else mC text lim s n o marks sn) := by kernel_rfl
  rw [e, if_neg (by omega), hn, h1]
  dsimp only
  by_cases q : ((text.toList.drop s).takeWhile isW).length = 0
  · rw [if_pos q, if_pos (by omega)]
  · rw [if_neg q, if_neg (by omega)]
noncomputable abbrev mD (text : Array Nat) (lim s k : Nat) (o : Bool) (marks : Array (Option Nat)) (seen : Sre.Seen) (fs : List Sre.Frame) (wt pc pos : Nat) (a : Option Bool) (oc : Option Sre.Outcome) : Sre.M :=
  { code := cdA, text, lim, start := s, lastStart := lim, pc, pos, handed := s + k, outermost := o, marks, lastmark := 1, lastindex := 1, frames := fs, weight := wt, answer := a, seen, outcome := oc }
theorem step_C1 (text lim s k o marks seen) : (mC text lim s k o marks seen).step = mD text lim s k o ((marks.setIfInBounds 0 (some s)).setIfInBounds 1 (some (s + k))) (seen.add 17) [gb s k o, fr0 s o] 2 21 (s + k) none none := by kernel_rfl
theorem step_D1 (text lim s k o marks seen) : (mD text lim s k o marks seen [gb s k o, fr0 s o] 2 21 (s + k) none none).step = mD text lim s k o marks (seen.add 1) [gb s k o, fr0 s o] 2 21 (s + k) (some true) none := by cases o <;> rfl
theorem step_D2 (text lim s k o marks seen) : (mD text lim s k o marks seen [gb s k o, fr0 s o] 2 21 (s + k) (some true) none).step = mD text lim s k o marks seen [fr0 s o] 1 7 (s + k) (some true) none := rfl
theorem step_D3 (text lim s k o marks seen) : (mD text lim s k o marks seen [fr0 s o] 1 7 (s + k) (some true) none).step = mD text lim s k o marks seen [] 0 5 s (some true) none := rfl
theorem step_D4 (text lim s k o marks seen) : (mD text lim s k o marks seen [] 0 5 s (some true) none).step = mD text lim s k o marks seen [] 0 5 s (some true) (some .matched) := rfl
theorem step_C (text lim s k o marks seen) : ∃ m, stepN 5 (mC text lim s k o marks seen) = m ∧ m.outcome = some .matched ∧ m.start = s ∧ m.handed = s + k ∧ m.lastmark = 1 ∧ m.marks = (marks.setIfInBounds 0 (some s)).setIfInBounds 1 (some (s + k)) := by
  refine ⟨_, rfl, ?_⟩
  simp only [stepN]
  rw [step_C1, step_D1, step_D2, step_D3, step_D4]
  exact ⟨rfl, rfl, rfl, rfl, rfl⟩
/-- where the pattern is found from place s on: how far off, and how long -/
noncomputable def fnd (l : List Nat) : Option (Nat × Nat) := if (l.dropWhile fun c => !isW c) = [] then none else some ((l.takeWhile fun c => !isW c).length, ((l.dropWhile fun c => !isW c).takeWhile isW).length)
theorem fnd_cons (c : Nat) (l : List Nat) : fnd (c :: l) = if isW c then some (0, (l.takeWhile isW).length + 1) else (fnd l).map fun p => (p.1 + 1, p.2) := by
  unfold fnd
  cases h : isW c with
  | true => simp [h]
  | false =>
    simp only [List.dropWhile_cons, List.takeWhile_cons, h, Bool.not_false, if_true, Bool.false_eq_true, if_false, List.length_cons]
    split <;> simp
theorem set2 {α : Type} {m : Array α} (h : m.size = 2) (a b : α) : (m.setIfInBounds 0 a).setIfInBounds 1 b = #[a, b] := by
  obtain ⟨l⟩ := m
  match l, h with
  | [x, y], _ => rfl
/-- the run from a start -/
theorem run_A (text : Array Nat) (hl : text.size ≤ 4294967295) : ∀ (r s : Nat) (o : Bool) (marks : Array (Option Nat)) (seen : Sre.Seen), s + r = text.size → marks.size = 2 →
    ∃ N m, N ≤ 3 * r + 7 ∧ stepN N (mA text text.size s o marks seen) = m ∧ match fnd (text.toList.drop s) with
      | none => m.outcome = some .failed
      | some (a, b) => m.outcome = some .matched ∧ m.start = s + a ∧ m.handed = s + a + b ∧ m.lastmark = 1 ∧ m.marks = #[some (s + a), some (s + a + b)]
  | 0, s, o, marks, seen, hs, hm => by
    refine ⟨4, _, by omega, rfl, ?_⟩
    rw [List.drop_eq_nil_of_le (by simp; omega)]
    show (stepN 4 _).outcome = _
    rw [stepN, step_A, stepN, step_B_end (by omega), step_F_end (by omega)]
  | r + 1, s, o, marks, seen, hs, hm => by
    obtain ⟨sn, h1⟩ := step_B (text := text) (lim := text.size) (s := s) (o := o) (marks := marks) (seen := seen.add 17) (by omega) rfl hl
    have hlt : s < text.size := by omega
    have hd : text.toList.drop s = text[s] :: text.toList.drop (s + 1) := by rw [List.drop_eq_getElem_cons (by simpa using hlt)]; simp
    rw [hd, fnd_cons]
    rw [hd, List.takeWhile_cons] at h1
    cases hw : isW text[s] with
    | true =>
      rw [hw] at h1
      simp only [if_true, List.length_cons] at h1
      rw [if_neg (by omega)] at h1
      obtain ⟨m, e1, e2, e3, e4, e5, e6⟩ := step_C text text.size s ((List.takeWhile isW (List.drop (s + 1) text.toList)).length + 1) o marks sn
      refine ⟨7, m, by omega, ?_, ?_⟩
      · rw [show 7 = 5 + 1 + 1 from rfl, stepN, step_A, stepN, h1, e1]
      · simp only [if_true]
        refine ⟨e2, e3, e4, e5, ?_⟩
        rw [e6]
        exact set2 hm _ _
    | false =>
      rw [hw] at h1
      simp only [Bool.false_eq_true, if_false, List.length_nil, if_true] at h1
      obtain ⟨mk, hmk, h2⟩ := step_F (text := text) (lim := text.size) (s := s) (o := o) (marks := marks) (seen := sn) hlt
      obtain ⟨N, m, hN, hm1, hm2⟩ := run_A text hl r (s + 1) false mk sn (by omega) (by rw [hmk, hm])
      refine ⟨N + 1 + 1 + 1, m, by omega, ?_, ?_⟩
      · rw [stepN, step_A, stepN, h1, stepN, h2, hm1]
      · simp only [Bool.false_eq_true, if_false]
        cases hf : fnd (text.toList.drop (s + 1)) with
        | none => rw [hf] at hm2; exact hm2
        | some p =>
          obtain ⟨a, b⟩ := p
          rw [hf] at hm2
          dsimp only [Option.map_some] at hm2 ⊢
          obtain ⟨e2, e3, e4, e5, e6⟩ := hm2
          have q1 : s + 1 + a = s + (a + 1) := by omega
          rw [q1] at e3 e4 e6
          exact ⟨e2, e3, e4, e5, e6⟩
theorem start_eq (text : Array Nat) (p : Nat) (hp : p ≤ text.size) (h : 1 ≤ text.size - p) : Sre.forSearch cdA text 1 p text.size false = mA text text.size p true #[none, none] (({} : Sre.Seen).add 14) := by
  have e : Sre.forSearch cdA text 1 p text.size false = (if decide (p > text.size) || decide (text.size - p < 1) then _ else mA text text.size p true #[none, none] (({} : Sre.Seen).add 14)) := rfl
  rw [e, if_neg (by simp; omega)]
end
section
set_option maxRecDepth 100000
set_option maxHeartbeats 1000000
section
variable {M : Model} {A : Around} {E : Value → Shared → Prop} {s : Shared}
theorem wp_drive {Q : Sre.M → Shared → Prop} : ∀ (K : Nat) (m : Sre.M) (T : Nat), (stepN K m).outcome.isSome = true → K + 1 ≤ T → Q (stepN K m) s → wpAny M A (Builtin.Re.reDrive T m) Q E s := by
  intro K
  induction K using Nat.strongRecOn with
  | ind K ih =>
    intro m T h hT hq
    obtain ⟨T, rfl⟩ : ∃ t, T = t + 1 := ⟨T - 1, by omega⟩
    rw [Builtin.Re.reDrive]
    simp only [show Builtin.Re.reTurnSteps = 4 from rfl, runFor_eq]
    by_cases h4 : (stepN 4 m).outcome.isSome = true
    · rw [if_pos h4]
      have e : stepN K m = stepN 4 m := by
        by_cases hk : 4 ≤ K
        · rw [show K = 4 + (K - 4) by omega, stepN_add, stepN_done _ h4]
        · rw [show 4 = K + (4 - K) by omega, stepN_add, stepN_done _ h]
      rw [e] at hq
      exact wpAny_pure hq
    · rw [if_neg h4]
      have hk : 4 ≤ K := by
        rcases Nat.lt_or_ge K 4 with q | q
        · exfalso; apply h4; rw [show 4 = K + (4 - K) by omega, stepN_add, stepN_done _ h]; exact h
        · exact q
      have e : stepN K m = stepN (K - 4) (stepN 4 m) := by rw [← stepN_add]; congr 1; omega
      rw [e] at h hq
      exact wpAny_bind (wpAny_rule (ih (K - 4) (by omega) _ T h (by omega) hq))
theorem wp_seen {seen : Sre.Seen} {Q : PUnit → Shared → Prop} (f : Nat → String) : ∀ (l : List Nat), Q () s → wpAny M A (forIn l PUnit.unit (fun i _ => if seen.has i = true then (do rule (f i); pure (ForInStep.yield PUnit.unit)) else (pure (ForInStep.yield PUnit.unit) : Sem (ForInStep PUnit)))) Q E s
  | [], hq => wpAny_pure hq
  | i :: l, hq => by
    rw [List.forIn_cons]
    refine wpAny_bind ?_
    by_cases h : seen.has i = true
    · rw [if_pos h]
      exact wpAny_bind (wpAny_rule (wpAny_pure (wp_seen f l hq)))
    · rw [if_neg h]
      exact wpAny_pure (wp_seen f l hq)
theorem wp_toEnd {Q : Option Sre.M → Shared → Prop} {m m' : Sre.M} {N : Nat} (hN : N ≤ 1000000) (hm : stepN N m = m') (h : (m'.outcome = some .matched ∧ Q (some m') s) ∨ (m'.outcome = some .failed ∧ Q none s)) : wpAny M A (Builtin.Re.reRunToEnd m) Q E s := by
  unfold Builtin.Re.reRunToEnd
  refine wpAny_bind (wp_drive N m _ ?_ ?_ ?_)
  · rw [hm]; rcases h with h | h <;> rw [h.1] <;> rfl
  · have : (2 : Nat) ^ 20 ≤ 2 ^ 64 := Nat.pow_le_pow_right (by decide) (by decide)
    omega
  · rw [hm]
    refine wpAny_bind ?_
    refine wp_seen _ _ ?_
    rcases h with h | h
    · rw [h.1]; exact wpAny_pure h.2
    · rw [h.1]; exact wpAny_pure h.2
end
section
variable {prog : Program} {w : World} {A : Around} {E : Value → Shared → Prop} {h₀ h : Heap} {g : Array GenState} {d : Drawn} {tk : Nat} {os : OsState} {led : Led} {mg mb : Str → Option Value} {Q : Value → Shared → Prop} {l : List Nat} {t : Tok}
theorem k_pat (G : Gd w h₀ mg mb) : ∃ v1 v2, (Mine.hd.heap_1 w.params).lookup 71 = some ⟨.type "re.Pattern", none, .fields #[v1, v2, .int 1 0, .none, .none, .ref 70, .int 0 0], #[]⟩ := by
  walk_at "fill"; exact ⟨_, _, by k_is⟩
theorem k_code (G : Gd w h₀ mg mb) : ∃ arr, (Mine.hd.heap_1 w.params).lookup 70 = some ⟨.type "tuple", none, .seq arr 0, #[]⟩ ∧ (arr.map Builtin.Re.reRawOf).map (fun x => x.toNat) = cdA := by
  walk_at "fill"; exact ⟨_, by k_is, by decide +kernel⟩
noncomputable abbrev tgt (l : List Nat) (t : Tok) : Builtin.Re.ReTarget := { pattern := .ref 71, string := .str (S l) t, code := cdA, text := l.toArray, kind := 0, groups := 1, pos := 0, lim := l.toArray.size }
theorem wp_target {Q : Builtin.Re.ReTarget → Shared → Prop} (G : Gd w h₀ mg mb) (M : Mm h₀ h led) (hq : Q (tgt l t) ⟨h, g, d, tk, os⟩) : wpAny (model prog w) A (Builtin.Re.reWholeTarget (.ref 71) (.str (S l) t)) Q E ⟨h, g, d, tk, os⟩ := by
  have X := M.K G
  obtain ⟨v1, v2, hp⟩ := k_pat G
  obtain ⟨arr, hc, ha⟩ := k_code G
  have hpo := X _ _ hp
  have hco := X _ _ hc
  unfold Builtin.Re.reWholeTarget
  refine wpAny_bind (wpAny_fieldsOf hpo rfl ?_)
  refine wpAny_bind ?_
  unfold Builtin.Re.reTextOf
  refine wpAny_bind (wpAny_pure (wpAny_pure ?_))
  dsimp only
  refine wpAny_bind (m := Builtin.Re.reNoCollectionInside _ _) (wpAny_pure ?_)
  refine wpAny_bind ?_
  unfold Builtin.Re.reRawItems
  refine wpAny_bind (wpAny_seqItems hco rfl (wpAny_pure ?_))
  refine wpAny_pure ?_
  show Q { pattern := _, string := _, code := (arr.map Builtin.Re.reRawOf).map (fun x => x.toNat), text := (S l).cps, kind := 0, groups := _, pos := 0, lim := _ } _
  rw [ha]
  exact hq
theorem named_eq (v : Value) : Builtin.Re.reNamed "re.Pattern.split" "split" ["string", "maxsplit"] 1 [v] [] = pure [some v, none] := by rfl
noncomputable def spP : Nat → List Nat → List (List Nat)
  | 0, l => [l]
  | n + 1, l => match fnd l with
    | none => [l]
    | some p => l.take p.1 :: (l.drop p.1).take p.2 :: spP n (l.drop (p.1 + p.2))
theorem spP_none {l : List Nat} (h : fnd l = none) : ∀ n, spP n l = [l]
  | 0 => rfl
  | n + 1 => by rw [spP, h]
theorem fnd_le {l : List Nat} {p : Nat × Nat} (h : fnd l = some p) : p.1 + p.2 ≤ l.length ∧ 1 ≤ p.2 := by
  unfold fnd at h
  split at h
  · cases h
  · rename_i hne
    cases h
    have e := congrArg List.length (List.takeWhile_append_dropWhile (p := fun c => !isW c) (l := l))
    rw [List.length_append] at e
    have e2 := congrArg List.length (List.takeWhile_append_dropWhile (p := isW) (l := l.dropWhile fun c => !isW c))
    rw [List.length_append] at e2
    refine ⟨by dsimp only; omega, ?_⟩
    dsimp only
    cases hd : l.dropWhile (fun c => !isW c) with
    | nil => exact absurd hd hne
    | cons c r =>
      have := List.head_dropWhile_not (fun c => !isW c) (l := l) (by rw [hd]; simp)
      have hc : isW c = true := by
        have z : (l.dropWhile fun c => !isW c).head (by rw [hd]; simp) = c := by simp [hd]
        rw [z] at this; simpa using this
      rw [List.takeWhile_cons, hc]; simp
theorem wp_forIn {M : Model} {A : Around} {E : Value → Shared → Prop} {β : Type} {f : Nat → β → Sem (ForInStep β)} (I : Nat → β → Shared → Prop) {Q : β → Shared → Prop}
    (step : ∀ r x b s, I (r + 1) b s → wpAny M A (f x b) (fun st s' => ∃ b', st = .yield b' ∧ I r b' s') E s) (fin : ∀ b s, I 0 b s → Q b s) :
    ∀ (xs : List Nat) (b : β) (s : Shared), I xs.length b s → wpAny M A (forIn xs b f) Q E s
  | [], b, s, h => wpAny_pure (fin b s h)
  | x :: xs, b, s, h => by
    rw [List.forIn_cons]
    refine wpAny_bind (wpAny_mono (step _ x b s h) (fun st s' z => ?_) fun _ _ z => z)
    obtain ⟨b', rfl, z⟩ := z
    exact wp_forIn I step fin xs b' s' z
theorem wp_slice {l : List Nat} {Q : Value → Shared → Prop} {b e : Nat} (he : e ≤ l.length) (hz : l.length ≤ 1000) (hq : ∀ t' k', Q (.str (S ((l.drop b).take (e - b))) t') ⟨h, g, d, k', os⟩) : wpAny (model prog w) A (Builtin.Re.reSlice l.toArray 0 b e) Q E ⟨h, g, d, tk, os⟩ := by
  show wpAny _ _ (mkStr ⟨l.toArray.extract b e⟩) _ _ _
  have : (⟨l.toArray.extract b e⟩ : Str) = S ((l.drop b).take (e - b)) := by
    apply S_of; simp [List.extract_eq_take_drop]
  rw [this]
  have hb : ((l.drop b).take (e - b)).length ≤ l.length := by rw [List.length_take, List.length_drop]; exact Nat.le_trans (Nat.min_le_right _ _) (Nat.sub_le _ _)
  exact wpAny_mkStr (hq _ _) (by rw [S_len, sizeLine_eq]; exact Nat.le_trans hb (Nat.le_trans hz (by decide)))
theorem wp_found {Q : Option Sre.M → Shared → Prop} {p : Nat} (hp : p ≤ l.length) (hz : l.length ≤ 1000)
    (hq : match fnd (l.drop p) with
      | none => Q none ⟨h, g, d, tk, os⟩
      | some (a, b) => ∀ m : Sre.M, m.start = p + a → m.handed = p + a + b → m.lastmark = 1 → m.marks = #[some (p + a), some (p + a + b)] → Q (some m) ⟨h, g, d, tk, os⟩) :
    wpAny (model prog w) A (Builtin.Re.reNextFound (tgt l t) p false) Q E ⟨h, g, d, tk, os⟩ := by
  show wpAny _ _ (Builtin.Re.reRunToEnd (Sre.forSearch cdA l.toArray 1 p l.toArray.size false)) _ _ _
  by_cases hlt : p < l.length
  · rw [start_eq l.toArray p (by simpa using hp) (by simp; omega)]
    obtain ⟨N, m, hN, hm, hm2⟩ := run_A l.toArray (by simp; omega) (l.length - p) p true #[none, none] (({} : Sre.Seen).add 14) (by simp; omega) rfl
    refine wp_toEnd (by omega) hm ?_
    have e : l.toArray.toList.drop p = l.drop p := rfl
    rw [e] at hm2
    cases hf : fnd (l.drop p) with
    | none => rw [hf] at hm2 hq; exact .inr ⟨hm2, hq⟩
    | some q =>
      obtain ⟨a, b⟩ := q
      rw [hf] at hm2 hq
      exact .inl ⟨hm2.1, hq m hm2.2.1 hm2.2.2.1 hm2.2.2.2.1 hm2.2.2.2.2⟩
  · have e : l.drop p = [] := List.drop_eq_nil_of_le (by omega)
    rw [e] at hq
    have e2 : fnd [] = none := rfl
    rw [e2] at hq
    refine wp_toEnd (N := 1) (by omega) rfl (.inr ⟨?_, hq⟩)
    have e3 : Sre.forSearch cdA l.toArray 1 p l.toArray.size false = (if decide (p > l.toArray.size) || decide (l.toArray.size - p < 1) then
      { code := cdA, text := l.toArray, lim := l.toArray.size, start := p, pc := 5, pos := p, handed := p, marks := #[none, none], seen := ({} : Sre.Seen).add 14, answer := some false } else mA l.toArray l.toArray.size p true #[none, none] (({} : Sre.Seen).add 14)) := rfl
    rw [e3, if_pos (by simp; omega)]; rfl
theorem wp_group {Q : Value → Shared → Prop} {m : Sre.M} {b e : Nat} (h1 : m.lastmark = 1) (h2 : m.marks = #[some b, some e]) (hb : b ≤ e) (he : e ≤ l.length) (hz : l.length ≤ 1000) (hq : ∀ t' k', Q (.str (S ((l.drop b).take (e - b))) t') ⟨h, g, d, k', os⟩) :
    wpAny (model prog w) A (Builtin.Re.reMachineGroup (tgt l t) m (0 + 1) (pure .none)) Q E ⟨h, g, d, tk, os⟩ := by
  unfold Builtin.Re.reMachineGroup
  rw [h1, h2]
  rw [if_neg (by decide)]
  show wpAny _ _ (if e < b then _ else _) _ _ _
  rw [if_neg (by omega)]
  exact wp_slice he hz hq
theorem split_meets {R : Fin → Shared → Prop} (G : Gd w h₀ mg mb) (M : Mm h₀ h led) (hl : l.length ≤ 1000)
    (hq : ∀ a h' tk' vs, Strs vs (spP (2 * l.length + 3) l) → vs.length ≤ 5000 → Mm h₀ h' ((a, .obj (lo vs 0)) :: led) → R (.done (.ret (.ref a))) ⟨h', g, d, tk', os⟩) : wpAny (model prog w) A (Builtin.«re.Pattern.split» ⟨[.ref 71, .str (S l) t], []⟩) R E ⟨h, g, d, tk, os⟩ := by
  unfold Builtin.«re.Pattern.split»
  dsimp only
  refine wpAny_bind (wpAny_of_eq (named_eq _) ?_)
  refine wpAny_bind (wpAny_pure ?_)
  refine wpAny_bind (wp_target G M ?_)
  refine wpAny_bind ?_
  refine wp_forIn (fun r (st : Array Value × Nat × Nat × Bool × Int × Bool) s => ∃ p parts tk', s = ⟨h, g, d, tk', os⟩ ∧ st.2.1 = p ∧ st.2.2.1 = p ∧ st.2.2.2.1 = false ∧ p ≤ l.length ∧ Strs st.1.toList parts ∧ parts ++ spP r (l.drop p) = spP (2 * l.length + 3) l ∧ parts.length + 2 * r ≤ 4 * l.length + 6 ∧
    (if st.2.2.2.2.2 = true then fnd (l.drop p) = none else l.length - p + 1 ≤ r)) ?step ?fin _ _ _ ?start
  case start =>
    refine ⟨0, [], tk, rfl, rfl, rfl, rfl, Nat.zero_le _, .nil, ?_, ?_, ?_⟩
    · simp [Builtin.Re.reMostMatches]
    · simp [Builtin.Re.reMostMatches]; omega
    · simp [Builtin.Re.reMostMatches]; omega
  case fin =>
    rintro ⟨out, st, la, must, n, over⟩ s ⟨p, parts, tk', rfl, e1, e2, e3, hp, hs, hsp, hsz, ho⟩
    dsimp only at e1 e2 e3 ho hs ⊢
    subst e1 e2
    cases over with
    | false => simp at ho
    | true =>
      simp only [if_true] at ho
      rw [if_neg (by decide)]
      refine wpAny_bind (wp_slice (l := l) (by simp) hl ?_)
      intro t' k'
      have hsl := hs.len
      have e5 : (out.push (.str (S ((l.drop la).take (l.toArray.size - la))) t')).toList = out.toList ++ [.str (S (l.drop la)) t'] := by
        rw [Array.toList_push, List.take_of_length_le (by simp)]
      rw [e5]
      have hs2 := hs.snoc (l.drop la) t'
      rw [spP_none ho] at hsp
      rw [hsp] at hs2
      refine wpAny_bind (wpAny_newObj_type ?_ (by show (out.toList ++ _).toArray.size ≤ sizeLine; rw [List.size_toArray, sizeLine_eq]; simp at hsl ⊢; omega))
      exact wpAny_pure (hq _ _ _ _ hs2 (by simp at hsl ⊢; omega) (M.push _))
  case step =>
    rintro r x ⟨out, st, la, must, n, over⟩ s ⟨p, parts, tk', rfl, e1, e2, e3, hp, hs, hsp, hsz, ho⟩
    dsimp only at e1 e2 e3 ho hs ⊢
    subst e1 e2 e3
    cases over with
    | true =>
      simp only [if_true] at ho
      rw [if_neg (by decide)]
      refine wpAny_pure ⟨_, rfl, la, parts, _, rfl, rfl, rfl, rfl, hp, hs, ?_, by omega, ho⟩
      rw [← hsp, spP_none ho, spP_none ho]
    | false =>
      simp only [Bool.false_eq_true, if_false] at ho
      rw [if_pos (by decide), if_neg (by simp)]
      refine wpAny_bind (wp_found hp hl ?_)
      cases hf : fnd (l.drop la) with
      | none =>
        refine wpAny_pure ⟨_, rfl, la, parts, _, rfl, rfl, rfl, rfl, hp, hs, ?_, by omega, hf⟩
        rw [← hsp, spP_none hf, spP_none hf]
      | some q =>
        obtain ⟨a, b⟩ := q
        intro m m1 m2 m3 m4
        have hle := fnd_le hf
        rw [List.length_drop] at hle
        dsimp only at hle
        dsimp only
        refine wpAny_bind (wp_slice (l := l) (by omega) hl ?_)
        intro t1 k1
        refine wpAny_bind ?_
        show wpAny _ _ (forIn [0] _ _) _ _ _
        rw [List.forIn_cons]
        refine wpAny_bind (wpAny_bind (wp_group m3 m4 (by omega) (by omega) hl ?_))
        intro t2 k2
        refine wpAny_pure (wpAny_pure (wpAny_pure ⟨_, rfl, la + a + b, parts ++ [(l.drop la).take a] ++ [(l.drop (la + a)).take b], _, rfl, m2, m2, ?_, by omega, ?_, ?_, by simp; omega, ?_⟩))
        · rw [m1, m2]; simp; omega
        · rw [m1]
          have z1 : la + a - la = a := by omega
          have z2 : la + a + b - (la + a) = b := by omega
          dsimp only
          rw [Array.toList_push, Array.toList_push, z1, z2]
          exact (hs.snoc _ _).snoc _ _
        · rw [← hsp, spP, hf]
          simp only [List.append_assoc, List.drop_drop, List.cons_append, List.nil_append, ← Nat.add_assoc]
        · simp only [Bool.false_eq_true, if_false]; omega
end
end
section
set_option maxRecDepth 100000
set_option maxHeartbeats 2000000
noncomputable abbrev zipO (f0 : Value) (TI TO : Addr) : Obj := { cls := .type "zip", dict := none, data := .fields #[f0, .bool false, .bool false, .ref TI, .ref TO], slots := #[] }
theorem pat_slot : Slot "re.Pattern" "split" "re.Pattern.split" := .of (owner := "re.Pattern") (n := "split") (by rw [typeLookup_type, builtinLookup_eq_fast]; kernel_rfl) (by decide +kernel) (by decide +kernel) (by decide +kernel)
  (by first | exact .inl (by decide +kernel) | exact .inr (by decide +kernel)) (by rw [isSubtype_type]; kernel_rfl)
theorem pat_entry : entryFor table "re.Pattern.split" = some Builtin.«re.Pattern.split» := entryFor_of_tree (by kernel_rfl)
theorem pat_args (a b : Value) : argsOk "re.Pattern.split" ⟨[a, b], []⟩ := by unfold argsOk; kernel_rfl
theorem pat_type : typeOf (.builtin "re.Pattern.split") = pure (.type "method_descriptor") := by show builtinType _ = _; rw [builtinType_eq_fast]; kernel_rfl
section
variable {w : World} {A : Around} {E : Value → Shared → Prop} {h₀ h : Heap} {g : Array GenState} {d : Drawn} {tk : Nat} {os : OsState} {led : Led} {mg mb : Str → Option Value} {a z TI TO it L : Addr} {vs us : List Value} {n m i j k : Nat} {t u : Tok} {x y v v0 v1 : Value} {l : List Nat}
theorem splitP {Q : Value → Shared → Prop} {p : Addr × Cell} (G : Gd w h₀ mg mb) (M : Mm h₀ h (p :: led)) (hl : l.length ≤ 1000)
    (hq : ∀ a h' tk' vs, Strs vs (spP (2 * l.length + 3) l) → vs.length ≤ 5000 → Mm h₀ h' (p :: (a, .obj (lo vs 0)) :: led) → Q (.ref a) ⟨h', g, d, tk', os⟩) :
    wpAny (MP w) A (call (.builtin "re.Pattern.split") [.ref 71, .str (S l) t]) Q E ⟨h, g, d, tk, os⟩ := by
  have X := M.K G
  obtain ⟨v1, v2, hp⟩ := k_pat G
  refine wpAny_call_entry pat_slot ⟨_, X _ _ hp, rfl⟩ pat_entry ?_ (pat_args _ _)
  exact split_meets G M hl fun a h' tk' vs h1 h2 M' => ⟨_, rfl, hq a h' tk' vs h1 h2 (M'.perm (List.Perm.swap _ _ _))⟩
theorem plainAttrs_pat : PlainAttrs "re.Pattern" := by
  first
  | exact ⟨⟨"object.__getattribute__", by rw [typeLookup_type, builtinLookup_eq_fast]; kernel_rfl, by decide +kernel⟩, by rw [typeLookup_type, builtinLookup_eq_fast]; kernel_rfl⟩
  | exact ⟨⟨"re.Pattern.__getattribute__", by rw [typeLookup_type, builtinLookup_eq_fast]; kernel_rfl, by decide +kernel⟩, by rw [typeLookup_type, builtinLookup_eq_fast]; kernel_rfl⟩
theorem gmPat {pl : Sem Bool} {Q : Value × List Value → Shared → Prop} (G : Gd w h₀ mg mb) (M : Mm h₀ h led) (hq : Q (.builtin "re.Pattern.split", [.ref 71]) ⟨h, g, d, tk, os⟩) :
    wpAny (MP w) A (getMethod (.ref 71) (Str.ofString "split") pl) Q E ⟨h, g, d, tk, os⟩ := by
  have X := M.K G
  obtain ⟨v1, v2, hp⟩ := k_pat G
  exact getMethod_builtin ⟨_, X _ _ hp, rfl⟩ plainAttrs_pat pat_slot pat_type (fun b eb => by cases eb; exact ⟨_, X _ _ hp, rfl⟩) hq
theorem iterB {Q : Value → Shared → Prop} {p : Addr × Cell} (M : Mm h₀ h (p :: led)) (e : At (p :: led) i (a, .obj (lo vs n))) (hq : ∀ c h', Mm h₀ h' (p :: (c, .obj (liter a 0)) :: led) → Q (.ref c) ⟨h', g, d, tk, os⟩) : wpAny (MP w) A (call (.builtin "iter") [.ref a]) Q E ⟨h, g, d, tk, os⟩ := by
  refine call_function_entry (by decide +kernel) (by decide +kernel) kdk_entry_iter (kdk_args_iter _) ?_
  unfold Builtin.«iter»
  refine wpAny_bind (m := someArgs "iter" 1 2 _) (wpAny_of_eq (a := [Value.ref a]) (by first | rfl | kernel_rfl!) ?_)
  show wpAny _ _ (pyIter (.ref a) >>= _) _ _ _
  refine wpAny_bind (iterL M e fun c h' M' => ?_)
  exact wpAny_pure ⟨_, rfl, hq c h' M'⟩
theorem mul2 {Q : Value → Shared → Prop} {p : Addr × Cell} (M : Mm h₀ h (p :: led)) (e : At (p :: led) i (a, .obj (lo [x] n))) (hq : ∀ c h', Mm h₀ h' (p :: (c, .obj (lo [x, x] 0)) :: led) → Q (.ref c) ⟨h', g, d, tk, os⟩) : wpAny (MP w) A (binaryOp .Mult (.ref a) (.int 2 u)) Q E ⟨h, g, d, tk, os⟩ := by
  have hl := M.get i e
  refine wpAny_binaryOp_repeat_ref (T := "list") (U := "int") (by decide) ⟨_, hl, rfl⟩ (fun s' => typeIs_int s' 2 u) noFill_list_mul F.fills_int_mul F.slot_int_rmul repeat_list F.slot_int_index.lookup
    (call_meets F.slot_int_rmul (typeIs_int _ 2 u) F.entry_int_rmul (F.args_int_rmul_2 _ _) (int___rmul___int_list 2 u a [x].toArray n)
      ⟨hl, rfl, ⟨_, hl, rfl⟩, call_meets F.slot_list_mul ⟨_, hl, rfl⟩ F.entry_list_mul (F.args_list_mul_2 _ _)
        (AutoListH.list___mul___list_int_3 a [x].toArray n 2 u (by decide) (by simp) (by simp [Builtin.List.listTooLong, sizeLine]))
        ⟨hl, hq _ _ (M.push2 (lo [x, x] 0))⟩⟩)
theorem starL {M' : Unit} {Q : List Value → Shared → Prop} (M : Mm h₀ h led) (e : At led i (a, .obj (lo vs n))) (hz : vs.length ≤ 1000) (hq : ∀ h', Mm h₀ h' led → Q vs ⟨h', g, d, tk, os⟩) : StarOf (MP w) A E (.ref a) Q ⟨h, g, d, tk, os⟩ := by
  have ho := M.get i e
  have hT : (⟨h, g, d, tk, os⟩ : Shared).TypeIs (.ref a) "list" := ⟨_, ho, rfl⟩
  unfold StarOf notIterableAtAll
  refine wpAny_bind (wpAny_specialOf hT PySem.F.slot_list_iter.lookup ?_)
  refine wpAny_pure ⟨rfl, ?_⟩
  refine wpAny_collect_seq a (.inl rfl) ho rfl rfl (fun h' hk => ?_) (by rw [List.size_toArray, sizeLine_eq]; omega)
  have := hq h' (M.ext hk)
  simpa using this
theorem nextOfL {Q : Value → Shared → Prop} (M : Mm h₀ h led) (e : At led i (it, .obj (liter L k))) (f : At led j (L, .obj (lo vs n))) (hx : vs[k]? = some x)
    (hq : ∀ h', Mm h₀ h' (led.set i (it, .obj (liter L (k + 1)))) → Q x ⟨h', g, d, tk, os⟩) : wpAny (MP w) A (Builtin.SmallTypes.nextOf (.ref it)) Q E ⟨h, g, d, tk, os⟩ := by
  have hit := M.get i e
  unfold Builtin.SmallTypes.nextOf
  refine wpAny_bind (wpAny_callSpecial?_slot (name := Str.ofString "__next__") (T := "list_iterator") ⟨_, hit, rfl⟩ slot_listiter_next
    (wpAny_call_entry slot_listiter_next ⟨_, hit, rfl⟩ entry_listiter_next ?_ (args_listiter_next _)))
  show wpAny _ _ (field (.ref it) 0 >>= _) _ _ _
  refine wpAny_bind (wpAny_field hit rfl (x := .ref L) rfl ?_)
  show wpAny _ _ (if (Value.ref L == Value.none) = true then _ else _) _ _ _
  rw [if_neg (show ¬ ((Value.ref L == Value.none) = true) from Bool.false_ne_true)]
  show wpAny _ _ (field (.ref it) 1 >>= _) _ _ _
  refine wpAny_bind (wpAny_field hit rfl (x := .int k 0) rfl ?_)
  show wpAny _ _ (seqItems? (.ref L) >>= _) _ _ _
  refine wpAny_bind (wpAny_seqItems (M.get j f) rfl ?_)
  have hx' : vs.toArray[k]? = some x := by simpa using hx
  simp only [Int.toNat_natCast, hx']
  refine wpAny_bind (wpAny_setField hit rfl (by simp) (wpAny_pure ⟨x, rfl, wpAny_pure (hq _ ?_)⟩))
  exact M.changeB i e (Heap.SameBut.update ..) (Heap.get?_update_self _ hit rfl)
theorem setF {Q : Unit → Shared → Prop} {cls : Value} {fs : Array Value} (M : Mm h₀ h led) (e : At led i (a, .obj { cls := cls, dict := none, data := .fields fs, slots := #[] })) (hk : k < fs.size)
    (hq : ∀ h', Mm h₀ h' (led.set i (a, .obj { cls := cls, dict := none, data := .fields (fs.setIfInBounds k x), slots := #[] })) → Q () ⟨h', g, d, tk, os⟩) : wpAny (MP w) A (setField (.ref a) k x) Q E ⟨h, g, d, tk, os⟩ :=
  wpAny_setField_rec (M.get i e) hk fun h' h1 h2 => hq h' (M.changeB i e h2 h1)
theorem updT {Q : Unit → Shared → Prop} (M : Mm h₀ h led) (e : At led i (a, .obj (tup vs))) (hz : vs.length ≤ 1000) (hq : ∀ h', Mm h₀ h' (led.set i (a, .obj (tup (vs.set k x)))) → Q () ⟨h', g, d, tk, os⟩) :
    wpAny (MP w) A (updateSeq a (·.setIfInBounds k x)) Q E ⟨h, g, d, tk, os⟩ := by
  refine wpAny_updateSeq (M.get i e) rfl ?_ (by rw [List.size_toArray, sizeLine_eq]; omega) (by rw [Array.size_setIfInBounds, List.size_toArray, sizeLine_eq]; omega)
  have M2 := M.update i e (Obj.mapSeq fun xs => xs.setIfInBounds k x)
  have e2 : Obj.mapSeq (fun xs => xs.setIfInBounds k x) (tup vs) = tup (vs.set k x) := by simp [Obj.mapSeq, tup]
  rw [e2] at M2
  exact hq _ M2
/-- the next two items of a zip over one iterator taken twice -/
theorem nextZ {Q : Option Value → Shared → Prop} {p : Addr × Cell} (M : Mm h₀ h (p :: (z, .obj (zipO .none TI TO)) :: (TI, .obj (tup [.ref it, .ref it])) :: (TO, .obj (tup [v0, v1])) :: (it, .obj (liter L k)) :: led)) (f : At led j (L, .obj (lo vs n))) (hx : vs[k]? = some x) (hy : vs[k + 1]? = some y)
    (hq : ∀ (T : Addr) h', Mm h₀ h' (p :: (z, .obj (zipO (rawInt T) TI TO)) :: (T, .obj (tup [x, y])) :: (TI, .obj (tup [.ref it, .ref it])) :: (TO, .obj (tup [x, y])) :: (it, .obj (liter L (k + 2))) :: led) → Q (some (.ref T)) ⟨h', g, d, tk, os⟩) : wpAny (MP w) A (pyNext (.ref z)) Q E ⟨h, g, d, tk, os⟩ := by
  have hz := M.get 1 .n1
  have hT : (⟨h, g, d, tk, os⟩ : Shared).TypeIs (.ref z) "zip" := ⟨_, hz, rfl⟩
  unfold pyNext
  refine wpAny_bind (wpAny_attempt (wpAny_callSpecial?_slot (name := Str.ofString "__next__") hT F.slot_zip_next
    (wpAny_call_entry F.slot_zip_next hT F.entry_zip_next ?_ (F.args_zip_next_1 _))))
  show wpAny _ _ (field (.ref z) 2 >>= _) _ _ _
  refine wpAny_bind (wpAny_field hz rfl (x := .bool false) rfl ?_)
  show wpAny _ _ (field (.ref z) 3 >>= _) _ _ _
  refine wpAny_bind (wpAny_field hz rfl (x := .ref TI) rfl ?_)
  refine wpAny_bind (wpAny_seqItems (M.get 2 .n2) rfl ?_)
  show wpAny _ _ (Builtin.SmallTypes.ownedTupleIsFree (.ref z) >>= _) _ _ _
  refine wpAny_bind ?_
  unfold Builtin.SmallTypes.ownedTupleIsFree
  refine wpAny_bind (wpAny_field hz rfl (x := .none) rfl (wpAny_pure ?_))
  simp only [if_true]
  refine wpAny_bind (wpAny_rule ?_)
  refine wpAny_bind (wpAny_field hz rfl (x := .ref TO) rfl ?_)
  refine wpAny_bind (setF M .n1 (by simp) fun h1 M1 => ?_)
  dsimp only [List.set] at M1
  refine wpAny_bind ?_
  simp only [List.zipIdx_cons, List.zipIdx_nil, List.forIn_cons, List.forIn_nil]
  refine wpAny_bind (wpAny_bind (wpAny_onRaise ?_))
  show wpAny _ _ (Builtin.SmallTypes.nextOf (.ref it) >>= _) _ _ _
  refine wpAny_bind (nextOfL M1 .n4 (.s (.s (.s (.s (.s f))))) hx fun h2 M2 => wpAny_pure ?_)
  dsimp only [List.set] at M2
  refine wpAny_bind (wpAny_seqItems (M2.get 3 .n3) rfl ?_)
  refine wpAny_bind (updT M2 .n3 (by simp) fun h3 M3 => ?_)
  dsimp only [List.set] at M3
  refine wpAny_bind (wpAny_letGo (wpAny_pure ?_))
  refine wpAny_bind (wpAny_bind (wpAny_onRaise ?_))
  show wpAny _ _ (Builtin.SmallTypes.nextOf (.ref it) >>= _) _ _ _
  refine wpAny_bind (nextOfL M3 .n4 (.s (.s (.s (.s (.s f))))) hy fun h4 M4 => wpAny_pure ?_)
  dsimp only [List.set] at M4
  refine wpAny_bind (wpAny_seqItems (M4.get 3 .n3) rfl ?_)
  refine wpAny_bind (updT M4 .n3 (by simp) fun h5 M5 => ?_)
  dsimp only [List.set] at M5
  refine wpAny_bind (wpAny_letGo (wpAny_pure (wpAny_pure ?_)))
  refine wpAny_bind (wpAny_seqItems (M5.get 3 .n3) rfl ?_)
  refine wpAny_bind (newT M5 (by rw [sizeLine_eq]; simp) fun T h6 M6 => ?_)
  show wpAny _ _ (Builtin.SmallTypes.ownedTupleHandOut (.ref z) (.ref T) >>= _) _ _ _
  refine wpAny_bind ?_
  unfold Builtin.SmallTypes.ownedTupleHandOut
  refine wpAny_bind (setF M6 .n2 (by simp) fun h7 M7 => ?_)
  dsimp only [List.set] at M7
  refine setF M7 .n2 (by simp) fun h8 M8 => ?_
  dsimp only [List.set] at M8
  refine wpAny_pure ⟨_, rfl, wpAny_pure (hq T h8 ?_)⟩
  exact M8.perm ((List.Perm.swap _ _ _).cons _)
theorem nextZE {Q : Option Value → Shared → Prop} {p : Addr × Cell} (M : Mm h₀ h (p :: (z, .obj (zipO .none TI TO)) :: (TI, .obj (tup [.ref it, .ref it])) :: (TO, .obj (tup [v0, v1])) :: (it, .obj (liter L k)) :: led)) (f : At led j (L, .obj (lo vs n))) (hx : vs.length ≤ k) (hh : A.handled = none)
    (hq : ∀ h', Mm h₀ h' (p :: led) → Q none ⟨h', g, d, tk, os⟩) : wpAny (MP w) A (pyNext (.ref z)) Q E ⟨h, g, d, tk, os⟩ := by
  have hz := M.get 1 .n1
  have hT : (⟨h, g, d, tk, os⟩ : Shared).TypeIs (.ref z) "zip" := ⟨_, hz, rfl⟩
  unfold pyNext
  refine wpAny_bind (wpAny_attempt (wpAny_callSpecial?_slot (name := Str.ofString "__next__") hT F.slot_zip_next
    (wpAny_call_entry F.slot_zip_next hT F.entry_zip_next ?_ (F.args_zip_next_1 _))))
  show wpAny _ _ (field (.ref z) 2 >>= _) _ _ _
  refine wpAny_bind (wpAny_field hz rfl (x := .bool false) rfl ?_)
  show wpAny _ _ (field (.ref z) 3 >>= _) _ _ _
  refine wpAny_bind (wpAny_field hz rfl (x := .ref TI) rfl ?_)
  refine wpAny_bind (wpAny_seqItems (M.get 2 .n2) rfl ?_)
  show wpAny _ _ (Builtin.SmallTypes.ownedTupleIsFree (.ref z) >>= _) _ _ _
  refine wpAny_bind ?_
  unfold Builtin.SmallTypes.ownedTupleIsFree
  refine wpAny_bind (wpAny_field hz rfl (x := .none) rfl (wpAny_pure ?_))
  simp only [if_true]
  refine wpAny_bind (wpAny_rule ?_)
  refine wpAny_bind (wpAny_field hz rfl (x := .ref TO) rfl ?_)
  refine wpAny_bind (setF M .n1 (by simp) fun h1 M1 => ?_)
  dsimp only [List.set] at M1
  refine wpAny_bind ?_
  simp only [List.zipIdx_cons, List.zipIdx_nil, List.forIn_cons, List.forIn_nil]
  refine wpAny_bind (wpAny_bind (wpAny_onRaise ?_))
  show wpAny _ _ (Builtin.SmallTypes.nextOf (.ref it) >>= _) _ _ _
  refine wpAny_bind (wpAny_nextOf_list_end (l := L) (i := k) (items := vs.toArray) hh ⟨_, M1.get 4 .n4, rfl, rfl⟩ ⟨_, M1.get _ (.s (.s (.s (.s (.s f))))), rfl, n, rfl⟩ (by simp; exact hx) fun h2 e hs2 he => ?_)
  obtain ⟨oe, hoe, hce⟩ := he
  have M2 := M1.extB 4 .n4 hs2
  dsimp only [List.eraseIdx] at M2
  have hez : e ≠ z := fun q => by subst q; rw [M2.get 1 .n1] at hoe; cases hoe; simp at hce
  refine wpAny_setField_rec (M2.get 1 .n1) (by simp) fun h3 h31 hs3 => ?_
  have M3 := M2.changeB (c' := .obj _) 1 .n1 hs3 h31
  refine wpAny_bind (wpAny_isInstance (T := "StopIteration") (b := true) ⟨oe, hs3.extBut _ _ hez hoe, hce⟩ isSubtype_stop ?_)
  exact wpAny_pure (hq h3 (M3.sub (.cons_cons _ (.cons _ (.cons _ (.cons _ (.refl _)))))))
theorem goZ {Q : Unit → Shared → Prop} {elts : List Expr} {x1} {pos : Pos} {T : Addr} (M : Mm h₀ h led) (e : At led i (z, .obj (zipO (rawInt T) TI TO))) (hq : ∀ h', Mm h₀ h' (led.set i (z, .obj (zipO .none TI TO))) → Q () ⟨h', g, d, tk, os⟩) :
    wpAny (MP w) A (letOwnedTupleGo (.Tuple elts x1 pos) (.ref z) (.ref T)) Q E ⟨h, g, d, tk, os⟩ :=
  wpAny_letOwnedTupleGo_zip (M.get i e) fun h' h1 h2 => hq h' (M.changeB i e h2 h1)
theorem iterZ {Q : Value → Shared → Prop} {f0 : Value} (M : Mm h₀ h led) (e : At led i (z, .obj (zipO f0 TI TO))) (hq : Q (.ref z) ⟨h, g, d, tk, os⟩) : wpAny (MP w) A (pyIter (.ref z)) Q E ⟨h, g, d, tk, os⟩ :=
  wpAny_pyIter_zip (M.get i e) hq
theorem zip_meets (it L : Addr) (k : Nat) :
    Meets (Builtin.«zip.__new__» ⟨[.type "zip", .ref it, .ref it], []⟩) (fun _ R s => s.heap.get? it = some (liter L k) ∧
      R (.ok (.ret (.ref (s.heap.objs.size + 2)))) { s with heap := ((s.heap.push (tup [.ref it, .ref it])).push (tup [.none, .none])).push (zipO .none s.heap.objs.size (s.heap.objs.size + 1)) }) :=
  .of_wp fun prog w A R s h => by
    obtain ⟨hp, g, d, tk, os⟩ := s; obtain ⟨h1, h⟩ := h
    have hsub := sub_zip
    have hL1 : Heap.IsListIter (Shared.heap ⟨hp, g, d, tk, os⟩) it L k := ⟨_, h1, rfl, rfl⟩
    wp_walk using wpAny_pyIter_listiter hL1
    simp only [Heap.size_push] at h ⊢
    exact ⟨_, rfl, h⟩
theorem callZ {Q : Value → Shared → Prop} {p : Addr × Cell} (M : Mm h₀ h (p :: led)) (e : At (p :: led) i (it, .obj (liter L k))) (hq : ∀ z TI TO h', Mm h₀ h' (p :: (z, .obj (zipO .none TI TO)) :: (TI, .obj (tup [.ref it, .ref it])) :: (TO, .obj (tup [.none, .none])) :: led) → Q (.ref z) ⟨h', g, d, tk, os⟩) :
    wpAny (MP w) A (call (.type "zip") [.ref it, .ref it]) Q E ⟨h, g, d, tk, os⟩ := by
  refine callType_new F.called_zip (by decide) (F.typeCall_zip_2 _ _) (F.newCall_zip_2 _ _) (fun obj => F.args_object_init_3 obj _ _) F.entry_zip_new (zip_meets it L k) ⟨M.get i e, ?_⟩
  have M1 := M.push (tup [.ref it, .ref it])
  have M2 := M1.push (tup [.none, .none])
  have M3 := M2.push (zipO .none h.objs.size (h.objs.size + 1))
  simp only [Heap.size_push] at M3
  refine ⟨⟨_, M3.get 0 .z, rfl⟩, hq _ h.objs.size (h.objs.size + 1) _ ?_⟩
  have M4 := M3.rot (cs := [_, _, _]) [_]
  dsimp only [List.cons_append, List.nil_append] at M4
  exact M4.perm (((List.Perm.swap _ _ _).cons _).cons _)
end
theorem callWith_T {M : Model} {A : Around} {E : Value → Shared → Prop} {s : Shared} {env : Env} {pos p : Pos} {e : Expr} {Q : Value → Shared → Prop} {T : String} (h : wpAny M A (eval e env) (fun v s₁ => StarOf M A E v (fun vs s₂ => True ∧ wpAny M A (call (.type T) vs) Q E s₂) s₁) E s)
    (he : starEach [.Starred e p] env = [(true, eval e env)] := by rfl) :
    wpAny M A (callWith pos (.type T) [] (backTo pos (starEach [.Starred e p] env)) []) Q E s := by
  rw [he]
  exact ks_call (P := fun _ => True) (first := []) rfl (fun h _ => ⟨.machine, .inr (.inl rfl), .now⟩) (ks_lone h)
end
section
theorem isW_eq (c : Nat) : isW c = decide (c ∈ [32, 9]) := by unfold isW; rw [Bool.eq_iff_iff]; simp
theorem take_pre {α : Type} {l a b : List α} (h : a ++ b = l) : l.take a.length = a ∧ l.drop a.length = b := by subst h; simp
theorem wsp_eq (l : List Nat) : wsp l = (l.takeWhile isW, l.dropWhile isW) := by
  unfold wsp
  have : (fun c => decide (c ∈ [32, 9])) = isW := by funext c; rw [isW_eq]
  rw [this]
theorem nws_eq (l : List Nat) : nws l = (l.takeWhile (fun c => !isW c), l.dropWhile fun c => !isW c) := by
  unfold nws
  have : (fun c => decide (c ∉ [32, 9])) = fun c => !isW c := by funext c; rw [isW_eq]; simp
  rw [this]
theorem wsp_app (l : List Nat) : (wsp l).1 ++ (wsp l).2 = l := by rw [wsp_eq]; exact List.takeWhile_append_dropWhile
theorem nws_app (l : List Nat) : (nws l).1 ++ (nws l).2 = l := by rw [nws_eq]; exact List.takeWhile_append_dropWhile
theorem wsp_mem {l : List Nat} {c : Nat} (h : c ∈ (wsp l).1) : c ∈ [32, 9] := by
  rw [wsp_eq] at h
  have := List.all_eq_true.mp List.all_takeWhile c h
  rw [isW_eq] at this; exact of_decide_eq_true this
theorem nws_mem {l : List Nat} {c : Nat} (h : c ∈ (nws l).1) : c ∉ [32, 9] := by
  rw [nws_eq] at h
  have := List.all_eq_true.mp List.all_takeWhile c h
  rw [isW_eq] at this; simp at this ⊢; exact this
theorem nws_two {l : List Nat} (h : (nws l).2 ≠ []) : ∃ c r, (nws l).2 = c :: r ∧ c ∈ [32, 9] := by
  rw [nws_eq] at h ⊢
  dsimp only at h ⊢
  cases hd : l.dropWhile (fun c => !isW c) with
  | nil => exact absurd hd h
  | cons c r =>
    have := List.head_dropWhile_not (fun c => !isW c) (l := l) (by rw [hd]; simp)
    refine ⟨c, r, rfl, ?_⟩
    have z : (l.dropWhile fun c => !isW c).head (by rw [hd]; simp) = c := by simp [hd]
    rw [z, isW_eq] at this; simp at this ⊢; omega
theorem wsp_pos {c : Nat} {r : List Nat} (h : c ∈ [32, 9]) : (wsp (c :: r)).1 = c :: (wsp r).1 ∧ (wsp (c :: r)).2 = (wsp r).2 := by
  have hw : isW c = true := by rw [isW_eq]; simpa using h
  simp only [wsp_eq, List.takeWhile_cons, List.dropWhile_cons, hw, if_true, and_self]
theorem wsp_neg {c : Nat} {r : List Nat} (h : c ∉ [32, 9]) : wsp (c :: r) = ([], c :: r) := by
  have hw : isW c = false := by rw [isW_eq]; simpa using h
  simp only [wsp_eq, List.takeWhile_cons, List.dropWhile_cons, hw, Bool.false_eq_true, if_false]
theorem nws_neg {c : Nat} {r : List Nat} (h : c ∈ [32, 9]) : nws (c :: r) = ([], c :: r) := by
  have hw : isW c = true := by rw [isW_eq]; simpa using h
  simp [nws_eq, List.takeWhile_cons, List.dropWhile_cons, hw]
theorem nws_pos {c : Nat} {r : List Nat} (h : c ∉ [32, 9]) : (nws (c :: r)).1 = c :: (nws r).1 ∧ (nws (c :: r)).2 = (nws r).2 := by
  have hw : isW c = false := by rw [isW_eq]; simpa using h
  simp [nws_eq, List.takeWhile_cons, List.dropWhile_cons, hw]
theorem wsp_len (l : List Nat) : (wsp l).1.length + (wsp l).2.length = l.length := by rw [← List.length_append, wsp_app]
theorem nws_len (l : List Nat) : (nws l).1.length + (nws l).2.length = l.length := by rw [← List.length_append, nws_app]
/-! the pattern's pieces two by two -/
noncomputable def prt (ps : List Pr) : List (List Nat) := ps.flatMap fun p => [p.1, p.2]
theorem splN_nil (n : Nat) : splN n [] = [] := by cases n <;> simp [splN]
theorem spP_splN : ∀ (n : Nat) (l : List Nat) (m : Nat), l.length < n → l.length ≤ m → spP n l = (nws l).1 :: prt (splN m (nws l).2)
  | 0, l, m, h, _ => by omega
  | n + 1, l, m, h, hm => by
    have e1 := nws_eq l
    unfold spP
    have hf : fnd l = if (nws l).2 = [] then none else some ((nws l).1.length, (wsp (nws l).2).1.length) := by
      unfold fnd; rw [nws_eq, wsp_eq]
    rw [hf]
    by_cases q : (nws l).2 = []
    · rw [if_pos q]
      have := nws_app l
      rw [q, List.append_nil] at this
      rw [q, splN_nil]; simp [prt, this]
    · rw [if_neg q]
      obtain ⟨c, r, hc, hcw⟩ := nws_two q
      have hl := nws_len l
      have hw := wsp_len (nws l).2
      have hw1 : 1 ≤ (wsp (nws l).2).1.length := by rw [hc, (wsp_pos hcw).1]; simp
      obtain ⟨m, rfl⟩ : ∃ k, m = k + 1 := ⟨m - 1, by rw [hc] at hl; simp at hl; omega⟩
      dsimp only
      have d1 := (take_pre (nws_app l)).1
      have d2 := (take_pre (nws_app l)).2
      have d3 := (take_pre (wsp_app (nws l).2)).1
      have d4 := (take_pre (wsp_app (nws l).2)).2
      rw [← List.drop_drop, d1, d2, d3, d4, splN, if_neg q, spP_splN n (wsp (nws l).2).2 m (by omega) (by omega)]
      have hn := nws_len (wsp (nws l).2).2
      rfl
theorem spP_spl (l : List Nat) : [] :: spP (2 * l.length + 3) l = prt (spl l) := by
  rw [spP_splN _ l l.length (by omega) (Nat.le_refl _)]; rfl
/-! sizes -/
noncomputable def tot (st : FS) : Nat := (st.1.map List.length).sum + plen st.2.1
theorem plen_app (a b : List Pr) : plen (a ++ b) = plen a + plen b := by unfold plen; simp
theorem plen_take (ps : List Pr) (i : Nat) : plen (ps.take i) + plen (ps.drop i) = plen ps := by rw [← plen_app, List.take_append_drop]
theorem ptext_len (ps : List Pr) : (ptext ps).length = plen ps := by rw [plen_eq]; rfl
theorem nlps_bd (ps : List Pr) : plen (nlps ps) ≤ plen ps ∧ (nlps ps).length ≤ ps.length + 1 := by
  rcases List.eq_nil_or_concat ps with rfl | ⟨qs, q, rfl⟩
  · exact ⟨by decide, by decide⟩
  · rw [List.concat_eq_append]
    unfold nlps
    rw [popd_snoc']
    split
    · dsimp only
      exact ⟨by rw [plen_app]; omega, by simp; omega⟩
    · exact ⟨Nat.le_refl _, by simp⟩
theorem addLine_bd (lines : List (List Nat)) (sz : Nat) (q : List Pr) : ((addLine lines sz q).map List.length).sum ≤ (lines.map List.length).sum + plen q ∧ (addLine lines sz q).length ≤ lines.length + 1 := by
  unfold addLine
  split
  · split
    · rename_i h
      obtain ⟨xs, x, rfl⟩ : ∃ xs x, lines = xs ++ [x] := ⟨lines.dropLast, lines.getLast h.2, (List.dropLast_concat_getLast h.2).symm⟩
      refine ⟨?_, by simp⟩
      simp [ptext_len]; omega
    · exact ⟨by simp [ptext_len], by simp⟩
  · exact ⟨by omega, by omega⟩
theorem chunk_bd (mx : Nat) (order : List Nat) (st : FS) (p : Pr) : tot (chunkF mx order st p) ≤ tot st + (plen [p] + 1) ∧ (chunkF mx order st p).1.length ≤ st.1.length + 1 ∧ (chunkF mx order st p).2.1.length ≤ st.2.1.length + 1 := by
  unfold chunkF
  dsimp only
  have hp := plen_app st.2.1 [p]
  have keep : tot (st.1, st.2.1 ++ [p], st.2.2) ≤ tot st + (plen [p] + 1) := by unfold tot; dsimp only; omega
  split
  · split
    · rename_i i _
      have := plen_take (st.2.1 ++ [p]) i
      refine ⟨?_, by simp, by simp⟩
      unfold tot; simp [ptext_len]; omega
    · split
      · have h1 := nlps_bd st.2.1
        have h2 := addLine_bd st.1 st.2.2 (nlps st.2.1)
        refine ⟨?_, h2.2, by simp⟩
        unfold tot newlF
        have h3 : plen [(if p.1 = [] then [32] else p.1, p.2)] ≤ plen [p] + 1 := by
          unfold plen; simp; split <;> simp_all; omega
        dsimp only; omega
      · exact ⟨keep, by simp, by simp⟩
  · exact ⟨keep, by simp, by simp⟩
theorem fold_bd (mx : Nat) (order : List Nat) : ∀ (ps : List Pr) (st : FS), tot (ps.foldl (chunkF mx order) st) ≤ tot st + plen ps + ps.length ∧ (ps.foldl (chunkF mx order) st).1.length ≤ st.1.length + ps.length ∧ (ps.foldl (chunkF mx order) st).2.1.length ≤ st.2.1.length + ps.length
  | [], st => ⟨by simp, by simp, by simp⟩
  | p :: ps, st => by
    have h1 := chunk_bd mx order st p
    have h2 := fold_bd mx order ps (chunkF mx order st p)
    have h3 : plen (p :: ps) = plen [p] + plen ps := plen_app [p] ps
    rw [List.foldl_cons, List.length_cons]
    refine ⟨by omega, by omega, by omega⟩
theorem mem_sum {xs : List (List Nat)} {x : List Nat} (h : x ∈ xs) : x.length ≤ (xs.map List.length).sum := by
  induction xs with
  | nil => simp at h
  | cons y r ih =>
    rcases List.mem_cons.mp h with rfl | h
    · simp
    · have := ih h; simp; omega
theorem mem_plen {ps : List Pr} {p : Pr} (h : p ∈ ps) : p.1.length + p.2.length ≤ plen ps := by
  induction ps with
  | nil => simp at h
  | cons y r ih =>
    have e : plen (y :: r) = plen [y] + plen r := plen_app [y] r
    rcases List.mem_cons.mp h with rfl | h
    · have : plen [p] = p.1.length + p.2.length := by simp [plen]
      omega
    · have := ih h; omega
theorem splN_len : ∀ (n : Nat) (l : List Nat), plen (splN n l) ≤ l.length ∧ (splN n l).length ≤ l.length
  | 0, l => ⟨by simp [splN, plen], by simp [splN]⟩
  | n + 1, l => by
    unfold splN
    split
    · exact ⟨by simp [plen], by simp⟩
    · rename_i hne
      have h1 := wsp_len l
      have h2 := nws_len (wsp l).2
      have h3 := splN_len n (nws (wsp l).2).2
      have h4 : plen (((wsp l).1, (nws (wsp l).2).1) :: splN n (nws (wsp l).2).2) = ((wsp l).1.length + (nws (wsp l).2).1.length) + plen (splN n (nws (wsp l).2).2) := by simp [plen]
      have h5 : 1 ≤ (wsp l).1.length + (nws (wsp l).2).1.length := by
        cases l with
        | nil => exact absurd rfl hne
        | cons c r =>
          by_cases hc : c ∈ [32, 9]
          · rw [(wsp_pos hc).1]; simp
            try omega
          · rw [wsp_neg hc, (nws_pos hc).1]; simp
      refine ⟨by rw [h4]; omega, by rw [List.length_cons]; omega⟩
theorem spl_len (l : List Nat) : plen (spl l) ≤ l.length ∧ (spl l).length ≤ l.length + 1 := by
  have h1 := nws_len l
  have h2 := splN_len l.length (nws l).2
  have h3 : plen (spl l) = (nws l).1.length + plen (splN l.length (nws l).2) := by simp [spl, plen]
  exact ⟨by rw [h3]; omega, by simp [spl]; omega⟩
theorem chunk_sz (mx : Nat) (order : List Nat) (st : FS) (p : Pr) : (chunkF mx order st p).2.2 ≤ st.2.2 := by
  unfold chunkF
  dsimp only
  split
  · split
    · simp
    · split <;> simp
  · simp
theorem fold_sz (mx : Nat) (order : List Nat) : ∀ (ps : List Pr) (st : FS), (ps.foldl (chunkF mx order) st).2.2 ≤ st.2.2
  | [], st => Nat.le_refl _
  | p :: ps, st => Nat.le_trans (fold_sz mx order ps _) (chunk_sz mx order st p)
end
section
set_option maxRecDepth 100000
set_option maxHeartbeats 8000000
set_option hygiene false in
local macro_rules | `(tactic| walk_at "truthy str") => `(tactic| (refine truS (by walk_at "sz") ?_; walk_at "ikT"))
noncomputable abbrev sns : List Str := [Str.ofString "self", Str.ofString "fws", Str.ofString "string", Str.ofString "splitchars", Str.ofString "parts", Str.ofString "part"]
theorem Sml_of {ps : List Pr} {N : Nat} (h1 : ps.length ≤ N) (h2 : plen ps ≤ N) (hN : N ≤ 1000) : Sml ps :=
  ⟨by omega, by omega, fun p hp => by have := mem_plen hp; omega⟩
theorem prt_get {ps : List Pr} {k : Nat} {p : Pr} (h : ps[k]? = some p) : (prt ps)[2 * k]? = some p.1 ∧ (prt ps)[2 * k + 1]? = some p.2 := by
  induction ps generalizing k with
  | nil => simp at h
  | cons q r ih =>
    have e : prt (q :: r) = q.1 :: q.2 :: prt r := rfl
    cases k with
    | zero => simp at h; subst h; rw [e]; exact ⟨rfl, rfl⟩
    | succ k =>
      have := ih (k := k) (by simpa using h)
      rw [e, show 2 * (k + 1) = 2 * k + 1 + 1 by omega]
      simpa using this
theorem prt_len (ps : List Pr) : (prt ps).length = 2 * ps.length := by
  induction ps with
  | nil => rfl
  | cons q r ih => have e : prt (q :: r) = q.1 :: q.2 :: prt r := rfl
                   rw [e]; simp [ih]; omega
theorem BM.keeps {h₀ h₁ : Heap} {mg : Str → Option Value} (B : BM h₀ mg) (k : ∀ b o, h₀.get? b = some o → h₁.get? b = some o) : BM h₁ mg := by
  obtain ⟨bm, ob, a, b, c, d⟩ := B
  exact ⟨bm, ob, a, b, k _ _ c, d⟩
theorem BM.rebase {h₀ h : Heap} {cs led : Led} {mg : Str → Option Value} (B : BM h₀ mg) (M : Mm h₀ h (cs ++ led)) : BM (hideAll h (cs.map (·.1))) mg :=
  B.keeps fun b o e => hideAll_get _ (M.old b o e) fun q => by
    obtain ⟨p, hp, rfl⟩ := List.mem_map.mp q
    have := M.new p (List.mem_append_left _ hp)
    rw [e] at this; cases this
section
variable {w : World} {A : Around} {E : Value → Shared → Prop} {h₀ h : Heap} {g : Array GenState} {d : Drawn} {tk : Nat} {os : OsState} {led : Led} {mg mb : Str → Option Value} {m dm ln x dx : Addr} {a2 a3 : Value} {i j n k : Nat} {room mx : Nat} {t t1 t4 tf ts tc : Tok} {order text : List Nat}
theorem ascii_spec {Q : Value → Shared → Prop} {v4 : Value} (G : Gd w h₀ mg mb) (B : BM h₀ mg) (M : Mm h₀ h (mkl m dm ln x (.int mx t1) a2 a3 (.str (S order) t4) [] k (acl x dx [] n room t led))) (R : Rm A 15) (hb : AllBare g) (hsz : room ≤ 1000) (ho : order.length ≤ 1000) (hoa : Asc order)
   (htl : text.length ≤ 100) (hth : (nws text).1 ≠ [])
   (hq : ∀ h' g' tk' us lus j' n' t' X, Mm h₀ h' (mkl m dm ln x (.int mx t1) a2 a3 (.str (S order) t4) lus j' (acl x dx us n' ((spl text).foldl (chunkF mx order) ([], [], room)).2.2 t' (X ++ led))) → Strs lus ((spl text).foldl (chunkF mx order) ([], [], room)).1 → Prs (X ++ led) ((spl text).foldl (chunkF mx order) ([], [], room)).2.1 us → AllBare g' → Q .none ⟨h', g', d, tk', os⟩) :
   wpAny (MP w) A (call (.ref 134) [.ref m, .str (S []) tf, .str (S text) ts, v4]) Q E ⟨h, g, d, tk, os⟩ := by
  walk_at "fill"
  refine' wpAny_call (callE [Str.ofString "self", Str.ofString "fws", Str.ofString "string", Str.ofString "splitchars"] [Str.ofString "parts", Str.ofString "part"] [.ref m, .str (S []) tf, .str (S text) ts, v4] G M R.d ?ho ?hcd ?hbind ?hcell ?hloc ?nd ?hlen ?c1 ?c2 ?c3 ?_)
  walk_at "entered"
  intro L h' tk' E' M'
  dsimp only [List.map, List.cons_append, List.nil_append] at M'
  have R1 := fun env => Rm.deeper (R.le (by decide : 14 + 1 ≤ 15)) env
  have hh : A.handled = none := R.handled
  have hpl := spl_len text
  repeat walk1
  refine gmPat G M' ?_
  repeat walk1
  rename_i t2 k2
  refine splitP G M' (by omega) ?_
  intro P h3 k3 vs hvs hvl M3
  clear M M'
  have hpr := spP_spl text
  have hprl := prt_len (spl text)
  rw [← hpr] at hprl
  have hvl2 := hvs.len
  have hne : ∃ v r, vs = .str (S (nws text).1) v :: r := by
    rw [spP_splN _ text text.length (by omega) (Nat.le_refl _)] at hvs
    obtain ⟨ts, rfl, hts⟩ := hvs
    cases ts with
    | nil => simp at hts
    | cons y r => simp at hts; exact ⟨y.2, sv r, by simp [sv, hts.1]⟩
  obtain ⟨v0, vr, hv0⟩ := hne
  repeat walk1
  rename_i h4 k4 M4
  refine itemL (k := 0) M4 (by walk_at "at") (by rw [hv0]; rfl) (by rw [sizeLine_eq]; omega) ?_
  have hna := nws_len text
  repeat' walk1
  rotate_left
  · rename_i hq0
    exact absurd (by simpa using hq0) hth
  rename_i tN kN aN hN MM
  clear M3 M4
  refine ssL (a := 0) (b := 0) MM .n2 .n1 (MM.ne .n2 .n1 (by decide)) .none (.int _ _) rfl (show (some ((0 : Nat) : Int)).elim vs.length (clipAt vs.length) = 0 by simp only [Option.elim, clipAt_nat]; omega) (by rw [sizeLine_eq]; simp; omega) ?_
  intro h5 n5 M5
  dsimp only [List.set] at M5
  have e5 : ∀ z : Tok, vs.take 0 ++ [Value.str (S []) z] ++ vs.drop (max 0 0) = [.str (S []) z] ++ vs := fun z => by simp
  rw [e5] at M5
  have hvs2 : ∀ z : Tok, Strs ([.str (S []) z] ++ vs) (prt (spl text)) := fun z => by
    rw [← hpr]
    obtain ⟨ts, rfl, hts⟩ := hvs
    exact ⟨([], z) :: ts, rfl, by simp [hts]⟩
  have hvs3 := hvs2 tN
  generalize hv2 : [Value.str (S []) tN] ++ vs = vs2 at hvs3 M5
  clear MM
  repeat walk1
  refine wpAny_For ?_
  repeat walk1
  refine callWith_T ?_
  repeat walk1
  refine iterB M5 .n2 ?_
  intro it h6 M6
  clear M5
  repeat walk1
  rename_i l2 h7 M7
  clear M6
  refine mul2 M7 .n1 ?_
  intro l3 h8 M8
  clear M7
  repeat walk1
  refine starL (M' := ()) M8 .n1 (by simp) ?_
  intro h9 M9
  refine ⟨trivial, ?_⟩
  refine callZ M9 .n3 ?_
  intro z TI TO h10 M10
  clear M8 M9
  repeat walk1
  refine iterZ M10 .n1 ?_
  have M11 := M10.sub (.cons_cons _ (.cons_cons _ (.cons_cons _ (.cons_cons _ (.cons _ (.cons _ (.cons_cons _ (.cons _ (.refl _)))))))))
  clear M10
  let Pv1 : Around → Nat → Shared → Nat → Heap → (Array GenState) → Nat → (Option Value) → (Option Value) → Value → Value → (List Value) → (List Value) → Nat → Nat → Tok → Led → Prop := fun AX n0 s' kk h7 g7 k7 fv pv b0 b1 us lus j7 n7 t7 X => Am7 (n0 = (spl text).length - kk) (kk ≤ (spl text).length) (s' = ⟨h7, g7, d, k7, os⟩) (AllBare g7) (Strs lus (((spl text).take kk).foldl (chunkF mx order) ([], [], room)).1) (Prs (X ++ led) (((spl text).take kk).foldl (chunkF mx order) ([], [], room)).2.1 us) (Mm h₀ h7 ((L, .ns sns [some (.ref m), fv, some (.str (S text) ts), some v4, some (.ref P), pv]) :: (z, .obj (zipO .none TI TO)) :: (TI, .obj (tup [.ref it, .ref it])) :: (TO, .obj (tup [b0, b1])) :: (it, .obj (liter P (2 * kk))) :: (P, .obj (lo vs2 n5)) :: mkl m dm ln x (.int mx t1) a2 a3 (.str (S order) t4) lus j7 (acl x dx us n7 (((spl text).take kk).foldl (chunkF mx order) ([], [], room)).2.2 t7 (X ++ led))))
  let Iv1 : Around → Nat → Shared → Prop := fun AX n0 s' => Ex14 (Pv1 AX n0 s')
  refine forIA Iv1 ?turn (spl text).length ?start
  case start => exact ⟨0, _, _, _, _, _, _, _, _, _, _, _, _, [], rfl, Nat.zero_le _, rfl, hb, .nil, ⟨rfl, by simp⟩, M11⟩
  case turn =>
    clear M11
    intro n0 s' E2 hI0
    walk_at "hide"
    obtain ⟨kk, h7, g7, k7, fv, pv, b0, b1, us, lus, j7, n7, t7, X, rfl, hkk, rfl, hb7, hlus, hus, M12⟩ := hI0
    by_cases hlt : kk < (spl text).length
    · obtain ⟨p, hp⟩ : ∃ c, (spl text)[kk]? = some c := ⟨_, List.getElem?_eq_getElem hlt⟩
      obtain ⟨p1, p2⟩ := p
      obtain ⟨hg1, hg2⟩ := prt_get hp
      obtain ⟨y1, hy1⟩ := hvs3.get hg1
      obtain ⟨y2, hy2⟩ := hvs3.get hg2
      dsimp only at hy1 hy2
      refine nextZ M12 .z hy1 hy2 ?_
      intro T h8 M13
      try dsimp only
      refine goZ M13 .n1 ?_
      intro h9 M14
      dsimp only [List.set] at M14
      refine unpM M14 .n2 hh ?_
      intro h10 M15
      clear M12 M13 M14
      repeat walk1
      rename Mm _ _ _ => MM
      clear M15
      generalize hst : ((spl text).take kk).foldl (chunkF mx order) ([], [], room) = st at *
      have hbd := fold_bd mx order ((spl text).take kk) ([], [], room)
      rw [hst] at hbd
      have htk : plen ((spl text).take kk) ≤ text.length := by
        have := plen_take (spl text) kk
        omega
      have htl2 : ((spl text).take kk).length ≤ text.length + 1 := by rw [List.length_take]; omega
      have ht0 : tot (([], [], room) : FS) = 0 := rfl
      have hpb := mem_plen (List.mem_of_getElem? hp)
      have hp1 : plen [(p1, p2)] = p1.length + p2.length := by simp [plen]
      dsimp only at hpb hbd
      have hplst : plen st.2.1 ≤ tot st := by unfold tot; omega
      have hsum : (st.1.map List.length).sum ≤ tot st := by unfold tot; omega
      have hnl := nlps_bd st.2.1
      have hpa := plen_app st.2.1 [(p1, p2)]
      have hstep : ((spl text).take (kk + 1)).foldl (chunkF mx order) ([], [], room) = chunkF mx order (st.1, st.2.1, st.2.2) (p1, p2) := by
        rw [take_snoc hp, List.foldl_append, hst]; rfl
      simp only [List.length_nil] at hbd
      have M16 := Mm.rot (cs := [_, _, _, _, _, _, _]) (led := []) ([_, _, _, _, _, _, _] ++ (X ++ led)) (by rw [List.append_nil]; exact MM)
      rw [List.append_nil] at M16
      clear MM
      refine chunk_spec (h₀ := hideAll _ _) (lines := st.1) (ps := st.2.1) (led := X ++ led) (G.rebase M16) (B.rebase M16) M16.rebase ((R1 _).le (by decide)) hus (Sml_of (N := 500) (by simp; omega) (by omega) (by omega)) (Sml_of (N := 500) (by omega) (by omega) (by omega)) hlus (by omega) (fun l hl => by have := mem_sum hl; omega) hb7 ?_ ho hoa ?_
      · have := fold_sz mx order ((spl text).take kk) ([], [], room)
        rw [hst] at this
        dsimp only at this
        omega
      · intro h17 g17 k17 us' lus' j' n' t' X2 M17 hlus' hus' hb'
        have M18 := M16.unbase M17
        rw [← List.append_assoc X2 X led] at M18 hus'
        have M19 := Mm.rot (cs := mkl _ _ _ _ _ _ _ _ _ _ (acl _ _ _ _ _ _ ((X2 ++ X) ++ led))) (led := []) [_, _, _, _, _, _, _] (by rw [List.append_nil]; exact M18)
        rw [List.append_nil] at M19
        dsimp only [List.cons_append, List.nil_append] at M19
        have M20 := M19.sub (.cons_cons _ (.cons_cons _ (.cons _ (.refl _))))
        rw [← hstep] at hus' hlus' M20
        repeat walk1
        exact ⟨(spl text).length - (kk + 1), by omega, kk + 1, h17, g17, _, _, _, _, _, us', lus', j', n', t', X2 ++ X, rfl, hlt, rfl, hb', hlus', hus', M20⟩
    · have hke : kk = (spl text).length := by omega
      subst hke
      refine nextZE M12 .z (by have := prt_len (spl text); have := hvs3.len; omega) hh ?_
      intro h8 M13
      try dsimp only
      clear M12
      repeat walk1
      rw [List.take_length] at hlus hus M13
      exact hq _ _ _ _ _ _ _ _ _ M13.tail.tail hlus hus hb7
end
end
section
set_option maxRecDepth 100000
set_option maxHeartbeats 8000000
section
variable {w : World} {A : Around} {E : Value → Shared → Prop} {h₀ h : Heap} {g : Array GenState} {d : Drawn} {tk : Nat} {os : OsState} {led : Led} {mg mb : Str → Option Value} {m dm ln x dx : Addr} {a1 a2 a3 a4 : Value} {i j n k : Nat} {vs lvs : List Value} {sz mx room : Nat} {t t1 t2 t3 t4 : Tok} {ps : List Pr} {lines : List (List Nat)} {order en cw : List Nat}
theorem str_sp {Q : Value → Shared → Prop} (G : Gd w h₀ mg mb) (B : BM h₀ mg) (M : Mm h₀ h (mkl m dm ln x a1 a2 a3 a4 lvs k (acl x dx vs n sz t led))) (R : Rm A 13) (hps : Prs led ps vs)
   (H : Sml ps) (HN : Sml (nlps ps)) (hlv : Strs lvs lines) (hlz : lines.length ≤ 900) (hle : ∀ l ∈ lines, l.length ≤ 1000) (hb : AllBare g) (hsz : sz ≤ 1000) (hen : en.length ≤ 10) (hz : ((newlF lines sz ps).map List.length).sum ≤ 10000) (hz2 : (newlF lines sz ps).length ≤ 1000)
   (hq : ∀ h' g' tk' t', Mm h₀ h' ((190, .any TabP) :: (197, .any TabP) :: led) → AllBare g' → Q (.str (S (jn en (newlF lines sz ps))) t') ⟨h', g', d, tk', os⟩) :
   wpAny (MP w) A (call (.ref 92) [.ref m, .str (S en) t1]) Q E ⟨h, g, d, tk, os⟩ := by
  walk_at "fill"
  refine' wpAny_call (callE [Str.ofString "self", Str.ofString "linesep"] [] [.ref m, .str (S en) t1] G M R.d ?ho ?hcd ?hbind ?hcell ?hloc ?nd ?hlen ?c1 ?c2 ?c3 ?_)
  walk_at "entered"
  intro L h' tk' E' M'
  dsimp only [List.map, List.cons_append, List.nil_append] at M'
  have R1 := fun env => Rm.deeper (R.le (by decide : 12 + 1 ≤ 13)) env
  have hh : A.handled = none := R.handled
  repeat walk1
  have M2 := M'.rot (cs := [_]) [_, _, _, _, _, _, _]
  dsimp only [List.cons_append, List.nil_append] at M2
  refine newline_spec (lines := lines) G B M2 ((R1 _).le (by decide)) (hps.mono fun p hp => List.mem_cons_of_mem _ hp) ?_ H HN hlv (by omega) hle hb hsz
  intro h3 g3 k3 lus j3 n3 t3 M3 hlus hb3
  have M4 := M3.rot (cs := [_, _, _, _, _, _, _]) [_]
  dsimp only [List.cons_append, List.nil_append] at M4
  clear M M' M2 M3
  repeat walk1
  refine joinM M4 (by walk_at "at") hlus ?_ ?_
  · have : ∀ (xs : List (List Nat)), (xs.map fun p => p.length + en.length).sum = (xs.map List.length).sum + xs.length * en.length := by
      intro xs
      induction xs with
      | nil => simp
      | cons y r ih => simp [ih, Nat.succ_mul]; omega
    rw [this, sizeLine_eq]
    have h5 : (newlF lines sz ps).length * en.length ≤ 1000 * 10 := Nat.mul_le_mul hz2 hen
    omega
  · intro t5 k5
    exact hq _ _ _ _ (M4.sub (.cons _ (.cons _ (.cons _ (.cons _ (.cons_cons _ (.cons_cons _ (.cons _ (.cons _ (.refl _)))))))))) hb3
end
end
section
set_option maxRecDepth 100000
set_option maxHeartbeats 8000000
theorem Rm.under {A : Around} {n : Nat} (R : Rm A (n + 1)) (C : Addr) (vals : List Value) : Rm (A.under (.builtin "type.__call__" ⟨.ref C :: vals, []⟩)) n :=
  ⟨R.handled, by rw [depth_under_make]; have := R.depth; omega, by rw [units_under_make]; have := R.units; omega, let ⟨f, e⟩ := R.frames; ⟨f, e⟩⟩
section
variable {w : World} {A : Around} {E : Value → Shared → Prop} {h₀ h : Heap} {g : Array GenState} {d : Drawn} {tk : Nat} {os : OsState} {led : Led} {mg mb : Str → Option Value} {mx room : Nat} {t t1 t2 t4 : Tok} {order cw : List Nat}
theorem make_sp {Q : Value → Shared → Prop} (G : Gd w h₀ mg mb) (M : Mm h₀ h ((190, .any TabP) :: (197, .any TabP) :: led)) (R : Rm A 8) (hcw : cw.length ≤ 1000)
   (hq : ∀ m dm ln x dx h' tk' k' t' t3, Mm h₀ h' (mkl m dm ln x (.int mx t1) (.str (S cw) t2) (.int cw.length t3) (.str (S order) t4) [] k' (acl x dx [] 0 room t' led)) → Q (.ref m) ⟨h', g, d, tk', os⟩) :
   wpAny (MP w) A (call (.ref 144) [.int room t, .int mx t1, .str (S cw) t2, .str (S order) t4]) Q E ⟨h, g, d, tk, os⟩ := by
  refine wpAny_call (mkF fnames (by decide) G M ?_)
  intro m dm h1 M1
  walk_at "fill"
  refine' callE [Str.ofString "self", Str.ofString "headerlen", Str.ofString "maxlen", Str.ofString "continuation_ws", Str.ofString "splitchars"] [] [.ref m, .int room t, .int mx t1, .str (S cw) t2, .str (S order) t4] G M1 ?hroom ?ho ?hcd ?hbind ?hcell ?hloc ?nd ?hlen ?c1 ?c2 ?c3 ?_
  case hroom => exact (Rm.under (R.le (by decide : 7 + 1 ≤ 8)) _ _).d
  walk_at "entered"
  intro L h' tk' E' M'
  dsimp only [List.map, List.cons_append, List.nil_append] at M'
  have R1 := Rm.under (R.le (by decide : 7 + 1 ≤ 8)) 144 [.int room t, .int mx t1, .str (S cw) t2, .str (S order) t4]
  have R2 := fun env => Rm.deeper (R1.le (by decide : 6 + 1 ≤ 7)) env
  have hh := R1.handled
  repeat walk1
  rename Mm _ _ _ => M3
  refine wpAny_call (mkA [Str.ofString "_initial_size"] (by decide) G M3 ?_)
  intro x dx h4 M4
  refine init_spec G M4 (Rm.under ((R2 _).le (by omega : 5 + 1 ≤ 6)) _ _ |>.le (by omega)) ?_
  intro h5 k5 M5
  refine ⟨rfl, ?_⟩
  have M6 := M5.rot (cs := [_, _]) [_]
  dsimp only [List.cons_append, List.nil_append] at M6
  clear M M1 M' M3 M4 M5
  repeat walk1
  rename Mm _ _ _ => M7
  exact ⟨rfl, hq m dm _ x dx _ _ 0 _ _ (M7.tail.perm (by walk_at "perm"))⟩
end
end
section
set_option maxRecDepth 100000
set_option maxHeartbeats 1000000
theorem runs_toks {M : Model} {Γ : Ctx} {p : Pos} {t : Sem Fin} {fs : List PySem.Frame} {s s' : Shared} {e : End} (h : Runs M Γ p t fs s e s') : s.toks ≤ s'.toks := by
  induction h
  all_goals first
    | exact Nat.le_refl _
    | assumption
    | (dsimp only at *; omega)
    | (simp only [Shared.setGen] at *; omega)
    | omega
theorem wakes_toks {M : Model} {Γ : Ctx} {p : Pos} {g : Nat} {r : Resume} {s s' : Shared} {res : GenResult} (h : Wakes M Γ p g r s res s') : s.toks ≤ s'.toks := by
  unfold Wakes at h
  split at h
  · exact h.elim
  · split at h
    · obtain ⟨e, s1, h1, _, _, rfl⟩ := h
      have := runs_toks h1
      simpa [Shared.setGen] using this
    · rw [h.2]; exact Nat.le_refl _
    · rw [h.2]; exact Nat.le_refl _
  · obtain ⟨e, s1, h1, _, _, rfl⟩ := h
    have := runs_toks h1
    simpa [Shared.setGen] using this
  · rw [h.2]; exact Nat.le_refl _
  · rw [h.2]; exact Nat.le_refl _
theorem wp_toks {α : Type} (M : Model) (Γ : Ctx) (t : Sem α) (Q : α → Pos → Shared → Prop) (E : Value → Pos → Shared → Prop) (n : Nat) : ∀ (p : Pos) (s : Shared), n ≤ s.toks → Sem.wp M Γ t Q E p s → Sem.wp M Γ t (fun a p' s' => n ≤ s'.toks ∧ Q a p' s') E p s := by
  induction t with
  | pure a => intro p s hn h; exact ⟨hn, h⟩
  | raise e => intro p s hn h; exact h
  | unsupported _ => intro p s hn h; exact h
  | finish _ => intro p s hn h; exact h
  | rule _ k ih => intro p s hn h; exact ih _ p s hn h
  | «at» p' k ih => intro p s hn h; exact ih _ p' s hn h
  | load a _ k ih => intro p s hn ⟨o, ho, h⟩; exact ⟨o, ho, ih _ p s hn h⟩
  | update a _ f k ih => intro p s hn ⟨ho, h⟩; exact ⟨ho, ih _ p _ hn h⟩
  | loadIfAlive a k ih => intro p s hn h; exact ih _ p s hn h
  | point _ k ih => intro p s hn h; exact ih _ p s hn h
  | register _ _ _ => intro p s hn h; exact h
  | alloc o k ih => intro p s hn h; exact ih _ p _ hn h
  | fresh k ih => intro p s hn h; exact ih _ p _ (Nat.le_succ_of_le hn) h
  | ask k ih => intro p s hn h; exact ih _ p s hn h
  | choose src m k ih => intro p s hn ⟨h0, h⟩; exact ⟨h0, ih _ p _ hn h⟩
  | os q _ k ih => intro p s hn h; exact ih _ p _ hn h
  | call c hd g l k ih =>
    intro p s hn ⟨r, s', hr, h⟩
    exact ⟨r, s', hr, ih _ p s' (Nat.le_trans hn (runs_toks hr)) h⟩
  | handled own k ih => intro p s hn h; exact ih _ p s hn h
  | genState g k ih => intro p s hn ⟨st, hs, h⟩; exact ⟨st, hs, ih _ p s hn h⟩
  | newGen c k ih => intro p s hn h; exact ih _ p _ hn h
  | resume g r _ k ih =>
    intro p s hn ⟨res, s', hr, h⟩
    exact ⟨res, s', hr, ih _ p s' (Nat.le_trans hn (wakes_toks hr)) h⟩
  | yield _ _ _ _ _ => intro p s hn h; exact h
  | stack k ih => intro p s hn h; exact ih _ p s hn h
  | fork _ _ _ => intro p s hn h; exact h
  | thread k ih => intro p s hn h; exact ih _ p s hn h
  | await _ _ _ _ _ _ => intro p s hn h; exact h
/-- the tokens only grow -/
theorem wpAny_up {α : Type} {M : Model} {A : Around} {E : Value → Shared → Prop} {s : Shared} {t : Sem α} {Q : α → Shared → Prop} (h : wpAny M A t (fun a s' => s.toks ≤ s'.toks → Q a s') E s) : wpAny M A t Q E s := fun Γ p hΓ =>
  Sem.wp_mono M Γ t (fun a p' s' z => z.2 z.1) (fun _ _ _ z => z) _ _ (wp_toks M Γ t _ _ s.toks p s (Nat.le_refl _) (h Γ p hΓ))
section
variable {prog : Program} {w : World} {A : Around} {E : Value → Shared → Prop} {h₀ h : Heap} {g : Array GenState} {d : Drawn} {tk : Nat} {os : OsState} {led : Led} {Q : Value → Shared → Prop} {a : Addr} {vs : List Value} {n i : Nat} {t u v : Tok} {l k pat : List Nat} {env : Env}
theorem cst1 {x : Str} {kd : Nat} {pos : Pos} (e : x = S l) (hq : Q (.str (S l) tk) ⟨h, g, d, tk + 1, os⟩) : wpAny (model prog w) A (eval (.Constant (.str x) kd pos) env) Q E ⟨h, g, d, tk, os⟩ := by
  subst e; exact Constant_str hq
noncomputable def strk (pat : List Nat) : Nat → List Nat → List Nat
  | _, [] => []
  | 0, c :: r => if pat.isPrefixOf (c :: r) then strk pat (pat.length - 1) r else c :: strk pat 0 r
  | k + 1, _ :: r => strk pat k r
noncomputable def occF (pat : List Nat) : Nat → Nat → List Nat → List Nat
  | _, _, [] => []
  | i, free, c :: r => if free ≤ i ∧ pat.isPrefixOf (c :: r) = true then i :: occF pat (i + 1) (i + pat.length) r else occF pat (i + 1) free r
theorem pre_iff (l : List Nat) (i : Nat) : (i + (S pat).length ≤ (S l).length ∧ subAt (S l) (S pat) i = true) ↔ pat.isPrefixOf (l.drop i) = true ∧ i ≤ l.length := by
  rw [S_len, S_len, List.isPrefixOf_iff_prefix]
  have e : subAt (S l) (S pat) i = true ↔ (l.drop i).take pat.length = pat := by
    unfold subAt
    rw [S_len]
    simp only [S, beq_iff_eq, List.extract_toArray, List.extract_eq_take_drop, Nat.add_sub_cancel_left]
    constructor
    · intro z; simpa using z
    · intro z; rw [z]
  rw [e]
  constructor
  · rintro ⟨h1, h2⟩
    refine ⟨?_, by omega⟩
    rw [← h2]; exact List.take_prefix _ _
  · rintro ⟨⟨t, h⟩, hi⟩
    have hl := congrArg List.length h
    simp at hl
    refine ⟨by omega, ?_⟩
    rw [← h]; simp
theorem occ_loop (hp : pat ≠ []) (l : List Nat) (lim : Nat) (hlim : l.length < lim) : ∀ (r : List Nat) (i free : Nat) (acc : Array Nat), l.drop i = r → i ≤ l.length → acc.size ≤ i →
    (forIn (List.range' i (r.length + 1)) (acc, free) (StrLaws.occBody (S l) (S pat) (S l).length lim)).run.fst.toList = acc.toList ++ occF pat i free r
  | [], i, free, acc, hd, hi, ha => by
    have hle : l.length ≤ i := List.drop_eq_nil_iff.mp hd
    have hie : i = l.length := by omega
    have hpl : 1 ≤ pat.length := by cases pat; exact absurd rfl hp; simp
    simp only [List.length_nil, Nat.zero_add, List.range'_one, List.forIn_cons, List.forIn_nil]
    unfold StrLaws.occBody
    rw [if_neg]
    · simp [occF]
    · intro z
      have := z.1.2
      rw [S_len, S_len] at this
      omega
  | c :: r, i, free, acc, hd, hi, ha => by
    have hlt : i < l.length := by
      rcases Nat.lt_or_ge i l.length with q | q
      · exact q
      · rw [List.drop_eq_nil_of_le q] at hd; cases hd
    have hd' : l.drop (i + 1) = r := by
      rw [← List.drop_drop, List.drop_one, hd]; rfl
    have hpi := pre_iff (pat := pat) l i
    rw [List.length_cons, List.range'_succ, List.forIn_cons]
    unfold StrLaws.occBody
    by_cases hc : free ≤ i ∧ pat.isPrefixOf (c :: r) = true
    · have z := hpi.mpr ⟨by rw [hd]; exact hc.2, hi⟩
      rw [if_pos ⟨⟨⟨by dsimp only; omega, hc.1⟩, z.1⟩, z.2⟩]
      have ih := occ_loop hp l lim hlim r (i + 1) (i + pat.length) (acc.push i) hd' (by omega) (by simp; omega)
      rw [occF, if_pos hc]
      rw [Array.toList_push, List.append_assoc] at ih
      rw [S_len] at ih ⊢
      exact ih
    · rw [if_neg]
      · have ih := occ_loop hp l lim hlim r (i + 1) free acc hd' (by omega) (by omega)
        rw [occF, if_neg hc]
        exact ih
      · intro z
        have := hpi.mp ⟨z.1.2, z.2⟩
        rw [hd] at this
        exact hc ⟨z.1.1.2, this.1⟩
theorem occ_is (hp : pat ≠ []) (l : List Nat) : occurrences (S l) (S pat) 0 (S l).length ((S l).length + 1) = occF pat 0 0 l := by
  rw [StrLaws.occ_eq]
  have := occ_loop hp l ((S l).length + 1) (by rw [S_len]; omega) l 0 0 #[] rfl (Nat.zero_le _) (Nat.zero_le _)
  rw [show (S l).length + 1 - 0 = l.length + 1 by rw [S_len]; rfl]
  simpa using this
noncomputable def prL (l : List Nat) (w : Nat) : Nat → List Nat → List (List Nat)
  | a, [] => [(l.drop a).take (l.length - a)]
  | a, c :: r => (l.drop a).take (c - a) :: prL l w (c + w) r
theorem sub_S (l : List Nat) (a c : Nat) : strSub (S l) a c = S ((l.drop a).take (c - a)) := by
  apply S_of; rw [StrLaws.strSub_toList, S_list]
theorem pr_S (l : List Nat) (w : Nat) : ∀ (cuts : List Nat) (a : Nat), StrLaws.partsFrom (S l) w a cuts = (prL l w a cuts).map S
  | [], a => by show [strSub _ _ _] = _; rw [sub_S, S_len]; rfl
  | c :: r, a => by
    show strSub _ _ _ :: StrLaws.partsFrom _ _ _ _ = _
    rw [sub_S, pr_S l w r]; rfl
theorem pr_strk (hp : pat ≠ []) (l : List Nat) : ∀ (r : List Nat) (i free : Nat), l.drop i = r → i ≤ l.length → (prL l pat.length free (occF pat i free r)).flatten = (l.drop free).take (i - free) ++ strk pat (free - i) r
  | [], i, free, hd, hi => by
    have hle : l.length ≤ i := List.drop_eq_nil_iff.mp hd
    have hie : i = l.length := by omega
    subst hie
    simp [occF, prL, strk]
  | c :: r, i, free, hd, hi => by
    have hpl : 1 ≤ pat.length := by cases pat; exact absurd rfl hp; simp
    have hlt : i < l.length := by
      rcases Nat.lt_or_ge i l.length with q | q
      · exact q
      · rw [List.drop_eq_nil_of_le q] at hd; cases hd
    have hd' : l.drop (i + 1) = r := by
      rw [← List.drop_drop, List.drop_one, hd]; rfl
    by_cases hf : free ≤ i
    · by_cases hm : pat.isPrefixOf (c :: r) = true
      · have ih := pr_strk hp l r (i + 1) (i + pat.length) hd' (by omega)
        rw [occF, if_pos ⟨hf, hm⟩, prL, List.flatten_cons, ih, show i + 1 - (i + pat.length) = 0 by omega, show free - i = 0 by omega, strk, if_pos hm, show i + pat.length - (i + 1) = pat.length - 1 by omega]
        simp
      · have ih := pr_strk hp l r (i + 1) free hd' (by omega)
        rw [occF, if_neg (fun z => hm z.2), ih, show free - (i + 1) = 0 by omega, show free - i = 0 by omega, strk, if_neg hm, show i + 1 - free = i - free + 1 by omega, List.take_add_one]
        have : (l.drop free)[i - free]? = some c := by
          rw [List.getElem?_drop, show free + (i - free) = i by omega]
          have := List.getElem?_drop (xs := l) (i := i) (j := 0)
          rw [hd] at this; simpa using this.symm
        rw [this]; simp
    · have ih := pr_strk hp l r (i + 1) free hd' (by omega)
      rw [occF, if_neg (fun z => hf z.1), ih, show i + 1 - free = 0 by omega, show i - free = 0 by omega, show free - i = (free - (i + 1)) + 1 by omega, strk]
theorem replace_S (hp : pat ≠ []) (l : List Nat) : Txt.replace (S l) (S pat) (S []) = S (strk pat 0 l) := by
  have key := pr_strk hp l l 0 0 rfl (Nat.zero_le _)
  simp only [Nat.sub_self, List.take_zero, List.nil_append] at key
  have hpl : ((S pat).length == 0) = false := by rw [S_len]; cases pat; exact absurd rfl hp; simp
  unfold Txt.replace
  rw [hpl, Bool.false_and, Bool.or_false, occ_is hp]
  split
  · rename_i he
    have : occF pat 0 0 l = [] := by simpa using he
    rw [this] at key
    rw [← key]; simp [prL]
  · rw [StrLaws.partsBetween_eq, S_len, pr_S, glued_S, jn_nil, key]
noncomputable def has (pat : List Nat) : List Nat → Bool
  | [] => pat.isPrefixOf []
  | c :: r => pat.isPrefixOf (c :: r) || has pat r
theorem has_iff (pat : List Nat) : ∀ l : List Nat, has pat l = true ↔ ∃ i, pat.isPrefixOf (l.drop i) = true ∧ i ≤ l.length
  | [] => ⟨fun z => ⟨0, z, Nat.le_refl _⟩, fun ⟨i, z, hi⟩ => by simpa [has] using z⟩
  | c :: r => by
    rw [has, Bool.or_eq_true, has_iff pat r]
    constructor
    · rintro (z | ⟨i, z, hi⟩)
      · exact ⟨0, z, Nat.zero_le _⟩
      · exact ⟨i + 1, z, by simp; omega⟩
    · rintro ⟨i, z, hi⟩
      cases i with
      | zero => exact .inl z
      | succ i => exact .inr ⟨i, z, by simp at hi; omega⟩
theorem inS (hq : Q (.bool (has pat l)) ⟨h, g, d, tk, os⟩) : wpAny (model prog w) A (compareOp .In (.str (S pat) u) (.str (S l) t)) Q E ⟨h, g, d, tk, os⟩ := by
  refine P.in_str ?_
  have e : (!(occurrences (S l) (S pat) 0 (S l).length 1).isEmpty) = has pat l := by
    rw [Bool.eq_iff_iff, StrLaws.found_iff, has_iff]
    exact ⟨fun ⟨i, z⟩ => ⟨i, (pre_iff l i).mp z⟩, fun ⟨i, z⟩ => ⟨i, (pre_iff l i).mpr z⟩⟩
  rw [e]; exact hq
theorem repS (hp : pat ≠ []) (hu : u ≠ 0) (hv : v ≠ 0) (huv : u ≠ v) (hz : l.length ≤ 100000) (hq : ∀ t' k', Q (.str (S (strk pat 0 l)) t') ⟨h, g, d, k', os⟩) :
    wpAny (model prog w) A (call (.builtin "str.replace") [.str (S l) t, .str (S pat) u, .str (S []) v]) Q E ⟨h, g, d, tk, os⟩ := by
  refine SC.replace hu hv huv ?_ (by rw [S_len, S_len]; simp; omega) (fun t' k' => ?_)
  · rw [S_beq]; exact decide_eq_false hp
  · rw [replace_S hp]; exact hq t' k'
theorem inL {ns : List Int} {z : Int} (M : Mm h₀ h led) (e : At led i (a, .obj (lo vs n))) (hi : Ints vs ns) (hz : vs.length ≤ 1000) (hq : Q (.bool (decide (z ∈ ns))) ⟨h, g, d, tk, os⟩) : wpAny (model prog w) A (compareOp .In (.int z t) (.ref a)) Q E ⟨h, g, d, tk, os⟩ := by
  obtain ⟨ts, rfl, rfl⟩ := hi
  refine in_list_ints (vs := iv ts) (ns := ts.map (·.1)) ⟨_, M.get i e, rfl, n, rfl⟩ ?_ ?_
  · clear hz hq e
    induction ts with
    | nil => exact .nil
    | cons p r ih => exact .cons _ _ ih
  · have : (ts.map (·.1)).any (fun x => x == z) = decide (z ∈ ts.map (·.1)) := by
      rw [Bool.eq_iff_iff]; simp
    rw [this]; exact hq
end
end
section
set_option maxRecDepth 100000
set_option maxHeartbeats 1000000
theorem whI {prog : Program} {w : World} {A : Around} {E : Value → Shared → Prop} {Q : Flow → Shared → Prop} {test : Expr} {body orelse : List Stmt} {env : Env} {s : Shared} (I : Nat → Shared → Prop)
    (turn : ∀ n s E', I n s → wpAny (model prog w) A (isTrue test env (eval test env)) (fun b s₂ =>
        if b then wpAny (model prog w) A (execs body env) (fun f s₃ => match f with
            | .next | .cont => Again I n s₃
            | .brk => Q .next s₃
            | .ret v => Q (.ret v) s₃) E' s₂
        else wpAny (model prog w) A (execs orelse env) Q E' s₂) E' s)
    (n : Nat) (h : I n s) : codeAny (model prog w) A (.whileLoop test body orelse env) (fun r s' => match r with | .ok f => Q f s' | .error e => cameBackBy (model prog w) A env E e s') s :=
  codeAny_whileLoop I (fun n s hI => turn n s _ hI) n h
theorem pick_to (vs : List Value) (k : Nat) : slicePick vs.toArray none (some (k : Int)) none = (vs.take k).toArray := slicePick_upto' vs.toArray k
theorem rep2_strk : ∀ l : List Nat, rep2 l = strk [40, 41] 0 l
  | [] => rfl
  | [c] => by
    rw [strk, rep2]
    · rw [if_neg (by simp [List.isPrefixOf])]; simp [strk, rep2]
    · intro r q1 q2; cases q2
  | c :: c' :: r => by
    by_cases h : c = 40 ∧ c' = 41
    · obtain ⟨rfl, rfl⟩ := h
      rw [rep2, strk, if_pos (by simp [List.isPrefixOf])]
      show _ = strk [40, 41] 1 (41 :: r)
      rw [strk, rep2_strk r]
    · rw [rep2, strk, if_neg (by simp [List.isPrefixOf]; omega), rep2_strk (c' :: r)]
      intro x q1 q2
      injection q2 with e1 e2; exact h ⟨q1, e1⟩
theorem has2_has : ∀ l : List Nat, has2 l = has [40, 41] l
  | [] => rfl
  | [c] => by
    rw [has, has2]
    · simp [List.isPrefixOf, has, has2]
    · intro r q1 q2; cases q2
  | c :: c' :: r => by
    by_cases h : c = 40 ∧ c' = 41
    · obtain ⟨rfl, rfl⟩ := h
      rw [has2, has]; simp [List.isPrefixOf]
    · rw [has2, has, has2_has (c' :: r)]
      · have : ([40, 41] : List Nat).isPrefixOf (c :: c' :: r) = false := by
          rw [Bool.eq_false_iff]; simp [List.isPrefixOf]; omega
        rw [this]; simp
      · intro x q1 q2
        injection q2 with e1 e2; exact h ⟨q1, e1⟩
theorem rep2_len : ∀ l : List Nat, (rep2 l).length ≤ l.length ∧ (has2 l = true → (rep2 l).length < l.length)
  | [] => ⟨Nat.le_refl _, by simp [has2]⟩
  | [c] => ⟨by simp [rep2], by simp [has2]⟩
  | c :: c' :: r => by
    by_cases h : c = 40 ∧ c' = 41
    · obtain ⟨rfl, rfl⟩ := h
      have := (rep2_len r).1
      rw [rep2]
      exact ⟨by simp; omega, fun _ => by simp; omega⟩
    · have ih := rep2_len (c' :: r)
      have e1 : rep2 (c :: c' :: r) = c :: rep2 (c' :: r) := by
        rw [rep2]; intro x q1 q2; injection q2 with e1 e2; exact h ⟨q1, e1⟩
      have e2 : has2 (c :: c' :: r) = has2 (c' :: r) := by
        rw [has2]; intro x q1 q2; injection q2 with e1 e2; exact h ⟨q1, e1⟩
      rw [e1, e2]
      exact ⟨by have := ih.1; simp at this ⊢; omega, fun z => by have := ih.2 z; simp at this ⊢; omega⟩
theorem redN_up : ∀ (n : Nat) (l : List Nat), l.length ≤ n → redN n l = redN l.length l := by
  intro n
  induction n using Nat.strongRecOn with
  | ind n ih =>
    intro l hl
    cases n with
    | zero => have : l.length = 0 := by omega
              rw [this]
    | succ n =>
      by_cases h : has2 l = true
      · have h2 := (rep2_len l).2 h
        obtain ⟨k, hk⟩ : ∃ k, l.length = k + 1 := ⟨l.length - 1, by omega⟩
        rw [hk, redN, redN, if_pos h, if_pos h, ih n (by omega) (rep2 l) (by omega)]
        by_cases hkn : k = n
        · subst hkn
          rw [ih k (by omega) (rep2 l) (by omega)]
        · rw [ih k (by omega) (rep2 l) (by omega)]
      · cases hl2 : l.length with
        | zero =>
          have : l = [] := List.eq_nil_of_length_eq_zero hl2
          subst this; rfl
        | succ k => rw [redN, if_neg h, redN, if_neg h]
theorem redN_step {l : List Nat} (h : has2 l = true) : redN l.length l = redN (rep2 l).length (rep2 l) := by
  have h2 := (rep2_len l).2 h
  obtain ⟨k, hk⟩ : ∃ k, l.length = k + 1 := ⟨l.length - 1, by omega⟩
  rw [hk, redN, if_pos h, redN_up k _ (by omega)]
theorem redN_stop {l : List Nat} (h : has2 l = false) : redN l.length l = l := by
  cases hl : l.length with
  | zero => rw [redN]
  | succ k => rw [redN, if_neg (by rw [h]; decide)]
theorem seenRows_snoc (marks br en : List Nat) (row : List Nat) : ∀ (rows : List (List Nat)) (n : Nat) (st : SS), seenRows marks br en n st (rows ++ [row]) = seenRow marks br en (n + rows.length) (seenRows marks br en n st rows) row
  | [], n, st => rfl
  | r :: rows, n, st => by
    show seenRows marks br en (n + 1) _ (rows ++ [row]) = _
    rw [seenRows_snoc marks br en row rows (n + 1), List.length_cons, show n + 1 + rows.length = n + (rows.length + 1) by omega]
    rfl
theorem Ints.takeI {vs : List Value} {xs : List Int} (h : Ints vs xs) (k : Nat) : Ints (vs.take k) (xs.take k) := by
  obtain ⟨ts, rfl, rfl⟩ := h
  exact ⟨ts.take k, by simp [iv], by simp⟩
theorem seenRow_bd (marks br : List Nat) : ∀ (row : List Nat) (st : SS), (row.foldl (seenStep marks br) st).1.length ≤ st.1.length + row.length ∧ (row.foldl (seenStep marks br) st).2.1.length ≤ st.2.1.length + row.length ∧ (row.foldl (seenStep marks br) st).2.2.2 = st.2.2.2 + row.length
  | [], st => ⟨Nat.le_refl _, Nat.le_refl _, rfl⟩
  | c :: row, st => by
    have ih := seenRow_bd marks br row (seenStep marks br st c)
    rw [List.foldl_cons, List.length_cons]
    have h1 : (seenStep marks br st c).1.length ≤ st.1.length + 1 ∧ (seenStep marks br st c).2.1.length ≤ st.2.1.length + 1 ∧ (seenStep marks br st c).2.2.2 = st.2.2.2 + 1 := by
      unfold seenStep
      split
      · exact ⟨by simp, by simp, rfl⟩
      · split
        · refine ⟨by simp, ?_, rfl⟩
          dsimp only; split <;> simp
        · exact ⟨by simp, by simp, rfl⟩
    exact ⟨ar7 ih.1 h1.1, ar7 ih.2.1 h1.2.1, ar8 ih.2.2 h1.2.2⟩
theorem seenRows_bd (marks br en : List Nat) (hen : en.length ≤ 2) : ∀ (rows : List (List Nat)) (n : Nat) (st : SS), (seenRows marks br en n st rows).1.length ≤ st.1.length + rows.flatten.length + 2 * rows.length ∧ (seenRows marks br en n st rows).2.1.length ≤ st.2.1.length + rows.flatten.length
  | [], n, st => ⟨Nat.le_refl _, Nat.le_refl _⟩
  | row :: rows, n, st => by
    have ih := seenRows_bd marks br en hen rows (n + 1) (seenRow marks br en n st row)
    have h1 := seenRow_bd marks br row (if 0 < n ∧ st.2.2.1 = false then (st.1 ++ en, st.2) else st)
    have h2 : (if 0 < n ∧ st.2.2.1 = false then (st.1 ++ en, st.2) else st).1.length ≤ st.1.length + 2 ∧ (if 0 < n ∧ st.2.2.1 = false then (st.1 ++ en, st.2) else st).2.1.length = st.2.1.length := by
      split
      · exact ⟨by simp; omega, rfl⟩
      · exact ⟨by omega, rfl⟩
    rw [List.flatten_cons, List.length_append, List.length_cons]
    show (seenRows marks br en (n + 1) (seenRow marks br en n st row) rows).1.length ≤ _ ∧ _
    have e : seenRow marks br en n st row = row.foldl (seenStep marks br) (if 0 < n ∧ st.2.2.1 = false then (st.1 ++ en, st.2) else st) := rfl
    rw [← e] at h1
    have e2 : seenRows marks br en n st (row :: rows) = seenRows marks br en (n + 1) (seenRow marks br en n st row) rows := rfl
    rw [e2]
    exact ⟨ar3 ih.1 h1.1 h2.1, ar4 ih.2 h1.2.1 h2.2⟩
noncomputable def dummyB20 : Nat := 0
end
section
set_option maxRecDepth 100000
set_option maxHeartbeats 8000000
set_option hygiene false in
local macro_rules | `(tactic| walk_at "compareOp In int ref") => `(tactic| refine inL (by assumption) (by walk_at "at") (by assumption) (by assumption) ?_)
set_option hygiene false in
local macro_rules | `(tactic| walk_at "eval Constant str") => `(tactic| first | (refine cst1 lit_nil ?_) | (refine cst1 lit_q ?_) | (refine cst1 lit_pair ?_))
set_option hygiene false in
local macro_rules | `(tactic| walk_at "compareOp In str str") => `(tactic| refine inS ?_)
set_option hygiene false in
local macro_rules | `(tactic| walk_at "call builtin:str.replace") => `(tactic| (refine repS (by decide) (by first | omega +splitNatSub | (dsimp only; omega +splitNatSub)) (by first | omega +splitNatSub | (dsimp only; omega +splitNatSub)) (by first | omega +splitNatSub | (dsimp only; omega +splitNatSub)) (by omega +splitNatSub) ?_; walk_at "itk"))
noncomputable abbrev lns : List Str := [Str.ofString "rows", Str.ofString "end", Str.ofString "whole", Str.ofString "marks", Str.ofString "brackets", Str.ofString "shown", Str.ofString "outer", Str.ofString "inside", Str.ofString "place", Str.ofString "n", Str.ofString "sign"]
set_option hygiene false in
local macro_rules | `(tactic| walk_at "call builtin:len") => `(tactic| (refine lenL (by assumption) (by walk_at "at") (by walk_at "sz") ?_; walk_at "itk"))
section
variable {w : World} {A : Around} {E : Value → Shared → Prop} {h₀ h : Heap} {g : Array GenState} {d : Drawn} {tk : Nat} {os : OsState} {led : Led} {mg mb : Str → Option Value} {i j n k : Nat} {vs : List Value} {te : Tok} {rows : List (List Nat)} {en : List Nat} {a : Addr}
theorem seen_spec {Q : Value → Shared → Prop} (G : Gd w h₀ mg mb) (M : Mm h₀ h led) (R : Rm A 6) (e : At led i (a, .obj (lo vs n))) (hvs : Strs vs rows) (hr : rows.length ≤ 500) (hrl : rows.flatten.length ≤ 500) (ha : ∀ r ∈ rows, Asc r) (hen : en.length ≤ 2)
   (hq : ∀ T h' tk' t', Mm h₀ h' ((T, .obj (tup [.str (S (seenL rows en).1) t', .bool (closedL (seenL rows en).2.1)])) :: led) → Q (.ref T) ⟨h', g, d, tk', os⟩) :
   wpAny (MP w) A (call (.ref 253) [.ref a, .str (S en) te]) Q E ⟨h, g, d, tk, os⟩ := by
  walk_at "fill"
  refine' wpAny_call (callE [Str.ofString "rows", Str.ofString "end"] [Str.ofString "whole", Str.ofString "marks", Str.ofString "brackets", Str.ofString "shown", Str.ofString "outer", Str.ofString "inside", Str.ofString "place", Str.ofString "n", Str.ofString "sign"] [.ref a, .str (S en) te] G M R.d ?ho ?hcd ?hbind ?hcell ?hloc ?nd ?hlen ?c1 ?c2 ?c3 ?_)
  walk_at "entered"
  intro L h' tk' E' M'
  dsimp only [List.map, List.cons_append, List.nil_append] at M'
  have R1 := fun env => Rm.deeper (R.le (by decide : 5 + 1 ≤ 6)) env
  have hh : A.handled = none := R.handled
  have hvl := hvs.len
  have hsum : (rows.map List.length).sum ≤ 500 := by rw [← List.length_flatten]; exact hrl
  repeat walk1
  refine joinM0 M' (.s e) hvs (by rw [sizeLine_eq]; show (rows.map List.length).sum ≤ _; omega) ?_
  intro t1 k1
  repeat walk1
  rename Mm _ _ _ => M2
  refine bare_spec G M2 ((R1 _).le (by decide)) (by omega) ?_
  intro b1 h3 k3 vs1 n1 hv1 M3
  clear M M' M2
  have hv1l := hv1.len
  rw [List.length_map] at hv1l
  have hbl := bareL_len rows.flatten [34] rows.flatten.length
  repeat walk1
  rename Mm _ _ _ => M4
  refine slL (vs := vs1) (n := n1) (r := vs1.take (vs1.length / 2 * 2)) M4 (by walk_at "at") .none (.int _ _) ?hr0 (by rw [sizeLine_eq]; omega) ?_
  case hr0 =>
    refine Eq.trans ?_ (pick_to vs1 (vs1.length / 2 * 2))
    congr 2
    rw [Int.fdiv_eq_ediv_of_nonneg _ (by omega)]
    omega
  intro b2 h5 M5
  clear M3 M4
  repeat walk1
  rename Mm _ _ _ => M6
  clear M5
  refine bare_spec G M6 ((R1 _).le (by decide)) (by omega) ?_
  intro b3 h7 k7 vs2 n2 hv2 M7
  clear M6
  have hv2l := hv2.len
  rw [List.length_map] at hv2l
  have hbl2 := bareL_len rows.flatten [40, 41] rows.flatten.length
  repeat walk1
  rename Mm _ _ _ => M8
  clear M7
  have M9 := M8.rot (cs := [_, _, _]) [_]
  dsimp only [List.cons_append, List.nil_append] at M9
  have M10 := ((M9.perm ((List.Perm.swap _ _ _).cons _)).sub (.cons_cons _ (.cons _ (.refl _)))).perm ((List.Perm.swap _ _ _).cons _)
  clear M8 M9
  have hm : Ints (vs1.take (vs1.length / 2 * 2)) ((marksL rows.flatten).map (fun (k : Nat) => (k : Int))) := by
    have := hv1.takeI (vs1.length / 2 * 2)
    rw [← List.map_take, hv1l] at this
    rw [hv1l]
    exact this
  have hml : (vs1.take (vs1.length / 2 * 2)).length ≤ 1000 := by rw [List.length_take]; omega
  have hbl3 : vs2.length ≤ 1000 := by omega
  generalize vs1.take (vs1.length / 2 * 2) = vsm at *
  have hz0 : seenL rows en = seenRows (marksL rows.flatten) (bareL rows.flatten [40, 41] rows.flatten.length) en 0 ([], [], false, 0) rows := rfl
  have hW : rows.flatten = rows.flatten := rfl
  generalize hwd : rows.flatten = W at *
  generalize marksL W = mk at *
  generalize bareL W [40, 41] W.length = br at *
  set_option tactic.hygienic false in (revert vsm W mk br; refine Mine.hold ?_; intros)
  let Pv1 : Shared → Heap → Nat → Tok → Tok → Tok → (Option Value) → (Option Value) → (Option Value) → Prop := fun s' h7 k7 t1' t2' t3' pv nv sv => Am2 (s' = ⟨h7, g, d, k7, os⟩) (Mm h₀ h7 ((L, .ns lns [some (.ref a), some (.str (S en) te), some (.str (S W) t1), some (.ref b2), some (.ref b3), some (.str (S (seenL rows en).1) t1'), some (.str (S (seenL rows en).2.1) t2'), some (.bool (seenL rows en).2.2.1), pv, nv, sv]) :: (b2, .obj (lo vsm 0)) :: (b3, .obj (lo vs2 n2)) :: led))
  let Iv1 : Shared → Prop := fun s' => Ex8 (Pv1 s')
  refine midZ Iv1 ?f1 ?f2
  case f1 =>
    refine wpAny_For ?_
    repeat walk1
    refine lenL M10 (.s (.s (.s e))) (by rw [sizeLine_eq]; omega) ?_
    intro t20 k20
    repeat walk1
    rename_i rg h11 k11 t11 t12 t13 M11
    refine iterR1 (n := (rows.length : Int) - ((0 : Nat) : Int)) M11 (by walk_at "at") (small_one (by omega) (by omega) (by omega) (by omega)) (by rw [hvl]; split <;> omega) ?_
    intro it h12 M12
    try rw [hvl] at M12
    clear M10 M11
    let Pv2 : Nat → Shared → Nat → Heap → Nat → Tok → Tok → Tok → (Option Value) → (Option Value) → Prop := fun n0 s' kk h8 k8 u1 u2 u3 nv sv => Am4 (n0 = rows.length - kk) (kk ≤ rows.length) (s' = ⟨h8, g, d, k8, os⟩) (Mm h₀ h8 ((L, .ns lns [some (.ref a), some (.str (S en) te), some (.str (S W) t1), some (.ref b2), some (.ref b3), some (.str (S (seenRows mk br en 0 ([], [], false, 0) (rows.take kk)).1) u1), some (.str (S (seenRows mk br en 0 ([], [], false, 0) (rows.take kk)).2.1) u2), some (.bool (seenRows mk br en 0 ([], [], false, 0) (rows.take kk)).2.2.1), some (.int (seenRows mk br en 0 ([], [], false, 0) (rows.take kk)).2.2.2 u3), nv, sv]) :: (it, .obj (riter kk ((rows.length : Int) - kk) 1)) :: (rg, .obj (rng 0 rows.length 1 t11 t12 t13)) :: (b2, .obj (lo vsm 0)) :: (b3, .obj (lo vs2 n2)) :: led))
    let Iv2 : Nat → Shared → Prop := fun n0 s' => Ex8 (Pv2 n0 s')
    refine forN Iv2 ?turn rows.length ?start
    case start =>
      exact ⟨0, _, _, _, _, _, none, none, rfl, Nat.zero_le _, rfl, M12⟩
    case turn =>
      clear M12
      intro n0 s' E2 hI0
      walk_at "hide"
      obtain ⟨kk, h8, k8, u1, u2, u3, nv, sv, rfl, hkk, rfl, M13⟩ := hI0
      by_cases hlt : kk < rows.length
      · refine nextR1 M13 (by walk_at "at") hlt ?_
        intro h9 t9 k9 M14
        dsimp only [List.set] at M14 ⊢
        clear M13
        obtain ⟨row, hrow⟩ : ∃ c, rows[kk]? = some c := ⟨_, List.getElem?_eq_getElem hlt⟩
        have har := ha _ (List.mem_of_getElem? hrow)
        obtain ⟨ty, hy⟩ := hvs.get hrow
        have hsn : seenRows mk br en 0 ([], [], false, 0) (rows.take (kk + 1)) = seenRow mk br en kk (seenRows mk br en 0 ([], [], false, 0) (rows.take kk)) row := by
          rw [take_snoc hrow, seenRows_snoc, List.length_take, Nat.zero_add, Nat.min_eq_left hkk]
        have hbd := seenRows_bd mk br en hen (rows.take kk) 0 ([], [], false, 0)
        rw [List.length_take] at hbd
        have hfl : (rows.take kk).flatten.length + row.length ≤ W.length := by
          have h1 : rows.flatten = (rows.take (kk + 1)).flatten ++ (rows.drop (kk + 1)).flatten := by rw [← List.flatten_append, List.take_append_drop]
          rw [← hwd, h1, take_snoc hrow]; simp
        generalize seenRows mk br en 0 ([], [], false, 0) (rows.take kk) = st at *
        obtain ⟨s1, s2, s3, s4⟩ := st
        simp only [List.length_nil, Nat.zero_add] at hbd
        dsimp only at M14 hsn
        iterate 1 walk1
        rename Mm _ _ _ => M15
        clear M14
        let Pv3 : Shared → Heap → Nat → (List Nat) → Tok → Prop := fun s' h10 k10 s1' u1' => Am3 (s' = ⟨h10, g, d, k10, os⟩) (s1' = (if 0 < kk ∧ s3 = false then s1 ++ en else s1)) (Mm h₀ h10 ((L, .ns lns [some (.ref a), some (.str (S en) te), some (.str (S W) t1), some (.ref b2), some (.ref b3), some (.str (S s1') u1'), some (.str (S s2) u2), some (.bool s3), some (.int s4 u3), some (.int kk t9), sv]) :: (it, .obj (riter ((kk + 1 : Nat) : Int) ((rows.length : Int) - ((kk + 1 : Nat) : Int)) 1)) :: (rg, .obj (rng 0 rows.length 1 t11 t12 t13)) :: (b2, .obj (lo vsm 0)) :: (b3, .obj (lo vs2 n2)) :: led))
        let Iv3 : Shared → Prop := fun s' => Ex4 (Pv3 s')
        refine mid Iv3 ?e1 ?e2
        case e1 =>
          cases s3
          all_goals
            repeat' walk1
          all_goals
            rename Mm _ _ _ => MM
            exact ⟨_, _, _, _, rfl, by first | rw [if_pos ⟨by omega, rfl⟩] | rw [if_neg (fun z => by have := z.1; omega)] | rw [if_neg (fun z => absurd z.2 (by decide))], MM⟩
        case e2 =>
          rintro _ ⟨h10, k10, s1', u1', rfl, hs1, M16⟩
          clear M15
          refine wpAny_execs_cons ?_
          let Pv4 : Shared → Heap → Nat → Tok → Tok → Tok → (Option Value) → Prop := fun s' h11 k11 w1 w2 w3 sv' => Am2 (s' = ⟨h11, g, d, k11, os⟩) (Mm h₀ h11 ((L, .ns lns [some (.ref a), some (.str (S en) te), some (.str (S W) t1), some (.ref b2), some (.ref b3), some (.str (S (seenRow mk br en kk (s1, s2, s3, s4) row).1) w1), some (.str (S (seenRow mk br en kk (s1, s2, s3, s4) row).2.1) w2), some (.bool (seenRow mk br en kk (s1, s2, s3, s4) row).2.2.1), some (.int (seenRow mk br en kk (s1, s2, s3, s4) row).2.2.2 w3), some (.int kk t9), sv']) :: (it, .obj (riter ((kk + 1 : Nat) : Int) ((rows.length : Int) - ((kk + 1 : Nat) : Int)) 1)) :: (rg, .obj (rng 0 rows.length 1 t11 t12 t13)) :: (b2, .obj (lo vsm 0)) :: (b3, .obj (lo vs2 n2)) :: led))
          let Iv4 : Shared → Prop := fun s' => Ex6 (Pv4 s')
          refine midZ Iv4 ?g1 ?g2
          case g2 =>
            rintro _ ⟨h11, k11, w1, w2, w3, sv', rfl, M17⟩
            rw [← hsn] at M17
            try dsimp only
            repeat walk1
            exact ⟨rows.length - (kk + 1), dec_lt (by assumption), kk + 1, h11, k11, w1, w2, w3, some (.int kk t9), sv', rfl, hlt, rfl, M17⟩
          refine wpAny_For ?_
          repeat walk1
          refine itemL (k := kk) M16 (.s (.s (.s (.s (.s e))))) hy (by rw [sizeLine_eq]; omega) ?_
          refine iterS M16 har ?_
          intro jt h12 M17
          clear M16
          have hsr : seenRow mk br en kk (s1, s2, s3, s4) row = row.foldl (seenStep mk br) (s1', s2, s3, s4) := by
            unfold seenRow
            rw [hs1]
            try dsimp only
            split <;> rfl
          have hs1l : s1'.length ≤ s1.length + 2 := by rw [hs1]; split <;> simp <;> omega
          let Pv5 : Nat → Shared → Nat → Heap → Nat → Tok → Tok → Tok → (Option Value) → Prop := fun n0 s' j h8 k8 w1 w2 w3 sv => Am4 (n0 = row.length - j) (j ≤ row.length) (s' = ⟨h8, g, d, k8, os⟩) (Mm h₀ h8 ((L, .ns lns [some (.ref a), some (.str (S en) te), some (.str (S W) t1), some (.ref b2), some (.ref b3), some (.str (S ((row.take j).foldl (seenStep mk br) (s1', s2, s3, s4)).1) w1), some (.str (S ((row.take j).foldl (seenStep mk br) (s1', s2, s3, s4)).2.1) w2), some (.bool ((row.take j).foldl (seenStep mk br) (s1', s2, s3, s4)).2.2.1), some (.int ((row.take j).foldl (seenStep mk br) (s1', s2, s3, s4)).2.2.2 w3), some (.int kk t9), sv]) :: (jt, .obj (siter row ty j)) :: (it, .obj (riter ((kk + 1 : Nat) : Int) ((rows.length : Int) - ((kk + 1 : Nat) : Int)) 1)) :: (rg, .obj (rng 0 rows.length 1 t11 t12 t13)) :: (b2, .obj (lo vsm 0)) :: (b3, .obj (lo vs2 n2)) :: led))
          let Iv5 : Nat → Shared → Prop := fun n0 s' => Ex7 (Pv5 n0 s')
          refine forN Iv5 ?turn2 row.length ?start2
          case start2 => exact ⟨0, _, _, _, _, _, sv, rfl, Nat.zero_le _, rfl, M17⟩
          case turn2 =>
            clear M17
            intro n0 s' E3 hI0
            walk_at "hide"
            obtain ⟨j, h8, k8, w1, w2, w3, sv, rfl, hj, rfl, M17⟩ := hI0
            by_cases hlt2 : j < row.length
            · obtain ⟨ch, hc⟩ : ∃ c, row[j]? = some c := ⟨_, List.getElem?_eq_getElem hlt2⟩
              refine nextS M17 (by walk_at "at") hc ?_
              intro h13 t13' k13 M18
              dsimp only [List.set] at M18 ⊢
              clear M17
              have hst : (row.take (j + 1)).foldl (seenStep mk br) (s1', s2, s3, s4) = seenStep mk br ((row.take j).foldl (seenStep mk br) (s1', s2, s3, s4)) ch := by
                rw [take_snoc hc, List.foldl_append]; rfl
              have hb2 := seenRow_bd mk br (row.take j) (s1', s2, s3, s4)
              rw [List.length_take] at hb2
              generalize (row.take j).foldl (seenStep mk br) (s1', s2, s3, s4) = st at *
              obtain ⟨c1, c2, c3, c4⟩ := st
              dsimp only at hb2 M18 hst
              have km : ((c4 : Int) ∈ mk.map (fun (k : Nat) => (k : Int))) ↔ c4 ∈ mk := by
                simp only [List.mem_map]
                exact ⟨fun ⟨x, hx, e⟩ => by have : x = c4 := by omega
                                            exact this ▸ hx, fun hx => ⟨c4, hx, rfl⟩⟩
              have kb : ((c4 : Int) ∈ br.map (fun (k : Nat) => (k : Int))) ↔ c4 ∈ br := by
                simp only [List.mem_map]
                exact ⟨fun ⟨x, hx, e⟩ => by have : x = c4 := by omega
                                            exact this ▸ hx, fun hx => ⟨c4, hx, rfl⟩⟩
              have kz : c1.length ≤ 5000 ∧ c2.length ≤ 5000 := by omega
              clear hs1 hsr hsn hz0 hwd hW hv1 hv1l hb2
              cases c3
              all_goals
                repeat' walk1
              all_goals
                rename Mm _ _ _ => MM
                refine ⟨row.length - (j + 1), dec_lt (by assumption), j + 1, _, _, ?_, ?_, ?_, ?_, rfl, hlt2, rfl, ?_⟩
                rotate_left 4
                rw [hst]
                unfold seenStep
                simp only [km, kb] at *
                simp only [*, if_true, if_false, Bool.not_true, Bool.not_false, Bool.false_eq_true]
                exact MM
            · have hje : j = row.length := by omega
              subst hje
              refine nextSE M17 (by walk_at "at") (by omega) hh ?_
              intro h13 M18
              dsimp only [List.eraseIdx] at M18 ⊢
              clear M17
              rw [List.take_length, ← hsr] at M18
              repeat walk1
              exact ⟨h13, _, w1, w2, w3, sv, rfl, M18⟩
      · have hke : kk = rows.length := by omega
        subst hke
        refine nextRE M13 (by walk_at "at") (by omega) hh ?_
        intro h9 M14
        dsimp only [List.eraseIdx] at M14 ⊢
        clear M13
        rw [List.take_length, ← hz0] at M14
        repeat walk1
        exact ⟨h9, _, u1, u2, u3, _, nv, sv, rfl, M14.sub (.cons_cons _ (.cons _ (.refl _)))⟩
  case f2 =>
    rintro _ ⟨h7, k7, t1', t2', t3', pv, nv, sv, rfl, M11⟩
    clear M10
    try dsimp only
    have hbd := (seenRows_bd mk br en hen rows 0 ([], [], false, 0)).2
    rw [← hz0] at hbd
    generalize hz : seenL rows en = z at *
    obtain ⟨z1, z2, z3, z4⟩ := z
    dsimp only at hbd hq M11
    repeat walk1
    refine wpAny_While ?_
    let Pv6 : Nat → Shared → (List Nat) → Heap → Nat → Tok → Prop := fun n0 s' o h8 k8 t2'' => Am5 (n0 = o.length) (o.length ≤ 1000) (s' = ⟨h8, g, d, k8, os⟩) (closedL o = closedL z2) (Mm h₀ h8 ((L, .ns lns [some (.ref a), some (.str (S en) te), some (.str (S W) t1), some (.ref b2), some (.ref b3), some (.str (S z1) t1'), some (.str (S o) t2''), some (.bool z3), pv, nv, sv]) :: (b2, .obj (lo vsm 0)) :: (b3, .obj (lo vs2 n2)) :: led))
    let Iv6 : Nat → Shared → Prop := fun n0 s' => Ex4 (Pv6 n0 s')
    refine whI Iv6 ?turn z2.length ?start
    case start => exact ⟨z2, _, _, _, rfl, by have := hwd ▸ hrl; simp at hbd; omega, rfl, rfl, M11⟩
    case turn =>
      clear M11
      intro n0 s' E2 hI0
      walk_at "hide"
      obtain ⟨o, h8, k8, t2'', rfl, hol, rfl, hco, M12⟩ := hI0
      repeat' walk1
      · rename_i hhas
        refine repS (by decide) (Nat.succ_ne_zero _) (Nat.succ_ne_zero _) (Nat.ne_of_lt (Nat.lt_succ_self _)) (by omega) ?_
        intro t30 k30
        repeat walk1
        rename Mm _ _ _ => M13
        rw [← has2_has] at hhas
        rw [← rep2_strk] at M13
        have hlt := (rep2_len o).2 hhas
        exact ⟨(rep2 o).length, hlt, rep2 o, _, _, _, rfl, by omega, rfl, by rw [← hco]; unfold closedL; rw [redN_step hhas], M13⟩
      · rename_i hhas aN hN MM
        rw [← has2_has] at hhas
        have hcl : closedL z2 = decide (o = []) := by rw [← hco]; unfold closedL; rw [redN_stop hhas]
        rw [hcl] at hq
        exact hq _ _ _ _ (MM.sub (.cons _ (.cons_cons _ (.cons _ (.cons _ (.refl _))))))
end
end
section
set_option maxRecDepth 100000
set_option maxHeartbeats 1000000
/-- how the law's places compare -/
noncomputable def gtP (a b : Int × Nat) : Bool := if a.1 = b.1 then decide (b.2 < a.2) else decide (b.1 < a.1)
noncomputable abbrev pairT (a : Int × Nat) (t u : Tok) : Obj := tup [.int a.1 t, .int (a.2 : Int) u]
theorem gt_meets (x y : Addr) (a b : Int × Nat) (t u t' u' : Tok) :
    Meets (Builtin.«tuple.__gt__» ⟨[.ref x, .ref y], []⟩) (fun A R s => s.heap.get? x = some (pairT a t u) ∧ s.heap.get? y = some (pairT b t' u') ∧ R (.ok (.ret (.bool (gtP a b)))) s) :=
  .of_wp fun prog w A R s h => by
    obtain ⟨hp, g, d, tk, os⟩ := s; obtain ⟨hl, hb, h⟩ := h
    have f2 := AutoSeq1.sub_tuple_tuple
    have gtI : ∀ (a b : Int) (t u : Tok) (Q : Value → Shared → Prop) (E : Value → Shared → Prop) (s : Shared), Q (.bool (decide (b < a))) s → wpAny (model prog w) A.in1 (richCompare .Gt (.int a t) (.int b u)) Q E s := fun a b t u Q E s hq => by
      show wpAny _ _ (compareOp .Gt (.int a t) (.int b u)) _ _ _
      exact PyProof.Rows.gt_int hq
    obtain ⟨a1, a2⟩ := a
    obtain ⟨b1, b2⟩ := b
    wp_walk using wpAny_loadPart' hl, wpAny_loadPart' hb, wpAny_forIn_list _ (fun rest b s' => b.1 = none ∧ s' = ⟨hp, g, d, tk, os⟩ ∧
      (rest = [(Value.int a1 t, Value.int b1 t'), (Value.int a2 u, Value.int b2 u')] ∨ (rest = [(Value.int a2 u, Value.int b2 u')] ∧ a1 = b1) ∨ (rest = [] ∧ a1 = b1 ∧ a2 = b2))) _
    case turn =>
      rintro ⟨p, q⟩ rest b s' ⟨hb', rfl, hr⟩
      rcases hr with hr | ⟨hr, e1⟩ | ⟨hr, _⟩
      · injection hr with hr1 hr2
        injection hr1 with hr3 hr4
        subst hr2 hr3 hr4
        refine wpAny_bind (SeqAt.EqAt.int_int a1 t b1 t' prog w _ _ ?_)
        by_cases q1 : a1 = b1
        · subst q1
          have : (a1 == a1) = true := by simp
          rw [this]
          wp_walk
          exact ⟨rfl, rfl, .inr (.inl ⟨rfl, rfl⟩)⟩
        · have : (a1 == b1) = false := by simpa using q1
          rw [this]
          wp_walk using gtI a1 b1 t t'
          exact ⟨_, rfl, by simpa [gtP, q1] using h⟩
      · injection hr with hr1 hr2
        injection hr1 with hr3 hr4
        subst hr2 hr3 hr4
        refine wpAny_bind (SeqAt.EqAt.int_int a2 u b2 u' prog w _ _ ?_)
        by_cases q1 : a2 = b2
        · subst q1
          have : ((a2 : Int) == a2) = true := by simp
          rw [this]
          wp_walk
          exact ⟨rfl, rfl, .inr (.inr ⟨rfl, e1, rfl⟩)⟩
        · have : ((a2 : Int) == b2) = false := by simp; omega
          rw [this]
          wp_walk using gtI a2 b2 u u'
          exact ⟨_, rfl, by simpa [gtP, e1] using h⟩
      · cases hr
    case fin =>
      rintro ⟨b1', b2'⟩ s' ⟨hb', rfl, hr⟩
      simp only at hb'
      subst hb'
      rcases hr with hr | ⟨hr, _⟩ | ⟨_, e1, e2⟩
      · cases hr
      · cases hr
      · wp_walk
        exact ⟨_, rfl, by simpa [Builtin.Tuple.tupleCompareSizes, gtP, e1, e2] using h⟩
    case h =>
      exact ⟨rfl, rfl, .inl rfl⟩
theorem gtT {w : World} {A : Around} {E : Value → Shared → Prop} {h₀ h : Heap} {g : Array GenState} {d : Drawn} {tk : Nat} {os : OsState} {led : Led} {Q : Value → Shared → Prop} {x y : Addr} {i j : Nat} {a b : Int × Nat} {t u t' u' : Tok}
    (M : Mm h₀ h led) (e : At led i (x, .obj (pairT a t u))) (f : At led j (y, .obj (pairT b t' u'))) (hu : A.units < cLine) (hq : Q (.bool (gtP a b)) ⟨h, g, d, tk, os⟩) :
    wpAny (MP w) A (richCompare .Gt (.ref x) (.ref y)) Q E ⟨h, g, d, tk, os⟩ :=
  richCompare_meets_room (op := .Gt) ⟨_, M.get i e, rfl⟩ ⟨_, M.get j f, rfl⟩ F.slot_tuple_gt F.entry_tuple_gt (F.args_tuple_gt_2 _ _) (gt_meets x y a b t u t' u')
    ⟨M.get i e, M.get j f, show Value.bool (gtP a b) ≠ Value.notImplemented ∧ Q (.bool (gtP a b)) _ from ⟨(fun z => nomatch z), hq⟩⟩ hu
/-- places: tuples of two ints -/
noncomputable def Pls (led : Led) (ps : List (Int × Nat)) (vs : List Value) : Prop :=
  vs.length = ps.length ∧ ∀ (k : Nat) (p : Int × Nat), ps[k]? = some p → ∃ (T : Addr) (t u : Tok), vs[k]? = some (Value.ref T) ∧ (T, Cell.obj (pairT p t u)) ∈ led
theorem Pls.mono {led led' : Led} {ps : List (Int × Nat)} {vs : List Value} (x : Pls led ps vs) (h : ∀ p ∈ led, p ∈ led') : Pls led' ps vs :=
  ⟨x.1, fun k p e => let ⟨T, t, u, a, b⟩ := x.2 k p e; ⟨T, t, u, a, h _ b⟩⟩
theorem Pls.snoc {led : Led} {ps : List (Int × Nat)} {p : Int × Nat} {vs : List Value} {T : Addr} {t u : Tok} (x : Pls led ps vs) (hm : (T, Cell.obj (pairT p t u)) ∈ led) : Pls led (ps ++ [p]) (vs ++ [Value.ref T]) := by
  obtain ⟨hl, hx⟩ := x
  refine ⟨by simp [hl], fun k q hk => ?_⟩
  by_cases hk2 : k < ps.length
  · rw [List.getElem?_append_left hk2] at hk
    obtain ⟨T', t', u', a', b'⟩ := hx k q hk
    exact ⟨T', t', u', by rw [List.getElem?_append_left (by omega)]; exact a', b'⟩
  · rw [List.getElem?_append_right (by omega)] at hk
    have hk3 : k - ps.length = 0 := by
      have := (List.getElem?_eq_some_iff.mp hk).1
      simp at this; omega
    rw [hk3] at hk
    simp at hk
    subst hk
    refine ⟨T, t, u, ?_, hm⟩
    rw [List.getElem?_append_right (by omega), hl, hk3]; rfl
/-- the best place by Python's max -/
noncomputable def bestP : List (Int × Nat) → Int × Nat
  | [] => (0, 0)
  | x :: r => r.foldl (fun b a => if gtP a b then a else b) x
theorem bestP_snoc {ps : List (Int × Nat)} (h : ps ≠ []) (a : Int × Nat) : bestP (ps ++ [a]) = if gtP a (bestP ps) then a else bestP ps := by
  cases ps with
  | nil => exact absurd rfl h
  | cons x r =>
    show List.foldl _ _ (r ++ [a]) = _
    rw [List.foldl_append]; rfl
section
variable {w : World} {A : Around} {E : Value → Shared → Prop} {h₀ h : Heap} {g : Array GenState} {d : Drawn} {tk : Nat} {os : OsState} {led : Led} {a I Sa : Addr} {vs : List Value} {ps : List (Int × Nat)} {i n n2 : Nat}
theorem updL {Q : Unit → Shared → Prop} {us : List Value} (M : Mm h₀ h led) (e : At led i (a, .obj (lo vs n))) (hz : vs.length ≤ 1000) (hu : us.length ≤ 1000) (hq : ∀ h' n', Mm h₀ h' (led.set i (a, .obj (lo us n'))) → Q () ⟨h', g, d, tk, os⟩) :
    wpAny (MP w) A (updateSeq a (fun _ => us.toArray)) Q E ⟨h, g, d, tk, os⟩ := by
  refine wpAny_updateSeq (M.get i e) rfl ?_ (by rw [List.size_toArray, sizeLine_eq]; omega) (by rw [List.size_toArray, sizeLine_eq]; omega)
  have M2 := M.update i e (Obj.mapSeq fun _ => us.toArray)
  obtain ⟨n', e2⟩ : ∃ n', Obj.mapSeq (fun _ => us.toArray) (lo vs n) = lo us n' := ⟨_, rfl⟩
  rw [e2] at M2
  exact hq _ _ M2
theorem max_loop {R : Result → Shared → Prop} (hh : A.handled = none) (hu : A.units + 10 < cLine) (hp : Pls led ps vs) (hz : vs.length ≤ 500) : ∀ (r k : Nat) (h : Heap) (n2 : Nat) (tk : Nat) (T : Addr), k + r = ps.length → 1 ≤ k → At led i (a, .obj (lo vs n)) →
    (∃ t u, (T, Cell.obj (pairT (bestP (ps.take k)) t u)) ∈ led) → Mm h₀ h ((I, .obj (liter a k)) :: (Sa, .obj (lo [.ref T, .ref T] n2)) :: led) →
    (∀ T h' tk' t u, (T, Cell.obj (pairT (bestP ps) t u)) ∈ led → Mm h₀ h' led → R (.ok (.ret (.ref T))) ⟨h', g, d, tk', os⟩) →
    codeAny (MP w) A (.builtin "max.loop" ⟨[.ref I, .none, .ref Sa], []⟩) R ⟨h, g, d, tk, os⟩
  | 0, k, h, n2, tk, T, hk, hk1, e, ⟨t, u, hT⟩, M, hR => by
    refine codeAny_builtin F.entry_max_loop ?_
    rw [Around.under_plainId F.plain_max_loop _]
    show wpAny _ A.in1 (seqItems? (.ref Sa) >>= _) _ _ _
    refine wpAny_bind (wpAny_seqItems (M.get 1 .n1) rfl ?_)
    show wpAny _ A.in1 (tryCatch (pyNext (.ref I)) _ >>= _) _ _ _
    refine wpAny_bind (wpAny_tryCatch (nextLE M .z (.s (.s e)) (by rw [hp.1]; omega) hh fun h' M' => ?_))
    dsimp only [List.eraseIdx] at M'
    show wpAny _ _ (updateSeq Sa (fun _ => ([] : List Value).toArray) >>= _) _ _ _
    refine wpAny_bind (updL M' .z (by simp) (by simp) fun h2 n3 M2 => ?_)
    refine wpAny_bind (wpAny_letGo (wpAny_pure ?_))
    have hke : ps.take k = ps := List.take_of_length_le (by omega)
    rw [hke] at hT
    exact hR T h2 _ t u hT M2.tail
  | r + 1, k, h, n2, tk, T, hk, hk1, e, ⟨t, u, hT⟩, M, hR => by
    have hname : (toString "max" ++ toString ".loop" : String) = "max.loop" := by decide
    have hlt : k < ps.length := by omega
    have hx : ps[k]? = some ps[k] := by simp [hlt]
    generalize ps[k] = p at hx
    obtain ⟨T2, t2, u2, hv2, hT2⟩ := hp.2 k p hx
    obtain ⟨i1, hi1⟩ := List.mem_iff_getElem?.mp hT
    obtain ⟨i2, hi2⟩ := List.mem_iff_getElem?.mp hT2
    have hb : bestP (ps.take (k + 1)) = if gtP p (bestP (ps.take k)) then p else bestP (ps.take k) := by
      rw [take_snoc hx, bestP_snoc (by intro q; have : (ps.take k).length = 0 := by rw [q]; rfl
                                       rw [List.length_take] at this; omega)]
    refine codeAny_builtin F.entry_max_loop ?_
    rw [Around.under_plainId F.plain_max_loop _]
    show wpAny _ A.in1 (seqItems? (.ref Sa) >>= _) _ _ _
    refine wpAny_bind (wpAny_seqItems (M.get 1 .n1) rfl ?_)
    show wpAny _ A.in1 (tryCatch (pyNext (.ref I)) _ >>= _) _ _ _
    refine wpAny_bind (wpAny_tryCatch (nextL M .z (.s (.s e)) hv2 fun h' M' => ?_))
    dsimp only [List.set] at M'
    show wpAny _ A.in1 (tryCatch (holding [.ref T2, .ref T2] (richCompare .Gt (.ref T2) (.ref T) >>= _)) _ >>= _) _ _ _
    refine wpAny_bind (wpAny_tryCatch (wpAny_holding (wpAny_bind (gtT M' (.s (.s (At.of hi2))) (.s (.s (At.of hi1))) (by show A.units + 1 < cLine; omega) ?_))))
    refine wpAny_bind (wpAny_holding (wpAny_truthy_bool ?_))
    refine wpAny_bind (wpAny_letGo (wpAny_pure ?_))
    cases hg : gtP p (bestP (ps.take k)) with
    | true =>
      rw [hg] at hb
      simp only [if_true]
      show wpAny _ _ (updateSeq Sa (fun _ => [Value.ref T2, .ref T2].toArray) >>= _) _ _ _
      refine wpAny_bind (updL M' .n1 (by simp) (by simp) fun h2 n3 M2 => ?_)
      dsimp only [List.set] at M2
      refine wpAny_bind (wpAny_letGo ?_)
      rw [hname]
      exact wpAny_pure ⟨plainId_quiet F.plain_max_loop _, max_loop hh hu hp hz r (k + 1) h2 n3 _ T2 (by omega) (by omega) e ⟨t2, u2, by rw [hb]; exact hT2⟩ M2 hR⟩
    | false =>
      rw [hg] at hb
      simp only [Bool.false_eq_true, if_false] at hb ⊢
      refine wpAny_bind (wpAny_letGo ?_)
      rw [hname]
      exact wpAny_pure ⟨plainId_quiet F.plain_max_loop _, max_loop hh hu hp hz r (k + 1) _ n2 _ T (by omega) (by omega) e ⟨t, u, by rw [hb]; exact hT⟩ M' hR⟩
end
theorem maxB {w : World} {A : Around} {E : Value → Shared → Prop} {h₀ h : Heap} {g : Array GenState} {d : Drawn} {tk : Nat} {os : OsState} {led : Led} {a : Addr} {vs : List Value} {ps : List (Int × Nat)} {i n : Nat} {Q : Value → Shared → Prop} {p : Addr × Cell} (M : Mm h₀ h (p :: led)) (e : At (p :: led) i (a, .obj (lo vs n))) (hh : A.handled = none) (hu : A.units + 20 < cLine) (hp : Pls (p :: led) ps vs) (hz : vs.length ≤ 500) (hne : ps ≠ [])
    (hq : ∀ T h' tk' t u, (T, Cell.obj (pairT (bestP ps) t u)) ∈ (p :: led) → Mm h₀ h' (p :: led) → Q (.ref T) ⟨h', g, d, tk', os⟩) : wpAny (MP w) A (call (.builtin "max") [.ref a]) Q E ⟨h, g, d, tk, os⟩ := by
  have hname : (toString "max" ++ toString ".loop" : String) = "max.loop" := by decide
  refine call_function_tree F.kind_max F.plain_max F.entry_max (F.args_max1 _) ?_
  show wpAny _ A.in1 (Builtin.Builtins.bindParams "max" ["key", "default"] 0 ⟨[], []⟩ >>= _) _ _ _
  refine wpAny_bind (wpAny_of_eq (show Builtin.Builtins.bindParams "max" ["key", "default"] 0 ⟨[], []⟩ = pure [none, none] from rfl) ?_)
  refine wpAny_bind (wpAny_pure ?_)
  refine wpAny_bind (iterL M e fun I h1 M1 => ?_)
  refine wpAny_bind (wpAny_newObj_type ?_ (by show (#[] : Array Value).size ≤ sizeLine; decide))
  have M2 := (M1.push2 (lo [] 0)).perm (List.Perm.refl _)
  have M3 := (M1.push (lo [] 0)).rot (cs := [_, _]) [_]
  dsimp only [List.cons_append, List.nil_append] at M3
  have M4 := M3.perm (List.Perm.swap _ _ _)
  generalize h1.objs.size = Sa at *
  have M5 := M4.rot (cs := [_, _]) [_]
  dsimp only [List.cons_append, List.nil_append] at M5
  rw [hname]
  obtain ⟨x0, hx0⟩ : ∃ x, ps[0]? = some x := by
    cases ps with
    | nil => exact absurd rfl hne
    | cons x r => exact ⟨x, rfl⟩
  obtain ⟨T0, t0, u0, hv0, hT0⟩ := hp.2 0 x0 hx0
  have hl0 : 0 < ps.length := (List.getElem?_eq_some_iff.mp hx0).1
  have hb1 : bestP (ps.take 1) = x0 := by
    rw [take_snoc (k := 0) hx0]; rfl
  refine wpAny_pure ⟨plainId_quiet F.plain_max_loop _, ?_⟩
  show codeAny (MP w) A (.builtin "max.loop" ⟨[.ref I, .none, .ref Sa], []⟩) _ _
  refine codeAny_builtin F.entry_max_loop ?_
  rw [Around.under_plainId F.plain_max_loop _]
  show wpAny _ A.in1 (seqItems? (.ref Sa) >>= _) _ _ _
  refine wpAny_bind (wpAny_seqItems (M3.get 1 .n1) rfl ?_)
  show wpAny _ A.in1 (tryCatch (pyNext (.ref I)) _ >>= _) _ _ _
  refine wpAny_bind (wpAny_tryCatch (nextL M3 .z (.s (.s e)) hv0 fun h' M' => ?_))
  dsimp only [List.set] at M'
  show wpAny _ A.in1 (updateSeq Sa (fun _ => [Value.ref T0, .ref T0].toArray) >>= _) _ _ _
  refine wpAny_bind (updL M' .n1 (by simp) (by simp) fun h2 n3 M6 => ?_)
  dsimp only [List.set] at M6
  rw [hname]
  exact wpAny_pure ⟨plainId_quiet F.plain_max_loop _, max_loop hh (by omega) hp hz (ps.length - 1) 1 h2 n3 _ T0 (by omega) (Nat.le_refl _) e ⟨t0, u0, by rw [hb1]; exact hT0⟩ M6 fun T h' tk' t u hT Mf => hq T h' tk' t u hT Mf⟩
end
section
theorem snoc_ind {α : Type} {P : List α → Prop} (h0 : P []) (hs : ∀ l c, P l → P (l ++ [c])) : ∀ l, P l := by
  intro l
  have : ∀ (n : Nat) (l : List α), l.length = n → P l := by
    intro n
    induction n with
    | zero => intro l hl; rw [List.eq_nil_of_length_eq_zero hl]; exact h0
    | succ n ih =>
      intro l hl
      rcases List.eq_nil_or_concat l with rfl | ⟨xs, x, rfl⟩
      · exact h0
      · rw [List.concat_eq_append] at *
        exact hs xs x (ih xs (by simpa using hl))
  exact this l.length l rfl
theorem dw_nil {α : Type} (p : α → Bool) : ∀ l : List α, l.dropWhile p = [] ↔ ∀ c ∈ l, p c = true
  | [] => by simp
  | c :: l => by
    rw [List.dropWhile_cons]
    cases h : p c
    · simp [h]
    · simp [h, dw_nil p l]
theorem strip_nil (cs l : List Nat) : stripL cs l = [] ↔ ∀ c ∈ l, c ∈ cs := by
  unfold stripL rstripL
  have e1 : (fun c => cs.contains c) = fun c => decide (c ∈ cs) := by funext c; simp
  rw [List.reverse_eq_nil_iff, dw_nil]
  constructor
  · intro h c hc
    by_cases hm : c ∈ cs
    · exact hm
    · exfalso
      have : c ∈ l.dropWhile (fun c => cs.contains c) := by
        have hl := List.takeWhile_append_dropWhile (p := fun c => cs.contains c) (l := l)
        rw [← hl] at hc
        rcases List.mem_append.mp hc with q | q
        · have := List.all_eq_true.mp List.all_takeWhile c q
          simp at this; exact absurd this hm
        · exact q
      have := h c (by simpa using this)
      simp at this; exact hm this
  · intro h c hc
    have : c ∈ l.dropWhile (fun c => cs.contains c) := by simpa using hc
    have : c ∈ l := (List.dropWhile_suffix _).subset this
    simpa using h c this
theorem pcs_snoc (l : List Nat) (c : Nat) : pcs (l ++ [c]) = pcStep (pcs l) c := by unfold pcs; rw [List.foldl_append]; rfl
structure PI (l : List Nat) (ps : List (List Nat)) : Prop where
  ne : ps ≠ []
  fl : ps.flatten = l
  ln : ps.length ≤ l.length + 1
  el : ∀ x ∈ ps.dropLast, x ≠ []
  la : l ≠ [] → ps.getLastD [] ≠ []
theorem pcs_inv : ∀ (l : List Nat), PI l (pcs l) := by
  refine snoc_ind ⟨by simp [pcs], by simp [pcs], by simp [pcs], by simp [pcs], by simp⟩ fun l c ih => ?_
  rw [pcs_snoc]
  obtain ⟨xs, x, hx⟩ : ∃ xs x, pcs l = xs ++ [x] := ⟨(pcs l).dropLast, (pcs l).getLast ih.ne, (List.dropLast_concat_getLast ih.ne).symm⟩
  have hfl := ih.fl
  have hln := ih.ln
  have hel := ih.el
  rw [hx] at hfl hln hel ⊢
  unfold pcStep
  have e1 : (xs ++ [x]).getLastD [] = x := by simp
  have e2 : (xs ++ [x]).dropLast = xs := by simp
  rw [e1, e2]
  rw [e2] at hel
  simp at hfl hln
  split
  · rename_i h
    have hxn : x ≠ [] := by intro q; rw [q] at h; exact h.2 rfl
    refine ⟨by simp, by rw [← hfl]; simp, by simp; omega, ?_, fun _ => by simp⟩
    intro y hy
    have : y ∈ xs ∨ y = x := by simpa using hy
    rcases this with q | q
    · exact hel y q
    · rw [q]; exact hxn
  · exact ⟨by simp, by rw [← hfl]; simp, by simp; omega, by simpa using hel, fun _ => by simp⟩
theorem pcs_el {l : List Nat} (hl : l ≠ []) : ∀ x ∈ pcs l, x ≠ [] := by
  have ih := pcs_inv l
  obtain ⟨xs, x, hx⟩ : ∃ xs x, pcs l = xs ++ [x] := ⟨(pcs l).dropLast, (pcs l).getLast ih.ne, (List.dropLast_concat_getLast ih.ne).symm⟩
  have h1 := ih.el
  have h2 := ih.la hl
  rw [hx] at h1 h2 ⊢
  intro y hy
  rcases List.mem_append.mp hy with q | q
  · exact h1 y (by simpa using q)
  · have : y = x := by simpa using q
    subst this
    simpa using h2
theorem pcs_head {c : Nat} {l : List Nat} (hc : c ∉ [32, 9]) : ∃ x r, pcs (c :: l) = (c :: x) :: r := by
  have : ∀ (m : List Nat), ∃ x r, pcs (c :: m) = (c :: x) :: r := by
    refine snoc_ind ⟨[], [], ?_⟩ fun m d ih => ?_
    · unfold pcs
      show pcStep [[]] c = _
      unfold pcStep
      rw [if_neg (fun h => hc h.1)]; rfl
    · obtain ⟨x, r, h⟩ := ih
      rw [← List.cons_append, pcs_snoc, h]
      unfold pcStep
      split
      · exact ⟨x, r ++ [[d]], rfl⟩
      · rcases List.eq_nil_or_concat r with rfl | ⟨ys, y, rfl⟩
        · exact ⟨x ++ [d], [], by simp⟩
        · refine ⟨x, ys ++ [y ++ [d]], ?_⟩
          rw [List.concat_eq_append]
          have e : ((c :: x) :: (ys ++ [y])).dropLast = (c :: x) :: ys := by
            rw [← List.cons_append, List.dropLast_concat]
          have e2 : ((c :: x) :: (ys ++ [y])).getLastD [] = y := by
            rw [← List.cons_append]
            simp only [List.getLastD_eq_getLast?, List.getLast?_concat, Option.getD_some]
          rw [e, e2]; rfl
  exact this l
theorem best_mem : ∀ {L : List (Nat × Nat)}, L ≠ [] → best L ∈ L
  | [], h => absurd rfl h
  | x :: r, _ => by
    have : ∀ (r : List (Nat × Nat)) (b : Nat × Nat), r.foldl (fun b a => if beats a b then a else b) b = b ∨ r.foldl (fun b a => if beats a b then a else b) b ∈ r := by
      intro r
      induction r with
      | nil => intro b; exact .inl rfl
      | cons y r ih =>
        intro b
        rw [List.foldl_cons]
        rcases ih (if beats y b then y else b) with h | h
        · rw [h]
          split
          · exact .inr (by simp)
          · exact .inl rfl
        · exact .inr (by simp [h])
    rcases this r x with h | h
    · show List.foldl _ _ _ ∈ _
      rw [h]; simp
    · exact List.mem_cons_of_mem _ h
theorem places_rng {order : List Nat} {row : List (List Nat)} {m : Nat} {p : Nat × Nat} (h : p ∈ places order row m) : 1 ≤ p.2 ∧ p.2 < row.length := by
  unfold places placesAt at h
  obtain ⟨r, _, h⟩ := List.mem_flatMap.mp h
  obtain ⟨k, hk, rfl⟩ := List.mem_map.mp h
  have := (List.mem_filter.mp hk).1
  rw [List.mem_range'_1] at this
  dsimp only; omega
structure RI (st : RS) : Prop where
  ne : st.2.1 ≠ []
  el : ∀ x ∈ st.2.1, x ≠ []
  ft : st.1 = [] → stripL [32, 9] st.2.1.flatten ≠ []
theorem row_inv (width : Nat) (order : List Nat) (st : RS) (p : List Nat) (hp : p ≠ []) (h : (st.2.1 = [] ∧ stripL [32, 9] p ≠ []) ∨ RI st) : RI (rowStep width order st p) := by
  have hel : ∀ x ∈ st.2.1 ++ [p], x ≠ [] := by
    intro x hx
    rcases List.mem_append.mp hx with q | q
    · rcases h with h | h
      · rw [h.1] at q; simp at q
      · exact h.el x q
    · have : x = p := by simpa using q
      rw [this]; exact hp
  have keep : RI (st.1, st.2.1 ++ [p], st.2.2) := by
    refine ⟨by simp, hel, fun h1 => ?_⟩
    rw [Ne, strip_nil]
    intro hall
    rcases h with h | h
    · have h2 := h.2
      rw [Ne, strip_nil] at h2
      exact h2 fun c hc => hall c (by simp [hc])
    · have h2 := h.ft h1
      rw [Ne, strip_nil] at h2
      exact h2 fun c hc => hall c (by simp at hc ⊢; exact .inl hc)
  unfold rowStep
  dsimp only
  split
  · split
    · rename_i hne
      have hb := places_rng (best_mem hne)
      refine ⟨?_, fun x hx => hel x (List.mem_of_mem_drop hx), by simp⟩
      intro q
      have := congrArg List.length q
      simp at this hb; omega
    · split
      · refine ⟨by simp, ?_, by simp⟩
        intro x hx
        have : x = if p.headD 0 ∈ [32, 9] then p else 32 :: p := by simpa using hx
        rw [this]; split
        · exact hp
        · simp
      · exact keep
  · exact keep
noncomputable def totR (st : RS) : Nat := (st.1.map List.length).sum + st.2.1.flatten.length
theorem row_bd (width : Nat) (order : List Nat) (st : RS) (p : List Nat) : totR (rowStep width order st p) ≤ totR st + (p.length + 1) ∧ (rowStep width order st p).1.length ≤ st.1.length + 1 ∧ (rowStep width order st p).2.1.length ≤ st.2.1.length + 1 ∧ (rowStep width order st p).2.2 ≤ st.2.2 := by
  have keep : totR (st.1, st.2.1 ++ [p], st.2.2) ≤ totR st + (p.length + 1) := by unfold totR; simp; omega
  unfold rowStep
  dsimp only
  split
  · split
    · generalize (best (places order (st.2.1 ++ [p]) order.length)).2 = cut
      have h1 : ((st.2.1 ++ [p]).take cut).flatten.length + ((st.2.1 ++ [p]).drop cut).flatten.length = (st.2.1 ++ [p]).flatten.length := by
        rw [← List.length_append, ← List.flatten_append, List.take_append_drop]
      have h2 : (st.2.1 ++ [p]).flatten.length = st.2.1.flatten.length + p.length := by simp
      refine ⟨?_, by simp, by simp, by simp⟩
      unfold totR
      simp only [List.map_append, List.sum_append, List.map_cons, List.map_nil, List.sum_cons, List.sum_nil]
      omega
    · split
      · refine ⟨?_, by simp, by simp, by simp⟩
        have h3 : (if p.headD 0 ∈ [32, 9] then p else 32 :: p).length ≤ p.length + 1 := by split <;> simp
        unfold totR
        simp only [List.map_append, List.sum_append, List.map_cons, List.map_nil, List.sum_cons, List.sum_nil, List.dropLast_concat, List.flatten_cons, List.flatten_nil, List.append_nil]
        omega
      · exact ⟨keep, by simp, by simp, by simp⟩
  · exact ⟨keep, by simp, by simp, by simp⟩
theorem rows_inv (width room : Nat) (order : List Nat) {c : Nat} {l : List Nat} (hc : c ∉ [32, 9]) : ∀ (k : Nat), 1 ≤ k → k ≤ (pcs (c :: l)).length →
    RI (((pcs (c :: l)).take k).foldl (rowStep width order) ([], [], room))
  | 0, h, _ => by omega
  | k + 1, _, hk => by
    obtain ⟨x, r, hx⟩ := pcs_head (l := l) hc
    have hel := pcs_el (l := c :: l) (by simp)
    have hp : (pcs (c :: l))[k]? = some (pcs (c :: l))[k] := by simp
    have hpm : (pcs (c :: l))[k] ∈ pcs (c :: l) := List.getElem_mem _
    have e : (pcs (c :: l)).take (k + 1) = (pcs (c :: l)).take k ++ [(pcs (c :: l))[k]] := take_snoc hp
    rw [e, List.foldl_append]
    refine row_inv width order _ _ (hel _ hpm) ?_
    cases k with
    | zero =>
      refine .inl ⟨rfl, ?_⟩
      have : (pcs (c :: l))[0] = c :: x := by simp [hx]
      rw [this, Ne, strip_nil]
      intro h; exact hc (h c (by simp))
    | succ k => exact .inr (rows_inv width room order hc (k + 1) (by omega) (by omega))
theorem rows_bd (width : Nat) (order : List Nat) : ∀ (ps : List (List Nat)) (st : RS), totR (ps.foldl (rowStep width order) st) ≤ totR st + ps.flatten.length + ps.length ∧ (ps.foldl (rowStep width order) st).1.length ≤ st.1.length + ps.length ∧ (ps.foldl (rowStep width order) st).2.1.length ≤ st.2.1.length + ps.length ∧ (ps.foldl (rowStep width order) st).2.2 ≤ st.2.2
  | [], st => ⟨by simp, by simp, by simp, by simp⟩
  | p :: ps, st => by
    have h1 := row_bd width order st p
    have h2 := rows_bd width order ps (rowStep width order st p)
    rw [List.foldl_cons, List.flatten_cons, List.length_append, List.length_cons]
    exact ⟨ar6 h2.1 h1.1, ar7 h2.2.1 h1.2.1, ar7 h2.2.2.1 h1.2.2.1, Nat.le_trans h2.2.2.2 h1.2.2.2⟩
theorem places_len (order : List Nat) (row : List (List Nat)) : ∀ (m : Nat), (places order row m).length ≤ m * row.length
  | 0 => by simp [places]
  | m + 1 => by
    have ih := places_len order row m
    unfold places at ih ⊢
    rw [List.range_succ, List.flatMap_append, List.length_append]
    have : ([m].flatMap fun r => placesAt (order.getD r 0) r row (row.length - 1)).length ≤ row.length := by
      simp only [List.flatMap_cons, List.flatMap_nil, List.append_nil]
      unfold placesAt
      rw [List.length_map]
      exact Nat.le_trans (List.length_filter_le _ _) (by simp)
    rw [Nat.succ_mul]; omega
theorem places_succ (order : List Nat) (row : List (List Nat)) (m : Nat) : places order row (m + 1) = places order row m ++ placesAt (order.getD m 0) m row (row.length - 1) := by
  unfold places
  rw [List.range_succ, List.flatMap_append]
  simp
theorem placesAt_succ (o r : Nat) (row : List (List Nat)) (n : Nat) : placesAt o r row (n + 1) = placesAt o r row n ++ (if hit o row (n + 1) then [(r, n + 1)] else []) := by
  unfold placesAt
  rw [List.range'_1_concat, List.filter_append, List.map_append, Nat.add_comm 1 n]
  congr 1
  by_cases h : hit o row (n + 1) <;> simp [h]
noncomputable abbrev negP (q : Nat × Nat) : Int × Nat := (-(q.1 : Int), q.2)
end
section
set_option maxRecDepth 100000
set_option maxHeartbeats 1000000
section
variable {w : World} {A : Around} {E : Value → Shared → Prop} {h₀ h : Heap} {g : Array GenState} {d : Drawn} {tk : Nat} {os : OsState} {led : Led} {Q : Value → Shared → Prop} {a b : Addr} {vs us : List Value} {n m i j : Nat} {t u v : Tok} {x y : Value} {l k c : List Nat}
theorem in2T (M : Mm h₀ h led) (e : At led i (a, .obj (tup [.str (S l) t, .str (S k) u]))) (hq : Q (.bool (decide (l = c) || decide (k = c))) ⟨h, g, d, tk, os⟩) : wpAny (MP w) A (compareOp .In (.str (S c) v) (.ref a)) Q E ⟨h, g, d, tk, os⟩ := by
  have hT : Heap.IsTuple h a #[.str (S l) t, .str (S k) u] := ⟨_, M.get i e, rfl, 0, rfl⟩
  refine SeqAt.in_tupleAt (s := ⟨h, g, d, tk, os⟩) (items := #[.str (S l) t, .str (S k) u]) (fun y => match y with | .str z _ => z == S c | _ => false) hT ?_ ?_
  · intro y hy
    simp at hy
    rcases hy with rfl | rfl
    · exact SeqAt.EqAt.str_str _ _ _ _
    · exact SeqAt.EqAt.str_str _ _ _ _
  · have : (#[Value.str (S l) t, .str (S k) u] : Array Value).any (fun y => match y with | .str z _ => z == S c | _ => false) = (decide (l = c) || decide (k = c)) := by
      simp [S_beq]
    rw [this]; exact hq
theorem in2Tb {b : Bool} (M : Mm h₀ h led) (e : At led i (a, .obj (tup [.str (S l) t, .str (S k) u]))) (hb : (decide (l = c) || decide (k = c)) = b) (hq : Q (.bool b) ⟨h, g, d, tk, os⟩) : wpAny (MP w) A (compareOp .In (.str (S c) v) (.ref a)) Q E ⟨h, g, d, tk, os⟩ := by
  subst hb; exact in2T M e hq
theorem neL0 (M : Mm h₀ h led) (e : At led i (a, .obj (lo vs n))) (f : At led j (b, .obj (lo [] m))) (hu : A.units + 10 < cLine) (hq : Q (.bool (decide (vs ≠ []))) ⟨h, g, d, tk, os⟩) : wpAny (MP w) A (compareOp .NotEq (.ref a) (.ref b)) Q E ⟨h, g, d, tk, os⟩ := by
  have h1 : Heap.IsList h a vs.toArray := ⟨_, M.get i e, rfl, n, rfl⟩
  have h2 : Heap.IsList h b ([] : List Value).toArray := ⟨_, M.get j f, rfl, m, rfl⟩
  cases vs with
  | nil =>
    have key := SeqAt.RcNeAt.lists (A := A) (s := ⟨h, g, d, tk, os⟩) (e := fun _ => true) h1 h2 rfl (by omega) (fun j q1 q2 => absurd q1 (by simp))
    exact key _ _ _ _ (by simpa using hq)
  | cons y r =>
    have key := SeqAt.RcNeAt.lists_lengths (A := A) (s := ⟨h, g, d, tk, os⟩) h1 h2 (by simp) (by omega)
    exact key _ _ _ _ (by simpa using hq)
theorem neL0b {z : Bool} (M : Mm h₀ h led) (e : At led i (a, .obj (lo vs n))) (f : At led j (b, .obj (lo [] m))) (hu : A.units + 10 < cLine) (hb : decide (vs ≠ []) = z) (hq : Q (.bool z) ⟨h, g, d, tk, os⟩) : wpAny (MP w) A (compareOp .NotEq (.ref a) (.ref b)) Q E ⟨h, g, d, tk, os⟩ := by
  subst hb; exact neL0 M e f hu hq
theorem itemLz {value slice : Expr} {z : Int} {kk : Nat} (M : Mm h₀ h led) (e : At led i (a, .obj (lo vs n))) (hzk : z = (kk : Int)) (hx : vs[kk]? = some x) (hz : vs.length ≤ sizeLine) (hq : Q x ⟨h, g, d, tk, os⟩)
    (hs : subscripted slice false (.ref a) (.int z u) = operate [.ref a, .int z u] (getItem (.ref a) (.int z u)) := by with_unfolding_all rfl) :
    wpAny (MP w) A (subscriptTail value slice (.ref a) (.int z u)) Q E ⟨h, g, d, tk, os⟩ := by
  subst hzk; exact itemL M e hx hz hq hs
theorem pick_but (vs : List Value) : slicePick vs.toArray none (some (-1)) none = vs.dropLast.toArray := by
  have := slicePick_butLast vs.toArray 1 (Nat.le_refl _)
  rw [show (-((1 : Nat) : Int)) = -1 from rfl] at this
  rw [this, List.dropLast_eq_take]
  simp
theorem pick_from (vs : List Value) (k : Nat) : slicePick vs.toArray (some (k : Int)) none none = (vs.drop k).toArray := slicePick_from' vs.toArray k
end
theorem Strs.takeS {vs : List Value} {xs : List (List Nat)} (h : Strs vs xs) (k : Nat) : Strs (vs.take k) (xs.take k) := by
  obtain ⟨ts, rfl, rfl⟩ := h
  exact ⟨ts.take k, by simp [sv], by simp⟩
theorem Strs.dropS {vs : List Value} {xs : List (List Nat)} (h : Strs vs xs) (k : Nat) : Strs (vs.drop k) (xs.drop k) := by
  obtain ⟨ts, rfl, rfl⟩ := h
  exact ⟨ts.drop k, by simp [sv], by simp⟩
theorem Strs.butS {vs : List Value} {xs : List (List Nat)} (h : Strs vs xs) : Strs vs.dropLast xs.dropLast := by
  obtain ⟨ts, rfl, rfl⟩ := h
  exact ⟨ts.dropLast, by simp [sv], by simp⟩
theorem gtP_neg (a b : Nat × Nat) : gtP (negP a) (negP b) = beats a b := by
  unfold gtP beats negP
  rw [Bool.eq_iff_iff]
  dsimp only
  split
  · rename_i h
    simp only [Bool.or_eq_true, decide_eq_true_eq, Bool.and_eq_true]; omega
  · rename_i h
    simp only [Bool.or_eq_true, decide_eq_true_eq, Bool.and_eq_true]; omega
theorem bestP_neg : ∀ {L : List (Nat × Nat)}, L ≠ [] → bestP (L.map negP) = negP (best L)
  | [], h => absurd rfl h
  | x :: r, _ => by
    have : ∀ (r : List (Nat × Nat)) (b : Nat × Nat), (r.map negP).foldl (fun b a => if gtP a b then a else b) (negP b) = negP (r.foldl (fun b a => if beats a b then a else b) b) := by
      intro r
      induction r with
      | nil => intro b; rfl
      | cons y r ih =>
        intro b
        rw [List.map_cons, List.foldl_cons, List.foldl_cons, gtP_neg, ← ih]
        cases beats y b <;> rfl
    exact this r x
end
section
set_option maxRecDepth 100000
set_option maxHeartbeats 8000000
set_option hygiene false in
local macro_rules | `(tactic| walk_at "truthy str") => `(tactic| (refine truS (by walk_at "sz") ?_; walk_at "ikT"))
set_option hygiene false in
local macro_rules | `(tactic| walk_at "call builtin:list.append") => `(tactic| ((refine appL (by assumption) (by walk_at "at") (by walk_at "sz") ?_); walk_at "ihM"))
noncomputable abbrev rns : List Str := [Str.ofString "text", Str.ofString "room", Str.ofString "width", Str.ofString "order", Str.ofString "pieces", Str.ofString "sign", Str.ofString "rows", Str.ofString "row", Str.ofString "piece", Str.ofString "places", Str.ofString "rank", Str.ofString "k", Str.ofString "cut", Str.ofString "last"]
section
variable {w : World} {A : Around} {E : Value → Shared → Prop} {h₀ h : Heap} {g : Array GenState} {d : Drawn} {tk : Nat} {os : OsState} {led : Led} {mg mb : Str → Option Value} {i j n k : Nat} {t1 t2 t3 t4 : Tok} {tx order : List Nat} {c0 room width : Nat}
theorem rowsEnd_eq (pieces rr rw : List (List Nat)) (rm : Nat) (ys : List (List Nat)) (z : List Nat) (h : (if stripL [32, 9] rw.flatten = [] then rr.dropLast ++ [rr.getLastD [] ++ rw.flatten] else rr ++ [rw.flatten]) = ys ++ [z]) :
    rowsEnd pieces (rr, rw, rm) = if pieces.getLastD [] = [32] then ys ++ [z.dropLast] else ys ++ [z] := by
  unfold rowsEnd
  have e1 : (rr ++ [rw.flatten]).getLastD [] = rw.flatten := by rw [List.getLastD_eq_getLast?, List.getLast?_concat]; rfl
  have e2 : (rr ++ [rw.flatten]).dropLast = rr := by simp
  try dsimp only
  rw [e1, e2, h]
  have e3 : (ys ++ [z]).getLastD [] = z := by rw [List.getLastD_eq_getLast?, List.getLast?_concat]; rfl
  have e4 : (ys ++ [z]).dropLast = ys := by simp
  rw [e3, e4]
theorem rows_spec {Q : Value → Shared → Prop} (G : Gd w h₀ mg mb) (M : Mm h₀ h led) (R : Rm A 6) (hc0 : c0 ∉ [32, 9]) (htl : tx.length ≤ 50) (hta : Asc (c0 :: tx)) (ho : order.length ≤ 5)
   (hq : ∀ a h' tk' vs n', Mm h₀ h' ((a, .obj (lo vs n')) :: led) → Strs vs (rowsL (c0 :: tx) room width order) → Q (.ref a) ⟨h', g, d, tk', os⟩) :
   wpAny (MP w) A (call (.ref 239) [.str (S (c0 :: tx)) t1, .int room t2, .int width t3, .str (S order) t4]) Q E ⟨h, g, d, tk, os⟩ := by
  walk_at "fill"
  refine' wpAny_call (callE [Str.ofString "text", Str.ofString "room", Str.ofString "width", Str.ofString "order"] [Str.ofString "pieces", Str.ofString "sign", Str.ofString "rows", Str.ofString "row", Str.ofString "piece", Str.ofString "places", Str.ofString "rank", Str.ofString "k", Str.ofString "cut", Str.ofString "last"] [.str (S (c0 :: tx)) t1, .int room t2, .int width t3, .str (S order) t4] G M R.d ?ho ?hcd ?hbind ?hcell ?hloc ?nd ?hlen ?c1 ?c2 ?c3 ?_)
  walk_at "entered"
  intro L h' tk' E' M'
  dsimp only [List.map, List.cons_append, List.nil_append] at M'
  have R1 := fun env => Rm.deeper (R.le (by decide : 5 + 1 ≤ 6)) env
  have hh : A.handled = none := R.handled
  have hxl : (c0 :: tx).length ≤ 51 := by simp; omega
  generalize hX : c0 :: tx = X at *
  have hXn : X ≠ [] := by rw [← hX]; simp
  have hPI := pcs_inv X
  repeat walk1
  rename_i P _ _ _ _ M1
  clear M'
  let Pv1 : Shared → Heap → Nat → (List Value) → Nat → (Option Value) → Prop := fun s' h7 k7 vs n7 sv => Am3 (s' = ⟨h7, g, d, k7, os⟩) (Strs vs (pcs X)) (Mm h₀ h7 ((L, .ns rns [some (.str (S X) t1), some (.int room t2), some (.int width t3), some (.str (S order) t4), some (.ref P), sv, none, none, none, none, none, none, none, none]) :: (P, .obj (lo vs n7)) :: led))
  let Iv1 : Shared → Prop := fun s' => Ex5 (Pv1 s')
  refine midZ Iv1 ?f1 ?f2
  case f1 =>
    refine wpAny_For ?_
    repeat walk1
    refine iterS M1 hta ?_
    intro jt h2 M2
    clear M1
    let Pv2 : Nat → Shared → Nat → Heap → Nat → (List Value) → Nat → (Option Value) → Prop := fun n0 s' kk h7 k7 vs n7 sv => Am5 (n0 = X.length - kk) (kk ≤ X.length) (s' = ⟨h7, g, d, k7, os⟩) (Strs vs (pcs (X.take kk))) (Mm h₀ h7 ((L, .ns rns [some (.str (S X) t1), some (.int room t2), some (.int width t3), some (.str (S order) t4), some (.ref P), sv, none, none, none, none, none, none, none, none]) :: (jt, .obj (siter X t1 kk)) :: (P, .obj (lo vs n7)) :: led))
    let Iv2 : Nat → Shared → Prop := fun n0 s' => Ex6 (Pv2 n0 s')
    refine forN Iv2 ?turn X.length ?start
    case start =>
      exact ⟨0, _, _, _, _, none, rfl, Nat.zero_le _, rfl, Strs.nil.snoc [] _, M2⟩
    case turn =>
      clear M2
      intro n0 s' E2 hI0
      walk_at "hide"
      obtain ⟨kk, h7, k7, vs, n7, sv, rfl, hkk, rfl, hvs, M3⟩ := hI0
      by_cases hlt : kk < X.length
      · obtain ⟨c, hc⟩ : ∃ c, X[kk]? = some c := ⟨_, List.getElem?_eq_getElem hlt⟩
        refine nextS M3 (by walk_at "at") hc ?_
        intro h9 t9 k9 M4
        dsimp only [List.set] at M4 ⊢
        clear M3
        have hsn : pcs (X.take (kk + 1)) = pcStep (pcs (X.take kk)) c := by rw [take_snoc hc, pcs_snoc]
        have hpi := pcs_inv (X.take kk)
        have hfl := congrArg List.length hpi.fl
        have hpl := hpi.ln
        rw [List.length_take] at hpl hfl
        obtain ⟨us, ty, rfl, hus⟩ := hvs.last hpi.ne
        have hzl : ((pcs (X.take kk)).getLastD []).length ≤ 51 := by
          have : (pcs (X.take kk)).getLastD [] ∈ pcs (X.take kk) := by rw [List.getLastD_eq_getLast?, List.getLast?_eq_some_getLast hpi.ne]; exact List.getLast_mem _
          have := mem_sum this
          rw [← List.length_flatten] at this
          omega
        have hul := hus.len
        rw [List.length_dropLast] at hul
        have hdz : (pcs (X.take kk)).dropLast ++ [(pcs (X.take kk)).getLastD []] = pcs (X.take kk) := by
          rw [List.getLastD_eq_getLast?, List.getLast?_eq_some_getLast hpi.ne]; exact List.dropLast_concat_getLast hpi.ne
        unfold pcStep at hsn
        generalize (pcs (X.take kk)).getLastD [] = z at *
        repeat' walk1
        · rename_i hws
          rename Mm _ _ _ => MM
          refine lastL MM (by walk_at "at") List.getLast?_concat (by rw [sizeLine_eq]; simp; omega) ?_
          repeat' walk1
          · have hne : stripL [32, 9] z = [] := by simpa using ‹decide (stripL [32, 9] z = []) = true›
            rename Mm _ _ _ => MM
            refine popL MM (by walk_at "at") (by rw [sizeLine_eq]; first | omega | (simp; omega)) ?_
            intro h12 M12
            dsimp only [List.set] at M12
            clear MM
            repeat walk1
            rename Mm _ _ _ => M13
            rw [if_neg (fun q => q.2 hne)] at hsn
            exact ⟨X.length - (kk + 1), dec_lt (by assumption), kk + 1, _, _, _, _, _, rfl, hlt, rfl, by rw [hsn]; exact hus.snoc _ _, M13⟩
          · have hne : stripL [32, 9] z ≠ [] := by simpa using ‹decide (stripL [32, 9] z = []) = false›
            rename Mm _ _ _ => MM
            refine popL MM (by walk_at "at") (by rw [sizeLine_eq]; first | omega | (simp; omega)) ?_
            intro h12 M12
            dsimp only [List.set] at M12
            clear MM
            repeat walk1
            rename Mm _ _ _ => M13
            rw [if_pos ⟨by simpa using hws, hne⟩] at hsn
            exact ⟨X.length - (kk + 1), dec_lt (by assumption), kk + 1, _, _, _, _, _, rfl, hlt, rfl, by rw [hsn, ← hdz]; exact (hus.snoc z ty).snoc _ _, M13⟩
        · rename_i hws
          rename Mm _ _ _ => MM
          refine popL MM (by walk_at "at") (by rw [sizeLine_eq]; first | omega | (simp; omega)) ?_
          intro h12 M12
          dsimp only [List.set] at M12
          clear MM
          repeat walk1
          rename Mm _ _ _ => M13
          rw [if_neg (fun q => hws (by simpa using q.1))] at hsn
          exact ⟨X.length - (kk + 1), dec_lt (by assumption), kk + 1, _, _, _, _, _, rfl, hlt, rfl, by rw [hsn]; exact hus.snoc _ _, M13⟩
      · have hke : kk = X.length := by omega
        subst hke
        refine nextSE M3 (by walk_at "at") (by omega) hh ?_
        intro h9 M4
        dsimp only [List.eraseIdx] at M4 ⊢
        rw [List.take_length] at hvs
        repeat walk1
        exact ⟨h9, _, vs, n7, sv, rfl, hvs, M4⟩
  case f2 =>
    rintro _ ⟨h7, k7, vs, n7, sv, rfl, hvs, M2⟩
    clear M1
    try dsimp only
    repeat walk1
    rename_i Rw _ q1 _ _ q2 Wa0 _ q3 _ _ M4
    clear M2 q1 q2 q3
    have M5 := M4.perm ((List.Perm.swap _ _ _).cons _)
    clear M4
    have hel := pcs_el hXn
    have hpfl := hPI.fl
    have hpln := hPI.ln
    have hvl := hvs.len
    let Pv3 : Shared → Heap → Nat → Addr → (List Value) → (List Value) → Nat → Nat → Tok → (Option Value) → (Option Value) → (Option Value) → (Option Value) → (Option Value) → (Option Value) → Prop := fun s' h7 k7 Wa rws rvs nR nW tr pv qv rv kv cv lv => Am4 (s' = ⟨h7, g, d, k7, os⟩) (Strs rws ((pcs X).foldl (rowStep width order) ([], [], room)).1) (Strs rvs ((pcs X).foldl (rowStep width order) ([], [], room)).2.1) (Mm h₀ h7 ((L, .ns rns [some (.str (S X) t1), some (.int ((pcs X).foldl (rowStep width order) ([], [], room)).2.2 tr), some (.int width t3), some (.str (S order) t4), some (.ref P), sv, some (.ref Rw), some (.ref Wa), pv, qv, rv, kv, cv, lv]) :: (Rw, .obj (lo rws nR)) :: (Wa, .obj (lo rvs nW)) :: (P, .obj (lo vs n7)) :: led))
    let Iv3 : Shared → Prop := fun s' => Ex14 (Pv3 s')
    refine midZ Iv3 ?g1 ?g2
    case g1 =>
      refine wpAny_For ?_
      repeat walk1
      refine iterL M5 (by walk_at "at") ?_
      intro jt h8 M6
      clear M5
      let Pv4 : Nat → Shared → Nat → Heap → Nat → Addr → (List Value) → (List Value) → Nat → Nat → Tok → (Option Value) → (Option Value) → (Option Value) → (Option Value) → (Option Value) → (Option Value) → Prop := fun n0 s' kk h7 k7 Wa rws rvs nR nW tr pv qv rv kv cv lv => Am6 (n0 = (pcs X).length - kk) (kk ≤ (pcs X).length) (s' = ⟨h7, g, d, k7, os⟩) (Strs rws (((pcs X).take kk).foldl (rowStep width order) ([], [], room)).1) (Strs rvs (((pcs X).take kk).foldl (rowStep width order) ([], [], room)).2.1) (Mm h₀ h7 ((L, .ns rns [some (.str (S X) t1), some (.int (((pcs X).take kk).foldl (rowStep width order) ([], [], room)).2.2 tr), some (.int width t3), some (.str (S order) t4), some (.ref P), sv, some (.ref Rw), some (.ref Wa), pv, qv, rv, kv, cv, lv]) :: (jt, .obj (liter P kk)) :: (Rw, .obj (lo rws nR)) :: (Wa, .obj (lo rvs nW)) :: (P, .obj (lo vs n7)) :: led))
      let Iv4 : Nat → Shared → Prop := fun n0 s' => Ex15 (Pv4 n0 s')
      refine forN Iv4 ?turn (pcs X).length ?start
      case start => exact ⟨0, _, _, Wa0, [], [], 0, 0, t2, none, none, none, none, none, none, rfl, Nat.zero_le _, rfl, .nil, .nil, M6⟩
      case turn =>
        clear M6
        intro n0 s' E2 hI0
        walk_at "hide"
        obtain ⟨kk, h7, k7, Wa, rws, rvs, nR, nW, tr, pv, qv, rv, kv, cv, lv, rfl, hkk, rfl, hrws, hrvs, M7⟩ := hI0
        by_cases hlt : kk < (pcs X).length
        · have hp : (pcs X)[kk]? = some (pcs X)[kk] := by simp [hlt]
          have hpne := hel _ (List.getElem_mem hlt)
          have hbd := rows_bd width order ((pcs X).take kk) ([], [], room)
          have hri : 1 ≤ kk → RI (((pcs X).take kk).foldl (rowStep width order) ([], [], room)) := fun q => by
            have := rows_inv width room order (l := tx) hc0 kk q (by rw [hX]; omega)
            rw [hX] at this; exact this
          have htf : ((pcs X).take kk).flatten.length + ((pcs X)[kk]).length ≤ X.length := by
            have h1 : (pcs X).flatten = ((pcs X).take (kk + 1)).flatten ++ ((pcs X).drop (kk + 1)).flatten := by rw [← List.flatten_append, List.take_append_drop]
            have h2 := congrArg List.length hpfl
            rw [h1, take_snoc hp] at h2
            simp only [List.flatten_append, List.length_append, List.flatten_cons, List.flatten_nil, List.append_nil] at h2
            omega
          generalize (pcs X)[kk] = p at hp hpne htf
          have hst : ((pcs X).take (kk + 1)).foldl (rowStep width order) ([], [], room) = rowStep width order (((pcs X).take kk).foldl (rowStep width order) ([], [], room)) p := by
            rw [take_snoc hp, List.foldl_append]; rfl
          have hr1 : ∀ x ∈ (((pcs X).take kk).foldl (rowStep width order) ([], [], room)).2.1, x ≠ [] := by
            by_cases q : 1 ≤ kk
            · exact (hri q).el
            · have : kk = 0 := by omega
              subst this; simp
          clear hri
          generalize ((pcs X).take kk).foldl (rowStep width order) ([], [], room) = st at *
          obtain ⟨rr, rw, rm⟩ := st
          have hz0 : totR (([], [], room) : RS) = 0 := rfl
          dsimp only at hbd hrws hrvs M7 hr1
          rw [hz0, List.length_take] at hbd
          unfold totR at hbd
          simp only [List.length_nil] at hbd
          obtain ⟨hb1, hb2, hb3, zb4⟩ := hbd
          have hkl : min kk (pcs X).length ≤ 52 := Nat.le_trans (Nat.min_le_right _ _) (Nat.le_trans hpln (Nat.succ_le_succ hxl))
          have zb6 : p.length ≤ 51 := Nat.le_trans (Nat.le_add_left _ _) (Nat.le_trans htf hxl)
          have zb2 : rr.length ≤ 52 := by omega
          have zb3 : rw.length ≤ 52 := by omega
          have zb1 : rw.flatten.length + p.length ≤ 160 := by omega
          have zb5 : (rr.map List.length).sum ≤ 160 := by omega
          clear hb1 hb2 hb3 hkl
          obtain ⟨tp, hvp⟩ := hvs.get hp
          refine nextL M7 (by walk_at "at") (by walk_at "at") hvp ?_
          intro h9 M8
          dsimp only [List.set] at M8 ⊢
          clear M7
          have hrl := hrvs.len
          have hrl2 := hrws.len
          repeat walk1
          rename Mm _ _ _ => MM
          refine concL MM (by walk_at "at") (by walk_at "at") (by rw [sizeLine_eq]; simp; omega) ?_
          intro Wb h10 M9
          have hrv2 := hrvs.snoc p tp
          clear MM
          have hrow1 : ∀ x ∈ rw ++ [p], x ≠ [] := by
            intro x hx
            rcases List.mem_append.mp hx with q | q
            · exact hr1 x q
            · have : x = p := by simpa using q
              rw [this]; exact hpne
          have hrowf : (rw ++ [p]).flatten.length ≤ 200 := by
            simp only [List.flatten_append, List.length_append, List.flatten_cons, List.flatten_nil, List.append_nil]
            omega
          have hrowl : (rw ++ [p]).length ≤ 60 := by simp; omega
          have hrowm : (rw ++ [p]).map List.length = (rw ++ [p]).map List.length := rfl
          have hrowp : 1 ≤ (rw ++ [p]).length := by simp
          generalize hrow : rw ++ [p] = row at *
          generalize rvs ++ [Value.str (S p) tp] = rvs2 at *
          set_option tactic.hygienic false in (revert row rvs2; refine Mine.hold ?_; intros)
          have hrl3 := hrv2.len
          have hrows : (row.map List.length).sum ≤ 200 := by rw [← List.length_flatten]; exact hrowf
          repeat walk1
          rename Mm _ _ _ => MM
          refine joinM0 MM (by walk_at "at") hrv2 (by rw [sizeLine_eq]; show (row.map List.length).sum ≤ _; omega) ?_
          intro t10 k10
          have hS : rowStep width order (rr, rw, rm) p = rowStep width order (rr, rw, rm) p := rfl
          conv at hS => rhs; unfold rowStep
          dsimp only at hS
          rw [hrow] at hS
          rw [hS] at hst
          clear hS
          repeat' walk1
          · rename_i hgt
            rw [if_pos (by omega)] at hst
            rename Mm _ _ _ => M10
            have M11 := M10.sub (.cons_cons _ (.cons_cons _ (.cons_cons _ (.cons _ (.cons_cons _ (.cons_cons _ (.cons _ (.refl _))))))))
            clear MM M9
            let Pv5 : Shared → Addr → Heap → Nat → (List Value) → Nat → Led → (Option Value) → (Option Value) → Prop := fun s' Pa h7 k7 pvs nP X' rv kv => Am3 (s' = ⟨h7, g, d, k7, os⟩) (Pls (X' ++ led) ((places order row order.length).map negP) pvs) (Mm h₀ h7 ((L, .ns rns [some (.str (S X) t1), some (.int rm tr), some (.int width t3), some (.str (S order) t4), some (.ref P), sv, some (.ref Rw), some (.ref Wb), some (.str (S p) tp), some (.ref Pa), rv, kv, cv, lv]) :: (Pa, .obj (lo pvs nP)) :: (Wb, .obj (lo rvs2 0)) :: (jt, .obj (liter P (kk + 1))) :: (Rw, .obj (lo rws nR)) :: (P, .obj (lo vs n7)) :: (X' ++ led)))
            let Iv5 : Shared → Prop := fun s' => Ex8 (Pv5 s')
            refine midZ Iv5 ?p1 ?p2
            case p1 =>
              refine wpAny_For ?_
              repeat walk1
              rename_i rg h11 k11 u11 u12 u13 M12
              refine iterR1 (n := (order.length : Int) - ((0 : Nat) : Int)) M12 (by walk_at "at") (small_one (by omega) (by omega) (by omega) (by omega)) (by split <;> omega) ?_
              intro it h12 M13
              clear M10 M11 M12
              let Pv6 : Nat → Shared → Nat → Addr → Heap → Nat → (List Value) → Nat → Led → (Option Value) → (Option Value) → Prop := fun n0 s' r Pa h7 k7 pvs nP X' rv kv => Am5 (n0 = order.length - r) (r ≤ order.length) (s' = ⟨h7, g, d, k7, os⟩) (Pls (X' ++ led) ((places order row r).map negP) pvs) (Mm h₀ h7 ((L, .ns rns [some (.str (S X) t1), some (.int rm tr), some (.int width t3), some (.str (S order) t4), some (.ref P), sv, some (.ref Rw), some (.ref Wb), some (.str (S p) tp), some (.ref Pa), rv, kv, cv, lv]) :: (it, .obj (riter r ((order.length : Int) - r) 1)) :: (rg, .obj (rng 0 order.length 1 u11 u12 u13)) :: (Pa, .obj (lo pvs nP)) :: (Wb, .obj (lo rvs2 0)) :: (jt, .obj (liter P (kk + 1))) :: (Rw, .obj (lo rws nR)) :: (P, .obj (lo vs n7)) :: (X' ++ led)))
              let Iv6 : Nat → Shared → Prop := fun n0 s' => Ex9 (Pv6 n0 s')
              refine forN Iv6 ?tu order.length ?sa
              case sa =>
                exact ⟨0, _, _, _, [], 0, [], rv, kv, rfl, Nat.zero_le _, rfl, ⟨rfl, by simp [places]⟩, M13⟩
              case tu =>
                clear M13
                intro n0 s' E3 hI0
                walk_at "hide"
                obtain ⟨r, Pa, h7, k7, pvs, nP, X', rv, kv, rfl, hr, rfl, hpl, M14⟩ := hI0
                by_cases hlr : r < order.length
                · refine nextR1 M14 (by walk_at "at") hlr ?_
                  intro h15 t15 k15 M15
                  dsimp only [List.set] at M15 ⊢
                  clear M14
                  obtain ⟨o, ho1⟩ : ∃ o, order[r]? = some o := ⟨_, List.getElem?_eq_getElem hlr⟩
                  have ho2 : order.getD r 0 = o := by rw [List.getD_eq_getElem?_getD, ho1]; rfl
                  have hps := places_succ order row r
                  rw [ho2] at hps
                  have hpn := places_len order row r
                  have hpn2 : r * row.length ≤ 5 * 60 := Nat.mul_le_mul (by omega) hrowl
                  obtain ⟨pr, hpr⟩ : ∃ q, q = places order row r := ⟨_, rfl⟩
                  rw [← hpr] at hps hpl hpn
                  repeat walk1
                  rename Mm _ _ _ => M16
                  clear M15
                  let Pv7 : Shared → Addr → Heap → Nat → (List Value) → Nat → Led → (Option Value) → Prop := fun s' Pa h7 k7 pvs nP X' kv => Am3 (s' = ⟨h7, g, d, k7, os⟩) (Pls (X' ++ led) ((pr ++ placesAt o r row (row.length - 1)).map negP) pvs) (Mm h₀ h7 ((L, .ns rns [some (.str (S X) t1), some (.int rm tr), some (.int width t3), some (.str (S order) t4), some (.ref P), sv, some (.ref Rw), some (.ref Wb), some (.str (S p) tp), some (.ref Pa), some (.int r t15), kv, cv, lv]) :: (it, .obj (riter ((r + 1 : Nat) : Int) ((order.length : Int) - ((r + 1 : Nat) : Int)) 1)) :: (rg, .obj (rng 0 order.length 1 u11 u12 u13)) :: (Pa, .obj (lo pvs nP)) :: (Wb, .obj (lo rvs2 0)) :: (jt, .obj (liter P (kk + 1))) :: (Rw, .obj (lo rws nR)) :: (P, .obj (lo vs n7)) :: (X' ++ led)))
                  let Iv7 : Shared → Prop := fun s' => Ex7 (Pv7 s')
                  refine midZ Iv7 ?b1 ?b2
                  case b2 =>
                    rintro _ ⟨Pa, h7, k7, pvs, nP, X', kv, rfl, hpl, M17⟩
                    rw [← hps] at hpl
                    repeat walk1
                    exact ⟨order.length - (r + 1), dec_lt (by assumption), r + 1, Pa, _, _, pvs, nP, X', _, kv, rfl, hlr, rfl, hpl, M17⟩
                  case b1 =>
                    refine wpAny_For ?_
                    repeat walk1
                    rename_i rh h17 k17 v11 v12 v13 M17
                    refine iterR1 (n := ((row.length - 1 : Nat) : Int) - ((0 : Nat) : Int)) M17 (by walk_at "at") (small_one (by omega) (by omega) (by omega) (by omega)) (by rw [hrl3]; split <;> omega) ?_
                    intro jh h18 M18
                    clear M16 M17
                    let Pv8 : Nat → Shared → Nat → Addr → Heap → Nat → (List Value) → Nat → Led → (Option Value) → Prop := fun n0 s' jj Pa h7 k7 pvs nP X' kv => Am5 (n0 = row.length - 1 - jj) (jj ≤ row.length - 1) (s' = ⟨h7, g, d, k7, os⟩) (Pls (X' ++ led) ((pr ++ placesAt o r row jj).map negP) pvs) (Mm h₀ h7 ((L, .ns rns [some (.str (S X) t1), some (.int rm tr), some (.int width t3), some (.str (S order) t4), some (.ref P), sv, some (.ref Rw), some (.ref Wb), some (.str (S p) tp), some (.ref Pa), some (.int r t15), kv, cv, lv]) :: (jh, .obj (riter ((jj + 1 : Nat) : Int) (((row.length - 1 : Nat) : Int) - (jj : Int)) 1)) :: (rh, .obj (rng 1 rvs2.length 1 v11 v12 v13)) :: (it, .obj (riter ((r + 1 : Nat) : Int) ((order.length : Int) - ((r + 1 : Nat) : Int)) 1)) :: (rg, .obj (rng 0 order.length 1 u11 u12 u13)) :: (Pa, .obj (lo pvs nP)) :: (Wb, .obj (lo rvs2 0)) :: (jt, .obj (liter P (kk + 1))) :: (Rw, .obj (lo rws nR)) :: (P, .obj (lo vs n7)) :: (X' ++ led)))
                    let Iv8 : Nat → Shared → Prop := fun n0 s' => Ex8 (Pv8 n0 s')
                    refine forN Iv8 ?tv (row.length - 1) ?sb
                    case sb => exact ⟨0, Pa, _, _, pvs, nP, X', kv, rfl, Nat.zero_le _, rfl, by rw [show placesAt o r row 0 = [] from rfl, List.append_nil]; exact hpl, M18⟩
                    case tv =>
                      clear M18 hpl
                      intro n0 s' E4 hI0
                      walk_at "hide"
                      obtain ⟨jj, Pa, h7, k7, pvs, nP, X', kv, rfl, hjj, rfl, hpl, M19⟩ := hI0
                      by_cases hlj : jj < row.length - 1
                      · refine nextR2 M19 (by walk_at "at") hlj ?_
                        intro h20 t20 k20 M20
                        dsimp only [List.set] at M20 ⊢
                        clear M19
                        obtain ⟨x0, hx0⟩ : ∃ x0, row[jj]? = some x0 := ⟨_, List.getElem?_eq_getElem (by omega)⟩
                        obtain ⟨x1, hx1⟩ : ∃ x1, row[jj + 1]? = some x1 := ⟨_, List.getElem?_eq_getElem (by omega)⟩
                        have hn0 := hrow1 _ (List.mem_of_getElem? hx0)
                        have hn1 := hrow1 _ (List.mem_of_getElem? hx1)
                        have hll0 := mem_sum (List.mem_of_getElem? hx0)
                        have hll1 := mem_sum (List.mem_of_getElem? hx1)
                        have hpa := placesAt_succ o r row jj
                        have hhit : hit o row (jj + 1) = (decide (o = x0.getLastD 0) || decide (o = x1.headD 0)) := by
                          unfold hit
                          rw [Nat.add_sub_cancel, List.getD_eq_getElem?_getD, List.getD_eq_getElem?_getD, hx0, hx1]; rfl
                        obtain ⟨y0, hy0⟩ := hrv2.get hx0
                        obtain ⟨y1, hy1⟩ := hrv2.get hx1
                        obtain ⟨z0, hz1⟩ : ∃ z, x0.getLast? = some z := ⟨_, List.getLast?_eq_some_getLast hn0⟩
                        obtain ⟨z1, q1, hz2⟩ := List.exists_cons_of_ne_nil hn1
                        have hpvl := hpl.1
                        have hpaL : (placesAt o r row jj).length ≤ row.length := by
                          unfold placesAt
                          rw [List.length_map]
                          exact Nat.le_trans (List.length_filter_le _ _) (by simp; omega)
                        rw [List.length_map, List.length_append] at hpvl
                        repeat walk1
                        refine itemS (i := r) ho1 ?_ (by rw [sizeLine_eq]; omega)
                        intro t21 k21
                        repeat walk1
                        rename Mm _ _ _ => M21
                        clear M20
                        refine itemLz (kk := jj) M21 (by walk_at "at") (by omega) hy0 (by rw [sizeLine_eq]; omega) ?_
                        repeat walk1
                        refine lastS hz1 ?_ (by rw [sizeLine_eq]; omega)
                        intro t22 k22
                        repeat walk1
                        refine itemLz (kk := jj + 1) M21 (by walk_at "at") rfl hy1 (by rw [sizeLine_eq]; omega) ?_
                        repeat walk1
                        refine itemS (i := 0) (c := z1) (by rw [hz2]; rfl) ?_ (by rw [sizeLine_eq]; omega)
                        intro t23 k23
                        repeat walk1
                        rename Mm _ _ _ => M22
                        clear M21
                        have hbb : (decide ([z0] = [o]) || decide ([z1] = [o])) = hit o row (jj + 1) := by
                          rw [hhit, List.getLastD_eq_getLast?, hz1, hz2]
                          simp [eq_comm]
                        refine in2Tb M22 (by walk_at "at") hbb ?_
                        clear hhit hbb
                        cases hht : hit o row (jj + 1)
                        · rw [hht] at hpa
                          repeat walk1
                          rename Mm _ _ _ => M23
                          exact ⟨row.length - 1 - (jj + 1), dec_lt (by assumption), jj + 1, Pa, _, _, pvs, nP, X', _, rfl, by omega, rfl, (by rw [hpa, if_neg Bool.false_ne_true, List.append_nil]; exact hpl), M23.sub (.cons_cons _ (.cons _ (.refl _)))⟩
                        · rw [hht] at hpa
                          repeat walk1
                          rename Mm _ _ _ => M23
                          have M24 := M23.sub (.cons_cons _ (.cons_cons _ (.cons _ (.refl _))))
                          have M25 := M24.perm (List.Perm.cons _ (List.perm_middle (l₁ := [_, _, _, _, _, _, _, _, _])))
                          exact ⟨row.length - 1 - (jj + 1), dec_lt (by assumption), jj + 1, Pa, _, _, _, _, _ :: X', _, rfl, by omega, rfl, (by rw [hpa, if_pos rfl, ← List.append_assoc, List.map_append]; exact (hpl.mono fun q hq => List.mem_cons_of_mem _ hq).snoc (p := negP (r, jj + 1)) List.mem_cons_self), M25⟩
                      · have hje : jj = row.length - 1 := by omega
                        subst hje
                        refine nextRE M19 (by walk_at "at") (by omega) hh ?_
                        intro h20 M20
                        dsimp only [List.eraseIdx] at M20 ⊢
                        repeat walk1
                        exact ⟨Pa, _, _, pvs, nP, X', kv, rfl, hpl, M20.sub (.cons_cons _ (.cons _ (.refl _)))⟩
                · have hre : r = order.length := by omega
                  subst hre
                  refine nextRE M14 (by walk_at "at") (by omega) hh ?_
                  intro h15 M15
                  dsimp only [List.eraseIdx] at M15 ⊢
                  repeat walk1
                  exact ⟨Pa, _, _, pvs, nP, X', rv, kv, rfl, hpl, M15.sub (.cons_cons _ (.cons _ (.refl _)))⟩
            case p2 =>
              rintro _ ⟨Pa, h7, k7, pvs, nP, X', rv, kv, rfl, hpl, M12⟩
              clear M11
              try dsimp only
              have hpn := places_len order row order.length
              have hpn2 : order.length * row.length ≤ 5 * 60 := Nat.mul_le_mul ho hrowl
              have hpvl := hpl.1
              rw [List.length_map] at hpvl
              repeat walk1
              rename Mm _ _ _ => M13
              have hnn : decide (pvs ≠ []) = decide (places order row order.length ≠ []) := by
                rw [Bool.eq_iff_iff]
                simp only [decide_eq_true_eq]
                constructor
                · intro q z; rw [z] at hpvl; exact q (List.eq_nil_of_length_eq_zero (by simpa using hpvl))
                · intro q z; rw [z] at hpvl; exact q (List.eq_nil_of_length_eq_zero (by simpa using hpvl.symm))
              refine neL0b M13 (by walk_at "at") (by walk_at "at") (by have := R.units; simp only [Around.deeper]; omega) hnn ?_
              clear hnn M12
              repeat' walk1
              · rename_i hpn0
                rw [if_pos hpn0] at hst
                have hcr := places_rng (best_mem hpn0)
                refine maxB M13 (by walk_at "at") hh (by have := R.units; simp only [Around.deeper]; omega) (hpl.mono fun q hq => List.mem_cons_of_mem _ (List.mem_cons_of_mem _ (List.mem_cons_of_mem _ (List.mem_cons_of_mem _ (List.mem_cons_of_mem _ (List.mem_cons_of_mem _ (List.mem_cons_of_mem _ hq))))))) (by omega) (by simpa using hpn0) ?_
                intro T h20 k20 u20 u21 hT M20
                rw [bestP_neg hpn0] at hT
                generalize best (places order row order.length) = bp at *
                obtain ⟨b1, cut⟩ := bp
                dsimp only at hcr hst
                obtain ⟨iT, hiT⟩ := List.mem_iff_getElem?.mp hT
                clear M13
                repeat walk1
                refine itemT (k := 1) M20 (At.of hiT) rfl (by simp) ?_
                repeat walk1
                rename Mm _ _ _ => M21
                clear M20
                refine slL (vs := rvs2) (n := 0) (r := rvs2.take cut) M21 (by walk_at "at") .none (.int _ _) (pick_to _ _) (by rw [sizeLine_eq]; omega) ?_
                intro s1 h22 M22
                clear M21
                have htk := hrv2.takeS cut
                have hsum1 : ((row.take cut).map List.length).sum ≤ 200 := by
                  have : ((row.take cut).map List.length).sum + ((row.drop cut).map List.length).sum = (row.map List.length).sum := by
                    rw [← List.sum_append, ← List.map_append, List.take_append_drop]
                  omega
                repeat walk1
                refine joinM0 M22 .n1 htk (by rw [sizeLine_eq]; show ((row.take cut).map List.length).sum ≤ _; omega) ?_
                intro t23 k23
                repeat walk1
                rename Mm _ _ _ => M24
                clear M22
                refine slL (vs := rvs2) (n := 0) (r := rvs2.drop cut) M24 (by walk_at "at") (.int _ _) .none (pick_from _ _) (by rw [sizeLine_eq]; omega) ?_
                intro s2 h25 M25
                clear M24
                repeat walk1
                rename Mm _ _ _ => M26
                have M27 := (M26.sub (.cons_cons _ (.cons_cons _ (.cons _ (.cons _ (.cons _ (.cons _ (.cons_cons _ (.cons_cons _ (.cons_cons _ (List.sublist_append_right X' led))))))))))).perm (led' := (L, _) :: (jt, _) :: (Rw, _) :: (s2, _) :: (P, _) :: led) (by walk_at "perm")
                refine ⟨(pcs X).length - (kk + 1), dec_lt (by assumption), kk + 1, _, _, s2, _, _, _, 0, _, _, _, _, _, _, _, rfl, hlt, rfl, ?_, (by rw [hst]; exact hrv2.dropS cut), (by rw [hst]; exact M27)⟩
                rw [hst]
                exact hrws.snoc _ _
              · rename_i hpn0 hrm _ _
                rw [if_neg hpn0, if_pos (by omega)] at hst
                refine slL (vs := rvs2) (n := 0) (r := rvs2.dropLast) M13 (by walk_at "at") .none (.int _ _) (pick_but _) (by rw [sizeLine_eq]; omega) ?_
                intro s1 h22 M22
                clear M13
                have htk := hrv2.butS
                have hsum1 : (row.dropLast.map List.length).sum ≤ 200 := by
                  rw [← List.length_flatten]
                  have q := hrowf
                  rw [← hrow] at q ⊢
                  rw [List.dropLast_concat]
                  rw [List.flatten_append, List.length_append] at q
                  omega
                repeat walk1
                refine joinM0 M22 .n1 htk (by rw [sizeLine_eq]; show (row.dropLast.map List.length).sum ≤ _; omega) ?_
                intro t23 k23
                repeat walk1
                rename Mm _ _ _ => M24
                clear M22
                obtain ⟨y, p1, hpy⟩ := List.exists_cons_of_ne_nil hpne
                have hhd : p.headD 0 = y := by rw [hpy]; rfl
                rw [hhd] at hst
                refine itemS (i := 0) (c := y) (by rw [hpy]; rfl) ?_ (by rw [sizeLine_eq]; omega)
                intro t24 k24
                repeat' walk1
                · rename_i hyw _ _ _ _ _ _ _ _ _ _
                  rename Mm _ _ _ => M26
                  rw [if_pos (by assumption)] at hst
                  have M27 := (M26.sub (.cons_cons _ (.cons_cons _ (.cons _ (.cons _ (.cons _ (.cons _ (.cons_cons _ (.cons_cons _ (.cons_cons _ (List.sublist_append_right X' led))))))))))).perm (led' := (L, _) :: (jt, _) :: (Rw, _) :: (_, _) :: (P, _) :: led) (by walk_at "perm")
                  refine ⟨(pcs X).length - (kk + 1), dec_lt (by assumption), kk + 1, _, _, _, _, _, _, 0, _, _, _, _, _, _, _, rfl, hlt, rfl, ?_, (by rw [hst]; exact Strs.nil.snoc p tp), (by rw [hst]; exact M27)⟩
                  rw [hst]
                  exact hrws.snoc _ _
                · rename Mm _ _ _ => M26
                  rw [if_neg (by assumption)] at hst
                  have M27 := (M26.sub (.cons_cons _ (.cons_cons _ (.cons _ (.cons _ (.cons _ (.cons _ (.cons_cons _ (.cons_cons _ (.cons_cons _ (List.sublist_append_right X' led))))))))))).perm (led' := (L, _) :: (jt, _) :: (Rw, _) :: (_, _) :: (P, _) :: led) (by walk_at "perm")
                  refine ⟨(pcs X).length - (kk + 1), dec_lt (by assumption), kk + 1, _, _, _, _, _, _, 0, _, _, _, _, _, _, _, rfl, hlt, rfl, ?_, ?_, (by rw [hst]; exact M27)⟩
                  · rw [hst]; exact hrws.snoc _ _
                  · rw [hst]; exact Strs.nil.snoc (32 :: p) _
              · rename_i hpn0 hrm
                rw [if_neg hpn0, if_neg (by omega)] at hst
                have M27 := (M13.sub (.cons_cons _ (.cons _ (.cons _ (.cons_cons _ (.cons_cons _ (.cons_cons _ (.cons_cons _ (List.sublist_append_right X' led))))))))).perm (led' := (L, _) :: (jt, _) :: (Rw, _) :: (Wb, _) :: (P, _) :: led) (by walk_at "perm")
                exact ⟨(pcs X).length - (kk + 1), dec_lt (by assumption), kk + 1, _, _, Wb, _, _, _, 0, _, _, _, _, _, _, _, rfl, hlt, rfl, (by rw [hst]; exact hrws), (by rw [hst]; exact hrv2), (by rw [hst]; exact M27)⟩
          · rename_i hgt
            rw [if_neg (by omega)] at hst
            rename Mm _ _ _ => MM
            have M10 := (MM.sub (.cons_cons _ (.cons_cons _ (.cons _ (.cons_cons _ (.cons_cons _ (.cons _ (.refl _)))))))).perm (led' := (L, _) :: (jt, _) :: (Rw, _) :: (Wb, _) :: (P, _) :: led) (by walk_at "perm")
            exact ⟨(pcs X).length - (kk + 1), dec_lt (by assumption), kk + 1, _, _, Wb, rws, rvs2, nR, 0, tr, _, _, _, _, _, _, rfl, hlt, rfl, (by rw [hst]; exact hrws), (by rw [hst]; exact hrv2), (by rw [hst]; exact M10)⟩
        · have hke : kk = (pcs X).length := by omega
          subst hke
          refine nextLE M7 (by walk_at "at") (by walk_at "at") (by omega) hh ?_
          intro h9 M8
          dsimp only [List.eraseIdx] at M8 ⊢
          rw [List.take_length] at hrws hrvs M8
          repeat walk1
          exact ⟨h9, _, Wa, rws, rvs, nR, nW, tr, pv, qv, rv, kv, cv, lv, rfl, hrws, hrvs, M8⟩
    case g2 =>
      rintro _ ⟨h7, k7, Wa, rws, rvs, nR, nW, tr, pv, qv, rv, kv, cv, lv, rfl, hrws, hrvs, M7⟩
      clear M5
      try dsimp only
      have hbd := rows_bd width order (pcs X) ([], [], room)
      have hri : RI ((pcs X).foldl (rowStep width order) ([], [], room)) := by
        have hl1 : 1 ≤ (pcs X).length := by
          rcases Nat.eq_zero_or_pos (pcs X).length with q | q
          · exact absurd (List.eq_nil_of_length_eq_zero q) hPI.ne
          · exact q
        have := rows_inv width room order (l := tx) hc0 (pcs X).length hl1 (by rw [hX]; omega)
        rw [hX, List.take_length] at this; exact this
      have hRL : rowsL X room width order = rowsEnd (pcs X) ((pcs X).foldl (rowStep width order) ([], [], room)) := rfl
      rw [hRL] at hq
      clear hRL
      generalize (pcs X).foldl (rowStep width order) ([], [], room) = st at *
      obtain ⟨rr, rw, rm⟩ := st
      have hz0 : totR (([], [], room) : RS) = 0 := rfl
      rw [hz0] at hbd
      unfold totR at hbd
      have hfll := congrArg List.length hpfl
      simp only [List.length_nil] at hbd
      dsimp only at hbd hrws hrvs M7
      have hrl := hrvs.len
      have hrl2 := hrws.len
      have hsumw : (rw.map List.length).sum ≤ 200 := by rw [← List.length_flatten]; omega
      repeat walk1
      refine joinM0 M7 (by walk_at "at") hrvs (by rw [sizeLine_eq]; show (rw.map List.length).sum ≤ _; omega) ?_
      intro t10 k10
      repeat walk1
      rename Mm _ _ _ => M8
      clear M7
      obtain ⟨us', ty, hvse, _⟩ := hvs.last hPI.ne
      have hlastP : vs.getLast? = some (.str (S ((pcs X).getLastD [])) ty) := by rw [hvse]; exact List.getLast?_concat
      have hfne : rw.flatten ≠ [] := by
        intro q
        obtain ⟨y, r, hy⟩ := List.exists_cons_of_ne_nil hri.ne
        have hy : rw = y :: r := hy
        have hy1 := hri.el y (by rw [hy]; simp)
        rw [hy] at q
        simp at q
        exact hy1 q.1
      refine lastL M8 (by walk_at "at") List.getLast?_concat (by rw [sizeLine_eq]; simp; omega) ?_
      repeat' walk1
      · have hsp : stripL [32, 9] rw.flatten = [] := by first | assumption | exact of_decide_eq_true (by assumption)
        have hrne : rr ≠ [] := fun q => hri.ft q hsp
        obtain ⟨ys, tz, rfl, hys⟩ := hrws.last hrne
        have hzl : (rr.getLastD []).length ≤ 200 := by
          have : rr.getLastD [] ∈ rr := by rw [List.getLastD_eq_getLast?, List.getLast?_eq_some_getLast hrne]; exact List.getLast_mem _
          have := mem_sum this
          omega
        have hysl := hys.len
        rw [List.length_dropLast] at hysl
        have hE := rowsEnd_eq (pcs X) rr rw rm rr.dropLast (rr.getLastD [] ++ rw.flatten) (by rw [if_pos hsp])
        rename Mm _ _ _ => MM
        refine popL MM (by walk_at "at") (by rw [sizeLine_eq]; simp; omega) ?_
        intro h9 M9
        dsimp only [List.set] at M9
        clear MM
        repeat walk1
        rename Mm _ _ _ => MM
        refine popL MM (by walk_at "at") (by rw [sizeLine_eq]; omega) ?_
        intro h9' M9'
        dsimp only [List.set] at M9'
        clear MM
        generalize hzz : rr.getLastD [] = zz at *
        repeat walk1
        have hzne : zz ++ rw.flatten ≠ [] := by simp [hfne]
        have hzln : (zz ++ rw.flatten).length ≤ 400 := by simp; omega
        rename Mm _ _ _ => M10
        refine lastL (vs := vs) M10 (by walk_at "at") hlastP (by rw [sizeLine_eq]; omega) ?_
        repeat' walk1
        · rw [if_pos (by first | assumption | exact of_decide_eq_true (by assumption))] at hE
          rename Mm _ _ _ => M11
          refine popL M11 (by walk_at "at") (by rw [sizeLine_eq]; omega) ?_
          intro h12 M12
          dsimp only [List.set] at M12
          repeat walk1
          refine slbutS M12 hzne (by rw [sizeLine_eq]; omega) ?_
          intro h13 t13 k13 M13
          repeat walk1
          rename Mm _ _ _ => M14
          rw [hE] at hq
          exact hq _ _ _ _ _ (M14.sub (.cons _ (.cons_cons _ (.cons _ (.cons _ (.refl _)))))) (hys.snoc _ _)
        · rw [if_neg (by first | assumption | exact of_decide_eq_false (by assumption))] at hE
          rename Mm _ _ _ => M11
          rw [hE] at hq
          exact hq _ _ _ _ _ (M11.sub (.cons _ (.cons_cons _ (.cons _ (.cons _ (.refl _)))))) (hys.snoc _ _)
      · have hsp : ¬ stripL [32, 9] rw.flatten = [] := by first | assumption | exact of_decide_eq_false (by assumption)
        have hE := rowsEnd_eq (pcs X) rr rw rm rr rw.flatten (by rw [if_neg hsp])
        have hzne := hfne
        have hys := hrws
        rename Mm _ _ _ => M10
        refine lastL (vs := vs) M10 (by walk_at "at") hlastP (by rw [sizeLine_eq]; omega) ?_
        repeat' walk1
        · rw [if_pos (by first | assumption | exact of_decide_eq_true (by assumption))] at hE
          rename Mm _ _ _ => M11
          refine popL M11 (by walk_at "at") (by rw [sizeLine_eq]; omega) ?_
          intro h12 M12
          dsimp only [List.set] at M12
          repeat walk1
          refine slbutS M12 hzne (by rw [sizeLine_eq]; omega) ?_
          intro h13 t13 k13 M13
          repeat walk1
          rename Mm _ _ _ => M14
          rw [hE] at hq
          exact hq _ _ _ _ _ (M14.sub (.cons _ (.cons_cons _ (.cons _ (.cons _ (.refl _)))))) (hys.snoc _ _)
        · rw [if_neg (by first | assumption | exact of_decide_eq_false (by assumption))] at hE
          rename Mm _ _ _ => M11
          rw [hE] at hq
          exact hq _ _ _ _ _ (M11.sub (.cons _ (.cons_cons _ (.cons _ (.cons _ (.refl _)))))) (hys.snoc _ _)
end
end
section
/-! the formatter's rows are the law's rows -/
theorem wsp_two {l : List Nat} {y : Nat} {z : List Nat} (h : (wsp l).2 = y :: z) : y ∉ [32, 9] := by
  rw [wsp_eq] at h
  dsimp only at h
  have := List.head_dropWhile_not isW (l := l) (by rw [h]; simp)
  have e : (l.dropWhile isW).head (by rw [h]; simp) = y := by simp [h]
  rw [e, isW_eq] at this
  exact of_decide_eq_false this
theorem pcStep_join {xs : List (List Nat)} {x : List Nat} {c : Nat} (h : c ∉ [32, 9] ∨ stripL [32, 9] x = []) : pcStep (xs ++ [x]) c = xs ++ [x ++ [c]] := by
  unfold pcStep
  have e1 : (xs ++ [x]).getLastD [] = x := by simp
  rw [e1, if_neg (by intro q; rcases h with h | h; exact h q.1; exact q.2 h)]
  simp
theorem pcStep_new {xs : List (List Nat)} {x : List Nat} {c : Nat} (h : c ∈ [32, 9]) (hx : stripL [32, 9] x ≠ []) : pcStep (xs ++ [x]) c = xs ++ [x] ++ [[c]] := by
  unfold pcStep
  have e1 : (xs ++ [x]).getLastD [] = x := by simp
  rw [e1, if_pos ⟨h, hx⟩]
theorem fold_non : ∀ (l : List Nat) (xs : List (List Nat)) (x : List Nat), (∀ c ∈ l, c ∉ [32, 9]) → l.foldl pcStep (xs ++ [x]) = xs ++ [x ++ l]
  | [], xs, x, _ => by simp
  | c :: l, xs, x, h => by
    rw [List.foldl_cons, pcStep_join (.inl (h c (by simp))), fold_non l _ _ fun d hd => h d (by simp [hd])]; simp
theorem fold_ws : ∀ (l : List Nat) (xs : List (List Nat)) (x : List Nat), (∀ c ∈ x, c ∈ [32, 9]) → (∀ c ∈ l, c ∈ [32, 9]) → l.foldl pcStep (xs ++ [x]) = xs ++ [x ++ l]
  | [], xs, x, _, _ => by simp
  | c :: l, xs, x, hx, h => by
    have hx' : ∀ d ∈ x ++ [c], d ∈ [32, 9] := by
      intro d hd
      rcases List.mem_append.mp hd with q | q
      · exact hx d q
      · rw [List.mem_singleton.mp q]; exact h c (by simp)
    rw [List.foldl_cons, pcStep_join (.inr ((strip_nil _ _).mpr hx)), fold_ws l _ _ hx' fun d hd => h d (by simp [hd])]; simp
theorem strip_ne {l : List Nat} {c : Nat} (hc : c ∈ l) (h : c ∉ [32, 9]) : stripL [32, 9] l ≠ [] := fun q => h ((strip_nil _ _).mp q c hc)
theorem fold_splN : ∀ (n : Nat) (l : List Nat) (xs : List (List Nat)) (x : List Nat), l.length ≤ n → stripL [32, 9] x ≠ [] → (l ≠ [] → ∃ c r, l = c :: r ∧ c ∈ [32, 9]) → l.foldl pcStep (xs ++ [x]) = xs ++ [x] ++ (splN n l).map cat
  | 0, l, xs, x, h, _, _ => by
    have : l = [] := List.eq_nil_of_length_eq_zero (by omega)
    subst this; simp [splN]
  | n + 1, l, xs, x, h, hx, hl => by
    by_cases hn : l = []
    · subst hn; simp [splN]
    · obtain ⟨c, r, rfl, hc⟩ := hl hn
      have a1 := wsp_app (c :: r)
      have a2 := nws_app (wsp (c :: r)).2
      have w1 := (wsp_pos (r := r) hc).1
      have hmem : ∀ d ∈ (wsp r).1, d ∈ [32, 9] := fun d hd => wsp_mem hd
      have hmem2 : ∀ d ∈ (nws (wsp (c :: r)).2).1, d ∉ [32, 9] := fun d hd => nws_mem hd
      have e : c :: r = c :: ((wsp r).1 ++ ((nws (wsp (c :: r)).2).1 ++ (nws (wsp (c :: r)).2).2)) := by
        rw [a2]; rw [← List.cons_append, ← w1, a1]
      have hlen : (nws (wsp (c :: r)).2).2.length ≤ n := by
        have h1 := nws_len (wsp (c :: r)).2
        have h2 := wsp_len (c :: r)
        rw [w1] at h2
        simp at h2 h
        omega
      have hsp : splN (n + 1) (c :: r) = ((wsp (c :: r)).1, (nws (wsp (c :: r)).2).1) :: splN n (nws (wsp (c :: r)).2).2 := by
        rw [splN, if_neg (by simp)]
      have hfold : (c :: r).foldl pcStep (xs ++ [x]) = (nws (wsp (c :: r)).2).2.foldl pcStep (xs ++ [x] ++ [(wsp (c :: r)).1 ++ (nws (wsp (c :: r)).2).1]) := by
        conv => lhs; rw [e]
        rw [List.foldl_cons, List.foldl_append, List.foldl_append, pcStep_new hc hx, fold_ws _ _ _ (by simpa using hc) hmem, fold_non _ _ _ hmem2, w1]
        rfl
      rw [hfold, hsp]
      by_cases hs : (nws (wsp (c :: r)).2).1 = []
      · have : (nws (wsp (c :: r)).2).2 = [] := by
          cases hz : (wsp (c :: r)).2 with
          | nil => rfl
          | cons y z =>
            exfalso
            have hy : y ∉ [32, 9] := wsp_two hz
            rw [hz, (nws_pos hy).1] at hs; cases hs
        rw [this, splN_nil]; simp [cat]
      · have hx' : stripL [32, 9] ((wsp (c :: r)).1 ++ (nws (wsp (c :: r)).2).1) ≠ [] := by
          obtain ⟨y, z, hyz⟩ : ∃ y z, (nws (wsp (c :: r)).2).1 = y :: z := by
            cases hq : (nws (wsp (c :: r)).2).1 with
            | nil => exact absurd hq hs
            | cons y z => exact ⟨y, z, rfl⟩
          exact strip_ne (c := y) (by rw [hyz]; simp) (hmem2 y (by rw [hyz]; simp))
        rw [fold_splN n _ _ _ hlen hx' fun q => nws_two q]
        simp [cat]
theorem pcs_spl {text : List Nat} (h : (nws text).1 ≠ []) : pcs text = (spl text).map cat := by
  have hmem2 : ∀ d ∈ (nws text).1, d ∉ [32, 9] := fun d hd => nws_mem hd
  obtain ⟨y, z, hyz⟩ : ∃ y z, (nws text).1 = y :: z := by
    cases hq : (nws text).1 with
    | nil => exact absurd hq h
    | cons y z => exact ⟨y, z, rfl⟩
  have e : pcs text = ((nws text).1 ++ (nws text).2).foldl pcStep [[]] := by rw [nws_app]; rfl
  rw [e, List.foldl_append]
  have e2 := fold_non (nws text).1 [] [] hmem2
  simp only [List.nil_append] at e2
  rw [e2]
  have e3 := fold_splN text.length (nws text).2 [] (nws text).1 (by have := nws_len text; omega) (strip_ne (c := y) (by rw [hyz]; simp) (hmem2 y (by rw [hyz]; simp))) fun q => nws_two q
  simp only [List.nil_append] at e3
  rw [e3]
  simp [spl, cat]
/-! the pieces are well made -/
structure GoodL (L : List Pr) : Prop where
  g : ∀ q ∈ L, GoodP q
  w : ∀ q ∈ L, q.1 ≠ []
  s : ∀ q ∈ L.dropLast, q.2 ≠ []
theorem goodL_splN : ∀ (n : Nat) (l : List Nat), l.length ≤ n → (l ≠ [] → ∃ c r, l = c :: r ∧ c ∈ [32, 9]) → (∀ c ∈ l, c ∉ [32, 9] → isp c = false) → GoodL (splN n l)
  | 0, l, h, _, _ => ⟨by simp [splN], by simp [splN], by simp [splN]⟩
  | n + 1, l, h, hl, hi => by
    by_cases hn : l = []
    · subst hn; exact ⟨by simp [splN], by simp [splN], by simp [splN]⟩
    · obtain ⟨c, r, rfl, hc⟩ := hl hn
      have a1 := wsp_app (c :: r)
      have a2 := nws_app (wsp (c :: r)).2
      have w1 := (wsp_pos (r := r) hc).1
      have hlen : (nws (wsp (c :: r)).2).2.length ≤ n := by
        have h1 := nws_len (wsp (c :: r)).2
        have h2 := wsp_len (c :: r)
        rw [w1] at h2
        simp at h2 h
        omega
      have hsp : splN (n + 1) (c :: r) = ((wsp (c :: r)).1, (nws (wsp (c :: r)).2).1) :: splN n (nws (wsp (c :: r)).2).2 := by
        rw [splN, if_neg (by simp)]
      have hin : ∀ d ∈ (wsp (c :: r)).2, d ∈ c :: r := fun d hd => by rw [← a1]; exact List.mem_append_right _ hd
      have ih := goodL_splN n (nws (wsp (c :: r)).2).2 hlen (fun q => nws_two q) fun d hd => hi d (hin d (by rw [← a2]; exact List.mem_append_right _ hd))
      rw [hsp]
      refine ⟨?_, ?_, ?_⟩
      · intro q hq
        rcases List.mem_cons.mp hq with rfl | hq
        · exact ⟨fun d hd => wsp_mem hd, fun d hd => ⟨nws_mem hd, hi d (hin d (by rw [← a2]; exact List.mem_append_left _ hd)) (nws_mem hd)⟩⟩
        · exact ih.g q hq
      · intro q hq
        rcases List.mem_cons.mp hq with rfl | hq
        · rw [w1]; simp
        · exact ih.w q hq
      · intro q hq
        by_cases he : splN n (nws (wsp (c :: r)).2).2 = []
        · rw [he] at hq; simp at hq
        · rw [List.dropLast_cons_of_ne_nil he] at hq
          rcases List.mem_cons.mp hq with rfl | hq
          · intro q0
            dsimp only at q0
            apply he
            have : (nws (wsp (c :: r)).2).2 = [] := by
              cases hz : (wsp (c :: r)).2 with
              | nil => rfl
              | cons y z =>
                exfalso
                have hy : y ∉ [32, 9] := wsp_two hz
                rw [hz, (nws_pos hy).1] at q0; cases q0
            rw [this, splN_nil]
          · exact ih.s q hq
/-- all the pieces but the last -/
theorem fold_agree {order : List Nat} (ho : Ord order) {mx : Nat} : ∀ (ps : List Pr) (lines : List (List Nat)) (cl : List Pr) (sz : Nat), Cl cl → cl ≠ [] → (∀ q ∈ ps, GoodP q) → (∀ q ∈ ps, q.1 ≠ []) → (∀ q ∈ ps, q.2 ≠ []) →
    ∃ lines' cl' sz', ps.foldl (chunkF mx order) (lines, cl, sz) = (lines', cl', sz') ∧ (ps.map cat).foldl (rowStep mx order) (lines, cl.map cat, sz) = (lines', cl'.map cat, sz') ∧ Cl cl' ∧ cl' ≠ []
  | [], lines, cl, sz, C, hn, _, _, _ => ⟨_, _, _, rfl, rfl, C, hn⟩
  | p :: ps, lines, cl, sz, C, hn, hg, hw, hs => by
    obtain ⟨l1, c1, s1, f, cl0, e1, e2, a⟩ := step_agree ho (mx := mx) (sz := sz) (lines := lines) C (hg p (by simp)) fun _ => hw p (by simp)
    have C1 : Cl c1 := by
      refine ⟨?_, ?_, a.w⟩
      · intro q hq
        rw [a.e] at hq
        rcases List.mem_append.mp hq with q1 | q1
        · exact a.g q q1
        · rw [List.mem_singleton.mp q1]; exact a.gf
      · intro q hq
        rw [a.e] at hq
        rcases List.mem_append.mp hq with q1 | q1
        · exact a.s q q1
        · rw [List.mem_singleton.mp q1]; exact hs p (by simp)
    obtain ⟨l2, c2, s2, e3, e4, C2, n2⟩ := fold_agree ho ps l1 c1 s1 C1 (by rw [a.e]; simp) (fun q hq => hg q (by simp [hq])) (fun q hq => hw q (by simp [hq])) fun q hq => hs q (by simp [hq])
    exact ⟨l2, c2, s2, by rw [List.foldl_cons, e1, e3], by rw [List.map_cons, List.foldl_cons, e2, e4], C2, n2⟩
theorem owl2_non {sz : Nat} {q : List Pr} {c : Nat} (hc : c ∈ ptext q) (hi : isp c = false) : owl2 sz q = false := by
  unfold owl2
  have h1 : plen q ≠ 0 := by
    rw [← ptext_len]
    intro h
    rw [List.eq_nil_of_length_eq_zero h] at hc; cases hc
  have h2 : (ptext q).all isp = false := by
    rw [List.all_eq_false]; exact ⟨c, hc, by simp [hi]⟩
  simp [h1, h2]
theorem plen_pos {q : List Pr} {c : Nat} (hc : c ∈ ptext q) : 0 < plen q := by
  rw [← ptext_len]; exact List.length_pos_of_mem hc
theorem ptext_app (a b : List Pr) : ptext (a ++ b) = ptext a ++ ptext b := by simp [ptext_eq]
theorem ptext_one (p : Pr) : ptext [p] = cat p := by simp [ptext_eq]
theorem end_A {lines : List (List Nat)} {sz : Nat} {cl : List Pr} {pieces : List (List Nat)} {c : Nat} (hc : c ∈ ptext cl) (hw : c ∉ [32, 9]) (hi : isp c = false) (hn : nlps cl = cl) (hp : pieces.getLastD [] ≠ [32]) :
    newlF lines sz cl = rowsEnd pieces (lines, cl.map cat, sz) := by
  unfold newlF addLine rowsEnd
  rw [hn, if_pos (by have := plen_pos hc; omega), owl2_non hc hi, if_neg (by simp)]
  dsimp only
  have e : (lines ++ [(cl.map cat).flatten]).getLastD [] = ptext cl := by simp [ptext_eq]
  rw [e, if_neg (strip_ne hc hw), if_neg hp, ptext_eq]
theorem fmt_rows {text : List Nat} {room width : Nat} {order : List Nat} (ho : Ord order) (h : (nws text).1 ≠ []) (hi : ∀ c ∈ text, c ∉ [32, 9] → isp c = false) : fmtL text room width order = rowsL text room width order := by
  unfold fmtL rowsL
  rw [pcs_spl h]
  have a2 := nws_app text
  have hg0 : GoodP ([], (nws text).1) := ⟨by simp, fun d hd => ⟨nws_mem hd, hi d (by rw [← a2]; exact List.mem_append_left _ hd) (nws_mem hd)⟩⟩
  have GL := goodL_splN text.length (nws text).2 (by have := nws_len text; omega) (fun q => nws_two q) fun d hd => hi d (by rw [← a2]; exact List.mem_append_right _ hd)
  obtain ⟨l1, c1, s1, f, cl0, e1, e2, a⟩ := step_agree ho (mx := width) (sz := room) (lines := []) (cl := []) ⟨by simp, by simp, by simp⟩ hg0 (by simp)
  simp only [List.map_nil] at e2
  have C1 : Cl c1 := by
    refine ⟨?_, ?_, a.w⟩
    · intro q hq
      rw [a.e] at hq
      rcases List.mem_append.mp hq with q1 | q1
      · exact a.g q q1
      · rw [List.mem_singleton.mp q1]; exact a.gf
    · intro q hq
      rw [a.e] at hq
      rcases List.mem_append.mp hq with q1 | q1
      · exact a.s q q1
      · rw [List.mem_singleton.mp q1]; exact h
  have n1 : c1 ≠ [] := by rw [a.e]; simp
  have nonw : ∀ (cs : List Pr), (∀ q ∈ cs, GoodP q) → (∀ q ∈ cs, q.2 ≠ []) → cs ≠ [] → ∃ c, c ∈ ptext cs ∧ c ∉ [32, 9] ∧ isp c = false := by
    intro cs hg hs hn
    cases cs with
    | nil => exact absurd rfl hn
    | cons q r =>
      obtain ⟨y, z, hyz⟩ : ∃ y z, q.2 = y :: z := by
        cases hq : q.2 with
        | nil => exact absurd hq (hs q (by simp))
        | cons y z => exact ⟨y, z, rfl⟩
      have := (hg q (by simp)).s y (by rw [hyz]; simp)
      exact ⟨y, by rw [ptext_eq]; simp [cat, hyz], this.1, this.2⟩
  unfold spl
  generalize splN text.length (nws text).2 = L at *
  rw [List.map_cons, List.foldl_cons, List.foldl_cons, e1, e2]
  rcases List.eq_nil_or_concat L with rfl | ⟨ini, p, rfl⟩
  · simp only [List.map_nil, List.foldl_nil]
    obtain ⟨c, hc, hcw, hci⟩ := nonw c1 C1.g C1.s n1
    have hfn : (f, (nws text).1) ≠ (([32], []) : Pr) := fun q => h (congrArg Prod.snd q)
    refine end_A hc hcw hci (by rw [a.e]; exact nlps_id hfn) ?_
    show ([] ++ (nws text).1 : List Nat) ≠ [32]
    intro q
    have := (hg0.s 32 (by rw [← List.nil_append (nws text).1, q]; simp)).1
    exact this (by simp)
  · rw [List.concat_eq_append] at GL ⊢
    rw [List.map_append, List.foldl_append, List.foldl_append]
    have hsi : ∀ q ∈ ini, q.2 ≠ [] := fun q hq => GL.s q (by simpa using hq)
    obtain ⟨l2, c2, s2, e3, e4, C2, n2⟩ := fold_agree ho (mx := width) ini l1 c1 s1 C1 n1 (fun q hq => GL.g q (by simp [hq])) (fun q hq => GL.w q (by simp [hq])) hsi
    rw [e3, e4]
    have gp := GL.g p (by simp)
    have wp := GL.w p (by simp)
    obtain ⟨l3, c3, s3, f3, cl3, e5, e6, a3⟩ := step_agree ho (mx := width) (sz := s2) (lines := l2) C2 gp fun _ => wp
    simp only [List.map_cons, List.map_nil, List.foldl_cons, List.foldl_nil]
    rw [e5, e6]
    dsimp only
    have hlast : (cat ([], (nws text).1) :: (ini.map cat ++ [cat p])).getLastD [] = cat p := by
      rw [← List.cons_append]; simp only [List.getLastD_eq_getLast?, List.getLast?_concat, Option.getD_some]
    have hf3 : f3 = p.1 := by rcases a3.fe with q | q; exact q; exact absurd q.1 wp
    subst hf3
    by_cases hp2 : p.2 = []
    · have hcat : cat p = p.1 := by unfold cat; rw [hp2]; simp
      have hpe : p = (p.1, []) := by rw [← hp2]
      have e : c3 = cl3 ++ [(p.1, [])] := by rw [a3.e, hp2]
      have hpt : ptext c3 = ptext cl3 ++ p.1 := by rw [e, ptext_app, ptext_one]; simp [cat]
      have hwall : ∀ c ∈ p.1, c ∈ [32, 9] := gp.w
      by_cases h32 : p.1 = [32]
      · have hnl : nlps c3 = cl3 := by
          unfold nlps; rw [e, popd_snoc', if_pos (by rw [h32])]
        unfold newlF rowsEnd
        dsimp only
        rw [hnl, hlast, hcat, if_pos h32, ← ptext_eq, hpt, h32]
        by_cases h0 : cl3 = []
        · obtain ⟨z1, z2⟩ := a3.n n2 h0
          subst h0
          subst z1
          have : ptext ([] : List Pr) = [] := rfl
          rw [this]
          unfold addLine
          rw [if_neg (by simp [plen])]
          have e7 : (l3 ++ [[] ++ [32]]).getLastD [] = [32] := by simp
          have : stripL [32, 9] [32] = [] := by decide
          rw [e7, if_pos this]
          rcases List.eq_nil_or_concat l3 with rfl | ⟨xs, x, rfl⟩
          · exact absurd rfl z2
          · simp
        · obtain ⟨c, hc, hcw, hci⟩ := nonw cl3 a3.g a3.s h0
          unfold addLine
          rw [if_pos (by have := plen_pos hc; omega), owl2_non hc hci, if_neg (by simp)]
          have e7 : (l3 ++ [ptext cl3 ++ [32]]).getLastD [] = ptext cl3 ++ [32] := by simp
          rw [e7, if_neg (strip_ne (c := c) (by simp [hc]) hcw)]
          simp
      · have hnl : nlps c3 = c3 := by rw [e]; exact nlps_id (by intro q; exact h32 (congrArg Prod.fst q))
        by_cases h0 : cl3 = []
        · obtain ⟨z1, z2⟩ := a3.n n2 h0
          subst h0
          subst z1
          have hpt' : ptext c3 = p.1 := by rw [hpt]; rfl
          have hpl : 0 < plen c3 := by rw [← ptext_len, hpt']; exact List.length_pos_iff.mpr wp
          unfold newlF rowsEnd addLine
          dsimp only
          rw [hnl, hlast, hcat, if_neg h32, ← ptext_eq, hpt', if_pos (by omega)]
          have e8 : owl2 0 c3 = true := by
            unfold owl2
            have : (ptext c3).all isp = true := by
              rw [hpt', List.all_eq_true]
              intro c hc
              have := hwall c hc
              simp only [List.mem_cons, List.not_mem_nil, or_false] at this
              rcases this with rfl | rfl <;> decide +kernel
            rw [this]
            simp [hpt', wp]
          have e7 : (l3 ++ [p.1]).getLastD [] = p.1 := by simp
          rw [e8, e7, if_pos ⟨rfl, z2⟩, if_pos ((strip_nil _ _).mpr hwall)]
          simp
        · obtain ⟨c, hc, hcw, hci⟩ := nonw cl3 a3.g a3.s h0
          refine end_A (c := c) (by rw [hpt]; simp [hc]) hcw hci hnl ?_
          rw [hlast, hcat]; exact h32
    · obtain ⟨c, hc, hcw, hci⟩ := nonw [(p.1, p.2)] (by simpa using gp) (by simpa using hp2) (by simp)
      refine end_A (c := c) (by rw [a3.e, ptext_app]; exact List.mem_append_right _ hc) hcw hci (by rw [a3.e]; exact nlps_id (by intro q; exact hp2 (congrArg Prod.snd q))) ?_
      rw [hlast]
      intro q
      have : c ∈ cat p := by rw [ptext_one] at hc; exact hc
      rw [q] at this
      exact hcw (by simp at this; simp [this])
end
section
set_option maxRecDepth 100000
set_option maxHeartbeats 1000000
section
variable {w : World} {A : Around} {E : Value → Shared → Prop} {h₀ h h' : Heap} {g : Array GenState} {d : Drawn} {tk : Nat} {os : OsState} {led : Led} {a b x D : Addr} {vs us : List Value} {n m i j : Nat} {t u v : Tok} {c c' : Cell} {p : Addr × Cell}
noncomputable def HoldE (F : Value → Prop) (y : Value) (s s' : Shared) : Prop := F y ∧ Keeps s s'
theorem Mm.extX (M : Mm h₀ h led) (S : List Addr) (hS : ∀ b ∈ S, (∀ q ∈ led, q.1 ≠ b) ∧ h₀.get? b = none) (k : ∀ b o, b ∉ S → h.get? b = some o → h'.get? b = some o) : Mm h₀ h' led :=
  ⟨fun b o q => k b o (fun z => by have := (hS b z).2; rw [q] at this; cases this) (M.old b o q),
   fun p hp => (M.cells p hp).ext fun o q => k p.1 o (fun z => (hS _ z).1 p hp rfl) q, M.new, M.nd⟩
theorem Mm.extS (M : Mm h₀ h led) (i : Nat) (e : At led i (a, c)) (S : List Addr) (hS : ∀ b ∈ S, (∀ q ∈ led, q.1 ≠ b) ∧ h₀.get? b = none) (k : ∀ b o, b ≠ a → b ∉ S → h.get? b = some o → h'.get? b = some o) (hc : c'.At h' a) : Mm h₀ h' (led.set i (a, c')) := by
  have e1 := e.get
  have hm := List.mem_of_getElem? e1
  refine ⟨fun b o q => ?_, fun p hp => ?_, fun p hp => ?_, by rw [set_fst e1]; exact M.nd⟩
  · refine k b o (fun z => ?_) (fun z => by have := (hS b z).2; rw [q] at this; cases this) (M.old b o q)
    have := M.new _ hm; rw [z] at q; rw [q] at this; cases this
  · by_cases q : p.1 = a
    · have hpe : p = (a, c') := by
        have hi : i < led.length := (List.getElem?_eq_some_iff.mp e1).1
        have h1 : (a, c') ∈ led.set i (a, c') := List.mem_set hi _
        refine nd_uniq (by rw [set_fst e1]; exact M.nd) hp h1 q
      rw [hpe]; exact hc
    · have hp' : p ∈ led := by
        rcases List.mem_or_eq_of_mem_set hp with z | z
        · exact z
        · exact absurd (by rw [z]) q
      exact (M.cells p hp').ext fun o z => k p.1 o q (fun z => (hS _ z).1 p hp' rfl) z
  · rcases List.mem_or_eq_of_mem_set hp with z | z
    · exact M.new p z
    · rw [z]; have := M.new _ hm; exact this
theorem Mm.put (M : Mm h₀ h led) (hD : h₀.get? D = none) (hn : ∀ q ∈ led, q.1 ≠ D) (hc : c.At h D) : Mm h₀ h ((D, c) :: led) :=
  ⟨M.old, fun p hp => by rcases List.mem_cons.mp hp with rfl | z; exact hc; exact M.cells p z, fun p hp => by rcases List.mem_cons.mp hp with rfl | z; exact hD; exact M.new p z,
   by rw [List.map_cons, List.nodup_cons]; exact ⟨fun z => by obtain ⟨q, hq, e⟩ := List.mem_map.mp z; exact hn q hq e, M.nd⟩⟩
theorem Cell.At.there {h : Heap} {a : Addr} {c : Cell} (x : c.At h a) : h.get? a ≠ none := by
  obtain ⟨o, e⟩ := x.some; rw [e]; simp
theorem slB {Q : Value → Shared → Prop} {vl vu : Value} {lo' hi' : Option Int} {value slice : Expr} {r : List Value} (M : Mm h₀ h (p :: led)) (hx : h₀.IsList x vs.toArray) (pl : IsPart vl lo') (pu : IsPart vu hi') (hr : slicePick vs.toArray lo' hi' none = r.toArray) (hz : vs.length ≤ sizeLine)
    (hq : ∀ a h', Mm h₀ h' (p :: (a, .obj (lo r 0)) :: led) → Q (.ref a) ⟨h', g, d, tk, os⟩)
    (hs : subscripted slice false (.ref x) (.ref h.objs.size) = operate [.ref h.objs.size, .ref x] (getItem (.ref x) (.ref h.objs.size)) := by with_unfolding_all rfl) :
    wpAny (MP w) A (subscriptTail value slice (.ref x) (.ref h.objs.size)) Q E ⟨h.push (slObj vl vu), g, d, tk, os⟩ := by
  have M1 := M.ext fun b o e => Heap.get?_push_of_some (slObj vl vu) e
  have hl : Heap.IsList (h.push (slObj vl vu)) x vs.toArray := hx.at fun o e => M1.old _ _ e
  refine tail_any (Heap.IsList.typeIs (s := ⟨h.push (slObj vl vu), g, d, tk, os⟩) hl) slot_list_getitem.lookup (wpAny_getItem_list_slice hl (Heap.IsSliceOf.new h vl vu .none) pl pu .none (by simp) ?_ (by simpa using hz)) hs
  rw [hr]
  exact hq _ _ (M1.push2 _)
theorem sumL {Q : Value → Shared → Prop} {xs : List Int} (M : Mm h₀ h led) (hh : A.handled = none) (e : At led i (a, .obj (lo vs n))) (hi : Ints vs xs) (hq : ∀ h' k' t', Mm h₀ h' led → Q (.int xs.sum t') ⟨h', g, d, k', os⟩) :
    wpAny (MP w) A (call (.builtin "sum") [.ref a]) Q E ⟨h, g, d, tk, os⟩ := by
  obtain ⟨ts, rfl, rfl⟩ := hi
  refine sum_intListG (xs := ts.toArray) hh ⟨_, M.get i e, rfl, n, ?_⟩ fun h' tk' t' hk => ?_
  · show Data.seq _ n = _
    congr 1
    simp [iv, intItems]
  · have := hq h' tk' t' (M.ext hk)
    rw [preSum_eq, List.take_of_length_le (by simp)]
    simpa using this
theorem sumLz {Q : Value → Shared → Prop} {xs : List Int} {z : Int} (M : Mm h₀ h led) (hh : A.handled = none) (e : At led i (a, .obj (lo vs n))) (hi : Ints vs xs) (hz : xs.sum = z) (hq : ∀ h' k' t', Mm h₀ h' led → Q (.int z t') ⟨h', g, d, k', os⟩) :
    wpAny (MP w) A (call (.builtin "sum") [.ref a]) Q E ⟨h, g, d, tk, os⟩ := by
  subst hz; exact sumL M hh e hi hq
theorem compAss {Q : Flow → Shared → Prop} {env : Env} {elt iter : Expr} {x y : Str} {px py : Pos} {scope : Scope} {pos spos : Pos} {ns : List Str} {vals : List (Option Value)} {F : Value → Value → Prop}
    (hsw : swapsWith (.ListComp elt [⟨.Name x px, iter, [], 0⟩] scope pos) (some (.Name y py)) spos.line env = pure true)
    (hh : A.handled = none) (hfree : ∀ z ∈ scope.names, z.2 ≠ .free) (hcell : ∀ z ∈ scope.names, z.2 ≠ .cell) (hkind : scope.kind = .function)
    (hnames : ∀ z ∈ scope.names, z.2 = .local → scope.names.lookup z.1 = some .local) (hx : scope.names.lookup x = some .local)
    (hy : env.kindOf y = some .local) (hp : (env.scope.kind == .class || (env.scope.kind == .module && env.locals != env.globals)) = false)
    (hi : wpAny (MP w) A (eval iter env) (fun v s₁ => ∃ a h₁ tk₁ us n k led₁ i j p, v = .ref a ∧ s₁ = ⟨h₁, g, d, tk₁, os⟩ ∧ Mm h₀ h₁ (p :: led₁) ∧ At (p :: led₁) k (a, .obj (lo us n)) ∧ us.length ≤ sizeLine ∧ At (p :: led₁) i (env.locals, .ns ns vals) ∧ At ns j y ∧
      (∀ C v s₂ E' m₂, v ∈ us → s₂.heap.Ns C m₂ → m₂ x = some v → wpAny (MP w) A (eval elt (compEnvC scope [] C env)) (fun y s₃ => HoldE (F v) y s₂ s₃) E' s₂) ∧
      (∀ D h' tk' ys n', Paired F us ys → Mm h₀ h' ((D, .obj (lo ys n')) :: (p :: led₁).set i (env.locals, .ns ns (vals.set j (some (.ref D))))) → Q .next ⟨h', g, d, tk', os⟩)) E ⟨h, g, d, tk, os⟩)
    (hs : ∀ x, foldedSetIterable iter env x = pure x := by intro _; rfl) :
    wpAny (MP w) A (exec (.Assign [.Name y py] (.ListComp elt [⟨.Name x px, iter, [], 0⟩] scope pos) spos) env) Q E ⟨h, g, d, tk, os⟩ := by
  refine wpAny_Assign_ListComp_free (cl := []) (fun _ => true) F hsw (closureFor_none hfree) hcell hkind hnames hx hy hp (wpAny_mono hi (fun v s₁ h₁ => ?_) fun _ _ e => e) hs
  obtain ⟨a, h₁, tk₁, us, n, k, led₁, i, j, p, rfl, rfl, M1, ea, hz, el, ej, hel, hq⟩ := h₁
  refine iterL M1 ea ?_
  intro I h2 M2
  have M3 : Mm h₀ h2 (p :: led₁) := M2.sub (.cons_cons _ (.cons _ (.refl _)))
  have nI : ∀ q ∈ p :: led₁, q.1 ≠ I := by
    have nd := M2.nd
    intro q hq e
    rcases List.mem_cons.mp hq with rfl | hq
    · rw [List.map_cons, List.map_cons, List.nodup_cons] at nd
      exact nd.1 (by rw [e]; simp)
    · rw [List.map_cons, List.map_cons, List.nodup_cons, List.nodup_cons] at nd
      exact nd.2.1 (List.mem_map.mpr ⟨q, hq, e⟩)
  have hI0 : h₀.get? I = none := M2.new (I, .obj (liter a 0)) (by simp)
  have hIi : h2.get? I = some (liter a 0) := M2.get 1 .n1
  have haI : a ≠ I := nI _ (List.mem_of_getElem? ea.get)
  have hlI : env.locals ≠ I := nI _ (List.mem_of_getElem? el.get)
  obtain ⟨hnd, hvl, hns⟩ := M3.at i el
  refine ⟨I, _, _, _, _, _, lz ns vals, rfl, Walks.list hh I a haI us.toArray, by simpa using hz, ⟨⟨_, hIi, rfl, rfl⟩, ⟨_, M3.get k ea, rfl, _, rfl⟩⟩, ?_, by simpa using hlI, hns, ?_, ?_⟩
  · intro b hb
    simp only [List.mem_cons, List.not_mem_nil, or_false] at hb
    rcases hb with rfl | rfl
    · exact Heap.lt_size hIi
    · exact Heap.lt_size (M3.get k ea)
  · refine ⟨fun C i v s₃ m₃ E' _ _ _ _ _ _ => wpAny_pure ⟨rfl, _, _, rfl, fun _ _ e => e⟩, fun C i v s₃ m₃ E' _ hv _ hn hm _ _ => hel C v s₃ E' m₃ ?_ hn hm⟩
    have := Array.mem_of_getElem? hv
    simpa using this
  · intro D h' tk' ys vs' hD hlD ⟨n', hpl⟩ hlen hP hF hns' hk
    have hvs : vs' = us := by
      refine List.ext_getElem (by simpa using hlen) fun r h1 h2 => ?_
      have := hP r vs'[r] (by simp)
      rw [List.getElem?_toArray, List.getElem?_eq_getElem h2] at this
      exact (Option.some.inj this).symm
    subst hvs
    have hnD : ∀ q ∈ p :: led₁, q.1 ≠ D := fun q hq e => (M3.cells q hq).there (by rw [e]; exact hD)
    have hset : (fun z => if z = y then some (Value.ref D) else lz ns vals z) = lz ns (vals.set j (some (.ref D))) := lz_set hnd ej.get hvl
    have M4 := M3.extS i el (c' := .ns ns (vals.set j (some (.ref D)))) [I] (by
      intro b hb; rw [List.mem_singleton.mp hb]; exact ⟨nI, hI0⟩) hk ⟨hnd, by simpa using hvl, by rw [← hset]; exact hns'⟩
    refine hq D h' tk' ys.toList n' (by rw [List.filter_eq_self.mpr (by simp)] at hF; exact hF) (M4.put ?_ ?_ ?_)
    · cases e : h₀.get? D with
      | none => rfl
      | some o => have := M3.old _ _ e; rw [hD] at this; cases this
    · intro q hq
      rcases List.mem_or_eq_of_mem_set hq with z | z
      · exact hnD q z
      · rw [z]; have := hnD _ (List.mem_of_getElem? el.get); exact this
    · exact hpl
theorem compE {Q : Value → Shared → Prop} {env : Env} {elt iter : Expr} {x : Str} {px : Pos} {scope : Scope} {pos : Pos} {F : Value → Value → Prop}
    (M0 : Mm h₀ h led) (hh : A.handled = none) (hfree : ∀ z ∈ scope.names, z.2 ≠ .free) (hcell : ∀ z ∈ scope.names, z.2 ≠ .cell) (hkind : scope.kind = .function)
    (hnames : ∀ z ∈ scope.names, z.2 = .local → scope.names.lookup z.1 = some .local) (hx : scope.names.lookup x = some .local)
    (hi : wpAny (MP w) A (eval iter env) (fun v s₁ => ∃ a h₁ tk₁ us n k led₁ p, v = .ref a ∧ s₁ = ⟨h₁, g, d, tk₁, os⟩ ∧ Mm h₀ h₁ (p :: led₁) ∧ At (p :: led₁) k (a, .obj (lo us n)) ∧ us.length ≤ sizeLine ∧
      (∀ C v s₂ E' m₂, v ∈ us → s₂.heap.Ns C m₂ → m₂ x = some v → wpAny (MP w) A (eval elt (compEnvC scope [] C env)) (fun y s₃ => HoldE (F v) y s₂ s₃) E' s₂) ∧
      (∀ D h' tk' ys n', Paired F us ys → Mm h₀ h' ((D, .obj (lo ys n')) :: p :: led₁) → Q (.ref D) ⟨h', g, d, tk', os⟩)) E ⟨h, g, d, tk, os⟩)
    (hs : ∀ x, foldedSetIterable iter env x = pure x := by intro _; rfl) :
    wpAny (MP w) A (eval (.ListComp elt [⟨.Name x px, iter, [], 0⟩] scope pos) env) Q E ⟨h, g, d, tk, os⟩ := by
  refine wpAny_ListComp_free (cl := []) (fun _ => true) F (closureFor_none hfree) hcell hkind hnames hx (wpAny_mono hi (fun v s₁ h₁ => ?_) fun _ _ e => e) hs
  obtain ⟨a, h₁, tk₁, us, n, k, led₁, p, rfl, rfl, M1, ea, hz, hel, hq⟩ := h₁
  refine iterL M1 ea ?_
  intro I h2 M2
  have M3 : Mm h₀ h2 (p :: led₁) := M2.sub (.cons_cons _ (.cons _ (.refl _)))
  have nI : ∀ q ∈ p :: led₁, q.1 ≠ I := by
    have nd := M2.nd
    intro q hq e
    rcases List.mem_cons.mp hq with rfl | hq
    · rw [List.map_cons, List.map_cons, List.nodup_cons] at nd
      exact nd.1 (by rw [e]; simp)
    · rw [List.map_cons, List.map_cons, List.nodup_cons, List.nodup_cons] at nd
      exact nd.2.1 (List.mem_map.mpr ⟨q, hq, e⟩)
  have hI0 : h₀.get? I = none := M2.new (I, .obj (liter a 0)) (by simp)
  have hIi : h2.get? I = some (liter a 0) := M2.get 1 .n1
  have haI : a ≠ I := nI _ (List.mem_of_getElem? ea.get)
  refine ⟨I, _, _, _, _, _, rfl, Walks.list hh I a haI us.toArray, by simpa using hz, ⟨⟨_, hIi, rfl, rfl⟩, ⟨_, M3.get k ea, rfl, _, rfl⟩⟩, ?_, ?_, ?_⟩
  · intro b hb
    simp only [List.mem_cons, List.not_mem_nil, or_false] at hb
    rcases hb with rfl | rfl
    · exact Heap.lt_size hIi
    · exact Heap.lt_size (M3.get k ea)
  · refine ⟨fun C i v s₃ m₃ E' _ _ _ _ _ _ => wpAny_pure ⟨rfl, _, _, rfl, fun _ _ e => e⟩, fun C i v s₃ m₃ E' _ hv _ hn hm _ _ => hel C v s₃ E' m₃ ?_ hn hm⟩
    have := Array.mem_of_getElem? hv
    simpa using this
  · intro D h' tk' ys vs' hD hlD ⟨n', hpl⟩ hlen hP hF hk
    have hvs : vs' = us := by
      refine List.ext_getElem (by simpa using hlen) fun r h1 h2 => ?_
      have := hP r vs'[r] (by simp)
      rw [List.getElem?_toArray, List.getElem?_eq_getElem h2] at this
      exact (Option.some.inj this).symm
    subst hvs
    have hnD : ∀ q ∈ p :: led₁, q.1 ≠ D := fun q hq e => (M3.cells q hq).there (by rw [e]; exact hD)
    have M4 := M3.extX [I] (by intro b hb; rw [List.mem_singleton.mp hb]; exact ⟨nI, hI0⟩) hk
    refine hq D h' tk' ys.toList n' (by rw [List.filter_eq_self.mpr (by simp)] at hF; exact hF) (M4.put ?_ hnD hpl)
    cases e : h₀.get? D with
    | none => rfl
    | some o => have := M3.old _ _ e; rw [hD] at this; cases this
end
end
section
/-! what mail reads: the text with its escape state -/
set_option maxRecDepth 100000
noncomputable def nx (e : Bool) (c : Nat) : Bool := !e && c == 92
noncomputable def es (e : Bool) (l : List Nat) : Bool := l.foldl nx e
noncomputable def cq : Bool → List Nat → Nat
  | _, [] => 0
  | e, c :: r => (if e = false ∧ c = 34 then 1 else 0) + cq (nx e c) r
noncomputable def kp : Nat → Bool → List Nat → List Nat
  | _, _, [] => []
  | m, e, c :: r => if (e = false ∧ c = 34) ∧ 0 < m then kp (m - 1) (nx e c) r else if m % 2 = 1 then kp m (nx e c) r else c :: kp m (nx e c) r
noncomputable def b1 (e : Bool) (c : Nat) : List Nat := if e = false ∧ (c = 40 ∨ c = 41) then [c] else []
noncomputable def bk : Nat → Bool → List Nat → List Nat
  | _, _, [] => []
  | m, e, c :: r => if (e = false ∧ c = 34) ∧ 0 < m then bk (m - 1) (nx e c) r else if m % 2 = 1 then bk m (nx e c) r else b1 e c ++ bk m (nx e c) r
noncomputable def br : Bool → List Nat → List Nat
  | _, [] => []
  | e, c :: r => b1 e c ++ br (nx e c) r
noncomputable def bal : List Nat → Nat → Bool
  | [], o => decide (o = 0)
  | c :: r, o => if c = 40 then bal r (o + 1) else if c = 41 then (if o = 0 then false else bal r (o - 1)) else bal r o
theorem kp_mark {m : Nat} {e : Bool} {c : Nat} {r : List Nat} (h : (e = false ∧ c = 34) ∧ 0 < m) : kp m e (c :: r) = kp (m - 1) (nx e c) r := by rw [kp, if_pos h]
theorem kp_not {m : Nat} {e : Bool} {c : Nat} {r : List Nat} (h : ¬ ((e = false ∧ c = 34) ∧ 0 < m)) : kp m e (c :: r) = if m % 2 = 1 then kp m (nx e c) r else c :: kp m (nx e c) r := by rw [kp]; exact if_neg h
theorem bk_mark {m : Nat} {e : Bool} {c : Nat} {r : List Nat} (h : (e = false ∧ c = 34) ∧ 0 < m) : bk m e (c :: r) = bk (m - 1) (nx e c) r := by rw [bk, if_pos h]
theorem bk_not {m : Nat} {e : Bool} {c : Nat} {r : List Nat} (h : ¬ ((e = false ∧ c = 34) ∧ 0 < m)) : bk m e (c :: r) = if m % 2 = 1 then bk m (nx e c) r else b1 e c ++ bk m (nx e c) r := by rw [bk]; exact if_neg h
theorem cq_not {e : Bool} {c : Nat} {r : List Nat} (h : ¬ (e = false ∧ c = 34)) : cq e (c :: r) = cq (nx e c) r := by rw [cq, if_neg h, Nat.zero_add]
theorem cq_mark {e : Bool} {c : Nat} {r : List Nat} (h : e = false ∧ c = 34) : cq e (c :: r) = 1 + cq (nx e c) r := by rw [cq, if_pos h]
theorem bal_cl (r : List Nat) (o : Nat) : bal (41 :: r) o = if o = 0 then false else bal r (o - 1) := by rw [bal, if_neg (by omega), if_pos rfl]
theorem bal_op (r : List Nat) (o : Nat) : bal (40 :: r) o = bal r (o + 1) := by rw [bal, if_pos rfl]
theorem es_cons (e : Bool) (c : Nat) (l : List Nat) : es e (c :: l) = es (nx e c) l := rfl
theorem es_app (e : Bool) (a b : List Nat) : es e (a ++ b) = es (es e a) b := by unfold es; rw [List.foldl_append]
theorem cq_app : ∀ (a b : List Nat) (e : Bool), cq e (a ++ b) = cq e a + cq (es e a) b
  | [], b, e => by simp [cq, es]
  | c :: a, b, e => by rw [List.cons_append, cq, cq, cq_app a b, es_cons]; omega
theorem par_pred {n : Nat} (h : 0 < n) : (!decide (n % 2 = 1)) = decide ((n - 1) % 2 = 1) := by
  cases n with
  | zero => cases h
  | succ k =>
    rw [Nat.add_sub_cancel, Nat.add_mod]
    rcases Nat.mod_two_eq_zero_or_one k with h | h <;> rw [h] <;> decide
theorem par_succ {n k : Nat} (h : k ≤ n) : (n + 1 - k) % 2 = 0 ↔ ¬ (n - k) % 2 = 0 := by
  rw [Nat.succ_sub h, Nat.succ_eq_add_one, Nat.add_mod]
  rcases Nat.mod_two_eq_zero_or_one (n - k) with h | h <;> rw [h] <;> decide
theorem seenStep_eq (mk br a b : List Nat) (s : Bool) (n c : Nat) : seenStep mk br (a, b, s, n) c = if n ∈ mk then (a, b, !s, n + 1) else if !s then (a ++ [c], if n ∈ br then b ++ [c] else b, s, n + 1) else (a, b, s, n + 1) := rfl
theorem kp_app : ∀ (a b : List Nat) (m : Nat) (e : Bool), kp m e (a ++ b) = kp m e a ++ kp (m - cq e a) (es e a) b
  | [], b, m, e => by simp [kp, cq, es]
  | c :: a, b, m, e => by
    rw [List.cons_append, es_cons]
    by_cases h1 : e = false ∧ c = 34
    · rw [cq_mark h1]
      by_cases h2 : 0 < m
      · rw [kp_mark ⟨h1, h2⟩, kp_mark ⟨h1, h2⟩, kp_app a b, Nat.sub_sub]
      · have h3 : ¬ ((e = false ∧ c = 34) ∧ 0 < m) := fun q => h2 q.2
        rw [kp_not h3, kp_not h3, kp_app a b, show m - (1 + cq (nx e c) a) = m - cq (nx e c) a by rw [Nat.eq_zero_of_not_pos h2, Nat.zero_sub, Nat.zero_sub]]
        split
        · rfl
        · rfl
    · have h3 : ¬ ((e = false ∧ c = 34) ∧ 0 < m) := fun q => h1 q.1
      rw [kp_not h3, kp_not h3, kp_app a b, cq_not h1]
      split
      · rfl
      · rfl
theorem bk_app : ∀ (a b : List Nat) (m : Nat) (e : Bool), bk m e (a ++ b) = bk m e a ++ bk (m - cq e a) (es e a) b
  | [], b, m, e => by simp [bk, cq, es]
  | c :: a, b, m, e => by
    rw [List.cons_append, es_cons]
    by_cases h1 : e = false ∧ c = 34
    · rw [cq_mark h1]
      by_cases h2 : 0 < m
      · rw [bk_mark ⟨h1, h2⟩, bk_mark ⟨h1, h2⟩, bk_app a b, Nat.sub_sub]
      · have h3 : ¬ ((e = false ∧ c = 34) ∧ 0 < m) := fun q => h2 q.2
        rw [bk_not h3, bk_not h3, bk_app a b, show m - (1 + cq (nx e c) a) = m - cq (nx e c) a by rw [Nat.eq_zero_of_not_pos h2, Nat.zero_sub, Nat.zero_sub]]
        split
        · rfl
        · rw [List.append_assoc]
    · have h3 : ¬ ((e = false ∧ c = 34) ∧ 0 < m) := fun q => h1 q.1
      rw [bk_not h3, bk_not h3, bk_app a b, cq_not h1]
      split
      · rfl
      · rw [List.append_assoc]
theorem kp_zero : ∀ (l : List Nat) (e : Bool), kp 0 e l = l
  | [], e => by simp [kp]
  | c :: l, e => by rw [kp_not (by omega), if_neg (by omega), kp_zero l]
theorem cq_zero : ∀ (l : List Nat) (e : Bool), 34 ∉ l → cq e l = 0
  | [], e, _ => by simp [cq]
  | c :: l, e, h => by
    rw [cq, cq_zero l _ (fun q => h (by simp [q])), if_neg]
    intro q; exact h (by simp [q.2])
/-! the quoted parts cut out -/
noncomputable abbrev UU (l : List Nat) (its : List Item) (s : Nat) (o : Option Nat) (acc : List (List Nat)) : List Nat := (uq l its s o acc).2.flatten ++ l.drop (uq l its s o acc).1
theorem UU_other {l : List Nat} {x : Item} {r : List Item} {s : Nat} {o : Option Nat} {acc : List (List Nat)} (h : x.2 ≠ [34]) : UU l (x :: r) s o acc = UU l r s o acc := by
  have e : uq l (x :: r) s o acc = uq l r s o acc := by rw [uq.eq_def]; dsimp only; rw [if_neg h]
  unfold UU; rw [e]
noncomputable def UR (l suf : List Nat) (k s : Nat) (e : Bool) : Option Nat → List Nat
  | none => (l.drop s).take (k - s) ++ kp (cq e suf / 2 * 2) e suf
  | some p => if cq e suf = 0 then l.drop s else (l.drop s).take (p - s) ++ kp ((cq e suf + 1) / 2 * 2 - 1) e suf
theorem drop_snoc {l : List Nat} {k s c : Nat} {r : List Nat} (hd : l.drop k = c :: r) (hs : s ≤ k) : (l.drop s).take (k + 1 - s) = (l.drop s).take (k - s) ++ [c] := by
  rw [show k + 1 - s = k - s + 1 by omega, List.take_add_one]
  congr 1
  rw [List.getElem?_drop, show s + (k - s) = k by omega]
  have := List.getElem?_drop (xs := l) (i := k) (j := 0)
  rw [hd, Nat.add_zero] at this
  rw [← this]; rfl
theorem UR_other {l suf : List Nat} {k s c : Nat} {e : Bool} {o : Option Nat} (hd : l.drop k = c :: suf) (hs : s ≤ k) (h : ¬ (e = false ∧ c = 34)) : UR l suf (k + 1) s (nx e c) o = UR l (c :: suf) k s e o := by
  have h1 : cq e (c :: suf) = cq (nx e c) suf := cq_not h
  have h3 : ∀ m, ¬ ((e = false ∧ c = 34) ∧ 0 < m) := fun m q => h q.1
  cases o with
  | none =>
    unfold UR
    dsimp only
    rw [h1, kp_not (h3 _), if_neg (by omega), drop_snoc hd hs]; simp
  | some p =>
    unfold UR
    dsimp only
    rw [h1]
    split
    · rfl
    · rw [kp_not (h3 _), if_pos (by omega)]
theorem uq_kp (l : List Nat) : ∀ (suf : List Nat) (k s : Nat) (e : Bool) (o : Option Nat) (acc : List (List Nat)), l.drop k = suf → k ≤ l.length → s ≤ k → (∀ p, o = some p → s ≤ p ∧ p < k) →
    UU l (esc k e suf) s o acc = acc.flatten ++ UR l suf k s e o
  | [], k, s, e, o, acc, hd, hk, hs, ho => by
    have hke : k = l.length := by have := List.drop_eq_nil_iff.mp hd; omega
    have h0 : UU l (esc k e []) s o acc = UU l [] s o acc := by
      rw [esc]; cases e
      · rfl
      · rw [if_pos rfl, UU_other (by simp)]
    rw [h0]
    have h1 : UU l [] s o acc = acc.flatten ++ l.drop s := rfl
    rw [h1]
    congr 1
    cases o with
    | none => unfold UR; dsimp only; rw [kp, List.append_nil, List.take_of_length_le]; rw [List.length_drop]; omega
    | some p => unfold UR; dsimp only; rw [cq, if_pos rfl]
  | c :: r, k, s, e, o, acc, hd, hk, hs, ho => by
    have hlt : k < l.length := by
      rcases Nat.lt_or_ge k l.length with q | q
      · exact q
      · rw [List.drop_eq_nil_of_le q] at hd; cases hd
    have hd' : l.drop (k + 1) = r := by
      rw [← List.drop_drop, List.drop_one, hd]; rfl
    have ho' : ∀ p, o = some p → s ≤ p ∧ p < k + 1 := fun p hp => by have := ho p hp; omega
    by_cases h : e = false ∧ c = 34
    · obtain ⟨rfl, rfl⟩ := h
      have hx : nx false 34 = false := rfl
      have he : esc k false (34 :: r) = (k, [34]) :: esc (k + 1) false r := by rw [esc, if_neg (by omega)]
      have hc : cq false (34 :: r) = 1 + cq false r := cq_mark ⟨rfl, rfl⟩
      rw [he]
      cases o with
      | none =>
        have h2 : UU l ((k, [34]) :: esc (k + 1) false r) s none acc = UU l (esc (k + 1) false r) s (some k) acc := by unfold UU; rw [uq.eq_def]; dsimp only; rw [if_pos rfl]
        rw [h2, uq_kp l r (k + 1) s false (some k) acc hd' (by omega) (by omega) (by intro p hp; cases hp; omega)]
        congr 1
        unfold UR
        dsimp only
        rw [hc]
        split
        · rename_i h0
          rw [h0, show (1 + 0) / 2 * 2 = 0 by omega, kp_zero, ← hd]
          have := List.take_append_drop (k - s) (l.drop s)
          rw [List.drop_drop, show s + (k - s) = k by omega] at this
          exact this.symm
        · rw [kp_mark ⟨⟨rfl, rfl⟩, by omega⟩, hx, Nat.add_comm 1]
      | some p =>
        have hp := ho p rfl
        have h2 : UU l ((k, [34]) :: esc (k + 1) false r) s (some p) acc = UU l (esc (k + 1) false r) (k + 1) none (if s ≠ p then acc ++ [(l.drop s).take (p - s)] else acc) := by unfold UU; rw [uq.eq_def]; dsimp only; rw [if_pos rfl]
        rw [h2, uq_kp l r (k + 1) (k + 1) false none _ hd' (by omega) (by omega) (by intro p hp; cases hp)]
        have h3 : (if s ≠ p then acc ++ [(l.drop s).take (p - s)] else acc).flatten = acc.flatten ++ (l.drop s).take (p - s) := by
          split
          · simp
          · rename_i q
            have : s = p := by simpa using q
            subst this; simp
        rw [h3, List.append_assoc]
        congr 1
        unfold UR
        dsimp only
        rw [hc, if_neg (by omega), Nat.sub_self, List.take_zero, List.nil_append]
        congr 1
        rw [kp_mark ⟨⟨rfl, rfl⟩, by omega⟩, hx]
        congr 1
        omega
    · rw [← UR_other hd hs h]
      cases e with
      | true =>
        rw [esc, UU_other (by simp), uq_kp l r (k + 1) s false o acc hd' (by omega) (by omega) ho']
        rfl
      | false =>
        rw [esc]
        split
        · rename_i h9
          rw [uq_kp l r (k + 1) s true o acc hd' (by omega) (by omega) ho']
          subst h9; rfl
        · rename_i h9
          have : nx false c = false := by unfold nx; simp [h9]
          rw [UU_other (by intro q; exact h ⟨rfl, by simpa using q⟩), uq_kp l r (k + 1) s false o acc hd' (by omega) (by omega) ho', this]
theorem unq_kp (l : List Nat) : unq l = kp (cq false l / 2 * 2) false l := by
  unfold unq
  split
  · have := uq_kp l l 0 0 false none [] rfl (Nat.zero_le _) (Nat.le_refl _) (by intro p hp; cases hp)
    unfold UR at this
    dsimp only at this
    simp only [Nat.sub_self, List.take_zero, List.nil_append, List.flatten_nil] at this
    rw [← this]
    unfold UU
    rw [List.flatten_append]
    congr 1
    split
    · simp
    · rw [List.drop_eq_nil_of_le (by omega)]; rfl
  · rename_i h
    rw [cq_zero l _ h, kp_zero]
/-! the brackets -/
theorem chk_bal : ∀ (l : List Nat) (k : Nat) (e : Bool) (o : Nat), chk (esc k e l) o = bal (br e l) o
  | [], k, e, o => by
    rw [esc, br, bal]
    cases e
    · rfl
    · rw [if_pos rfl, chk, if_neg (by simp), if_neg (by simp), chk]
  | c :: r, k, true, o => by
    have : b1 true c = [] := by unfold b1; rw [if_neg (by simp)]
    rw [esc, br, this, chk, if_neg (by simp), if_neg (by simp), chk_bal r]; rfl
  | c :: r, k, false, o => by
    rw [esc, br]
    split
    · rename_i h; subst h
      rw [chk_bal r]; rfl
    · rename_i h9
      have hx : nx false c = false := by unfold nx; simp [h9]
      rw [chk, hx]
      by_cases h0 : c = 40
      · subst h0
        rw [if_pos rfl, chk_bal r]; rfl
      · rw [if_neg (by simpa using h0)]
        by_cases h1 : c = 41
        · subst h1
          have : b1 false 41 = [41] := rfl
          rw [if_pos rfl, this, List.singleton_append, bal_cl, chk_bal r]
        · have : b1 false c = [] := by unfold b1; rw [if_neg (by simp [h0, h1])]
          rw [if_neg (by simpa using h1), this, List.nil_append, chk_bal r]
theorem br_kp : ∀ (l : List Nat) (m : Nat) (e : Bool), br (if m % 2 = 1 then false else e) (kp m e l) = bk m e l
  | [], m, e => by simp [kp, bk, br]
  | c :: r, m, e => by
    by_cases h : (e = false ∧ c = 34) ∧ 0 < m
    · rw [kp_mark h, bk_mark h]
      obtain ⟨⟨rfl, rfl⟩, hm⟩ := h
      have ih := br_kp r (m - 1) (nx false 34)
      have h1 : nx false 34 = false := rfl
      rw [h1, ite_self] at ih
      rw [h1, ite_self]
      exact ih
    · rw [kp_not h, bk_not h]
      have ih := br_kp r m (nx e c)
      by_cases h2 : m % 2 = 1
      · rw [if_pos h2] at ih
        rw [if_pos h2, if_pos h2, if_pos h2]
        exact ih
      · rw [if_neg h2] at ih
        rw [if_neg h2, if_neg h2, if_neg h2, br, ih]
theorem chkL_bk (l : List Nat) : chkL l = bal (bk (cq false l / 2 * 2) false l) 0 := by
  unfold chkL
  rw [chk_bal, unq_kp]
  congr 1
  have := br_kp l (cq false l / 2 * 2) false
  rw [if_neg (by omega)] at this
  exact this
/-! striking out pairs -/
theorem rep2_bal : ∀ (l : List Nat) (o : Nat), bal (rep2 l) o = bal l o
  | [], o => by simp [rep2]
  | [c], o => by
    have : rep2 [c] = [c] := by rw [rep2.eq_def]; split <;> simp_all [rep2]
    rw [this]
  | c :: d :: r, o => by
    by_cases h : c = 40 ∧ d = 41
    · obtain ⟨rfl, rfl⟩ := h
      have h1 : rep2 (40 :: 41 :: r) = rep2 r := rep2.eq_1 _
      rw [h1, rep2_bal r, bal, if_pos rfl, bal, if_neg (by omega), if_pos rfl, if_neg (by omega)]
      rfl
    · have h1 : rep2 (c :: d :: r) = c :: rep2 (d :: r) := by rw [rep2.eq_def]; split <;> simp_all
      rw [h1, bal, bal, rep2_bal (d :: r), rep2_bal (d :: r), rep2_bal (d :: r)]
theorem rep2_le2 : ∀ (l : List Nat), (rep2 l).length ≤ l.length ∧ (has2 l = true → (rep2 l).length < l.length)
  | [] => by simp [rep2, has2]
  | [c] => by
    have : rep2 [c] = [c] := by rw [rep2.eq_def]; split <;> simp_all [rep2]
    have h2 : has2 [c] = false := by rw [has2.eq_def]; split <;> simp_all [has2]
    rw [this, h2]; simp
  | c :: d :: r => by
    by_cases h : c = 40 ∧ d = 41
    · obtain ⟨rfl, rfl⟩ := h
      have h1 : rep2 (40 :: 41 :: r) = rep2 r := rep2.eq_1 _
      have := (rep2_le2 r).1
      rw [h1]; simp; omega
    · have h1 : rep2 (c :: d :: r) = c :: rep2 (d :: r) := by rw [rep2.eq_def]; split <;> simp_all
      have h2 : has2 (c :: d :: r) = has2 (d :: r) := by rw [has2.eq_def]; split <;> simp_all
      have := rep2_le2 (d :: r)
      rw [h1, h2]
      simp only [List.length_cons] at this ⊢
      refine ⟨by omega, fun q => ?_⟩
      have := this.2 q; omega
theorem rep2_mem : ∀ (l : List Nat), ∀ c ∈ rep2 l, c ∈ l
  | [], c, h => by simp [rep2] at h
  | [c], d, h => by
    have : rep2 [c] = [c] := by rw [rep2.eq_def]; split <;> simp_all [rep2]
    rwa [this] at h
  | c :: d :: r, x, h => by
    by_cases hh : c = 40 ∧ d = 41
    · obtain ⟨rfl, rfl⟩ := hh
      have h1 : rep2 (40 :: 41 :: r) = rep2 r := rep2.eq_1 _
      rw [h1] at h
      have := rep2_mem r x h
      simp [this]
    · have h1 : rep2 (c :: d :: r) = c :: rep2 (d :: r) := by rw [rep2.eq_def]; split <;> simp_all
      rw [h1] at h
      rcases List.mem_cons.mp h with rfl | q
      · simp
      · exact List.mem_cons_of_mem _ (rep2_mem (d :: r) x q)
theorem redN_bal : ∀ (n : Nat) (l : List Nat), l.length ≤ n → bal (redN n l) 0 = bal l 0 ∧ has2 (redN n l) = false ∧ ∀ c ∈ redN n l, c ∈ l
  | 0, l, h => by
    have : l = [] := List.eq_nil_of_length_eq_zero (by omega)
    subst this; exact ⟨rfl, rfl, fun c h => h⟩
  | n + 1, l, h => by
    rw [redN]
    split
    · rename_i h2
      have := (rep2_le2 l).2 h2
      have ih := redN_bal n (rep2 l) (by omega)
      exact ⟨by rw [ih.1, rep2_bal], ih.2.1, fun c hc => rep2_mem l c (ih.2.2 c hc)⟩
    · rename_i h2
      exact ⟨rfl, by simpa using h2, fun c h => h⟩
theorem bal_opens : ∀ (l : List Nat) (o : Nat), has2 (40 :: l) = false → (∀ c ∈ l, c = 40 ∨ c = 41) → bal l (o + 1) = false
  | [], o, _, _ => by simp [bal]
  | c :: r, o, h, hc => by
    rcases hc c (by simp) with rfl | rfl
    · have h2 : has2 (40 :: 40 :: r) = has2 (40 :: r) := has2.eq_2 _ _ (by simp)
      rw [bal, if_pos rfl]
      exact bal_opens r (o + 1) (by rw [← h2]; exact h) fun d hd => hc d (by simp [hd])
    · rw [has2.eq_1] at h; cases h
theorem closed_bal {l : List Nat} (hc : ∀ c ∈ l, c = 40 ∨ c = 41) : closedL l = bal l 0 := by
  unfold closedL
  obtain ⟨h1, h2, h3⟩ := redN_bal l.length l (Nat.le_refl _)
  rw [← h1]
  generalize redN l.length l = z at *
  cases z with
  | nil => rfl
  | cons c r =>
    rw [decide_eq_false (by simp)]
    rcases hc c (h3 c (by simp)) with rfl | rfl
    · rw [bal, if_pos rfl]
      exact (bal_opens r 0 h2 fun d hd => hc d (h3 d (by simp [hd]))).symm
    · rw [bal, if_neg (by omega), if_pos rfl, if_pos rfl]
theorem b1_mem {e : Bool} {c d : Nat} (h : d ∈ b1 e c) : d = 40 ∨ d = 41 := by
  unfold b1 at h
  split at h
  · rename_i q; rw [List.mem_singleton.mp h]; exact q.2
  · cases h
theorem bk_mem : ∀ (l : List Nat) (m : Nat) (e : Bool), ∀ d ∈ bk m e l, d = 40 ∨ d = 41
  | [], m, e, d, h => by simp [bk] at h
  | c :: r, m, e, d, h => by
    rw [bk] at h
    split at h
    · exact bk_mem r _ _ d h
    · split at h
      · exact bk_mem r _ _ d h
      · rcases List.mem_append.mp h with q | q
        · exact b1_mem q
        · exact bk_mem r _ _ d q
/-! the bare places -/
theorem es_snoc (e : Bool) (l : List Nat) (c : Nat) : es e (l ++ [c]) = nx (es e l) c := by rw [es_app]; rfl
theorem tail_es : ∀ (l : List Nat), (l.length - (rstripL [92] l).length) % 2 = 0 ↔ es false l = false := by
  refine snoc_ind (by simp [rstripL, es]) fun l c ih => ?_
  rw [es_snoc]
  have hl := rstripL_len [92] l
  by_cases h : c = 92
  · subst h
    have e1 : rstripL [92] (l ++ [92]) = rstripL [92] l := by unfold rstripL; simp [List.dropWhile_cons]
    rw [e1, List.length_append, List.length_singleton]
    have e2 : nx (es false l) 92 = !es false l := by unfold nx; simp
    rw [e2, Bool.not_eq_false', ← Bool.not_eq_false, ← ih]
    exact par_succ hl
  · have e1 : rstripL [92] (l ++ [c]) = l ++ [c] := by unfold rstripL; simp [List.dropWhile_cons, h]
    have e2 : nx (es false l) c = false := by unfold nx; simp [h]
    rw [e1, e2]; simp
theorem bareP_at (pre post sg : List Nat) (c : Nat) : bareP (pre ++ c :: post) sg pre.length = decide (c ∈ sg ∧ es false pre = false) := by
  unfold bareP
  rw [List.take_left]
  have : (pre ++ c :: post).getD pre.length 0 = c := by simp [List.getD_eq_getElem?_getD]
  rw [this, ← Bool.decide_and, decide_eq_decide, tail_es]
theorem bare_cq : ∀ (pre post : List Nat), (bareL (pre ++ post) [34] pre.length).length = cq false pre := by
  refine snoc_ind (by intro post; rfl) fun pre c ih post => ?_
  rw [List.append_assoc, List.singleton_append, List.length_append, List.length_singleton, bareL_succ, bareP_at, List.length_append, ih, cq_app, cq, cq, Nat.add_zero]
  congr 1
  by_cases h : es false pre = false ∧ c = 34
  · rw [if_pos h, if_pos (by simp [h.1, h.2])]; rfl
  · rw [if_neg h, if_neg (by simp only [decide_eq_true_eq, List.mem_singleton]; exact fun q => h ⟨q.2, q.1⟩)]; rfl
theorem bareL_split (l sg : List Nat) {k n : Nat} (h : k < n) : bareL l sg n = bareL l sg k ++ ((if bareP l sg k then [k] else []) ++ (List.range' (k + 1) (n - k - 1)).filter (bareP l sg)) := by
  unfold bareL
  have e : List.range n = List.range k ++ (k :: List.range' (k + 1) (n - k - 1)) := by
    rw [List.range_eq_range', List.range_eq_range', ← List.range'_succ, show n - k - 1 + 1 = n - k by omega]
    have := List.range'_append (s := 0) (m := k) (n := n - k) (step := 1)
    rw [Nat.one_mul, Nat.zero_add, show k + (n - k) = n by omega] at this
    exact this.symm
  rw [e, List.filter_append, List.filter_cons]
  split <;> rfl
theorem mem_bare {pre post sg : List Nat} {c M : Nat} : pre.length ∈ (bareL (pre ++ c :: post) sg (pre ++ c :: post).length).take M ↔ (es false pre = false ∧ c ∈ sg) ∧ (bareL (pre ++ c :: post) sg pre.length).length < M := by
  rw [bareL_split _ sg (k := pre.length) (by simp), List.take_append, List.mem_append]
  have h1 : pre.length ∉ (bareL (pre ++ c :: post) sg pre.length).take M := by
    intro q
    have := List.mem_of_mem_take q
    unfold bareL at this
    have := (List.mem_filter.mp this).1
    rw [List.mem_range] at this; omega
  have h2 : ∀ j, pre.length ∉ ((List.range' (pre.length + 1) j).filter (bareP (pre ++ c :: post) sg)) := by
    intro j q
    have := (List.mem_filter.mp q).1
    rw [List.mem_range'_1] at this; omega
  rw [bareP_at]
  generalize (bareL (pre ++ c :: post) sg pre.length).length = B at *
  by_cases h : es false pre = false ∧ c ∈ sg
  · rw [if_pos (by simp [h.1, h.2])]
    constructor
    · rintro (q | q)
      · exact absurd q h1
      · refine ⟨h, ?_⟩
        rcases Nat.lt_or_ge B M with z | z
        · exact z
        · rw [show M - B = 0 by omega, List.take_zero] at q; cases q
    · rintro ⟨_, q⟩
      refine .inr ?_
      rw [show M - B = (M - B - 1) + 1 by omega, List.singleton_append, List.take_succ_cons]
      simp
  · rw [if_neg (by simp only [decide_eq_true_eq]; exact fun q => h ⟨q.2, q.1⟩), List.nil_append]
    constructor
    · rintro (q | q)
      · exact absurd q h1
      · exact absurd (List.mem_of_mem_take q) (h2 _)
    · rintro ⟨q, _⟩; exact absurd q h
theorem mem_mark {pre post : List Nat} {c M : Nat} : pre.length ∈ (bareL (pre ++ c :: post) [34] (pre ++ c :: post).length).take M ↔ (es false pre = false ∧ c = 34) ∧ 0 < M - cq false pre := by
  rw [mem_bare, bare_cq, List.mem_singleton]
  constructor
  · rintro ⟨a, b⟩; exact ⟨a, by omega⟩
  · rintro ⟨a, b⟩; exact ⟨a, by omega⟩
theorem mem_br {pre post : List Nat} {c : Nat} : pre.length ∈ bareL (pre ++ c :: post) [40, 41] (pre ++ c :: post).length ↔ es false pre = false ∧ (c = 40 ∨ c = 41) := by
  have := mem_bare (pre := pre) (post := post) (c := c) (sg := [40, 41]) (M := (bareL (pre ++ c :: post) [40, 41] (pre ++ c :: post).length).length + (bareL (pre ++ c :: post) [40, 41] pre.length).length + 1)
  rw [List.take_of_length_le (by omega)] at this
  rw [this]
  constructor
  · rintro ⟨⟨a, b⟩, _⟩; exact ⟨a, by simpa using b⟩
  · rintro ⟨a, b⟩; exact ⟨⟨a, by simpa using b⟩, by omega⟩
/-! what the law sees -/
section
variable (whole en : List Nat) (M : Nat)
noncomputable abbrev mkM : List Nat := (bareL whole [34] whole.length).take M
noncomputable abbrev brM : List Nat := bareL whole [40, 41] whole.length
theorem seen_row : ∀ (row pre post sh out : List Nat), whole = pre ++ row ++ post →
    row.foldl (seenStep (mkM whole M) (brM whole)) (sh, out, decide ((M - cq false pre) % 2 = 1), pre.length) =
    (sh ++ kp (M - cq false pre) (es false pre) row, out ++ bk (M - cq false pre) (es false pre) row, decide ((M - cq false (pre ++ row)) % 2 = 1), (pre ++ row).length)
  | [], pre, post, sh, out, h => by simp [kp, bk]
  | c :: row, pre, post, sh, out, h => by
    have hw : whole = pre ++ c :: (row ++ post) := by rw [h]; simp
    have hm : pre.length ∈ mkM whole M ↔ (es false pre = false ∧ c = 34) ∧ 0 < M - cq false pre := by
      have := mem_mark (pre := pre) (post := row ++ post) (c := c) (M := M)
      rw [← hw] at this; exact this
    have hb : pre.length ∈ brM whole ↔ es false pre = false ∧ (c = 40 ∨ c = 41) := by
      have := mem_br (pre := pre) (post := row ++ post) (c := c)
      rw [← hw] at this; exact this
    have ih := fun sh out => seen_row row (pre ++ [c]) post sh out (by rw [h]; simp)
    have hcq : cq false (pre ++ [c]) = cq false pre + if es false pre = false ∧ c = 34 then 1 else 0 := by rw [cq_app, cq, cq, Nat.add_zero]
    rw [es_snoc, List.length_append, List.length_singleton, List.append_assoc, List.singleton_append, hcq] at ih
    rw [List.foldl_cons, seenStep_eq]
    by_cases h1 : (es false pre = false ∧ c = 34) ∧ 0 < M - cq false pre
    · rw [if_pos (hm.mpr h1), kp_mark h1, bk_mark h1]
      have := ih sh out
      rw [if_pos h1.1, Nat.sub_add_eq M (cq false pre) 1] at this
      have hd : (!decide ((M - cq false pre) % 2 = 1)) = decide ((M - cq false pre - 1) % 2 = 1) := par_pred h1.2
      rw [hd]; exact this
    · rw [if_neg (fun q => h1 (hm.mp q)), kp_not h1, bk_not h1]
      have hsub : M - (cq false pre + if es false pre = false ∧ c = 34 then 1 else 0) = M - cq false pre := by
        split
        · rename_i q
          have : ¬ 0 < M - cq false pre := fun z => h1 ⟨q, z⟩
          rw [Nat.sub_add_eq, Nat.eq_zero_of_not_pos this]
        · rfl
      rw [hsub] at ih
      by_cases h2 : (M - cq false pre) % 2 = 1
      · rw [if_pos h2, if_pos h2, decide_eq_true h2]
        have := ih sh out
        rw [decide_eq_true h2] at this
        exact this
      · rw [if_neg h2, if_neg h2, decide_eq_false h2]
        have := ih (sh ++ [c]) (out ++ b1 (es false pre) c)
        rw [decide_eq_false h2] at this
        have hout : (if pre.length ∈ brM whole then out ++ [c] else out) = out ++ b1 (es false pre) c := by
          unfold b1
          by_cases h3 : es false pre = false ∧ (c = 40 ∨ c = 41)
          · rw [if_pos (hb.mpr h3), if_pos h3]
          · rw [if_neg (fun q => h3 (hb.mp q)), if_neg h3, List.append_nil]
        rw [Bool.not_false, if_pos rfl, hout]
        refine this.trans ?_
        simp only [List.append_assoc, List.singleton_append]
noncomputable def kR : Nat → Nat → Bool → List (List Nat) → List Nat
  | _, _, _, [] => []
  | n, m, e, row :: r => (if 0 < n ∧ m % 2 = 0 then en else []) ++ kp m e row ++ kR (n + 1) (m - cq e row) (es e row) r
theorem seen_rows : ∀ (rows : List (List Nat)) (n : Nat) (pre sh out : List Nat), whole = pre ++ rows.flatten →
    (seenRows (mkM whole M) (brM whole) en n (sh, out, decide ((M - cq false pre) % 2 = 1), pre.length) rows).1 = sh ++ kR en n (M - cq false pre) (es false pre) rows ∧
    (seenRows (mkM whole M) (brM whole) en n (sh, out, decide ((M - cq false pre) % 2 = 1), pre.length) rows).2.1 = out ++ bk (M - cq false pre) (es false pre) rows.flatten
  | [], n, pre, sh, out, h => by simp [seenRows, kR, bk]
  | row :: rows, n, pre, sh, out, h => by
    rw [seenRows]
    unfold seenRow
    dsimp only
    have h1 : whole = pre ++ row ++ rows.flatten := by rw [h]; simp
    have key := fun sh => seen_row whole M row pre rows.flatten sh out h1
    have ih := fun sh out => seen_rows rows (n + 1) (pre ++ row) sh out h1
    have hc : M - cq false (pre ++ row) = M - cq false pre - cq (es false pre) row := by rw [cq_app]; omega
    have hen : (if 0 < n ∧ decide ((M - cq false pre) % 2 = 1) = false then (sh ++ en, out, decide ((M - cq false pre) % 2 = 1), pre.length) else (sh, out, decide ((M - cq false pre) % 2 = 1), pre.length)) = (sh ++ (if 0 < n ∧ (M - cq false pre) % 2 = 0 then en else []), out, decide ((M - cq false pre) % 2 = 1), pre.length) := by
      by_cases q : 0 < n ∧ (M - cq false pre) % 2 = 0
      · rw [if_pos q, if_pos ⟨q.1, decide_eq_false (by omega)⟩]
      · rw [if_neg q, if_neg (fun z => q ⟨z.1, by have := of_decide_eq_false z.2; omega⟩), List.append_nil]
    rw [hen, key, kR, List.flatten_cons, bk_app]
    have := ih (sh ++ (if 0 < n ∧ (M - cq false pre) % 2 = 0 then en else []) ++ kp (M - cq false pre) (es false pre) row) (out ++ bk (M - cq false pre) (es false pre) row)
    rw [this.1, this.2, hc, es_app]
    simp only [List.append_assoc, and_self]
end
theorem seenL_is (rows : List (List Nat)) (en : List Nat) : (seenL rows en).1 = kR en 0 (cq false rows.flatten / 2 * 2) false rows ∧ (seenL rows en).2.1 = bk (cq false rows.flatten / 2 * 2) false rows.flatten := by
  unfold seenL marksL
  have h0 : (bareL rows.flatten [34] rows.flatten.length).length = cq false rows.flatten := by
    have := bare_cq rows.flatten []
    rw [List.append_nil] at this; exact this
  dsimp only
  rw [h0]
  have h1 : decide ((cq false rows.flatten / 2 * 2 - cq false ([] : List Nat)) % 2 = 1) = false := decide_eq_false (by simp [cq])
  have := seen_rows rows.flatten en (cq false rows.flatten / 2 * 2) rows 0 [] [] [] (by simp)
  rw [h1] at this
  simp only [List.nil_append, List.length_nil] at this
  exact this
/-! the line ends -/
noncomputable def Wr (r : List Nat) : Prop := r = [] ∨ ∃ w t, r = w :: t ∧ w ∈ [32, 9]
noncomputable def En (en : List Nat) : Prop := en = [10] ∨ en = [13, 10]
theorem nx_w {w : Nat} (h : w ∈ [32, 9]) (e : Bool) : nx e w = false := by
  unfold nx; rcases (by simpa using h : w = 32 ∨ w = 9) with rfl | rfl <;> simp
theorem kp_en {en : List Nat} (hen : En en) (m : Nat) (e : Bool) (x : List Nat) : kp m e (en ++ x) = (if m % 2 = 0 then en else []) ++ kp m false x := by
  have hx : nx e 10 = false := by unfold nx; simp
  have hy : nx e 13 = false := by unfold nx; simp
  have hz : nx false 10 = false := rfl
  rcases hen with rfl | rfl
  · rw [List.singleton_append, kp_not (by omega), hx]
    by_cases h : m % 2 = 1
    · rw [if_pos h, if_neg (by omega)]; rfl
    · rw [if_neg h, if_pos (by omega)]; rfl
  · rw [List.cons_append, List.singleton_append, kp_not (by omega), hy, kp_not (by omega), hz]
    by_cases h : m % 2 = 1
    · rw [if_pos h, if_pos h, if_neg (by omega)]; rfl
    · rw [if_neg h, if_neg h, if_pos (by omega)]; rfl
theorem bk_en {en : List Nat} (hen : En en) (m : Nat) (e : Bool) (x : List Nat) : bk m e (en ++ x) = bk m false x := by
  have hx : nx e 10 = false := by unfold nx; simp
  have hy : nx e 13 = false := by unfold nx; simp
  have hz : nx false 10 = false := rfl
  have b10 : ∀ e, b1 e 10 = [] := fun e => by unfold b1; rw [if_neg (by omega)]
  have b13 : ∀ e, b1 e 13 = [] := fun e => by unfold b1; rw [if_neg (by omega)]
  rcases hen with rfl | rfl
  · rw [List.singleton_append, bk_not (by omega), hx, b10, List.nil_append, ite_self]
  · rw [List.cons_append, List.singleton_append, bk_not (by omega), hy, bk_not (by omega), hz, b10, b13, List.nil_append, List.nil_append, ite_self, ite_self]
theorem cq_en {en : List Nat} (hen : En en) (e : Bool) (x : List Nat) : cq e (en ++ x) = cq false x := by
  have hx : nx e 10 = false := by unfold nx; simp
  have hy : nx e 13 = false := by unfold nx; simp
  have hz : nx false 10 = false := rfl
  rcases hen with rfl | rfl
  · rw [List.singleton_append, cq_not (by omega), hx]
  · rw [List.cons_append, List.singleton_append, cq_not (by omega), hy, cq_not (by omega), hz]
theorem kp_w {w : Nat} (h : w ∈ [32, 9]) (t : List Nat) (m : Nat) (e : Bool) : kp m e (w :: t) = kp m false (w :: t) := by
  have h34 : w ≠ 34 := by rintro rfl; simp at h
  rw [kp_not (fun q => h34 q.1.2), kp_not (fun q => h34 q.1.2), nx_w h, nx_w h]
theorem bk_w {w : Nat} (h : w ∈ [32, 9]) (t : List Nat) (m : Nat) (e : Bool) : bk m e (w :: t) = bk m false (w :: t) := by
  have h34 : w ≠ 34 := by rintro rfl; simp at h
  have hb : ∀ e, b1 e w = [] := fun e => by unfold b1; rw [if_neg]; rintro ⟨_, rfl | rfl⟩ <;> simp at h
  rw [bk_not (fun q => h34 q.1.2), bk_not (fun q => h34 q.1.2), nx_w h, nx_w h, hb, hb]
theorem cq_w {w : Nat} (h : w ∈ [32, 9]) (t : List Nat) (e : Bool) : cq e (w :: t) = cq false (w :: t) := by
  have h34 : w ≠ 34 := by rintro rfl; simp at h
  rw [cq_not (fun q => h34 q.2), cq_not (fun q => h34 q.2), nx_w h, nx_w h]
theorem es_w {w : Nat} (h : w ∈ [32, 9]) (t : List Nat) (e : Bool) : es e (w :: t) = es false (w :: t) := by
  rw [es_cons, es_cons, nx_w h, nx_w h]
theorem kR_glue {en : List Nat} (hen : En en) : ∀ (rs : List (List Nat)) (n m : Nat) (e e' : Bool), 0 < n → (∀ r ∈ rs, Wr r) → kp m e (rs.map (en ++ ·)).flatten = kR en n m e' rs
  | [], n, m, e, e', _, _ => by simp [kp, kR]
  | r :: rs, n, m, e, e', hn, hr => by
    have hr' : ∀ x ∈ rs, Wr x := fun x hx => hr x (by simp [hx])
    rw [List.map_cons, List.flatten_cons, List.append_assoc, kp_en hen, kR]
    have he : (if 0 < n ∧ m % 2 = 0 then en else []) = if m % 2 = 0 then en else [] := by
      by_cases q : m % 2 = 0
      · rw [if_pos ⟨hn, q⟩, if_pos q]
      · rw [if_neg (fun z => q z.2), if_neg q]
    rw [he, List.append_assoc, kp_app]
    congr 1
    rcases hr r (by simp) with rfl | ⟨w, t, rfl, hw⟩
    · exact kR_glue hen rs (n + 1) _ _ _ (by omega) hr'
    · rw [kp_w hw t m e', cq_w hw t e', es_w hw t e', kR_glue hen rs (n + 1) _ _ _ (by omega) hr']
theorem bk_glue {en : List Nat} (hen : En en) : ∀ (rs : List (List Nat)) (m : Nat) (e e' : Bool), (∀ r ∈ rs, Wr r) → bk m e (rs.map (en ++ ·)).flatten = bk m e' rs.flatten
  | [], m, e, e', _ => by simp [bk]
  | r :: rs, m, e, e', hr => by
    have hr' : ∀ x ∈ rs, Wr x := fun x hx => hr x (by simp [hx])
    rw [List.map_cons, List.flatten_cons, List.append_assoc, bk_en hen, List.flatten_cons, bk_app, bk_app]
    rcases hr r (by simp) with rfl | ⟨w, t, rfl, hw⟩
    · exact bk_glue hen rs _ _ _ hr'
    · rw [bk_w hw t m e', cq_w hw t e', es_w hw t e', bk_glue hen rs _ _ _ hr']
theorem cq_glue {en : List Nat} (hen : En en) : ∀ (rs : List (List Nat)) (e e' : Bool), (∀ r ∈ rs, Wr r) → cq e (rs.map (en ++ ·)).flatten = cq e' rs.flatten
  | [], e, e', _ => by simp [cq]
  | r :: rs, e, e', hr => by
    have hr' : ∀ x ∈ rs, Wr x := fun x hx => hr x (by simp [hx])
    rw [List.map_cons, List.flatten_cons, List.append_assoc, cq_en hen, List.flatten_cons, cq_app, cq_app]
    rcases hr r (by simp) with rfl | ⟨w, t, rfl, hw⟩
    · rw [show cq false [] = 0 from rfl, show cq e' [] = 0 from rfl]
      congr 1
      exact cq_glue hen rs _ _ hr'
    · rw [cq_w hw t e', es_w hw t e', cq_glue hen rs _ _ hr']
theorem jn_cons (en row : List Nat) (rs : List (List Nat)) : jn en (row :: rs) = row ++ (rs.map (en ++ ·)).flatten := rfl
theorem read_glued {en : List Nat} (hen : En en) {rows : List (List Nat)} (hr : ∀ r ∈ rows.tail, Wr r) :
    cq false (jn en rows) = cq false rows.flatten ∧ (∀ m, kp m false (jn en rows) = kR en 0 m false rows) ∧ ∀ m, bk m false (jn en rows) = bk m false rows.flatten := by
  cases rows with
  | nil => exact ⟨rfl, fun m => rfl, fun m => rfl⟩
  | cons row rs =>
    have hr : ∀ r ∈ rs, Wr r := hr
    rw [jn_cons, List.flatten_cons]
    refine ⟨?_, fun m => ?_, fun m => ?_⟩
    · rw [cq_app, cq_app, cq_glue hen rs _ _ hr]
    · rw [kp_app, kR, if_neg (by omega), List.nil_append, kR_glue hen rs 1 _ _ _ (by omega) hr]
    · rw [bk_app, bk_app, bk_glue hen rs _ _ _ hr]
/-! the line ends struck out -/
theorem strk_non {en : List Nat} (hen : En en) : ∀ (x y : List Nat), (∀ c ∈ x, c ≠ 10 ∧ c ≠ 13) → strk en 0 (x ++ y) = x ++ strk en 0 y
  | [], y, _ => rfl
  | c :: x, y, h => by
    have hc := h c (by simp)
    rw [List.cons_append, strk, if_neg, strk_non hen x y fun d hd => h d (by simp [hd])]
    · rfl
    · rcases hen with rfl | rfl <;> (simp [List.isPrefixOf]; omega)
theorem strk_en {en : List Nat} (hen : En en) (y : List Nat) : strk en 0 (en ++ y) = strk en 0 y := by
  rcases hen with rfl | rfl
  · rw [List.singleton_append, strk, if_pos (by simp [List.isPrefixOf])]; rfl
  · rw [List.cons_append, List.singleton_append, strk, if_pos (by simp [List.isPrefixOf])]
    show strk [13, 10] (0 + 1) (10 :: y) = _
    rw [strk]
theorem kp_mem : ∀ (l : List Nat) (m : Nat) (e : Bool), ∀ c ∈ kp m e l, c ∈ l
  | [], m, e, d, h => by simp [kp] at h
  | c :: r, m, e, d, h => by
    rw [kp] at h
    split at h
    · exact List.mem_cons_of_mem _ (kp_mem r _ _ d h)
    · split at h
      · exact List.mem_cons_of_mem _ (kp_mem r _ _ d h)
      · rcases List.mem_cons.mp h with rfl | q
        · simp
        · exact List.mem_cons_of_mem _ (kp_mem r _ _ d q)
theorem strk_kR {en : List Nat} (hen : En en) : ∀ (rs : List (List Nat)) (n m : Nat) (e : Bool), (∀ r ∈ rs, ∀ c ∈ r, c ≠ 10 ∧ c ≠ 13) → strk en 0 (kR en n m e rs) = kp m e rs.flatten
  | [], n, m, e, _ => by simp [kR, strk, kp]
  | r :: rs, n, m, e, h => by
    have ih := strk_kR hen rs (n + 1) (m - cq e r) (es e r) fun x hx => h x (by simp [hx])
    have hk : ∀ c ∈ kp m e r, c ≠ 10 ∧ c ≠ 13 := fun c hc => h r (by simp) c (kp_mem r _ _ c hc)
    rw [kR, List.flatten_cons, kp_app, List.append_assoc]
    split
    · rw [strk_en hen, strk_non hen _ _ hk, ih]
    · rw [List.nil_append, strk_non hen _ _ hk, ih]
theorem read_all {en : List Nat} (hen : En en) {rows : List (List Nat)} (hr : ∀ r ∈ rows.tail, Wr r) (hc : ∀ r ∈ rows, ∀ c ∈ r, c ≠ 10 ∧ c ≠ 13) :
    unq (jn en rows) = (seenL rows en).1 ∧ unq rows.flatten = strk en 0 (seenL rows en).1 ∧ chkL (jn en rows) = closedL (seenL rows en).2.1 ∧ chkL rows.flatten = closedL (seenL rows en).2.1 := by
  obtain ⟨g1, g2, g3⟩ := read_glued hen hr
  obtain ⟨s1, s2⟩ := seenL_is rows en
  rw [s1, s2, closed_bal (bk_mem _ _ _), unq_kp, unq_kp, chkL_bk, chkL_bk, g1, g2, g3, strk_kR hen rows _ _ _ hc]
  exact ⟨rfl, rfl, rfl, rfl⟩
end
section
/-! the rows behind the first begin with a white sign -/
set_option maxRecDepth 100000
theorem Wr.app {a b : List Nat} (ha : Wr a) (hb : Wr b) : Wr (a ++ b) := by
  rcases ha with rfl | ⟨w, t, rfl, hw⟩
  · exact hb
  · exact .inr ⟨w, t ++ b, rfl, hw⟩
theorem Wr.flat : ∀ {ps : List (List Nat)}, (∀ p ∈ ps, Wr p) → Wr ps.flatten
  | [], _ => .inl rfl
  | p :: ps, h => by
    rw [List.flatten_cons]
    exact (h p (by simp)).app (Wr.flat fun q hq => h q (by simp [hq]))
theorem Wr.dl {a : List Nat} (h : Wr a) : Wr a.dropLast := by
  rcases h with rfl | ⟨w, t, rfl, hw⟩
  · exact .inl rfl
  · cases t with
    | nil => exact .inl rfl
    | cons x t => exact .inr ⟨w, _, rfl, hw⟩
theorem pcs_W : ∀ (l : List Nat), ∀ p ∈ (pcs l).tail, ∃ w t, p = w :: t ∧ w ∈ [32, 9] := by
  refine snoc_ind (by simp [pcs]) fun l c ih => ?_
  have I := pcs_inv l
  obtain ⟨xs, x, hx⟩ : ∃ xs x, pcs l = xs ++ [x] := ⟨(pcs l).dropLast, (pcs l).getLast I.ne, (List.dropLast_concat_getLast I.ne).symm⟩
  rw [pcs_snoc, hx]
  rw [hx] at ih
  have e1 : (xs ++ [x]).getLastD [] = x := by simp
  have e2 : (xs ++ [x]).dropLast = xs := by simp
  unfold pcStep
  rw [e1, e2]
  split
  · rename_i h
    intro p hp
    rw [List.tail_append_of_ne_nil (by simp)] at hp
    rcases List.mem_append.mp hp with q | q
    · exact ih p q
    · rw [List.mem_singleton.mp q]; exact ⟨c, [], rfl, h.1⟩
  · cases xs with
    | nil => simp
    | cons y ys =>
      intro p hp
      rcases List.mem_append.mp hp with q | q
      · exact ih p (List.mem_append_left _ q)
      · rw [List.mem_singleton.mp q]
        obtain ⟨w, t, rfl, hw⟩ := ih x (List.mem_append_right _ (List.mem_singleton.mpr rfl))
        exact ⟨w, t ++ [c], rfl, hw⟩
structure WI (st : RS) : Prop where
  a : ∀ r ∈ st.1.tail, Wr r
  b : ∀ p ∈ st.2.1.tail, Wr p
  c : st.1 ≠ [] → ∀ p ∈ st.2.1, Wr p
theorem WI.all {st : RS} (h : WI st) : ∀ r ∈ (st.1 ++ [st.2.1.flatten]).tail, Wr r := by
  intro r hr
  by_cases q : st.1 = []
  · rw [q] at hr; simp at hr
  · rw [List.tail_append_of_ne_nil q] at hr
    rcases List.mem_append.mp hr with z | z
    · exact h.a r z
    · rw [List.mem_singleton.mp z]; exact Wr.flat (h.c q)
theorem row_WI (width : Nat) (order : List Nat) (st : RS) (p : List Nat) (h : WI st) (hp : (st.1 = [] ∧ st.2.1 = []) ∨ Wr p) : WI (rowStep width order st p) := by
  have tl : ∀ x ∈ (st.2.1 ++ [p]).tail, Wr x := by
    intro x hx
    by_cases q : st.2.1 = []
    · rw [q] at hx; simp at hx
    · rw [List.tail_append_of_ne_nil q] at hx
      rcases List.mem_append.mp hx with z | z
      · exact h.b x z
      · rw [List.mem_singleton.mp z]
        rcases hp with hp | hp
        · exact absurd hp.2 q
        · exact hp
  have al : st.1 ≠ [] → ∀ x ∈ st.2.1 ++ [p], Wr x := by
    intro q x hx
    rcases List.mem_append.mp hx with z | z
    · exact h.c q x z
    · rw [List.mem_singleton.mp z]
      rcases hp with hp | hp
      · exact absurd hp.1 q
      · exact hp
  have keep : WI (st.1, st.2.1 ++ [p], st.2.2) := ⟨h.a, tl, al⟩
  unfold rowStep
  dsimp only
  split
  · split
    · rename_i hne
      have hb := places_rng (best_mem hne)
      generalize (best (places order (st.2.1 ++ [p]) order.length)).2 = cut at hb
      have hd : ∀ x ∈ (st.2.1 ++ [p]).drop cut, Wr x := by
        intro x hx
        rw [show cut = 1 + (cut - 1) by omega, ← List.drop_drop, List.drop_one] at hx
        exact tl x (List.mem_of_mem_drop hx)
      refine ⟨?_, fun x hx => hd x (List.mem_of_mem_tail hx), fun _ => hd⟩
      intro r hr
      by_cases q : st.1 = []
      · rw [q] at hr; simp at hr
      · rw [List.tail_append_of_ne_nil q] at hr
        rcases List.mem_append.mp hr with z | z
        · exact h.a r z
        · rw [List.mem_singleton.mp z]; exact Wr.flat fun x hx => al q x (List.mem_of_mem_take hx)
    · split
      · have hw : Wr (if p.headD 0 ∈ [32, 9] then p else 32 :: p) := by
          split
          · rename_i hh
            cases p with
            | nil => exact .inl rfl
            | cons c t => exact .inr ⟨c, t, rfl, hh⟩
          · exact .inr ⟨32, p, rfl, by simp⟩
        refine ⟨?_, by simp, fun _ x hx => by rw [List.mem_singleton.mp hx]; exact hw⟩
        intro r hr
        by_cases q : st.1 = []
        · rw [q] at hr; simp at hr
        · rw [List.tail_append_of_ne_nil q] at hr
          rcases List.mem_append.mp hr with z | z
          · exact h.a r z
          · rw [List.mem_singleton.mp z, List.dropLast_concat]; exact Wr.flat (h.c q)
      · exact keep
  · exact keep
theorem fold_WI (width : Nat) (order : List Nat) : ∀ (ps : List (List Nat)) (st : RS), WI st → (∀ p ∈ ps, Wr p) → WI (ps.foldl (rowStep width order) st)
  | [], st, h, _ => h
  | p :: ps, st, h, hp => by
    rw [List.foldl_cons]
    exact fold_WI width order ps _ (row_WI width order st p h (.inr (hp p (by simp)))) fun q hq => hp q (by simp [hq])
theorem merge_W {rows : List (List Nat)} (h : ∀ r ∈ rows.tail, Wr r) : ∀ r ∈ (rows.dropLast.dropLast ++ [rows.dropLast.getLastD [] ++ rows.getLastD []]).tail, Wr r := by
  rcases List.eq_nil_or_concat rows with rfl | ⟨ys, b, rfl⟩
  · simp
  rw [List.concat_eq_append] at *
  have e1 : (ys ++ [b]).dropLast = ys := by simp
  have e2 : (ys ++ [b]).getLastD [] = b := by simp
  rw [e1, e2]
  rcases List.eq_nil_or_concat ys with rfl | ⟨xs, a, rfl⟩
  · simp
  rw [List.concat_eq_append] at *
  have e3 : (xs ++ [a]).dropLast = xs := by simp
  have e4 : (xs ++ [a]).getLastD [] = a := by simp
  rw [e3, e4]
  cases xs with
  | nil => simp
  | cons x xs =>
    intro r hr
    rcases List.mem_append.mp hr with z | z
    · exact h r (List.mem_append_left _ (List.mem_append_left _ z))
    · rw [List.mem_singleton.mp z]
      exact (h a (List.mem_append_left _ (List.mem_append_right _ (List.mem_singleton.mpr rfl)))).app (h b (List.mem_append_right _ (List.mem_singleton.mpr rfl)))
theorem cutl_W {rows : List (List Nat)} (h : ∀ r ∈ rows.tail, Wr r) : ∀ r ∈ (rows.dropLast ++ [(rows.getLastD []).dropLast]).tail, Wr r := by
  rcases List.eq_nil_or_concat rows with rfl | ⟨xs, b, rfl⟩
  · simp
  rw [List.concat_eq_append] at *
  have e1 : (xs ++ [b]).dropLast = xs := by simp
  have e2 : (xs ++ [b]).getLastD [] = b := by simp
  rw [e1, e2]
  cases xs with
  | nil => simp
  | cons x xs =>
    intro r hr
    rcases List.mem_append.mp hr with z | z
    · exact h r (List.mem_append_left _ z)
    · rw [List.mem_singleton.mp z]
      exact (h b (List.mem_append_right _ (List.mem_singleton.mpr rfl))).dl
theorem rows_W (text : List Nat) (room width : Nat) (order : List Nat) : ∀ r ∈ (rowsL text room width order).tail, Wr r := by
  unfold rowsL rowsEnd
  have hW := pcs_W text
  have hI := pcs_inv text
  have key : WI ((pcs text).foldl (rowStep width order) ([], [], room)) := by
    cases hp : pcs text with
    | nil => exact absurd hp hI.ne
    | cons p ps =>
      rw [hp] at hW
      rw [List.foldl_cons]
      refine fold_WI width order ps _ (row_WI width order _ p ⟨by simp, by simp, by simp⟩ (.inl ⟨rfl, rfl⟩)) fun q hq => .inr (hW q hq)
  have h1 := key.all
  generalize (pcs text).foldl (rowStep width order) ([], [], room) = st at *
  dsimp only
  generalize st.1 ++ [st.2.1.flatten] = rows at *
  have h2 : ∀ r ∈ (if stripL [32, 9] (rows.getLastD []) = [] then rows.dropLast.dropLast ++ [rows.dropLast.getLastD [] ++ rows.getLastD []] else rows).tail, Wr r := by
    split
    · exact merge_W h1
    · exact h1
  generalize (if stripL [32, 9] (rows.getLastD []) = [] then rows.dropLast.dropLast ++ [rows.dropLast.getLastD [] ++ rows.getLastD []] else rows) = rows2 at *
  split
  · exact cutl_W h2
  · exact h2
/-! the signs of the rows -/
noncomputable def Al (P : Nat → Prop) (rows : List (List Nat)) : Prop := ∀ r ∈ rows, ∀ c ∈ r, P c
theorem Al.flat {P : Nat → Prop} {rows : List (List Nat)} (h : Al P rows) : ∀ c ∈ rows.flatten, P c := by
  intro c hc
  obtain ⟨r, hr, hcr⟩ := List.mem_flatten.mp hc
  exact h r hr c hcr
theorem Al.app {P : Nat → Prop} {a b : List (List Nat)} (ha : Al P a) (hb : Al P b) : Al P (a ++ b) := by
  intro r hr
  rcases List.mem_append.mp hr with q | q
  · exact ha r q
  · exact hb r q
theorem Al.one {P : Nat → Prop} {r : List Nat} (h : ∀ c ∈ r, P c) : Al P [r] := by
  intro x hx; rw [List.mem_singleton.mp hx]; exact h
theorem Al.sub {P : Nat → Prop} {a b : List (List Nat)} (ha : Al P a) (h : ∀ r ∈ b, r ∈ a) : Al P b := fun r hr => ha r (h r hr)
theorem Al.last {P : Nat → Prop} {a : List (List Nat)} (ha : Al P a) : ∀ c ∈ a.getLastD [], P c := by
  rcases List.eq_nil_or_concat a with rfl | ⟨xs, b, rfl⟩
  · simp
  · rw [List.concat_eq_append] at *
    have e2 : (xs ++ [b]).getLastD [] = b := by simp
    rw [e2]; exact ha b (by simp)
theorem row_Al {P : Nat → Prop} (h32 : P 32) (width : Nat) (order : List Nat) (st : RS) (p : List Nat) (h1 : Al P st.1) (h2 : Al P st.2.1) (hp : ∀ c ∈ p, P c) : Al P (rowStep width order st p).1 ∧ Al P (rowStep width order st p).2.1 := by
  have k := h2.app (Al.one hp)
  unfold rowStep
  dsimp only
  split
  · split
    · refine ⟨h1.app (Al.one (Al.flat (k.sub fun r hr => List.mem_of_mem_take hr))), k.sub fun r hr => List.mem_of_mem_drop hr⟩
    · split
      · refine ⟨h1.app (Al.one (Al.flat (k.sub fun r hr => List.dropLast_subset _ hr))), Al.one ?_⟩
        split
        · exact hp
        · intro c hc
          rcases List.mem_cons.mp hc with rfl | q
          · exact h32
          · exact hp c q
      · exact ⟨h1, k⟩
  · exact ⟨h1, k⟩
theorem fold_Al {P : Nat → Prop} (h32 : P 32) (width : Nat) (order : List Nat) : ∀ (ps : List (List Nat)) (st : RS), Al P st.1 → Al P st.2.1 → Al P ps → Al P (ps.foldl (rowStep width order) st).1 ∧ Al P (ps.foldl (rowStep width order) st).2.1
  | [], st, h1, h2, _ => ⟨h1, h2⟩
  | p :: ps, st, h1, h2, hp => by
    rw [List.foldl_cons]
    have := row_Al h32 width order st p h1 h2 (hp p (by simp))
    exact fold_Al h32 width order ps _ this.1 this.2 fun q hq => hp q (by simp [hq])
theorem rows_Al {P : Nat → Prop} (h32 : P 32) {text : List Nat} (ht : ∀ c ∈ text, P c) (room width : Nat) (order : List Nat) : Al P (rowsL text room width order) := by
  unfold rowsL rowsEnd
  have hI := pcs_inv text
  have hps : Al P (pcs text) := by
    intro r hr c hc
    refine ht c ?_
    rw [← hI.fl]
    exact List.mem_flatten.mpr ⟨r, hr, hc⟩
  obtain ⟨h1, h2⟩ := fold_Al h32 width order (pcs text) ([], [], room) (by intro r hr; cases hr) (by intro r hr; cases hr) hps
  generalize (pcs text).foldl (rowStep width order) ([], [], room) = st at *
  have h3 := h1.app (Al.one h2.flat)
  dsimp only
  generalize st.1 ++ [st.2.1.flatten] = rows at *
  have h4 : Al P (if stripL [32, 9] (rows.getLastD []) = [] then rows.dropLast.dropLast ++ [rows.dropLast.getLastD [] ++ rows.getLastD []] else rows) := by
    split
    · refine Al.app (h3.sub fun r hr => List.dropLast_subset _ (List.dropLast_subset _ hr)) (Al.one ?_)
      intro c hc
      rcases List.mem_append.mp hc with q | q
      · exact Al.last (h3.sub fun r hr => List.dropLast_subset _ hr) c q
      · exact h3.last c q
    · exact h3
  generalize (if stripL [32, 9] (rows.getLastD []) = [] then rows.dropLast.dropLast ++ [rows.dropLast.getLastD [] ++ rows.getLastD []] else rows) = rows2 at *
  split
  · refine Al.app (h4.sub fun r hr => List.dropLast_subset _ hr) (Al.one ?_)
    intro c hc
    exact h4.last c (List.dropLast_subset _ hc)
  · exact h4
/-! the sizes of the rows -/
theorem merge_len (rows : List (List Nat)) : (rows.dropLast.dropLast ++ [rows.dropLast.getLastD [] ++ rows.getLastD []]).length ≤ rows.length + 1 ∧ (rows.dropLast.dropLast ++ [rows.dropLast.getLastD [] ++ rows.getLastD []]).flatten.length ≤ rows.flatten.length := by
  rcases List.eq_nil_or_concat rows with rfl | ⟨ys, b, rfl⟩
  · simp
  rw [List.concat_eq_append]
  have e1 : (ys ++ [b]).dropLast = ys := by simp
  have e2 : (ys ++ [b]).getLastD [] = b := by simp
  rw [e1, e2]
  rcases List.eq_nil_or_concat ys with rfl | ⟨xs, a, rfl⟩
  · simp
  rw [List.concat_eq_append]
  have e3 : (xs ++ [a]).dropLast = xs := by simp
  have e4 : (xs ++ [a]).getLastD [] = a := by simp
  rw [e3, e4]
  simp
theorem cutl_len (rows : List (List Nat)) : (rows.dropLast ++ [(rows.getLastD []).dropLast]).length ≤ rows.length + 1 ∧ (rows.dropLast ++ [(rows.getLastD []).dropLast]).flatten.length ≤ rows.flatten.length := by
  rcases List.eq_nil_or_concat rows with rfl | ⟨xs, b, rfl⟩
  · simp
  rw [List.concat_eq_append]
  have e1 : (xs ++ [b]).dropLast = xs := by simp
  have e2 : (xs ++ [b]).getLastD [] = b := by simp
  rw [e1, e2]
  simp
theorem rows_len (text : List Nat) (room width : Nat) (order : List Nat) : (rowsL text room width order).length ≤ text.length + 4 ∧ (rowsL text room width order).flatten.length ≤ 2 * text.length + 1 := by
  unfold rowsL rowsEnd
  have hI := pcs_inv text
  obtain ⟨b1, b2, b3, b4⟩ := rows_bd width order (pcs text) ([], [], room)
  have hln := hI.ln
  rw [hI.fl] at b1
  generalize (pcs text).foldl (rowStep width order) ([], [], room) = st at *
  dsimp only
  have h1 : (st.1 ++ [st.2.1.flatten]).length ≤ text.length + 2 := by simp at b2 ⊢; omega
  have h2 : (st.1 ++ [st.2.1.flatten]).flatten.length ≤ 2 * text.length + 1 := by
    unfold totR at b1
    simp [List.length_flatten] at b1 ⊢; omega
  generalize st.1 ++ [st.2.1.flatten] = rows at *
  have h3 : (if stripL [32, 9] (rows.getLastD []) = [] then rows.dropLast.dropLast ++ [rows.dropLast.getLastD [] ++ rows.getLastD []] else rows).length ≤ text.length + 3 ∧ (if stripL [32, 9] (rows.getLastD []) = [] then rows.dropLast.dropLast ++ [rows.dropLast.getLastD [] ++ rows.getLastD []] else rows).flatten.length ≤ 2 * text.length + 1 := by
    have := merge_len rows
    split
    · omega
    · omega
  generalize (if stripL [32, 9] (rows.getLastD []) = [] then rows.dropLast.dropLast ++ [rows.dropLast.getLastD [] ++ rows.getLastD []] else rows) = rows2 at *
  have := cutl_len rows2
  split
  · omega
  · omega
end
section
/-! the law's inputs -/
set_option maxRecDepth 100000
structure LO (T : List Nat) (room width : Nat) (order en : List Nat) : Prop where
  f : fmtL T room width order = rowsL T room width order
  u1 : unq (jn en (rowsL T room width order)) = (seenL (rowsL T room width order) en).1
  u2 : unq (rowsL T room width order).flatten = strk en 0 (seenL (rowsL T room width order) en).1
  k1 : chkL (jn en (rowsL T room width order)) = closedL (seenL (rowsL T room width order) en).2.1
  k2 : chkL (rowsL T room width order).flatten = closedL (seenL (rowsL T room width order) en).2.1
  rl : (rowsL T room width order).length ≤ 200
  rf : (rowsL T room width order).flatten.length ≤ 200
  ra : ∀ r ∈ rowsL T room width order, Asc r
  h : (nws T).1 ≠ []
  ta : Asc T
  tl : T.length ≤ 30
  oa : Asc order
  ol : order.length ≤ 3
  ea : Asc en
  el : en.length ≤ 2
  en0 : en ≠ []
  rm : room ≤ 9
noncomputable def tkn (xs : List Int) : List Nat := (xs.take 12).map fun x => (x % 1000000).toNat
noncomputable def ltext (ks : List Nat) : List Nat := pre8 ++ ks.map fun k => sgn (k % 10)
noncomputable def lwid (ks : List Nat) : Nat := ks.sum % 11 + 3
noncomputable def lord (ks : List Nat) : List Nat := orders.getD (ks.sum / 11 % 6) []
noncomputable def lroom (ks : List Nat) : Nat := [0, 5, 9].getD (ks.sum / 66 % 3) 0
noncomputable def lend (ks : List Nat) : List Nat := [[10], [13, 10]].getD (ks.sum / 198 % 2) []
noncomputable def TC (c : Nat) : Prop := c ∈ [98, 44, 32, 34, 99, 100, 97, 92, 40, 41, 9]
theorem sgn_TC (k : Nat) : TC (sgn (k % 10)) := (by decide : ∀ j, j < 10 → sgn j ∈ [98, 44, 32, 34, 99, 100, 97, 92, 40, 41, 9]) _ (Nat.mod_lt _ (by decide))
theorem text_TC (ks : List Nat) : ∀ c ∈ ltext ks, TC c := by
  intro c hc
  rcases List.mem_append.mp hc with q | q
  · exact (by decide : ∀ c ∈ pre8, c ∈ [98, 44, 32, 34, 99, 100, 97, 92, 40, 41, 9]) c q
  · obtain ⟨k, _, rfl⟩ := List.mem_map.mp q
    exact sgn_TC k
theorem TC.asc {c : Nat} (h : TC c) : c < 128 := (by decide : ∀ c ∈ [98, 44, 32, 34, 99, 100, 97, 92, 40, 41, 9], c < 128) c h
theorem TC.nl {c : Nat} (h : TC c) : c ≠ 10 ∧ c ≠ 13 := (by decide : ∀ c ∈ [98, 44, 32, 34, 99, 100, 97, 92, 40, 41, 9], c ≠ 10 ∧ c ≠ 13) c h
theorem TC.isp {c : Nat} (h : TC c) (hw : c ∉ [32, 9]) : Mine.isp c = false := (by decide +kernel : ∀ c ∈ [98, 44, 32, 34, 99, 100, 97, 92, 40, 41, 9], (c ∉ [32, 9] → Mine.isp c = false)) c h hw
theorem ord_ok (ks : List Nat) : (∀ o ∈ lord ks, o = 44 ∨ o = 32 ∨ o = 9) ∧ (lord ks).length ≤ 3 :=
  (by decide : ∀ j, j < 6 → (∀ o ∈ orders.getD j [], o = 44 ∨ o = 32 ∨ o = 9) ∧ (orders.getD j []).length ≤ 3) _ (Nat.mod_lt _ (by decide))
theorem end_ok (ks : List Nat) : lend ks = [10] ∨ lend ks = [13, 10] :=
  (by decide : ∀ j, j < 2 → ([[10], [13, 10]] : List (List Nat)).getD j [] = [10] ∨ ([[10], [13, 10]] : List (List Nat)).getD j [] = [13, 10]) _ (Nat.mod_lt _ (by decide))
theorem room_ok (ks : List Nat) : lroom ks ≤ 9 :=
  (by decide : ∀ j, j < 3 → ([0, 5, 9] : List Nat).getD j 0 ≤ 9) _ (Nat.mod_lt _ (by decide))
theorem lo_ks {ks : List Nat} (hk : ks.length ≤ 12) : LO (ltext ks) (lroom ks) (lwid ks) (lord ks) (lend ks) := by
  have hT := text_TC ks
  have hen : En (lend ks) := end_ok ks
  have hlen : (ltext ks).length = 8 + ks.length := by simp [ltext, pre8]; omega
  have hW := rows_W (ltext ks) (lroom ks) (lwid ks) (lord ks)
  have hA := rows_Al (P := TC) (by simp [TC]) hT (lroom ks) (lwid ks) (lord ks)
  have hL := rows_len (ltext ks) (lroom ks) (lwid ks) (lord ks)
  have hn : (nws (ltext ks)).1 ≠ [] := by
    have e : ltext ks = 98 :: ([44, 32, 34, 99, 32, 100, 34] ++ ks.map fun k => sgn (k % 10)) := rfl
    rw [e, (nws_pos (by simp)).1]; simp
  obtain ⟨r1, r2, r3, r4⟩ := read_all hen hW fun r hr c hc => (hA r hr c hc).nl
  exact {
    f := fmt_rows (ord_ok ks).1 hn fun c hc hw => (hT c hc).isp hw
    u1 := r1
    u2 := r2
    k1 := r3
    k2 := r4
    rl := by omega
    rf := by omega
    ra := fun r hr c hc => (hA r hr c hc).asc
    h := hn
    ta := fun c hc => (hT c hc).asc
    tl := by omega
    oa := fun c hc => by have := (ord_ok ks).1 c hc; omega
    ol := (ord_ok ks).2
    ea := by rcases hen with h | h <;> rw [h] <;> (intro c hc; simp at hc; omega)
    el := by rcases hen with h | h <;> rw [h] <;> simp
    en0 := by rcases hen with h | h <;> rw [h] <;> simp
    rm := room_ok ks }
theorem lo_all (xs : List Int) : LO (ltext (tkn xs)) (lroom (tkn xs)) (lwid (tkn xs)) (lord (tkn xs)) (lend (tkn xs)) := lo_ks (by unfold tkn; simp; omega)
end
section
set_option maxRecDepth 100000
set_option maxHeartbeats 8000000
theorem execs_app {env : Env} : ∀ (l1 l2 : List Stmt), execs (l1 ++ l2) env = (execs l1 env >>= fun f => match f with | .next => execs l2 env | f => pure f)
  | [], l2 => rfl
  | st :: l1, l2 => by
    rw [List.cons_append, execs_cons, execs_cons, bind_assoc]
    congr 1
    funext f
    cases f <;> first | exact execs_app l1 l2 | rfl
theorem splitX {M : Model} {A : Around} {E : Value → Shared → Prop} {env : Env} {Q : Flow → Shared → Prop} (n : Nat) {body : List Stmt} {s : Shared} (P : Shared → Prop) (h1 : wpAny M A (execs (body.take n) env) (fun f s' => f = .next ∧ Hold P s') E s)
    (h2 : ∀ s', s.toks ≤ s'.toks → P s' → wpAny M A (execs (body.drop n) env) Q E s') : wpAny M A (execs body env) Q E s := by
  have e := execs_app (env := env) (body.take n) (body.drop n)
  rw [List.take_append_drop] at e
  rw [e]
  refine wpAny_bind (wpAny_up (wpAny_mono h1 (fun f s' z hl => ?_) fun _ _ z => z))
  obtain ⟨rfl, z⟩ := z
  exact h2 s' hl z
noncomputable abbrev lwns : List Str := [Str.ofString "script", Str.ofString "taken", Str.ofString "total", Str.ofString "text", Str.ofString "width", Str.ofString "order", Str.ofString "room", Str.ofString "end", Str.ofString "rows", Str.ofString "maker", Str.ofString "folded", Str.ofString "whole", Str.ofString "shown", Str.ofString "closed", Str.ofString "due"]
theorem pick6 {k : Nat} (h : k < 6) {a b c d e f : Tok} : ∃ t, ([.str (Str.ofString ", ") a, .str (Str.ofString " ,") b, .str (Str.ofString ",") c, .str (S [32]) d, .str (Str.ofString "\t, ") e, .str (S []) f] : List Value)[k]? = some (.str (S (orders.getD k [])) t) := by
  have : k = 0 ∨ k = 1 ∨ k = 2 ∨ k = 3 ∨ k = 4 ∨ k = 5 := by omega
  rcases this with rfl | rfl | rfl | rfl | rfl | rfl
  · exact ⟨a, rfl⟩
  · exact ⟨b, rfl⟩
  · exact ⟨c, rfl⟩
  · exact ⟨d, rfl⟩
  · exact ⟨e, rfl⟩
  · exact ⟨f, rfl⟩
theorem pick3 {k : Nat} (h : k < 3) {a b c : Tok} : ∃ t, ([.int 0 a, .int 5 b, .int 9 c] : List Value)[k]? = some (.int (([0, 5, 9].getD k 0 : Nat) : Int) t) := by
  have : k = 0 ∨ k = 1 ∨ k = 2 := by omega
  rcases this with rfl | rfl | rfl
  · exact ⟨a, rfl⟩
  · exact ⟨b, rfl⟩
  · exact ⟨c, rfl⟩
theorem pick2 {k : Nat} (h : k < 2) {a b : Tok} : ∃ t, (t = a ∨ t = b) ∧ ([.str (Str.ofString "\n") a, .str (Str.ofString "\x0d\n") b] : List Value)[k]? = some (.str (S ([[10], [13, 10]].getD k [])) t) := by
  have : k = 0 ∨ k = 1 := by omega
  rcases this with rfl | rfl
  · exact ⟨a, .inl rfl, rfl⟩
  · exact ⟨b, .inr rfl, rfl⟩
theorem fdm (n a b : Nat) (ha : 0 < a) (hb : 0 < b) : (((n : Nat) : Int).fdiv ((a : Nat) : Int)).fmod ((b : Nat) : Int) = ((n / a % b : Nat) : Int) := by
  rw [Int.fdiv_eq_ediv_of_nonneg _ (by omega), Int.fmod_eq_emod_of_nonneg _ (by omega)]
  norm_cast
local macro_rules | `(tactic| walk_at "storeName") => `(tactic| (refine wpAny_up ?_; refine stv (by assumption) (by walk_at "at") (by walk_at "at") ?_; intro hN tN mM hup; dsimp only [List.set] at mM; dsimp only at hup))
theorem sgn_flat : ∀ ks : List Nat, (ks.map fun k => [sgn (k % 10)]).flatten = ks.map fun k => sgn (k % 10)
  | [] => rfl
  | a :: b => by simp only [List.map_cons, List.flatten_cons, sgn_flat b]; rfl
theorem paired_strs : ∀ (ts : List (Int × Tok)) (ks : List Nat) (zs : List Value), ts.map (·.1) = (ks.map fun k => ((k : Nat) : Int)) → Paired (fun v y => ∃ (k : Nat) (t t' : Tok), v = .int ((k : Nat) : Int) t ∧ y = .str (S [sgn (k % 10)]) t') (iv ts) zs → Strs zs (ks.map fun k => [sgn (k % 10)])
  | [], ks, zs, e2, hP => by
    cases hP
    cases ks with
    | nil => exact Strs.nil
    | cons a b => simp at e2
  | q :: r, [], zs, e2, hP => by simp at e2
  | q :: r, k0 :: ks, zs, e2, hP => by
    simp only [List.map_cons, List.cons.injEq] at e2
    cases hP with
    | cons hF hP' =>
      obtain ⟨n, t, t', f1, rfl⟩ := hF
      obtain ⟨us, rfl, u2⟩ := paired_strs r ks _ e2.2 hP'
      have e3 := e2.1
      have : n = k0 := by
        injection f1 with f1 _
        rw [e3] at f1; omega
      subst this
      exact ⟨([sgn (n % 10)], t') :: us, rfl, by simp only [List.map_cons, u2]⟩
theorem st_ok {T : List Nat} {room width : Nat} {order : List Nat} (hT : T.length ≤ 30) : Sml ((spl T).foldl (chunkF width order) ([], [], room)).2.1 ∧ Sml (nlps ((spl T).foldl (chunkF width order) ([], [], room)).2.1) ∧ ((spl T).foldl (chunkF width order) ([], [], room)).1.length ≤ 900 ∧
    (∀ l ∈ ((spl T).foldl (chunkF width order) ([], [], room)).1, l.length ≤ 1000) ∧ ((spl T).foldl (chunkF width order) ([], [], room)).2.2 ≤ room := by
  obtain ⟨b1, b2, b3⟩ := fold_bd width order (spl T) ([], [], room)
  have b4 := fold_sz width order (spl T) ([], [], room)
  obtain ⟨s1, s2⟩ := spl_len T
  generalize (spl T).foldl (chunkF width order) ([], [], room) = st at *
  have e0 : tot ([], [], room) = 0 := rfl
  rw [e0] at b1
  unfold tot at b1
  dsimp only [List.length_nil] at b2 b3
  obtain ⟨n1, n2⟩ := nlps_bd st.2.1
  refine ⟨Sml_of (N := 100) (by omega) (by omega) (by omega), Sml_of (N := 100) (by omega) (by omega) (by omega), by omega, fun l hl => ?_, b4⟩
  have := mem_sum hl
  omega
theorem jn_sz (en : List Nat) : ∀ (xs : List (List Nat)), (xs.map fun p => p.length + en.length).sum = xs.flatten.length + xs.length * en.length
  | [] => by simp
  | y :: r => by
    rw [List.map_cons, List.sum_cons, jn_sz en r, List.flatten_cons, List.length_append, List.length_cons, Nat.succ_mul]; omega
theorem jn_le {en : List Nat} {xs : List (List Nat)} (h1 : xs.flatten.length ≤ 200) (h2 : xs.length ≤ 200) (h3 : en.length ≤ 2) : (xs.map fun p => p.length + en.length).sum ≤ 600 := by
  rw [jn_sz]
  have : xs.length * en.length ≤ 200 * 2 := Nat.mul_le_mul h2 h3
  omega
theorem jn_mem {en : List Nat} {xs : List (List Nat)} {c : Nat} (h : c ∈ jn en xs) : c ∈ en ∨ ∃ r ∈ xs, c ∈ r := by
  cases xs with
  | nil => cases h
  | cons x r =>
    rw [jn_cons] at h
    rcases List.mem_append.mp h with q | q
    · exact .inr ⟨x, by simp, q⟩
    · obtain ⟨y, hy, hc⟩ := List.mem_flatten.mp q
      obtain ⟨z, hz, rfl⟩ := List.mem_map.mp hy
      rcases List.mem_append.mp hc with q | q
      · exact .inl q
      · exact .inr ⟨z, by simp [hz], q⟩
theorem jn_asc {en : List Nat} {xs : List (List Nat)} (h1 : Asc en) (h2 : ∀ r ∈ xs, Asc r) : Asc (jn en xs) := by
  intro c hc
  rcases jn_mem hc with q | ⟨r, hr, q⟩
  · exact h1 c q
  · exact h2 r hr c q
theorem jn_len {en : List Nat} {xs : List (List Nat)} (h1 : xs.flatten.length ≤ 200) (h2 : xs.length ≤ 200) (h3 : en.length ≤ 2) : (jn en xs).length ≤ 600 := by
  refine Nat.le_trans ?_ (jn_le h1 h2 h3)
  cases xs with
  | nil => simp [jn]
  | cons x r =>
    rw [jn_cons, List.length_append, List.map_cons, List.sum_cons]
    have : ∀ (r : List (List Nat)), ((r.map (en ++ ·)).flatten).length = (r.map fun p => p.length + en.length).sum := by
      intro r; induction r with
      | nil => rfl
      | cons y r ih => simp [ih]; omega
    rw [this]; omega
section
variable {w : World} {A : Around} {E : Value → Shared → Prop} {h₀ h : Heap} {g : Array GenState} {d : Drawn} {tk : Nat} {os : OsState} {led : Led} {mg mb : Str → Option Value} {i j n k : Nat} {vs : List Value} {xs : List Int} {a : Addr}
theorem eqLS {Q : Value → Shared → Prop} {us : List Value} {b : Addr} {m : Nat} {ys : List (List Nat)} (M : Mm h₀ h led) (e : At led i (a, .obj (lo vs n))) (f : At led j (b, .obj (lo us m))) (hv : Strs vs ys) (hw : Strs us ys) (R : Rm A 1) (hq : Q (.bool true) ⟨h, g, d, tk, os⟩) : wpAny (MP w) A (compareOp .Eq (.ref a) (.ref b)) Q E ⟨h, g, d, tk, os⟩ := by
  have h1 : Heap.IsList h a vs.toArray := ⟨_, M.get i e, rfl, n, rfl⟩
  have h2 : Heap.IsList h b us.toArray := ⟨_, M.get j f, rfl, m, rfl⟩
  have l1 := hv.len
  have l2 := hw.len
  refine SeqAt.eq_listAt (s := ⟨h, g, d, tk, os⟩) (e := fun _ => true) h1 h2 (by simp; omega) R.u (fun k q1 q2 => ?_) ?_
  · have q1' : k < vs.length := by simpa using q1
    have q2' : k < us.length := by simpa using q2
    have hx : ys[k]? = some (ys[k]'(by omega)) := List.getElem?_eq_getElem _
    obtain ⟨t1, e1⟩ := hv.get hx
    obtain ⟨t2, e2⟩ := hw.get hx
    have f1 : vs.toArray[k] = .str (S (ys[k]'(by omega))) t1 := by
      rw [List.getElem?_eq_getElem q1'] at e1
      simpa using e1
    have f2 : us.toArray[k] = .str (S (ys[k]'(by omega))) t2 := by
      rw [List.getElem?_eq_getElem q2'] at e2
      simpa using e2
    rw [f1, f2]
    have key := SeqAt.EqAt.str_str (A := A.in1) (s := ⟨h, g, d, tk, os⟩) (S (ys[k]'(by omega))) t1 (S (ys[k]'(by omega))) t2
    rw [beq_self_eq_true] at key
    exact key
  · have : (List.range vs.toArray.size).all (fun _ => true) = true := by simp
    rw [this]; exact hq
theorem law_spec {Q : Value → Shared → Prop} (G : Gd w h₀ mg mb) (B : BM h₀ mg) (M : Mm h₀ h ((190, .any TabP) :: (197, .any TabP) :: led)) (R : Rm A 17) (hsc : h₀.IsList a vs.toArray) (hvs : Ints vs xs) (hvl : vs.length ≤ 1000) (hb : AllBare g)
   (H : LO (ltext (tkn xs)) (lroom (tkn xs)) (lwid (tkn xs)) (lord (tkn xs)) (lend (tkn xs)))
   (hq : ∀ h' g' tk', Mm h₀ h' ((190, .any TabP) :: (197, .any TabP) :: led) → AllBare g' → Q (.bool true) ⟨h', g', d, tk', os⟩) :
   wpAny (MP w) A (call (.ref 258) [.ref a]) Q E ⟨h, g, d, tk, os⟩ := by
  walk_at "fill"
  refine' wpAny_call (callE [Str.ofString "script"] [Str.ofString "taken", Str.ofString "total", Str.ofString "text", Str.ofString "width", Str.ofString "order", Str.ofString "room", Str.ofString "end", Str.ofString "rows", Str.ofString "maker", Str.ofString "folded", Str.ofString "whole", Str.ofString "shown", Str.ofString "closed", Str.ofString "due"] [.ref a] G M R.d ?ho ?hcd ?hbind ?hcell ?hloc ?nd ?hlen ?c1 ?c2 ?c3 ?_)
  walk_at "entered"
  intro L h' tk' E' M'
  dsimp only [List.map, List.cons_append, List.nil_append] at M'
  have R1 := fun env => Rm.deeper (R.le (by decide : 16 + 1 ≤ 17)) env
  have hh : A.handled = none := R.handled
  let Pv1 : Shared → Heap → Nat → Tok → Tok → Tok → Tok → Tok → Value → Value → Prop := fun s' h7 k7 t0 t1 t2 t3 te tkv ttv => Am4 (s' = ⟨h7, g, d, k7, os⟩) (te ≠ 0) (te < k7) (Mm h₀ h7 ((L, .ns lwns [some (.ref a), some tkv, some ttv, some (.str (S (ltext (tkn xs))) t0), some (.int (lwid (tkn xs) : Nat) t1), some (.str (S (lord (tkn xs))) t2), some (.int (lroom (tkn xs) : Nat) t3), some (.str (S (lend (tkn xs))) te), none, none, none, none, none, none, none]) :: (190, .any TabP) :: (197, .any TabP) :: led))
  let Iv1 : Shared → Prop := fun s' => Ex9 (Pv1 s')
  refine splitX 7 Iv1 ?_ ?_
  · dsimp only [List.take]
    walk1
    refine compAss (h₀ := h₀) (ns := lwns) (vals := [some (.ref a), none, none, none, none, none, none, none, none, none, none, none, none, none, none]) (F := fun v y => ∃ n t t', v = .int n t ∧ y = .int (n.fmod 1000000) t') rfl hh (by decide) (by decide) rfl (by decide) rfl rfl rfl ?_
    repeat walk1
    refine slB (vs := vs) (r := vs.take 12) M' hsc .none (.int _ _) (pick_to _ _) (by rw [sizeLine_eq]; omega) ?_
    intro a2 h2 M2
    have htk := hvs.takeI 12
    refine ⟨a2, _, _, _, _, _, _, _, _, _, rfl, rfl, M2, .n1, ?_, .z, .n1, ?_, ?_⟩
    · rw [sizeLine_eq]; simp; omega
    · intro C v s₂ E'' m₂ hv hn hm
      obtain ⟨n, t, rfl⟩ : ∃ n t, v = .int n t := by
        obtain ⟨ts, e1, e2⟩ := htk
        rw [e1] at hv
        obtain ⟨q, hq1, hq2⟩ := List.mem_map.mp hv
        exact ⟨_, _, hq2.symm⟩
      obtain ⟨h2, g2, d2, k2, os2⟩ := s₂
      repeat walk1
      exact ⟨⟨_, _, _, rfl, rfl⟩, _, _, rfl, fun _ _ e => e⟩
    · intro D h3 k3 ys n' hP M3
      dsimp only [List.set] at M3
      have hys : Ints ys ((tkn xs).map fun k => ((k : Nat) : Int)) := by
        obtain ⟨ts, e1, e2⟩ := htk
        rw [e1] at hP
        unfold tkn
        rw [← e2]
        clear e1 e2 hvs M2 M3
        generalize ys = zs at *
        induction ts generalizing zs with
        | nil => cases hP; exact Ints.nil
        | cons q r ih =>
          cases hP with
          | cons hF hP' =>
            obtain ⟨n, t, t', f1, rfl⟩ := hF
            obtain ⟨us, rfl, u2⟩ := ih _ hP'
            cases f1
            refine ⟨(q.1.fmod 1000000, t') :: us, rfl, ?_⟩
            simp only [List.map_cons, u2]
            congr 1
            have := Int.emod_nonneg q.1 (show (1000000 : Int) ≠ 0 by omega)
            rw [Int.fmod_eq_emod_of_nonneg _ (by omega)]
            omega
      have hyl : ys.length ≤ 12 := by
        have := hys.len
        rw [this]; unfold tkn; simp; omega
      repeat walk1
      have hsum : ((tkn xs).map fun k => ((k : Nat) : Int)).sum = ((tkn xs).sum : Nat) := by
        induction tkn xs with
        | nil => rfl
        | cons q r ih => rw [List.map_cons, List.sum_cons, ih, List.sum_cons]; omega
      refine sumLz M3 hh .z hys hsum ?_
      intro h4 k4 t4 M4
      have hysT : tkn xs = tkn xs := rfl
      generalize hks : tkn xs = ks at *
      set_option tactic.hygienic false in (revert ks; refine Mine.hold ?_; intros)
      iterate 10 walk1
      refine compE (F := fun v y => ∃ (k : Nat) (t t' : Tok), v = .int ((k : Nat) : Int) t ∧ y = .str (S [sgn (k % 10)]) t') (by assumption) hh (by decide) (by decide) rfl (by decide) rfl ?_
      walk1
      rename Mm _ _ _ => M5
      refine ⟨D, _, _, _, _, _, _, _, rfl, rfl, M5, by walk_at "at", by rw [sizeLine_eq]; omega, ?_, ?_⟩
      · intro C v s₂ E'' m₂ hv hn hm
        obtain ⟨k, t, rfl⟩ : ∃ (k : Nat) (t : Tok), v = .int ((k : Nat) : Int) t := by
          obtain ⟨ts, e1, e2⟩ := hys
          rw [e1] at hv
          obtain ⟨q, hq1, hq2⟩ := List.mem_map.mp hv
          have : q.1 ∈ ks.map fun k => ((k : Nat) : Int) := by rw [← e2]; exact List.mem_map_of_mem hq1
          obtain ⟨k, _, hk⟩ := List.mem_map.mp this
          exact ⟨k, q.2, by rw [← hq2, hk]⟩
        obtain ⟨h2, g2, d2, k2, os2⟩ := s₂
        repeat walk1
        have hk10 : ((k : Nat) : Int).fmod 10 = ((k % 10 : Nat) : Int) := by
          rw [Int.fmod_eq_emod_of_nonneg _ (by omega)]; omega
        rw [hk10]
        refine itemS (i := k % 10) (c := sgn (k % 10)) ?_ ?_ (by rw [sizeLine_eq]; simp)
        · have : k % 10 < 10 := Nat.mod_lt _ (by omega)
          unfold sgn
          rw [List.getD_eq_getElem?_getD]
          have e : ([97, 32, 34, 92, 40, 41, 44, 32, 34, 9] : List Nat)[k % 10]? = some (([97, 32, 34, 92, 40, 41, 44, 32, 34, 9] : List Nat)[k % 10]'(by simpa using this)) := List.getElem?_eq_getElem _
          rw [e]; rfl
        · intro t' k'
          exact ⟨⟨_, _, _, rfl, rfl⟩, _, _, rfl, fun _ _ e => e⟩
      · intro D2 h6 k6 zs n6 hP2 M6
        have hzs : Strs zs (ks.map fun k => [sgn (k % 10)]) := by
          obtain ⟨ts, e1, e2⟩ := hys
          rw [e1] at hP2
          exact paired_strs ts ks zs e2 hP2
        have hzl : zs.length ≤ 12 := by
          rw [hzs.len]; have := hys.len; simp at this ⊢; omega
        have hkl : ks.length ≤ 12 := by have := hzs.len; simp at this; omega
        repeat walk1
        have hfl := sgn_flat ks
        refine joinZ M6 .z hzs ?_ hfl ?_
        · rw [sizeLine_eq]
          have : ∀ (l : List Nat), ((l.map fun k => [sgn (k % 10)]).map List.length).sum = l.length := by
            intro l; induction l with
            | nil => rfl
            | cons a b ih => simp only [List.map_cons, List.sum_cons, ih]; simp; omega
          rw [this]; omega
        intro t7 k7
        repeat walk1
        rename Mm _ _ _ => M7
        clear M M' M2 M3 M4 M5 M6
        have q6 : (((ks.sum : Nat) : Int).fdiv 11).fmod 6 = ((ks.sum / 11 % 6 : Nat) : Int) := fdm ks.sum 11 6 (by omega) (by omega)
        obtain ⟨t2, hx2⟩ := pick6 (k := ks.sum / 11 % 6) (Nat.mod_lt _ (by omega))
        refine itemTz (k := ks.sum / 11 % 6) q6 M7 (by walk_at "at") hx2 (by simp) ?_
        repeat walk1
        rename Mm _ _ _ => M8
        clear M7
        have q7 : (((ks.sum : Nat) : Int).fdiv 66).fmod 3 = ((ks.sum / 66 % 3 : Nat) : Int) := fdm ks.sum 66 3 (by omega) (by omega)
        obtain ⟨t3, hx3⟩ := pick3 (k := ks.sum / 66 % 3) (Nat.mod_lt _ (by omega))
        refine itemTz (k := ks.sum / 66 % 3) q7 M8 (by walk_at "at") hx3 (by simp) ?_
        repeat walk1
        rename Mm _ _ _ => M9
        clear M8
        have q8 : (((ks.sum : Nat) : Int).fdiv 198).fmod 2 = ((ks.sum / 198 % 2 : Nat) : Int) := fdm ks.sum 198 2 (by omega) (by omega)
        obtain ⟨t4, ht4, hx4⟩ := pick2 (k := ks.sum / 198 % 2) (Nat.mod_lt _ (by omega))
        refine itemTz (k := ks.sum / 198 % 2) q8 M9 (by walk_at "at") hx4 (by simp) ?_
        repeat walk1
        rename Mm _ _ _ => M10
        clear M9
        have hw : ((ks.sum : Nat) : Int).fmod 11 + 3 = ((lwid ks : Nat) : Int) := by
          rw [Int.fmod_eq_emod_of_nonneg _ (by omega)]; unfold lwid; omega
        rw [hw] at M10
        subst hks
        refine ⟨_, _, _, _, _, _, _, _, _, rfl, ?_, ?_, M10.sub (.cons _ (.cons _ (.cons _ (.cons _ (.cons _ (.cons_cons _ (.cons _ (.refl _))))))))⟩
        · rcases ht4 with h | h <;> (rw [h]; refine Nat.ne_of_gt ?_; omega)
        · rcases ht4 with h | h <;> (rw [h]; refine Nat.lt_of_lt_of_le (Nat.lt_succ_self _) ?_; omega)
  · rintro s7 hup7 ⟨h7, k7, t0, t1, t2, t3, te, tkv, ttv, rfl, hte, htk, M7⟩
    clear M M'
    have hT : ltext (tkn xs) = 98 :: ([44, 32, 34, 99, 32, 100, 34] ++ (tkn xs).map fun k => sgn (k % 10)) := rfl
    rw [hT] at H M7
    clear hT
    generalize ([44, 32, 34, 99, 32, 100, 34] ++ (tkn xs).map fun k => sgn (k % 10)) = tx at H M7
    generalize hTT : 98 :: tx = T at H M7
    generalize lroom (tkn xs) = room at *
    generalize lwid (tkn xs) = width at *
    generalize lord (tkn xs) = order at *
    generalize lend (tkn xs) = en at *
    set_option tactic.hygienic false in (revert tx T room width order en; refine Mine.hold ?_; intros)
    let Pv2 : Shared → Heap → (Array GenState) → Nat → Value → Value → Tok → Tok → Tok → Prop := fun s' h8 g8 k8 rv mv t5 t6 t8 => Am3 (s' = ⟨h8, g8, d, k8, os⟩) (AllBare g8) (Mm h₀ h8 ((L, .ns lwns [some (.ref a), some tkv, some ttv, some (.str (S T) t0), some (.int (width : Nat) t1), some (.str (S order) t2), some (.int (room : Nat) t3), some (.str (S en) te), some rv, some mv, some (.str (S (jn en (rowsL T room width order))) t5), some (.str (S (rowsL T room width order).flatten) t6), some (.str (S (seenL (rowsL T room width order) en).1) t8), some (.bool (closedL (seenL (rowsL T room width order) en).2.1)), none]) :: (190, .any TabP) :: (197, .any TabP) :: led))
    let Iv2 : Shared → Prop := fun s' => Ex8 (Pv2 s')
    refine splitX 8 Iv2 ?_ ?_
    · dsimp only [List.drop, List.take]
      repeat walk1
      subst hTT
      have htl := H.tl
      have hol := H.ol
      have hrm := H.rm
      have hel := H.el
      refine rows_spec G M7 ((R1 _).le (by decide)) (by decide) (by simp at htl; omega) H.ta (by omega) ?_
      intro r1 h8 k8 rvs n8 M8 hrv
      clear M7
      repeat walk1
      rename Mm _ _ _ => M9
      clear M8
      have M10 := M9.rot (cs := [_, _]) [_, _]
      dsimp only [List.cons_append, List.nil_append] at M10
      clear M9
      refine make_sp G M10 ((R1 _).le (by decide)) (by simp) ?_
      intro m dm ln x dx h11 k11 kk11 t11 t12 M11
      clear M10
      repeat walk1
      rename Mm _ _ _ => M12
      clear M11
      refine ascii_spec G B M12 ((R1 _).le (by decide)) hb (by omega) (by omega) H.oa (by simp at htl ⊢; omega) H.h ?_
      intro h13 g13 k13 us lus j13 n13 t13 X M13 hlus hus hb13
      clear M12
      repeat walk1
      have M14 := Mm.rot (cs := mkl m dm ln x _ _ _ _ lus j13 (acl x dx us n13 _ t13 X)) [_, _] M13
      dsimp only [List.cons_append, List.nil_append] at M14
      clear M13
      repeat walk1
      have M15 := M14.rot (cs := [_, _]) [_, _, _, _, _, _, _]
      dsimp only [List.cons_append, List.nil_append] at M15
      clear M14
      obtain ⟨z1, z2, z3, z4, z5⟩ := st_ok (width := width) (order := order) (room := room) htl
      have hfm : newlF ((spl (98 :: tx)).foldl (chunkF width order) ([], [], room)).1 ((spl (98 :: tx)).foldl (chunkF width order) ([], [], room)).2.2 ((spl (98 :: tx)).foldl (chunkF width order) ([], [], room)).2.1 = rowsL (98 :: tx) room width order := H.f
      have hrf := H.rf
      have hrl := H.rl
      refine str_sp (lines := ((spl (98 :: tx)).foldl (chunkF width order) ([], [], room)).1) (ps := ((spl (98 :: tx)).foldl (chunkF width order) ([], [], room)).2.1) G B M15 ((R1 _).le (by decide)) (hus.mono ?_) z1 z2 hlus z3 z4 hb13 (by omega) (by omega) (by rw [hfm, ← List.length_flatten]; omega) (by rw [hfm]; omega) ?_
      · intro p hp
        rcases List.mem_append.mp hp with q | q
        · exact List.mem_cons_of_mem _ (List.mem_cons_of_mem _ (List.mem_append_left _ q))
        · rcases List.mem_cons.mp q with q | q
          · exact List.mem_cons.mpr (.inl q)
          · rcases List.mem_cons.mp q with q | q
            · exact List.mem_cons_of_mem _ (List.mem_cons.mpr (.inl q))
            · exact List.mem_cons_of_mem _ (List.mem_cons_of_mem _ (List.mem_append_right _ q))
      intro h14 g14 k14 t14 M16 hb14
      rw [hfm]
      have M17 := M16.rot (cs := [_, _]) [_, _]
      dsimp only [List.cons_append, List.nil_append] at M17
      clear M15 M16 hus hlus
      repeat walk1
      rename Mm _ _ _ => M18
      clear M17
      refine joinM M18 (by walk_at "at") hrv (by rw [sizeLine_eq]; have := jn_le hrf hrl hel; omega) ?_
      intro t15 k15
      repeat walk1
      rotate_left
      · rename_i hne; exact absurd rfl hne
      refine joinM0 M18 (by walk_at "at") hrv (by rw [sizeLine_eq, ← List.length_flatten]; exact Nat.le_trans hrf (by omega)) ?_
      intro t16 k16
      repeat walk1
      rename Mm _ _ _ => M19
      clear M18
      refine seen_spec G M19 ((R1 _).le (by decide)) (by walk_at "at") hrv (by omega) (by omega) H.ra hel ?_
      intro T1 h17 k17 t17 M20
      clear M19
      repeat walk1
      refine unpM M20 (by walk_at "at") hh ?_
      intro h18 M21
      clear M20
      repeat walk1
      rename Mm _ _ _ => M22
      clear M21
      have hl1 := jn_len hrf hrl hel
      refine strip_spec G M22 ((R1 _).le (by decide)) (by omega) (jn_asc H.ea H.ra) hb14 ?_
      intro h19 g19 k19 t19 M23 hb19
      rw [H.u1]
      repeat walk1
      rotate_left
      · rename_i hne; exact absurd rfl hne
      exact ⟨_, _, _, _, _, _, _, _, rfl, hb19, M23.sub (.cons _ (.cons _ (.cons_cons _ (.cons_cons _ (.cons_cons _ (List.sublist_append_right _ _))))))⟩
    · rintro s8 hup8 ⟨h8, g8, k8, rv, mv, t5, t6, t8, rfl, hb8, M8⟩
      clear M7
      dsimp only [List.drop]
      have hrf := H.rf
      have hrl := H.rl
      have hel := H.el
      repeat walk1
      have hww : (rowsL T room width order).flatten.length ≤ 1000 := by omega
      have hwa : Asc (rowsL T room width order).flatten := fun c hc => by
        obtain ⟨r, hr, hcr⟩ := List.mem_flatten.mp hc
        exact H.ra r hr c hcr
      have hsl : (seenL (rowsL T room width order) en).1.length ≤ 1000 := by
        rw [← H.u1]
        have := (unq_ok (jn en (rowsL T room width order))).1
        have := jn_len hrf hrl hel
        omega
      refine wpAny_up ?_
      refine strip_spec G M8 ((R1 _).le (by decide)) hww hwa hb8 ?_
      intro h9 g9 k9 t9 M9 hb9 hup9
      clear M8
      rw [H.u2]
      dsimp only at hup8 hup9
      iterate 7 walk1
      refine cst1 lit_nil ?_
      repeat walk1
      have hlt9 : te < k9 := Nat.lt_of_lt_of_le htk (Nat.le_trans hup8 hup9)
      refine repS H.en0 hte (Nat.ne_of_gt (Nat.lt_of_le_of_lt (Nat.zero_le te) hlt9)) (Nat.ne_of_lt hlt9) (by omega) ?_
      intro t10 k10
      have hxs : ∀ x ∈ [jn en (rowsL T room width order), (rowsL T room width order).flatten], x.length ≤ 1000 ∧ Asc x := by
        intro x hx
        have := jn_len hrf hrl hel
        rcases List.mem_cons.mp hx with rfl | hx
        · exact ⟨by omega, jn_asc H.ea H.ra⟩
        · rw [List.mem_singleton.mp hx]; exact ⟨hww, hwa⟩
      repeat walk1
      rotate_left
      rotate_left
      · rename_i hne; exact absurd rfl hne
      · have hc : closedL (seenL (rowsL T room width order) en).2.1 = true := by assumption
        have hk1 := H.k1.trans hc
        have hk2 := H.k2.trans hc
        have hs : ∀ t t', Strs [.str (S (jn en (rowsL T room width order))) t, .str (S (rowsL T room width order).flatten) t'] [jn en (rowsL T room width order), (rowsL T room width order).flatten] := fun t t' => ⟨[(_, t), (_, t')], rfl, rfl⟩
        rename Mm _ _ _ => M12
        refine pre_spec G M12 .n1 (hs _ _) ((R1 _).le (by decide)) hxs (by simp) (by assumption) ?_
        intro r13 h13 g13 k13 us13 n13 M13 hus13 hb13
        have ea : [jn en (rowsL T room width order), (rowsL T room width order).flatten].map acc1 = [jn en (rowsL T room width order), (rowsL T room width order).flatten] := by
          simp only [List.map_cons, List.map_nil, acc1, hk1, hk2, if_true]
        rw [ea] at hus13
        repeat walk1
        refine eqLS M13 .z (by walk_at "at") hus13 (hs _ _) ((R1 _).le (by decide)) ?_
        exact hq _ _ _ (M13.sub (.cons _ (.cons _ (.cons _ (.cons _ (.refl _)))))) hb13
      · have hc : closedL (seenL (rowsL T room width order) en).2.1 = false := by assumption
        have hk1 := H.k1.trans hc
        have hk2 := H.k2.trans hc
        have hs : ∀ t t', Strs [.str (S (jn en (rowsL T room width order))) t, .str (S (rowsL T room width order).flatten) t'] [jn en (rowsL T room width order), (rowsL T room width order).flatten] := fun t t' => ⟨[(_, t), (_, t')], rfl, rfl⟩
        repeat walk1
        have hs2 : ∀ t t', Strs [.str (S bad) t, .str (S bad) t'] [bad, bad] := fun t t' => ⟨[(_, t), (_, t')], rfl, rfl⟩
        rename Mm _ _ _ => M12
        refine pre_spec G M12 .n1 (hs _ _) ((R1 _).le (by decide)) hxs (by simp) (by assumption) ?_
        intro r13 h13 g13 k13 us13 n13 M13 hus13 hb13
        have ea : [jn en (rowsL T room width order), (rowsL T room width order).flatten].map acc1 = [bad, bad] := by
          simp only [List.map_cons, List.map_nil, acc1, hk1, hk2, Bool.false_eq_true, if_false]
        rw [ea] at hus13
        repeat walk1
        refine eqLS M13 .z (by walk_at "at") hus13 (hs2 _ _) ((R1 _).le (by decide)) ?_
        exact hq _ _ _ (M13.sub (.cons _ (.cons _ (.cons _ (.cons _ (.refl _)))))) hb13
end
end
section
/-! the join: the two code tables set apart -/
set_option maxRecDepth 100000
theorem hid_get {h : Heap} {ts : List Addr} {b : Addr} {o : Obj} (hT : ∀ P ∈ ts, h.get? P = some tb0) (e : h.get? b = some o) (hn : o ≠ tb0) : (hideAll h ts).get? b = some o :=
  hideAll_get _ e fun q => hn (Option.some.inj (e.symm.trans (hT b q)))
theorem hid_ns {h : Heap} {ts : List Addr} {a : Addr} {m : Str → Option Value} (hT : ∀ P ∈ ts, h.get? P = some tb0) (x : h.Ns a m) : (hideAll h ts).Ns a m :=
  let ⟨o, es, ep, e, hd, r⟩ := x; ⟨o, es, ep, hid_get hT e (fun q => by rw [q] at hd; cases hd), hd, r⟩
theorem hid_list {h : Heap} {ts : List Addr} {a : Addr} {its : Array Value} (hT : ∀ P ∈ ts, h.get? P = some tb0) (x : h.IsList a its) : (hideAll h ts).IsList a its := by
  obtain ⟨o, e, hc, r⟩ := x
  exact ⟨o, hid_get hT e (fun q => by rw [q] at hc; cases hc), hc, r⟩
noncomputable def noTb (K : Frag) (ts : List Addr) : Bool := K.all fun p => !ts.contains p.1
theorem frag_mem : ∀ {K : Frag} {a : Addr} {o : Obj}, K.lookup a = some o → (a, o) ∈ K
  | [], _, _, e => by cases e
  | p :: r, a, o, e => by
    obtain ⟨b, x⟩ := p
    rw [List.lookup_cons] at e
    cases hb : a == b with
    | true => rw [hb] at e; cases e; rw [eq_of_beq hb]; exact List.mem_cons_self
    | false => rw [hb] at e; exact List.mem_cons_of_mem _ (frag_mem e)
theorem hid_K {h : Heap} {ts : List Addr} {K : Frag} (hT : ∀ P ∈ ts, h.get? P = some tb0) (X : K.In h) (hK : noTb K ts = true) : K.In (hideAll h ts) := fun a o e => by
  refine hideAll_get _ (X a o e) fun q => ?_
  have h2 := List.all_eq_true.mp hK (a, o) (frag_mem e)
  simp only [Bool.not_eq_true', List.contains_eq_mem, decide_eq_false_iff_not] at h2
  exact h2 q
theorem ints_of : ∀ {vs : List Value} {ns : List Int}, IntsAre vs ns → Ints vs ns
  | _, _, .nil => ⟨[], rfl, rfl⟩
  | _, _, .cons n t h => by
    obtain ⟨ts, rfl, rfl⟩ := ints_of h
    exact ⟨(n, t) :: ts, rfl, rfl⟩
theorem bm_hid {p : Program} {loose : List Str} {mean : ExcName → Option Value} {mg mb : Str → Option Value} {h : Heap} {ts : List Addr} (hT : ∀ P ∈ ts, h.get? P = some tb0) (T : Top p loose mean mg mb h) : BM (hideAll h ts) mg := by
  obtain ⟨bm, ob, a1, a2, a3, a4, a5, a6⟩ := T.bmain
  exact ⟨bm, ob, a1, a2, hid_get hT a3 (fun q => by rw [q] at a4; cases a4), a4, a5, a6⟩
theorem gd_hid {p : Program} {loose : List Str} {mean : ExcName → Option Value} {mg mb : Str → Option Value} {w : World} {h : Heap} (hT : ∀ P ∈ [190, 197], h.get? P = some tb0) (T : Top p loose mean mg mb h) (X : (Mine.hd.heap_1 w.params).In h) : Gd w (hideAll h [190, 197]) mg mb where
  K := hid_K hT X (by kernel_rfl)
  g := hid_ns hT T.g
  b := hid_ns hT T.b
  bn := T.builtins
  lim := let ⟨mc, a, r⟩ := T.nolimit; ⟨mc, hid_ns hT a, r⟩
theorem mm_hid {h : Heap} (hT : ∀ P ∈ [190, 197], h.get? P = some tb0) : Mm (hideAll h [190, 197]) h [(190, .any TabP), (197, .any TabP)] where
  old := fun b o e => of_hideAll _ e
  cells := fun p hp => by
    have : p = (190, Cell.any TabP) ∨ p = (197, Cell.any TabP) := by simpa using hp
    rcases this with rfl | rfl
    · exact ⟨tb0, hT 190 (by simp), #[], rfl, trivial⟩
    · exact ⟨tb0, hT 197 (by simp), #[], rfl, trivial⟩
  new := fun p hp => by
    have : p = (190, Cell.any TabP) ∨ p = (197, Cell.any TabP) := by simpa using hp
    rcases this with rfl | rfl
    · exact hideAll_none _ (by simp)
    · exact hideAll_none _ (by simp)
  nd := by simp
theorem oldK_hid {h h' : Heap} (hT : ∀ P ∈ [190, 197], h.get? P = some tb0) (c1 : isCodeTable h 190) (c2 : isCodeTable h 197) (M : Mm (hideAll h [190, 197]) h' [(190, .any TabP), (197, .any TabP)]) : OldK h h' := by
  have key : ∀ b, b ∈ [190, 197] → ∃ ps, h'.get? b = some { cls := .none, data := .fields ps } := by
    intro b hb
    have : b = 190 ∨ b = 197 := by simpa using hb
    rcases this with rfl | rfl
    · obtain ⟨o, e, ps, rfl, _⟩ := M.at 0 .z; exact ⟨ps, e⟩
    · obtain ⟨o, e, ps, rfl, _⟩ := M.at 1 .n1; exact ⟨ps, e⟩
  refine ⟨fun b o e => ?_, fun b o e => ?_⟩
  · by_cases hb : b ∈ [190, 197]
    · have h1 : o = tb0 := Option.some.inj (e.symm.trans (hT b hb))
      subst h1
      obtain ⟨ps, e2⟩ := key b hb
      refine .inr (.inl ⟨?_, rfl, #[], ps, rfl, by rw [Array.empty_append]; exact e2⟩)
      have : b = 190 ∨ b = 197 := by simpa using hb
      rcases this with rfl | rfl
      · exact c1
      · exact c2
    · exact .inl (M.old b o (hideAll_get _ e hb))
  · by_cases hb : b ∈ [190, 197]
    · obtain ⟨ps, e2⟩ := key b hb
      exact ⟨_, e2⟩
    · exact ⟨o, M.old b o (hideAll_get _ e hb)⟩
theorem rm_caller : Rm callerA 17 := ⟨rfl, by decide, by decide, ⟨[], rfl⟩⟩
end
end Mine
set_option maxRecDepth 100000 in
set_option maxHeartbeats 8000000 in
theorem PySem.Challenge.cw_pe0225_01_holds : PySem.Challenge.rw_pe0225_01.Holds := by
  refine Mine.hd (by
    w_strict (
      k_fill
      intro w s0 s1 mg mb G Y fa o pm cd doc dV kV ho hd hcd hD hmg hg args vals as hpre hlay hrd hwl hlo
      have KX := kIn_of Y.1
      have YT := Y.2
      have X := (Ground.X G).1
      have V := (Ground.X G).2
      refine Ground.open G ?_
      intro T B D TE TW
      clear D
      wrow_args hpre hlay hrd hwl hlo
      rename_i xs hs hlay0 hL1 hr1 hl2 w4 w3 wa vs wl hL ra wel r0 hI hr hc1 hc2
      have e258 : mg (PySem.Str.ofString "law") = some (.ref 258) := mg_of KX T.g (by k_is)
      have hfa : fa = 258 := by
        have h9 := hmg.symm.trans e258
        injection h9 with h9
        injection h9
      subst hfa
      have t1 : isCodeTable s1.heap 190 := ⟨194, _, _, KX _ _ (by k_is), rfl, rfl, rfl⟩
      have t2 : isCodeTable s1.heap 197 := ⟨201, _, _, KX _ _ (by k_is), rfl, rfl, rfl⟩
      have hlen : vs.length ≤ 1000 := by
        have h9 := (Mine.ints_of hI).len
        omega
      have hbare : AllBare s1.gens := by rw [hg]; intro x hx; simp at hx
      show wpAny _ _ (call (.ref 258) [.ref wa]) _ _ ⟨s1.heap, s1.gens, s1.drawn, s1.toks, s1.os⟩
      refine Mine.law_spec (Mine.gd_hid YT T KX) (Mine.bm_hid YT T) (Mine.mm_hid YT) Mine.rm_caller (Mine.hid_list YT hL) (Mine.ints_of hI) hlen hbare (Mine.lo_all xs) ?_
      intro h' g' tk' M' hb'
      exact ⟨.inl ⟨.bool true, .bool true, [], rfl, fun _ => rfl, ReadsW.bool true, by wrow_post, fun _ => ⟨List.nodup_nil, fun _ h9 => nomatch h9⟩⟩, Mine.oldK_hid YT t1 t2 M', rfl, hb'⟩))
