import JvmDerived
import JvmDerived.Pilot.@@N@@Statement
import JvmDerived.Pilot.@@N@@Code
set_option linter.unusedVariables false
set_option linter.unusedSimpArgs false
namespace Jvm.RoadKit
open Sem ClassFile Op Lib Jvm.Stand Jvm.Free Jvm.LawKit
section New
variable {p : Program} {l : Launch} {e : Env} {R : Room} {s : State} {m : MethodId} {args : Array Value} {below : List Frame} {meth : Method} {c : Code} {T : State} {locs : List Loc} {cells slots : Nat}
theorem retI (X : Stand p l e R s m args below meth c T locs cells slots) (hx : p.tables.exec = Jvm.exec) {pc : Nat} {Ls : Array Slot} {z : Int32} {rest : List Value} (hret : meth.sig.returnType = some .int) (hd : decode c.code pc = .ok (.ireturn, 1)) {fs : List Frame}
    (hl : ∀ (f : JFrame) (acts : List Action), f.method = m → f.locked = none → f.entered = [] → (doReturn e (T.setTop f) acts (some (.int z))).1 = T.setFrames fs) : Steps p.tables e below (T.setTop (mkF m pc Ls (.int z :: rest))) (T.setFrames fs) := by
  have hm' : T.vm.method? m = some meth := X.method'
  have hn : narrow .int (.int z) = .int z := rfl
  show Steps p.tables e below (T.setTop { method := m, pc := pc, locals := Ls, stack := _ :: rest, locked := none }) _
  jvm_step X.here [X.here.top, hx, hd, hm', hret, hn]
  first | (intro acts; rw [hl _ acts rfl rfl rfl]) | rw [hl _ _ rfl rfl rfl]
  exact Steps.refl _
theorem retJ (X : Stand p l e R s m args below meth c T locs cells slots) (hx : p.tables.exec = Jvm.exec) {pc : Nat} {Ls : Array Slot} {z : Int64} {rest : List Value} (hret : meth.sig.returnType = some .long) (hd : decode c.code pc = .ok (.lreturn, 1)) {fs : List Frame}
    (hl : ∀ (f : JFrame) (acts : List Action), f.method = m → f.locked = none → f.entered = [] → (doReturn e (T.setTop f) acts (some (.long z))).1 = T.setFrames fs) : Steps p.tables e below (T.setTop (mkF m pc Ls (.long z :: rest))) (T.setFrames fs) := by
  have hm' : T.vm.method? m = some meth := X.method'
  show Steps p.tables e below (T.setTop { method := m, pc := pc, locals := Ls, stack := _ :: rest, locked := none }) _
  jvm_step X.here [X.here.top, hx, hd, hm', hret, narrow]
  first | (intro acts; rw [hl _ acts rfl rfl rfl]) | rw [hl _ _ rfl rfl rfl]
  exact Steps.refl _
theorem retA (X : Stand p l e R s m args below meth c T locs cells slots) (hx : p.tables.exec = Jvm.exec) {pc : Nat} {Ls : Array Slot} {z : Value} {t : FieldType} {rest : List Value} (hret : meth.sig.returnType = some t) (ht : t.isReference = true) (hz : z.isRef = true) (hd : decode c.code pc = .ok (.areturn, 1)) {fs : List Frame}
    (hl : ∀ (f : JFrame) (acts : List Action), f.method = m → f.locked = none → f.entered = [] → (doReturn e (T.setTop f) acts (some z)).1 = T.setFrames fs) : Steps p.tables e below (T.setTop (mkF m pc Ls (z :: rest))) (T.setFrames fs) := by
  have hm' : T.vm.method? m = some meth := X.method'
  show Steps p.tables e below (T.setTop { method := m, pc := pc, locals := Ls, stack := _ :: rest, locked := none }) _
  jvm_step X.here [X.here.top, hx, hd, hm', hret, hz, ht]
  first | (intro acts; rw [hl _ acts rfl rfl rfl]) | rw [hl _ _ rfl rfl rfl]
  exact Steps.refl _
/-- what a body's contract owes from a state on -/
def Owe (p : Program) (e : Env) (below : List Frame) (first : State) (ck sk : Nat) (Q : Option Value → Heap → List Loc → Prop) (T : State) (g : JFrame) : Prop :=
  ∃ s₂ o, Steps p.tables e below (T.setTop g) s₂ ∧ s₂.status = .running ∧ Ended s₂ below o ∧ ∃ v L, o = .returned v ∧ Q v s₂.heap L ∧ FrameEnd first o s₂ L ck sk
theorem Owe.step {first : State} {ck sk : Nat} {Q : Option Value → Heap → List Loc → Prop} {T T' : State} {g g' : JFrame} (h : ∀ t, Steps p.tables e below (T'.setTop g') t → Steps p.tables e below (T.setTop g) t)
    (k : Owe p e below first ck sk Q T' g') : Owe p e below first ck sk Q T g := by
  obtain ⟨s₂, o, h1, h2⟩ := k
  exact ⟨s₂, o, h _ h1, h2⟩
theorem Owe.ret {ck sk : Nat} {Q : Option Value → Heap → List Loc → Prop} {g : JFrame} (X : Stand p l e R s m args below meth c T locs cells slots) (hlk : meth.locks = false) {v : Option Value} (hv : meth.sig.returnType = none → v = none)
    (hst : ∀ fs, (∀ (f : JFrame) (acts : List Action), f.method = m → f.locked = none → f.entered = [] → (doReturn e (T.setTop f) acts v).1 = T.setFrames fs) → Steps p.tables e below (T.setTop g) (T.setFrames fs))
    (hQ : Q v T.heap locs) (hc : cells ≤ ck) (hs : slots ≤ sk) : Owe p e below s ck sk Q T g := by
  obtain ⟨fs, hr, hrun, hended, hW, hsame⟩ := X.leave (v := v) hv hlk
  exact ⟨_, _, hst fs hr, hrun, hended, _, _, rfl, hQ, ⟨_, rfl⟩, hW, hsame.mono hc hs⟩
/-- a body that writes nothing and makes nothing: it returns w -/
def QP (w : Value) (h0 : Heap) (n0 : Nat) (v : Option Value) (h : Heap) (L : List Loc) : Prop := v = some w ∧ Fr n0 L ∧ h = h0
/-- .. and returns nothing -/
def QN (h0 : Heap) (n0 : Nat) (v : Option Value) (h : Heap) (L : List Loc) : Prop := v = none ∧ Fr n0 L ∧ h = h0
/-- the law itself -/
def QL (w : Value) (n0 : Nat) (v : Option Value) (h : Heap) (L : List Loc) : Prop := v = some w ∧ Fr n0 L
theorem Owe.cast {first : State} {ck sk n0 : Nat} {w w' : Int32} {g : JFrame} (q : w' = w) (k : Owe p e below first ck sk (QL (.int w') n0) T g) : Owe p e below first ck sk (QL (.int w) n0) T g := q ▸ k
end New
end Jvm.RoadKit
namespace Jvm.RoadKit
open Sem ClassFile Op Lib Jvm.Stand Jvm.Free Jvm.LawKit
section Arrays
variable {p : Program} {l : Launch} {e : Env} {R : Room} {s : State} {m : MethodId} {args : Array Value} {below : List Frame} {meth : Method} {c : Code} {T : State} {locs : List Loc} {cells slots : Nat}
variable {Z : State} {h h' : Heap} {a b : Addr} {ty : FieldType} {n sl : Nat} {f : Nat → Value} {v : Value} {ws : List Addr}
/-- an array of n places; place j holds f j -/
def AV (Z : State) (h : Heap) (a : Addr) (ty : FieldType) (n : Nat) (f : Nat → Value) : Prop := ∃ c : Cell, Arr Z h a c ty ∧ c.slots.size = n ∧ ∀ j, j < n → c.slots[j]? = some (f j)
abbrev AI (Z : State) (h : Heap) (a : Addr) (ty : FieldType) (n : Nat) (f : Nat → Int32) : Prop := AV Z h a ty n (fun k => .int (f k))
abbrev AJ (Z : State) (h : Heap) (a : Addr) (n : Nat) (f : Nat → Int64) : Prop := AV Z h a .long n (fun k => .long (f k))
def own_upd {α : Type} (f : Nat → α) (j : Nat) (x : α) : Nat → α := fun k => if k = j then x else f k
theorem own_upd_same {α : Type} (f : Nat → α) (j : Nat) (x : α) : own_upd f j x j = x := if_pos rfl
theorem own_upd_other {α : Type} (f : Nat → α) (j k : Nat) (x : α) (q : k ≠ j) : own_upd f j x k = f k := if_neg q
theorem AV.lt (F : AV Z h a ty n f) : a < h.size := by obtain ⟨c, A, -⟩ := F; exact A.lt
theorem AV.ext (F : AV Z h a ty n f) (E : Ext h h') : AV Z h' a ty n f := by obtain ⟨c, A, r⟩ := F; exact ⟨c, A.ext E, r⟩
theorem AV.other (F : AV Z h b ty n f) (W : Wr h h' a sl v) (q : b ≠ a) : AV Z h' b ty n f := by obtain ⟨c, A, r⟩ := F; exact ⟨c, A.other W q, r⟩
theorem AV.keep (F : AV Z h a ty n f) (K : Keep h h' ws) (q : a ∉ ws) : AV Z h' a ty n f := by obtain ⟨c, A, r⟩ := F; exact ⟨c, ⟨K.2.1 a c A.1 q, A.2⟩, r⟩
theorem AV.congr {f' : Nat → Value} (F : AV Z h a ty n f) (q : ∀ k, k < n → f k = f' k) : AV Z h a ty n f' := by obtain ⟨c, A, S, H⟩ := F; exact ⟨c, A, S, fun k hk => by rw [← q k hk]; exact H k hk⟩
theorem AV.new {k : ClassId} {z : Int32} (A : Arr Z h a (newA k ty z) ty) (e : z.toNatClampNeg = n) : AV Z h a ty n (fun _ => defaultValue ty) := by
  subst e
  exact ⟨_, A, sz_new _ _ _, fun j hj => by simp [newA, hj]⟩
theorem AV.set {j : Nat} (F : AV Z h a ty n f) (W : Wr h h' a j v) : AV Z h' a ty n (own_upd f j v) := by
  obtain ⟨c, A, S, H⟩ := F
  refine ⟨_, A.same W, by rw [sz_set]; exact S, fun k hk => ?_⟩
  by_cases u : k = j
  · subst u; simp [Cell.setSlot, S, hk, own_upd]
  · have := H k hk
    simp only [Cell.setSlot, own_upd, if_neg u] at this ⊢
    rw [Array.getElem?_setIfInBounds_ne (fun q => u q.symm)]; exact this
theorem AI.set {j : Nat} {g : Nat → Int32} {x : Int32} (F : AI Z h a ty n g) (W : Wr h h' a j (.int x)) : AI Z h' a ty n (own_upd g j x) := (AV.set F W).congr fun k _ => by unfold own_upd; split <;> rfl
theorem AJ.set {j : Nat} {g : Nat → Int64} {x : Int64} (F : AJ Z h a n g) (W : Wr h h' a j (.long x)) : AJ Z h' a n (own_upd g j x) := (AV.set F W).congr fun k _ => by unfold own_upd; split <;> rfl
theorem in_of {c : Cell} {j : Int32} (S : c.slots.size = n) (j0 : ¬ j < 0) (jn : j.toNatClampNeg < n) : ¬ (j < 0 ∨ c.slots.size ≤ j.toNatClampNeg) := by rw [S]; exact fun q => q.elim j0 fun y => absurd jn (Nat.not_lt.mpr y)
theorem ldAI (X : Stand p l e R s m args below meth c T locs cells slots) (hx : p.tables.exec = Jvm.exec) (hZ : Z.Warmed39 s.vm) (eT : T.heap = h) (F : AV Z h a .int n f) {j : Int32} (j0 : ¬ j < 0) (jn : j.toNatClampNeg < n) {g : JFrame} (hg : g.method = m) {rest : List Value} (hs : g.stack = .int j :: .ref a :: rest) (hd : decode c.code g.pc = .ok (.iaload, 1)) (target : State)
    (hr : Steps p.tables e below (T.setTop { g with pc := g.pc + 1, stack := f j.toNatClampNeg :: rest }) target) : Steps p.tables e below (T.setTop g) target := by
  obtain ⟨cl, A, S, H⟩ := F
  exact X.iaload hx (by rw [eT]; exact A.1) (State.isArrayOf_alike hZ.alike A.2.1) A.2.2 (in_of S j0 jn) (H _ jn) hg hs hd target hr
theorem ldAB (X : Stand p l e R s m args below meth c T locs cells slots) (hx : p.tables.exec = Jvm.exec) (hZ : Z.Warmed39 s.vm) (eT : T.heap = h) (F : AV Z h a .byte n f) {j : Int32} (j0 : ¬ j < 0) (jn : j.toNatClampNeg < n) {g : JFrame} (hg : g.method = m) {rest : List Value} (hs : g.stack = .int j :: .ref a :: rest) (hd : decode c.code g.pc = .ok (.baload, 1)) (target : State)
    (hr : Steps p.tables e below (T.setTop { g with pc := g.pc + 1, stack := f j.toNatClampNeg :: rest }) target) : Steps p.tables e below (T.setTop g) target := by
  obtain ⟨cl, A, S, H⟩ := F
  exact X.baloadBytes hx (by rw [eT]; exact A.1) (State.isArrayOf_alike hZ.alike A.2.1) A.2.2 (in_of S j0 jn) (H _ jn) hg hs hd target hr
theorem ldAJ (X : Stand p l e R s m args below meth c T locs cells slots) (hx : p.tables.exec = Jvm.exec) (hZ : Z.Warmed39 s.vm) (eT : T.heap = h) (F : AV Z h a .long n f) {j : Int32} (j0 : ¬ j < 0) (jn : j.toNatClampNeg < n) {g : JFrame} (hg : g.method = m) {rest : List Value} (hs : g.stack = .int j :: .ref a :: rest) (hd : decode c.code g.pc = .ok (.laload, 1)) (target : State)
    (hr : Steps p.tables e below (T.setTop { g with pc := g.pc + 1, stack := f j.toNatClampNeg :: rest }) target) : Steps p.tables e below (T.setTop g) target := by
  obtain ⟨cl, A, S, H⟩ := F
  exact X.laload hx (by rw [eT]; exact A.1) (State.isArrayOf_alike hZ.alike A.2.1) A.2.2 (in_of S j0 jn) (H _ jn) hg hs hd target hr
theorem stAI (X : Stand p l e R s m args below meth c T locs cells slots) (hx : p.tables.exec = Jvm.exec) (hZ : Z.Warmed39 s.vm) (eT : T.heap = h) {f : Nat → Int32} (F : AI Z h a .int n f) {j x : Int32} (j0 : ¬ j < 0) (jn : j.toNatClampNeg < n) {g : JFrame} (hg : g.method = m) {rest : List Value} (hs : g.stack = .int x :: .int j :: .ref a :: rest) (hd : decode c.code g.pc = .ok (.iastore, 1)) :
    ∃ T' h', Stand p l e R s m args below meth c T' (locs ++ [⟨a, j.toNatClampNeg⟩]) cells slots ∧ T'.heap = h' ∧ Wr h h' a j.toNatClampNeg (.int x) ∧ AI Z h' a .int n (own_upd f j.toNatClampNeg x) ∧ ∀ target, Steps p.tables e below (T'.setTop { g with pc := g.pc + 1, stack := rest }) target → Steps p.tables e below (T.setTop g) target := by
  obtain ⟨cl, A, S, H⟩ := id F
  obtain ⟨T', h', X', e', W, st⟩ := stI X hx hZ eT A (in_of S j0 jn) hg hs hd
  exact ⟨T', h', X', e', W, AI.set F W, st⟩
theorem stAB (X : Stand p l e R s m args below meth c T locs cells slots) (hx : p.tables.exec = Jvm.exec) (hZ : Z.Warmed39 s.vm) (eT : T.heap = h) {f : Nat → Int32} (F : AI Z h a .byte n f) {j x : Int32} (j0 : ¬ j < 0) (jn : j.toNatClampNeg < n) {g : JFrame} (hg : g.method = m) {rest : List Value} (hs : g.stack = .int x :: .int j :: .ref a :: rest) (hd : decode c.code g.pc = .ok (.bastore, 1)) :
    ∃ T' h', Stand p l e R s m args below meth c T' (locs ++ [⟨a, j.toNatClampNeg⟩]) cells slots ∧ T'.heap = h' ∧ Wr h h' a j.toNatClampNeg (.int (nar .byte x)) ∧ AI Z h' a .byte n (own_upd f j.toNatClampNeg (nar .byte x)) ∧ ∀ target, Steps p.tables e below (T'.setTop { g with pc := g.pc + 1, stack := rest }) target → Steps p.tables e below (T.setTop g) target := by
  obtain ⟨cl, A, S, H⟩ := id F
  obtain ⟨T', h', X', e', W, st⟩ := stB X hx hZ eT A (in_of S j0 jn) hg hs hd
  exact ⟨T', h', X', e', W, AI.set F W, st⟩
theorem stAC (X : Stand p l e R s m args below meth c T locs cells slots) (hx : p.tables.exec = Jvm.exec) (hZ : Z.Warmed39 s.vm) (eT : T.heap = h) {f : Nat → Int32} (F : AI Z h a .char n f) {j x : Int32} (j0 : ¬ j < 0) (jn : j.toNatClampNeg < n) {g : JFrame} (hg : g.method = m) {rest : List Value} (hs : g.stack = .int x :: .int j :: .ref a :: rest) (hd : decode c.code g.pc = .ok (.castore, 1)) :
    ∃ T' h', Stand p l e R s m args below meth c T' (locs ++ [⟨a, j.toNatClampNeg⟩]) cells slots ∧ T'.heap = h' ∧ Wr h h' a j.toNatClampNeg (.int (nar .char x)) ∧ AI Z h' a .char n (own_upd f j.toNatClampNeg (nar .char x)) ∧ ∀ target, Steps p.tables e below (T'.setTop { g with pc := g.pc + 1, stack := rest }) target → Steps p.tables e below (T.setTop g) target := by
  obtain ⟨cl, A, S, H⟩ := id F
  obtain ⟨T', h', X', e', W, st⟩ := stC X hx hZ eT A (in_of S j0 jn) hg hs hd
  exact ⟨T', h', X', e', W, AI.set F W, st⟩
theorem stAJ (X : Stand p l e R s m args below meth c T locs cells slots) (hx : p.tables.exec = Jvm.exec) (hZ : Z.Warmed39 s.vm) (eT : T.heap = h) {f : Nat → Int64} (F : AJ Z h a n f) {j : Int32} {x : Int64} (j0 : ¬ j < 0) (jn : j.toNatClampNeg < n) {g : JFrame} (hg : g.method = m) {rest : List Value} (hs : g.stack = .long x :: .int j :: .ref a :: rest) (hd : decode c.code g.pc = .ok (.lastore, 1)) :
    ∃ T' h', Stand p l e R s m args below meth c T' (locs ++ [⟨a, j.toNatClampNeg⟩]) cells slots ∧ T'.heap = h' ∧ Wr h h' a j.toNatClampNeg (.long x) ∧ AJ Z h' a n (own_upd f j.toNatClampNeg x) ∧ ∀ target, Steps p.tables e below (T'.setTop { g with pc := g.pc + 1, stack := rest }) target → Steps p.tables e below (T.setTop g) target := by
  obtain ⟨cl, A, S, H⟩ := id F
  obtain ⟨T', h', X', e', W, st⟩ := stJ X hx hZ eT A (in_of S j0 jn) hg hs hd
  exact ⟨T', h', X', e', W, AJ.set F W, st⟩
theorem lenA (X : Stand p l e R s m args below meth c T locs cells slots) (hx : p.tables.exec = Jvm.exec) (hZ : Z.Warmed39 s.vm) (eT : T.heap = h) (F : AV Z h a ty n f) {z : Int32} (hn : n.toInt32 = z) {g : JFrame} (hg : g.method = m) {rest : List Value} (hs : g.stack = .ref a :: rest) (hd : decode c.code g.pc = .ok (.arraylength, 1)) (target : State)
    (hr : Steps p.tables e below (T.setTop { g with pc := g.pc + 1, stack := .int z :: rest }) target) : Steps p.tables e below (T.setTop g) target := by
  obtain ⟨cl, A, S, H⟩ := F
  subst hn
  exact X.arraylength hx (by rw [eT]; exact A.1) (State.isArrayOf_alike hZ.alike A.2.1) hg hs hd target (by rw [S]; exact hr)
end Arrays
end Jvm.RoadKit
namespace Jvm.Pilot.@@N@@
open Jvm Jvm.ClassFile Sem Op Lib Jvm.Free Jvm.Stand Jvm.LawKit Jvm.RoadKit Bundle Jvm.Pilot.@@N@@.Jvm.D
theorem own_irem (x y : Int32) : x - (x / y) * y = x % y := by
  apply Int32.toInt_inj.mp
  have h1 := Int32.le_toInt (x % y)
  have h2 := Int32.toInt_lt (x % y)
  rw [Int32.toInt_sub, Int32.toInt_mul, Int32.toInt_div, Int.bmod_mul_bmod, Int.sub_bmod_bmod, Int.mul_comm (x.toInt.tdiv y.toInt), ← Int.tmod_def, ← Int32.toInt_mod]
  exact Int.bmod_eq_of_le_mul_two (by omega) (by omega)
/-- an index, told by its int -/
theorem own_ix {j : Int32} {n : Nat} (h0 : 0 ≤ j.toInt) (h1 : j.toInt < (n : Int)) : ¬ j < 0 ∧ j.toNatClampNeg < n := by
  rw [Int32.lt_iff_toInt_lt]
  have e0 : (0 : Int32).toInt = 0 := rfl
  have e1 : j.toNatClampNeg = j.toInt.toNat := rfl
  rw [e0, e1]; omega
theorem own_d1_0 : decode prog_75_method_2_code 0 = .ok (.iload_n 0, 1) := by decide +kernel
theorem own_d1_1 : decode prog_75_method_2_code 1 = .ok (.bipush 9, 2) := by decide +kernel
theorem own_d1_3 : decode prog_75_method_2_code 3 = .ok (.if_icmp .eq 51, 3) := by decide +kernel
theorem own_d1_6 : decode prog_75_method_2_code 6 = .ok (.iload_n 0, 1) := by decide +kernel
theorem own_d1_7 : decode prog_75_method_2_code 7 = .ok (.bipush 10, 2) := by decide +kernel
theorem own_d1_9 : decode prog_75_method_2_code 9 = .ok (.if_icmp .eq 45, 3) := by decide +kernel
theorem own_d1_12 : decode prog_75_method_2_code 12 = .ok (.iload_n 0, 1) := by decide +kernel
theorem own_d1_13 : decode prog_75_method_2_code 13 = .ok (.bipush 13, 2) := by decide +kernel
theorem own_d1_15 : decode prog_75_method_2_code 15 = .ok (.if_icmp .eq 39, 3) := by decide +kernel
theorem own_d1_18 : decode prog_75_method_2_code 18 = .ok (.iload_n 0, 1) := by decide +kernel
theorem own_d1_19 : decode prog_75_method_2_code 19 = .ok (.bipush 32, 2) := by decide +kernel
theorem own_d1_21 : decode prog_75_method_2_code 21 = .ok (.if_icmp .lt 9, 3) := by decide +kernel
theorem own_d1_24 : decode prog_75_method_2_code 24 = .ok (.iload_n 0, 1) := by decide +kernel
theorem own_d1_25 : decode prog_75_method_2_code 25 = .ok (.ldc 7, 2) := by decide +kernel
theorem own_d1_27 : decode prog_75_method_2_code 27 = .ok (.if_icmp .le 27, 3) := by decide +kernel
theorem own_d1_30 : decode prog_75_method_2_code 30 = .ok (.iload_n 0, 1) := by decide +kernel
theorem own_d1_31 : decode prog_75_method_2_code 31 = .ok (.ldc 8, 2) := by decide +kernel
theorem own_d1_33 : decode prog_75_method_2_code 33 = .ok (.if_icmp .lt 9, 3) := by decide +kernel
theorem own_d1_36 : decode prog_75_method_2_code 36 = .ok (.iload_n 0, 1) := by decide +kernel
theorem own_d1_37 : decode prog_75_method_2_code 37 = .ok (.ldc 9, 2) := by decide +kernel
theorem own_d1_39 : decode prog_75_method_2_code 39 = .ok (.if_icmp .le 15, 3) := by decide +kernel
theorem own_d1_42 : decode prog_75_method_2_code 42 = .ok (.iload_n 0, 1) := by decide +kernel
theorem own_d1_43 : decode prog_75_method_2_code 43 = .ok (.ldc 10, 2) := by decide +kernel
theorem own_d1_45 : decode prog_75_method_2_code 45 = .ok (.if_icmp .lt 13, 3) := by decide +kernel
theorem own_d1_48 : decode prog_75_method_2_code 48 = .ok (.iload_n 0, 1) := by decide +kernel
theorem own_d1_49 : decode prog_75_method_2_code 49 = .ok (.ldc 13, 2) := by decide +kernel
theorem own_d1_51 : decode prog_75_method_2_code 51 = .ok (.if_icmp .gt 7, 3) := by decide +kernel
theorem own_d1_54 : decode prog_75_method_2_code 54 = .ok (.iconst 1, 1) := by decide +kernel
theorem own_d1_55 : decode prog_75_method_2_code 55 = .ok (.goto 4, 3) := by decide +kernel
theorem own_d1_58 : decode prog_75_method_2_code 58 = .ok (.iconst 0, 1) := by decide +kernel
theorem own_d1_59 : decode prog_75_method_2_code 59 = .ok (.ireturn, 1) := by decide +kernel
theorem own_pn0 : plainName "com/example/feuillet/feuillet/xml/XmlNames" = true := by first | (simp [plainName, overriddenIn]; done) | decide +kernel
theorem own_ef1 (m : MethodId) (p0 : Int32) : entryFrame m #[(.int p0)] 1 = mkF m 0 #[.val (.int p0)] [] := by first | (simp [entryFrame, mkF, argsToLocals, Value.category]; done) | rfl
def own_f1_42 (p0 : Int32) : Int32 := (if p0 < (65536 : Int32) then (0 : Int32) else (if (1114111 : Int32) < p0 then (0 : Int32) else (1 : Int32)))
def own_f1_30 (p0 : Int32) : Int32 := (if p0 < (57344 : Int32) then (own_f1_42 p0) else (if (65533 : Int32) < p0 then (own_f1_42 p0) else (1 : Int32)))
def own_f1_0 (p0 : Int32) : Int32 := (if p0 = (9 : Int32) then (1 : Int32) else (if p0 = (10 : Int32) then (1 : Int32) else (if p0 = (13 : Int32) then (1 : Int32) else (if p0 < (32 : Int32) then (own_f1_30 p0) else (if (55295 : Int32) < p0 then (own_f1_30 p0) else (1 : Int32))))))
set_option maxRecDepth 65536 in
set_option maxHeartbeats 40000000 in
theorem own_rm1 (l : Launch) (Z : State) (a0 : Array Value) (hw : ∀ d ∈ tables_1, d.before a0 Z = true) (ws : List Jvm.Cond) (p0 : Int32)  (h0 : Heap) (n0 : Nat) (Z0 : n0 ≤ h0.size) :
    MetFree l (⟨"com/example/feuillet/feuillet/xml/XmlNames", "isChar", "(I)Z"⟩ : MethodName) (head1 (Jvm.Cond.code (⟨"com/example/feuillet/feuillet/xml/XmlNames", "isChar", "(I)Z"⟩ : MethodName) prog_75_method_2_code 1 (some .boolean) :: ws) ({ frames := 0, cells := 0, slots := 0, locals := 0 } : Room)) (fun a U => a = #[(.int p0)] ∧ Z.Warmed39 U.vm ∧ U.heap = h0) (fun _ _ _ _ _ => True) (fun _ U o U' => ∃ v L, o = .returned v ∧ (QP (.int (own_f1_0 p0)) h0 n0) v U'.heap L ∧ FrameEnd U o U' L ({ frames := 0, cells := 0, slots := 0, locals := 0 } : Room).cells ({ frames := 0, cells := 0, slots := 0, locals := 0 } : Room).slots) := by
  refine MetFree.of_bodySF (plainFor_of_name own_pn0) hisR ?_
  intro p e s m args below meth c s₁ Bd hml0 hP hK
  obtain ⟨rfl, hZ, hh⟩ := hP
  have hx := Bd.exec
  have hby := Bd.bytes
  have hml : c.maxLocals = 1 := hml0
  have hown : s.vm.findClass "com/example/feuillet/feuillet/xml/XmlNames" = some m.cls := findClass_of_methodNamed Bd.named
  have hnm := (name_of_methodNamed Bd.named Bd.method).1
  have X0 : Stand p l e ({ frames := 0, cells := 0, slots := 0, locals := 0 } : Room) s m #[(.int p0)] below meth c s₁ [] 0 0 := Stand.of_body Bd
  have e0 : s₁.heap = h0 := by rw [← hh, Bd.state]; rfl
  have N0 := Fr.nil n0
  refine Owe.step (T := s₁) (T' := s₁) (g' := (mkF m 0 #[.val (.int p0)] [])) (fun t k => castTop (own_ef1 m p0) k) ?_
  refine Owe.step (T' := s₁) (g' := (mkF m 3 #[.val (.int p0)] [(.int (9 : Int32)), (.int p0)])) (fun t k => ?_) ?_
  · show Steps p.tables e below (s₁.setTop (mkF m 0 #[.val (.int p0)] [])) t
    refine XS.iloadN X0.here hx rfl (hb hby own_d1_0) rfl ?_
    show Steps p.tables e below (s₁.setTop (mkF m 1 #[.val (.int p0)] [(.int p0)])) t
    refine XS.bipush X0.here hx rfl (hb hby own_d1_1) ?_
    show Steps p.tables e below (s₁.setTop (mkF m 3 #[.val (.int p0)] [(.int (9 : Int32)), (.int p0)])) t
    exact k
  by_cases hc3 : p0 = (9 : Int32)
  · refine Owe.step (T' := s₁) (g' := (mkF m 54 #[.val (.int p0)] [])) (fun t k => ?_) ?_
    · show Steps p.tables e below (s₁.setTop (mkF m 3 #[.val (.int p0)] [(.int (9 : Int32)), (.int p0)])) t
      refine XS.icmpYes X0.here hx rfl (pc0 := 3) (pc' := 54) rfl (hb hby own_d1_3) rfl (teq hc3).1 (by decide) (by decide) ?_
      show Steps p.tables e below (s₁.setTop (mkF m 54 #[.val (.int p0)] [])) t
      exact k
    rw [show own_f1_0 p0 = (1 : Int32) from (by rw [own_f1_0, if_pos hc3])]
    refine Owe.ret X0 Bd.notSynchronized (v := (some (.int (1 : Int32)))) (fun h => by rw [Bd.returns] at h; cases h) (fun fs hr => ?_) ⟨rfl, N0, e0⟩ (by decide) (by decide)
    show Steps p.tables e below (s₁.setTop (mkF m 54 #[.val (.int p0)] [])) _
    refine XS.iconst X0.here hx rfl (hb hby own_d1_54) ?_
    show Steps p.tables e below (s₁.setTop (mkF m 55 #[.val (.int p0)] [(.int (1 : Int32))])) _
    refine XS.goto X0.here hx rfl (pc0 := 55) (pc' := 59) rfl (hb hby own_d1_55) (by decide) (by decide) ?_
    show Steps p.tables e below (s₁.setTop (mkF m 59 #[.val (.int p0)] [(.int (1 : Int32))])) _
    exact retN X0 hx (t := .boolean) Bd.returns (by simp) (hb hby own_d1_59) hr
  · refine Owe.step (T' := s₁) (g' := (mkF m 6 #[.val (.int p0)] [])) (fun t k => ?_) ?_
    · show Steps p.tables e below (s₁.setTop (mkF m 3 #[.val (.int p0)] [(.int (9 : Int32)), (.int p0)])) t
      refine XS.icmpNo X0.here hx rfl (hb hby own_d1_3) rfl (feq hc3).1 ?_
      show Steps p.tables e below (s₁.setTop (mkF m 6 #[.val (.int p0)] [])) t
      exact k
    refine Owe.step (T' := s₁) (g' := (mkF m 9 #[.val (.int p0)] [(.int (10 : Int32)), (.int p0)])) (fun t k => ?_) ?_
    · show Steps p.tables e below (s₁.setTop (mkF m 6 #[.val (.int p0)] [])) t
      refine XS.iloadN X0.here hx rfl (hb hby own_d1_6) rfl ?_
      show Steps p.tables e below (s₁.setTop (mkF m 7 #[.val (.int p0)] [(.int p0)])) t
      refine XS.bipush X0.here hx rfl (hb hby own_d1_7) ?_
      show Steps p.tables e below (s₁.setTop (mkF m 9 #[.val (.int p0)] [(.int (10 : Int32)), (.int p0)])) t
      exact k
    by_cases hc9 : p0 = (10 : Int32)
    · refine Owe.step (T' := s₁) (g' := (mkF m 54 #[.val (.int p0)] [])) (fun t k => ?_) ?_
      · show Steps p.tables e below (s₁.setTop (mkF m 9 #[.val (.int p0)] [(.int (10 : Int32)), (.int p0)])) t
        refine XS.icmpYes X0.here hx rfl (pc0 := 9) (pc' := 54) rfl (hb hby own_d1_9) rfl (teq hc9).1 (by decide) (by decide) ?_
        show Steps p.tables e below (s₁.setTop (mkF m 54 #[.val (.int p0)] [])) t
        exact k
      rw [show own_f1_0 p0 = (1 : Int32) from (by rw [own_f1_0, if_neg hc3, if_pos hc9])]
      refine Owe.ret X0 Bd.notSynchronized (v := (some (.int (1 : Int32)))) (fun h => by rw [Bd.returns] at h; cases h) (fun fs hr => ?_) ⟨rfl, N0, e0⟩ (by decide) (by decide)
      show Steps p.tables e below (s₁.setTop (mkF m 54 #[.val (.int p0)] [])) _
      refine XS.iconst X0.here hx rfl (hb hby own_d1_54) ?_
      show Steps p.tables e below (s₁.setTop (mkF m 55 #[.val (.int p0)] [(.int (1 : Int32))])) _
      refine XS.goto X0.here hx rfl (pc0 := 55) (pc' := 59) rfl (hb hby own_d1_55) (by decide) (by decide) ?_
      show Steps p.tables e below (s₁.setTop (mkF m 59 #[.val (.int p0)] [(.int (1 : Int32))])) _
      exact retN X0 hx (t := .boolean) Bd.returns (by simp) (hb hby own_d1_59) hr
    · refine Owe.step (T' := s₁) (g' := (mkF m 12 #[.val (.int p0)] [])) (fun t k => ?_) ?_
      · show Steps p.tables e below (s₁.setTop (mkF m 9 #[.val (.int p0)] [(.int (10 : Int32)), (.int p0)])) t
        refine XS.icmpNo X0.here hx rfl (hb hby own_d1_9) rfl (feq hc9).1 ?_
        show Steps p.tables e below (s₁.setTop (mkF m 12 #[.val (.int p0)] [])) t
        exact k
      refine Owe.step (T' := s₁) (g' := (mkF m 15 #[.val (.int p0)] [(.int (13 : Int32)), (.int p0)])) (fun t k => ?_) ?_
      · show Steps p.tables e below (s₁.setTop (mkF m 12 #[.val (.int p0)] [])) t
        refine XS.iloadN X0.here hx rfl (hb hby own_d1_12) rfl ?_
        show Steps p.tables e below (s₁.setTop (mkF m 13 #[.val (.int p0)] [(.int p0)])) t
        refine XS.bipush X0.here hx rfl (hb hby own_d1_13) ?_
        show Steps p.tables e below (s₁.setTop (mkF m 15 #[.val (.int p0)] [(.int (13 : Int32)), (.int p0)])) t
        exact k
      by_cases hc15 : p0 = (13 : Int32)
      · refine Owe.step (T' := s₁) (g' := (mkF m 54 #[.val (.int p0)] [])) (fun t k => ?_) ?_
        · show Steps p.tables e below (s₁.setTop (mkF m 15 #[.val (.int p0)] [(.int (13 : Int32)), (.int p0)])) t
          refine XS.icmpYes X0.here hx rfl (pc0 := 15) (pc' := 54) rfl (hb hby own_d1_15) rfl (teq hc15).1 (by decide) (by decide) ?_
          show Steps p.tables e below (s₁.setTop (mkF m 54 #[.val (.int p0)] [])) t
          exact k
        rw [show own_f1_0 p0 = (1 : Int32) from (by rw [own_f1_0, if_neg hc3, if_neg hc9, if_pos hc15])]
        refine Owe.ret X0 Bd.notSynchronized (v := (some (.int (1 : Int32)))) (fun h => by rw [Bd.returns] at h; cases h) (fun fs hr => ?_) ⟨rfl, N0, e0⟩ (by decide) (by decide)
        show Steps p.tables e below (s₁.setTop (mkF m 54 #[.val (.int p0)] [])) _
        refine XS.iconst X0.here hx rfl (hb hby own_d1_54) ?_
        show Steps p.tables e below (s₁.setTop (mkF m 55 #[.val (.int p0)] [(.int (1 : Int32))])) _
        refine XS.goto X0.here hx rfl (pc0 := 55) (pc' := 59) rfl (hb hby own_d1_55) (by decide) (by decide) ?_
        show Steps p.tables e below (s₁.setTop (mkF m 59 #[.val (.int p0)] [(.int (1 : Int32))])) _
        exact retN X0 hx (t := .boolean) Bd.returns (by simp) (hb hby own_d1_59) hr
      · refine Owe.step (T' := s₁) (g' := (mkF m 18 #[.val (.int p0)] [])) (fun t k => ?_) ?_
        · show Steps p.tables e below (s₁.setTop (mkF m 15 #[.val (.int p0)] [(.int (13 : Int32)), (.int p0)])) t
          refine XS.icmpNo X0.here hx rfl (hb hby own_d1_15) rfl (feq hc15).1 ?_
          show Steps p.tables e below (s₁.setTop (mkF m 18 #[.val (.int p0)] [])) t
          exact k
        refine Owe.step (T' := s₁) (g' := (mkF m 21 #[.val (.int p0)] [(.int (32 : Int32)), (.int p0)])) (fun t k => ?_) ?_
        · show Steps p.tables e below (s₁.setTop (mkF m 18 #[.val (.int p0)] [])) t
          refine XS.iloadN X0.here hx rfl (hb hby own_d1_18) rfl ?_
          show Steps p.tables e below (s₁.setTop (mkF m 19 #[.val (.int p0)] [(.int p0)])) t
          refine XS.bipush X0.here hx rfl (hb hby own_d1_19) ?_
          show Steps p.tables e below (s₁.setTop (mkF m 21 #[.val (.int p0)] [(.int (32 : Int32)), (.int p0)])) t
          exact k
        have j30 : ∀ (T : State) (Lc : List Loc) (X : Stand p l e ({ frames := 0, cells := 0, slots := 0, locals := 0 } : Room) s m #[(.int p0)] below meth c T Lc 0 0) (eT : T.heap = h0) (N : Fr n0 Lc), Owe p e below s ({ frames := 0, cells := 0, slots := 0, locals := 0 } : Room).cells ({ frames := 0, cells := 0, slots := 0, locals := 0 } : Room).slots (QP (.int (own_f1_30 p0)) h0 n0) T (mkF m 30 #[.val (.int p0)] []) := by
          intro T30j Lc30j X30j e30j N30j
          refine Owe.step (T' := T30j) (g' := (mkF m 33 #[.val (.int p0)] [(.int (57344 : Int32)), (.int p0)])) (fun t k => ?_) ?_
          · show Steps p.tables e below (T30j.setTop (mkF m 30 #[.val (.int p0)] [])) t
            refine XS.iloadN X30j.here hx rfl (hb hby own_d1_30) rfl ?_
            show Steps p.tables e below (T30j.setTop (mkF m 31 #[.val (.int p0)] [(.int p0)])) t
            refine X30j.ldcInt hx hown (mvT hZ (hw _ (List.mem_of_getElem? (i := 16) rfl))) (g := (mkF m 31 #[.val (.int p0)] [(.int p0)])) rfl (hb hby own_d1_31) _ ?_
            show Steps p.tables e below (T30j.setTop (mkF m 33 #[.val (.int p0)] [(.int (57344 : Int32)), (.int p0)])) t
            exact k
          have j42 : ∀ (T : State) (Lc : List Loc) (X : Stand p l e ({ frames := 0, cells := 0, slots := 0, locals := 0 } : Room) s m #[(.int p0)] below meth c T Lc 0 0) (eT : T.heap = h0) (N : Fr n0 Lc), Owe p e below s ({ frames := 0, cells := 0, slots := 0, locals := 0 } : Room).cells ({ frames := 0, cells := 0, slots := 0, locals := 0 } : Room).slots (QP (.int (own_f1_42 p0)) h0 n0) T (mkF m 42 #[.val (.int p0)] []) := by
            intro T42j Lc42j X42j e42j N42j
            refine Owe.step (T' := T42j) (g' := (mkF m 45 #[.val (.int p0)] [(.int (65536 : Int32)), (.int p0)])) (fun t k => ?_) ?_
            · show Steps p.tables e below (T42j.setTop (mkF m 42 #[.val (.int p0)] [])) t
              refine XS.iloadN X42j.here hx rfl (hb hby own_d1_42) rfl ?_
              show Steps p.tables e below (T42j.setTop (mkF m 43 #[.val (.int p0)] [(.int p0)])) t
              refine X42j.ldcInt hx hown (mvT hZ (hw _ (List.mem_of_getElem? (i := 17) rfl))) (g := (mkF m 43 #[.val (.int p0)] [(.int p0)])) rfl (hb hby own_d1_43) _ ?_
              show Steps p.tables e below (T42j.setTop (mkF m 45 #[.val (.int p0)] [(.int (65536 : Int32)), (.int p0)])) t
              exact k
            by_cases hc45 : p0 < (65536 : Int32)
            · refine Owe.step (T' := T42j) (g' := (mkF m 58 #[.val (.int p0)] [])) (fun t k => ?_) ?_
              · show Steps p.tables e below (T42j.setTop (mkF m 45 #[.val (.int p0)] [(.int (65536 : Int32)), (.int p0)])) t
                refine XS.icmpYes X42j.here hx rfl (pc0 := 45) (pc' := 58) rfl (hb hby own_d1_45) rfl (tlt hc45).1 (by decide) (by decide) ?_
                show Steps p.tables e below (T42j.setTop (mkF m 58 #[.val (.int p0)] [])) t
                exact k
              rw [show own_f1_42 p0 = (0 : Int32) from (by rw [own_f1_42, if_pos hc45])]
              refine Owe.ret X42j Bd.notSynchronized (v := (some (.int (0 : Int32)))) (fun h => by rw [Bd.returns] at h; cases h) (fun fs hr => ?_) ⟨rfl, N42j, e42j⟩ (by decide) (by decide)
              show Steps p.tables e below (T42j.setTop (mkF m 58 #[.val (.int p0)] [])) _
              refine XS.iconst X42j.here hx rfl (hb hby own_d1_58) ?_
              show Steps p.tables e below (T42j.setTop (mkF m 59 #[.val (.int p0)] [(.int (0 : Int32))])) _
              exact retN X42j hx (t := .boolean) Bd.returns (by simp) (hb hby own_d1_59) hr
            · refine Owe.step (T' := T42j) (g' := (mkF m 48 #[.val (.int p0)] [])) (fun t k => ?_) ?_
              · show Steps p.tables e below (T42j.setTop (mkF m 45 #[.val (.int p0)] [(.int (65536 : Int32)), (.int p0)])) t
                refine XS.icmpNo X42j.here hx rfl (hb hby own_d1_45) rfl (flt hc45).1 ?_
                show Steps p.tables e below (T42j.setTop (mkF m 48 #[.val (.int p0)] [])) t
                exact k
              refine Owe.step (T' := T42j) (g' := (mkF m 51 #[.val (.int p0)] [(.int (1114111 : Int32)), (.int p0)])) (fun t k => ?_) ?_
              · show Steps p.tables e below (T42j.setTop (mkF m 48 #[.val (.int p0)] [])) t
                refine XS.iloadN X42j.here hx rfl (hb hby own_d1_48) rfl ?_
                show Steps p.tables e below (T42j.setTop (mkF m 49 #[.val (.int p0)] [(.int p0)])) t
                refine X42j.ldcInt hx hown (mvT hZ (hw _ (List.mem_of_getElem? (i := 24) rfl))) (g := (mkF m 49 #[.val (.int p0)] [(.int p0)])) rfl (hb hby own_d1_49) _ ?_
                show Steps p.tables e below (T42j.setTop (mkF m 51 #[.val (.int p0)] [(.int (1114111 : Int32)), (.int p0)])) t
                exact k
              by_cases hc51 : (1114111 : Int32) < p0
              · refine Owe.step (T' := T42j) (g' := (mkF m 58 #[.val (.int p0)] [])) (fun t k => ?_) ?_
                · show Steps p.tables e below (T42j.setTop (mkF m 51 #[.val (.int p0)] [(.int (1114111 : Int32)), (.int p0)])) t
                  refine XS.icmpYes X42j.here hx rfl (pc0 := 51) (pc' := 58) rfl (hb hby own_d1_51) rfl (tlt hc51).2.2.1 (by decide) (by decide) ?_
                  show Steps p.tables e below (T42j.setTop (mkF m 58 #[.val (.int p0)] [])) t
                  exact k
                rw [show own_f1_42 p0 = (0 : Int32) from (by rw [own_f1_42, if_neg hc45, if_pos hc51])]
                refine Owe.ret X42j Bd.notSynchronized (v := (some (.int (0 : Int32)))) (fun h => by rw [Bd.returns] at h; cases h) (fun fs hr => ?_) ⟨rfl, N42j, e42j⟩ (by decide) (by decide)
                show Steps p.tables e below (T42j.setTop (mkF m 58 #[.val (.int p0)] [])) _
                refine XS.iconst X42j.here hx rfl (hb hby own_d1_58) ?_
                show Steps p.tables e below (T42j.setTop (mkF m 59 #[.val (.int p0)] [(.int (0 : Int32))])) _
                exact retN X42j hx (t := .boolean) Bd.returns (by simp) (hb hby own_d1_59) hr
              · refine Owe.step (T' := T42j) (g' := (mkF m 54 #[.val (.int p0)] [])) (fun t k => ?_) ?_
                · show Steps p.tables e below (T42j.setTop (mkF m 51 #[.val (.int p0)] [(.int (1114111 : Int32)), (.int p0)])) t
                  refine XS.icmpNo X42j.here hx rfl (hb hby own_d1_51) rfl (flt hc51).2.2.1 ?_
                  show Steps p.tables e below (T42j.setTop (mkF m 54 #[.val (.int p0)] [])) t
                  exact k
                rw [show own_f1_42 p0 = (1 : Int32) from (by rw [own_f1_42, if_neg hc45, if_neg hc51])]
                refine Owe.ret X42j Bd.notSynchronized (v := (some (.int (1 : Int32)))) (fun h => by rw [Bd.returns] at h; cases h) (fun fs hr => ?_) ⟨rfl, N42j, e42j⟩ (by decide) (by decide)
                show Steps p.tables e below (T42j.setTop (mkF m 54 #[.val (.int p0)] [])) _
                refine XS.iconst X42j.here hx rfl (hb hby own_d1_54) ?_
                show Steps p.tables e below (T42j.setTop (mkF m 55 #[.val (.int p0)] [(.int (1 : Int32))])) _
                refine XS.goto X42j.here hx rfl (pc0 := 55) (pc' := 59) rfl (hb hby own_d1_55) (by decide) (by decide) ?_
                show Steps p.tables e below (T42j.setTop (mkF m 59 #[.val (.int p0)] [(.int (1 : Int32))])) _
                exact retN X42j hx (t := .boolean) Bd.returns (by simp) (hb hby own_d1_59) hr
          by_cases hc33 : p0 < (57344 : Int32)
          · refine Owe.step (T' := T30j) (g' := (mkF m 42 #[.val (.int p0)] [])) (fun t k => ?_) ?_
            · show Steps p.tables e below (T30j.setTop (mkF m 33 #[.val (.int p0)] [(.int (57344 : Int32)), (.int p0)])) t
              refine XS.icmpYes X30j.here hx rfl (pc0 := 33) (pc' := 42) rfl (hb hby own_d1_33) rfl (tlt hc33).1 (by decide) (by decide) ?_
              show Steps p.tables e below (T30j.setTop (mkF m 42 #[.val (.int p0)] [])) t
              exact k
            rw [show own_f1_30 p0 = (own_f1_42 p0) from (by rw [own_f1_30, if_pos hc33])]
            exact j42 T30j _ X30j e30j N30j
          · refine Owe.step (T' := T30j) (g' := (mkF m 36 #[.val (.int p0)] [])) (fun t k => ?_) ?_
            · show Steps p.tables e below (T30j.setTop (mkF m 33 #[.val (.int p0)] [(.int (57344 : Int32)), (.int p0)])) t
              refine XS.icmpNo X30j.here hx rfl (hb hby own_d1_33) rfl (flt hc33).1 ?_
              show Steps p.tables e below (T30j.setTop (mkF m 36 #[.val (.int p0)] [])) t
              exact k
            refine Owe.step (T' := T30j) (g' := (mkF m 39 #[.val (.int p0)] [(.int (65533 : Int32)), (.int p0)])) (fun t k => ?_) ?_
            · show Steps p.tables e below (T30j.setTop (mkF m 36 #[.val (.int p0)] [])) t
              refine XS.iloadN X30j.here hx rfl (hb hby own_d1_36) rfl ?_
              show Steps p.tables e below (T30j.setTop (mkF m 37 #[.val (.int p0)] [(.int p0)])) t
              refine X30j.ldcInt hx hown (mvT hZ (hw _ (List.mem_of_getElem? (i := 23) rfl))) (g := (mkF m 37 #[.val (.int p0)] [(.int p0)])) rfl (hb hby own_d1_37) _ ?_
              show Steps p.tables e below (T30j.setTop (mkF m 39 #[.val (.int p0)] [(.int (65533 : Int32)), (.int p0)])) t
              exact k
            by_cases hc39 : (65533 : Int32) < p0
            · refine Owe.step (T' := T30j) (g' := (mkF m 42 #[.val (.int p0)] [])) (fun t k => ?_) ?_
              · show Steps p.tables e below (T30j.setTop (mkF m 39 #[.val (.int p0)] [(.int (65533 : Int32)), (.int p0)])) t
                refine XS.icmpNo X30j.here hx rfl (hb hby own_d1_39) rfl (tlt hc39).2.2.2 ?_
                show Steps p.tables e below (T30j.setTop (mkF m 42 #[.val (.int p0)] [])) t
                exact k
              rw [show own_f1_30 p0 = (own_f1_42 p0) from (by rw [own_f1_30, if_neg hc33, if_pos hc39])]
              exact j42 T30j _ X30j e30j N30j
            · refine Owe.step (T' := T30j) (g' := (mkF m 54 #[.val (.int p0)] [])) (fun t k => ?_) ?_
              · show Steps p.tables e below (T30j.setTop (mkF m 39 #[.val (.int p0)] [(.int (65533 : Int32)), (.int p0)])) t
                refine XS.icmpYes X30j.here hx rfl (pc0 := 39) (pc' := 54) rfl (hb hby own_d1_39) rfl (flt hc39).2.2.2 (by decide) (by decide) ?_
                show Steps p.tables e below (T30j.setTop (mkF m 54 #[.val (.int p0)] [])) t
                exact k
              rw [show own_f1_30 p0 = (1 : Int32) from (by rw [own_f1_30, if_neg hc33, if_neg hc39])]
              refine Owe.ret X30j Bd.notSynchronized (v := (some (.int (1 : Int32)))) (fun h => by rw [Bd.returns] at h; cases h) (fun fs hr => ?_) ⟨rfl, N30j, e30j⟩ (by decide) (by decide)
              show Steps p.tables e below (T30j.setTop (mkF m 54 #[.val (.int p0)] [])) _
              refine XS.iconst X30j.here hx rfl (hb hby own_d1_54) ?_
              show Steps p.tables e below (T30j.setTop (mkF m 55 #[.val (.int p0)] [(.int (1 : Int32))])) _
              refine XS.goto X30j.here hx rfl (pc0 := 55) (pc' := 59) rfl (hb hby own_d1_55) (by decide) (by decide) ?_
              show Steps p.tables e below (T30j.setTop (mkF m 59 #[.val (.int p0)] [(.int (1 : Int32))])) _
              exact retN X30j hx (t := .boolean) Bd.returns (by simp) (hb hby own_d1_59) hr
        by_cases hc21 : p0 < (32 : Int32)
        · refine Owe.step (T' := s₁) (g' := (mkF m 30 #[.val (.int p0)] [])) (fun t k => ?_) ?_
          · show Steps p.tables e below (s₁.setTop (mkF m 21 #[.val (.int p0)] [(.int (32 : Int32)), (.int p0)])) t
            refine XS.icmpYes X0.here hx rfl (pc0 := 21) (pc' := 30) rfl (hb hby own_d1_21) rfl (tlt hc21).1 (by decide) (by decide) ?_
            show Steps p.tables e below (s₁.setTop (mkF m 30 #[.val (.int p0)] [])) t
            exact k
          rw [show own_f1_0 p0 = (own_f1_30 p0) from (by rw [own_f1_0, if_neg hc3, if_neg hc9, if_neg hc15, if_pos hc21])]
          exact j30 s₁ _ X0 e0 N0
        · refine Owe.step (T' := s₁) (g' := (mkF m 24 #[.val (.int p0)] [])) (fun t k => ?_) ?_
          · show Steps p.tables e below (s₁.setTop (mkF m 21 #[.val (.int p0)] [(.int (32 : Int32)), (.int p0)])) t
            refine XS.icmpNo X0.here hx rfl (hb hby own_d1_21) rfl (flt hc21).1 ?_
            show Steps p.tables e below (s₁.setTop (mkF m 24 #[.val (.int p0)] [])) t
            exact k
          refine Owe.step (T' := s₁) (g' := (mkF m 27 #[.val (.int p0)] [(.int (55295 : Int32)), (.int p0)])) (fun t k => ?_) ?_
          · show Steps p.tables e below (s₁.setTop (mkF m 24 #[.val (.int p0)] [])) t
            refine XS.iloadN X0.here hx rfl (hb hby own_d1_24) rfl ?_
            show Steps p.tables e below (s₁.setTop (mkF m 25 #[.val (.int p0)] [(.int p0)])) t
            refine X0.ldcInt hx hown (mvT hZ (hw _ (List.mem_of_getElem? (i := 22) rfl))) (g := (mkF m 25 #[.val (.int p0)] [(.int p0)])) rfl (hb hby own_d1_25) _ ?_
            show Steps p.tables e below (s₁.setTop (mkF m 27 #[.val (.int p0)] [(.int (55295 : Int32)), (.int p0)])) t
            exact k
          by_cases hc27 : (55295 : Int32) < p0
          · refine Owe.step (T' := s₁) (g' := (mkF m 30 #[.val (.int p0)] [])) (fun t k => ?_) ?_
            · show Steps p.tables e below (s₁.setTop (mkF m 27 #[.val (.int p0)] [(.int (55295 : Int32)), (.int p0)])) t
              refine XS.icmpNo X0.here hx rfl (hb hby own_d1_27) rfl (tlt hc27).2.2.2 ?_
              show Steps p.tables e below (s₁.setTop (mkF m 30 #[.val (.int p0)] [])) t
              exact k
            rw [show own_f1_0 p0 = (own_f1_30 p0) from (by rw [own_f1_0, if_neg hc3, if_neg hc9, if_neg hc15, if_neg hc21, if_pos hc27])]
            exact j30 s₁ _ X0 e0 N0
          · refine Owe.step (T' := s₁) (g' := (mkF m 54 #[.val (.int p0)] [])) (fun t k => ?_) ?_
            · show Steps p.tables e below (s₁.setTop (mkF m 27 #[.val (.int p0)] [(.int (55295 : Int32)), (.int p0)])) t
              refine XS.icmpYes X0.here hx rfl (pc0 := 27) (pc' := 54) rfl (hb hby own_d1_27) rfl (flt hc27).2.2.2 (by decide) (by decide) ?_
              show Steps p.tables e below (s₁.setTop (mkF m 54 #[.val (.int p0)] [])) t
              exact k
            rw [show own_f1_0 p0 = (1 : Int32) from (by rw [own_f1_0, if_neg hc3, if_neg hc9, if_neg hc15, if_neg hc21, if_neg hc27])]
            refine Owe.ret X0 Bd.notSynchronized (v := (some (.int (1 : Int32)))) (fun h => by rw [Bd.returns] at h; cases h) (fun fs hr => ?_) ⟨rfl, N0, e0⟩ (by decide) (by decide)
            show Steps p.tables e below (s₁.setTop (mkF m 54 #[.val (.int p0)] [])) _
            refine XS.iconst X0.here hx rfl (hb hby own_d1_54) ?_
            show Steps p.tables e below (s₁.setTop (mkF m 55 #[.val (.int p0)] [(.int (1 : Int32))])) _
            refine XS.goto X0.here hx rfl (pc0 := 55) (pc' := 59) rfl (hb hby own_d1_55) (by decide) (by decide) ?_
            show Steps p.tables e below (s₁.setTop (mkF m 59 #[.val (.int p0)] [(.int (1 : Int32))])) _
            exact retN X0 hx (t := .boolean) Bd.returns (by simp) (hb hby own_d1_59) hr
theorem own_d2_0 : decode method_2_code 0 = .ok (.iload_n 0, 1) := by decide +kernel
theorem own_d2_1 : decode method_2_code 1 = .ok (.ifCond .lt 9, 3) := by decide +kernel
theorem own_d2_4 : decode method_2_code 4 = .ok (.iload_n 0, 1) := by decide +kernel
theorem own_d2_5 : decode method_2_code 5 = .ok (.ldc 7, 2) := by decide +kernel
theorem own_d2_7 : decode method_2_code 7 = .ok (.if_icmp .le 5, 3) := by decide +kernel
theorem own_d2_10 : decode method_2_code 10 = .ok (.iconst 0, 1) := by decide +kernel
theorem own_d2_11 : decode method_2_code 11 = .ok (.ireturn, 1) := by decide +kernel
theorem own_d2_12 : decode method_2_code 12 = .ok (.iload_n 0, 1) := by decide +kernel
theorem own_d2_13 : decode method_2_code 13 = .ok (.bipush 32, 2) := by decide +kernel
theorem own_d2_15 : decode method_2_code 15 = .ok (.if_icmp .ge 27, 3) := by decide +kernel
theorem own_d2_18 : decode method_2_code 18 = .ok (.iload_n 0, 1) := by decide +kernel
theorem own_d2_19 : decode method_2_code 19 = .ok (.bipush 9, 2) := by decide +kernel
theorem own_d2_21 : decode method_2_code 21 = .ok (.if_icmp .eq 15, 3) := by decide +kernel
theorem own_d2_24 : decode method_2_code 24 = .ok (.iload_n 0, 1) := by decide +kernel
theorem own_d2_25 : decode method_2_code 25 = .ok (.bipush 10, 2) := by decide +kernel
theorem own_d2_27 : decode method_2_code 27 = .ok (.if_icmp .eq 9, 3) := by decide +kernel
theorem own_d2_30 : decode method_2_code 30 = .ok (.iload_n 0, 1) := by decide +kernel
theorem own_d2_31 : decode method_2_code 31 = .ok (.bipush 13, 2) := by decide +kernel
theorem own_d2_33 : decode method_2_code 33 = .ok (.if_icmp .ne 7, 3) := by decide +kernel
theorem own_d2_36 : decode method_2_code 36 = .ok (.iconst 1, 1) := by decide +kernel
theorem own_d2_37 : decode method_2_code 37 = .ok (.goto 4, 3) := by decide +kernel
theorem own_d2_40 : decode method_2_code 40 = .ok (.iconst 0, 1) := by decide +kernel
theorem own_d2_41 : decode method_2_code 41 = .ok (.ireturn, 1) := by decide +kernel
theorem own_d2_42 : decode method_2_code 42 = .ok (.iload_n 0, 1) := by decide +kernel
theorem own_d2_43 : decode method_2_code 43 = .ok (.ldc 8, 2) := by decide +kernel
theorem own_d2_45 : decode method_2_code 45 = .ok (.if_icmp .lt 11, 3) := by decide +kernel
theorem own_d2_48 : decode method_2_code 48 = .ok (.iload_n 0, 1) := by decide +kernel
theorem own_d2_49 : decode method_2_code 49 = .ok (.ldc 9, 2) := by decide +kernel
theorem own_d2_51 : decode method_2_code 51 = .ok (.if_icmp .gt 5, 3) := by decide +kernel
theorem own_d2_54 : decode method_2_code 54 = .ok (.iconst 0, 1) := by decide +kernel
theorem own_d2_55 : decode method_2_code 55 = .ok (.ireturn, 1) := by decide +kernel
theorem own_d2_56 : decode method_2_code 56 = .ok (.iload_n 0, 1) := by decide +kernel
theorem own_d2_57 : decode method_2_code 57 = .ok (.ldc 10, 2) := by decide +kernel
theorem own_d2_59 : decode method_2_code 59 = .ok (.if_icmp .eq 13, 3) := by decide +kernel
theorem own_d2_62 : decode method_2_code 62 = .ok (.iload_n 0, 1) := by decide +kernel
theorem own_d2_63 : decode method_2_code 63 = .ok (.ldc 11, 2) := by decide +kernel
theorem own_d2_65 : decode method_2_code 65 = .ok (.if_icmp .eq 7, 3) := by decide +kernel
theorem own_d2_68 : decode method_2_code 68 = .ok (.iconst 1, 1) := by decide +kernel
theorem own_d2_69 : decode method_2_code 69 = .ok (.goto 4, 3) := by decide +kernel
theorem own_d2_72 : decode method_2_code 72 = .ok (.iconst 0, 1) := by decide +kernel
theorem own_d2_73 : decode method_2_code 73 = .ok (.ireturn, 1) := by decide +kernel
theorem own_pn1 : plainName "com/example/feuillet/feuillet/xml/XmlNamesIsCharPinLaw" = true := by first | (simp [plainName, overriddenIn]; done) | decide +kernel
theorem own_ef2 (m : MethodId) (p0 : Int32) : entryFrame m #[(.int p0)] 1 = mkF m 0 #[.val (.int p0)] [] := by first | (simp [entryFrame, mkF, argsToLocals, Value.category]; done) | rfl
def own_f2_56 (p0 : Int32) : Int32 := (if p0 = (65534 : Int32) then (0 : Int32) else (if p0 = (65535 : Int32) then (0 : Int32) else (1 : Int32)))
def own_f2_0 (p0 : Int32) : Int32 := (if p0 < (0 : Int32) then (0 : Int32) else (if (1114111 : Int32) < p0 then (0 : Int32) else (if p0 < (32 : Int32) then (if p0 = (9 : Int32) then (1 : Int32) else (if p0 = (10 : Int32) then (1 : Int32) else (if p0 = (13 : Int32) then (1 : Int32) else (0 : Int32)))) else (if p0 < (55296 : Int32) then (own_f2_56 p0) else (if (57343 : Int32) < p0 then (own_f2_56 p0) else (0 : Int32))))))
set_option maxRecDepth 65536 in
set_option maxHeartbeats 40000000 in
theorem own_rm2 (l : Launch) (Z : State) (a0 : Array Value) (hw : ∀ d ∈ tables_1, d.before a0 Z = true) (ws : List Jvm.Cond) (p0 : Int32)  (h0 : Heap) (n0 : Nat) (Z0 : n0 ≤ h0.size) :
    MetFree l (⟨"com/example/feuillet/feuillet/xml/XmlNamesIsCharPinLaw", "ref", "(I)Z"⟩ : MethodName) (head1 (Jvm.Cond.code (⟨"com/example/feuillet/feuillet/xml/XmlNamesIsCharPinLaw", "ref", "(I)Z"⟩ : MethodName) method_2_code 1 (some .boolean) :: ws) ({ frames := 0, cells := 0, slots := 0, locals := 0 } : Room)) (fun a U => a = #[(.int p0)] ∧ Z.Warmed39 U.vm ∧ U.heap = h0) (fun _ _ _ _ _ => True) (fun _ U o U' => ∃ v L, o = .returned v ∧ (QP (.int (own_f2_0 p0)) h0 n0) v U'.heap L ∧ FrameEnd U o U' L ({ frames := 0, cells := 0, slots := 0, locals := 0 } : Room).cells ({ frames := 0, cells := 0, slots := 0, locals := 0 } : Room).slots) := by
  refine MetFree.of_bodySF (plainFor_of_name own_pn1) hisR ?_
  intro p e s m args below meth c s₁ Bd hml0 hP hK
  obtain ⟨rfl, hZ, hh⟩ := hP
  have hx := Bd.exec
  have hby := Bd.bytes
  have hml : c.maxLocals = 1 := hml0
  have hown : s.vm.findClass "com/example/feuillet/feuillet/xml/XmlNamesIsCharPinLaw" = some m.cls := findClass_of_methodNamed Bd.named
  have hnm := (name_of_methodNamed Bd.named Bd.method).1
  have X0 : Stand p l e ({ frames := 0, cells := 0, slots := 0, locals := 0 } : Room) s m #[(.int p0)] below meth c s₁ [] 0 0 := Stand.of_body Bd
  have e0 : s₁.heap = h0 := by rw [← hh, Bd.state]; rfl
  have N0 := Fr.nil n0
  refine Owe.step (T := s₁) (T' := s₁) (g' := (mkF m 0 #[.val (.int p0)] [])) (fun t k => castTop (own_ef2 m p0) k) ?_
  refine Owe.step (T' := s₁) (g' := (mkF m 1 #[.val (.int p0)] [(.int p0)])) (fun t k => ?_) ?_
  · show Steps p.tables e below (s₁.setTop (mkF m 0 #[.val (.int p0)] [])) t
    refine XS.iloadN X0.here hx rfl (hb hby own_d2_0) rfl ?_
    show Steps p.tables e below (s₁.setTop (mkF m 1 #[.val (.int p0)] [(.int p0)])) t
    exact k
  by_cases hc1 : p0 < (0 : Int32)
  · refine Owe.step (T' := s₁) (g' := (mkF m 10 #[.val (.int p0)] [])) (fun t k => ?_) ?_
    · show Steps p.tables e below (s₁.setTop (mkF m 1 #[.val (.int p0)] [(.int p0)])) t
      refine XS.ifYes X0.here hx rfl (pc0 := 1) (pc' := 10) rfl (hb hby own_d2_1) rfl ((if0 _ _).trans (tlt hc1).1) (by decide) (by decide) ?_
      show Steps p.tables e below (s₁.setTop (mkF m 10 #[.val (.int p0)] [])) t
      exact k
    rw [show own_f2_0 p0 = (0 : Int32) from (by rw [own_f2_0, if_pos hc1])]
    refine Owe.ret X0 Bd.notSynchronized (v := (some (.int (0 : Int32)))) (fun h => by rw [Bd.returns] at h; cases h) (fun fs hr => ?_) ⟨rfl, N0, e0⟩ (by decide) (by decide)
    show Steps p.tables e below (s₁.setTop (mkF m 10 #[.val (.int p0)] [])) _
    refine XS.iconst X0.here hx rfl (hb hby own_d2_10) ?_
    show Steps p.tables e below (s₁.setTop (mkF m 11 #[.val (.int p0)] [(.int (0 : Int32))])) _
    exact retN X0 hx (t := .boolean) Bd.returns (by simp) (hb hby own_d2_11) hr
  · refine Owe.step (T' := s₁) (g' := (mkF m 4 #[.val (.int p0)] [])) (fun t k => ?_) ?_
    · show Steps p.tables e below (s₁.setTop (mkF m 1 #[.val (.int p0)] [(.int p0)])) t
      refine XS.ifNo X0.here hx rfl (hb hby own_d2_1) rfl ((if0 _ _).trans (flt hc1).1) ?_
      show Steps p.tables e below (s₁.setTop (mkF m 4 #[.val (.int p0)] [])) t
      exact k
    refine Owe.step (T' := s₁) (g' := (mkF m 7 #[.val (.int p0)] [(.int (1114111 : Int32)), (.int p0)])) (fun t k => ?_) ?_
    · show Steps p.tables e below (s₁.setTop (mkF m 4 #[.val (.int p0)] [])) t
      refine XS.iloadN X0.here hx rfl (hb hby own_d2_4) rfl ?_
      show Steps p.tables e below (s₁.setTop (mkF m 5 #[.val (.int p0)] [(.int p0)])) t
      refine X0.ldcInt hx hown (mvT hZ (hw _ (List.mem_of_getElem? (i := 9) rfl))) (g := (mkF m 5 #[.val (.int p0)] [(.int p0)])) rfl (hb hby own_d2_5) _ ?_
      show Steps p.tables e below (s₁.setTop (mkF m 7 #[.val (.int p0)] [(.int (1114111 : Int32)), (.int p0)])) t
      exact k
    by_cases hc7 : (1114111 : Int32) < p0
    · refine Owe.step (T' := s₁) (g' := (mkF m 10 #[.val (.int p0)] [])) (fun t k => ?_) ?_
      · show Steps p.tables e below (s₁.setTop (mkF m 7 #[.val (.int p0)] [(.int (1114111 : Int32)), (.int p0)])) t
        refine XS.icmpNo X0.here hx rfl (hb hby own_d2_7) rfl (tlt hc7).2.2.2 ?_
        show Steps p.tables e below (s₁.setTop (mkF m 10 #[.val (.int p0)] [])) t
        exact k
      rw [show own_f2_0 p0 = (0 : Int32) from (by rw [own_f2_0, if_neg hc1, if_pos hc7])]
      refine Owe.ret X0 Bd.notSynchronized (v := (some (.int (0 : Int32)))) (fun h => by rw [Bd.returns] at h; cases h) (fun fs hr => ?_) ⟨rfl, N0, e0⟩ (by decide) (by decide)
      show Steps p.tables e below (s₁.setTop (mkF m 10 #[.val (.int p0)] [])) _
      refine XS.iconst X0.here hx rfl (hb hby own_d2_10) ?_
      show Steps p.tables e below (s₁.setTop (mkF m 11 #[.val (.int p0)] [(.int (0 : Int32))])) _
      exact retN X0 hx (t := .boolean) Bd.returns (by simp) (hb hby own_d2_11) hr
    · refine Owe.step (T' := s₁) (g' := (mkF m 12 #[.val (.int p0)] [])) (fun t k => ?_) ?_
      · show Steps p.tables e below (s₁.setTop (mkF m 7 #[.val (.int p0)] [(.int (1114111 : Int32)), (.int p0)])) t
        refine XS.icmpYes X0.here hx rfl (pc0 := 7) (pc' := 12) rfl (hb hby own_d2_7) rfl (flt hc7).2.2.2 (by decide) (by decide) ?_
        show Steps p.tables e below (s₁.setTop (mkF m 12 #[.val (.int p0)] [])) t
        exact k
      refine Owe.step (T' := s₁) (g' := (mkF m 15 #[.val (.int p0)] [(.int (32 : Int32)), (.int p0)])) (fun t k => ?_) ?_
      · show Steps p.tables e below (s₁.setTop (mkF m 12 #[.val (.int p0)] [])) t
        refine XS.iloadN X0.here hx rfl (hb hby own_d2_12) rfl ?_
        show Steps p.tables e below (s₁.setTop (mkF m 13 #[.val (.int p0)] [(.int p0)])) t
        refine XS.bipush X0.here hx rfl (hb hby own_d2_13) ?_
        show Steps p.tables e below (s₁.setTop (mkF m 15 #[.val (.int p0)] [(.int (32 : Int32)), (.int p0)])) t
        exact k
      by_cases hc15 : p0 < (32 : Int32)
      · refine Owe.step (T' := s₁) (g' := (mkF m 18 #[.val (.int p0)] [])) (fun t k => ?_) ?_
        · show Steps p.tables e below (s₁.setTop (mkF m 15 #[.val (.int p0)] [(.int (32 : Int32)), (.int p0)])) t
          refine XS.icmpNo X0.here hx rfl (hb hby own_d2_15) rfl (tlt hc15).2.1 ?_
          show Steps p.tables e below (s₁.setTop (mkF m 18 #[.val (.int p0)] [])) t
          exact k
        refine Owe.step (T' := s₁) (g' := (mkF m 21 #[.val (.int p0)] [(.int (9 : Int32)), (.int p0)])) (fun t k => ?_) ?_
        · show Steps p.tables e below (s₁.setTop (mkF m 18 #[.val (.int p0)] [])) t
          refine XS.iloadN X0.here hx rfl (hb hby own_d2_18) rfl ?_
          show Steps p.tables e below (s₁.setTop (mkF m 19 #[.val (.int p0)] [(.int p0)])) t
          refine XS.bipush X0.here hx rfl (hb hby own_d2_19) ?_
          show Steps p.tables e below (s₁.setTop (mkF m 21 #[.val (.int p0)] [(.int (9 : Int32)), (.int p0)])) t
          exact k
        by_cases hc21 : p0 = (9 : Int32)
        · refine Owe.step (T' := s₁) (g' := (mkF m 36 #[.val (.int p0)] [])) (fun t k => ?_) ?_
          · show Steps p.tables e below (s₁.setTop (mkF m 21 #[.val (.int p0)] [(.int (9 : Int32)), (.int p0)])) t
            refine XS.icmpYes X0.here hx rfl (pc0 := 21) (pc' := 36) rfl (hb hby own_d2_21) rfl (teq hc21).1 (by decide) (by decide) ?_
            show Steps p.tables e below (s₁.setTop (mkF m 36 #[.val (.int p0)] [])) t
            exact k
          rw [show own_f2_0 p0 = (1 : Int32) from (by rw [own_f2_0, if_neg hc1, if_neg hc7, if_pos hc15, if_pos hc21])]
          refine Owe.ret X0 Bd.notSynchronized (v := (some (.int (1 : Int32)))) (fun h => by rw [Bd.returns] at h; cases h) (fun fs hr => ?_) ⟨rfl, N0, e0⟩ (by decide) (by decide)
          show Steps p.tables e below (s₁.setTop (mkF m 36 #[.val (.int p0)] [])) _
          refine XS.iconst X0.here hx rfl (hb hby own_d2_36) ?_
          show Steps p.tables e below (s₁.setTop (mkF m 37 #[.val (.int p0)] [(.int (1 : Int32))])) _
          refine XS.goto X0.here hx rfl (pc0 := 37) (pc' := 41) rfl (hb hby own_d2_37) (by decide) (by decide) ?_
          show Steps p.tables e below (s₁.setTop (mkF m 41 #[.val (.int p0)] [(.int (1 : Int32))])) _
          exact retN X0 hx (t := .boolean) Bd.returns (by simp) (hb hby own_d2_41) hr
        · refine Owe.step (T' := s₁) (g' := (mkF m 24 #[.val (.int p0)] [])) (fun t k => ?_) ?_
          · show Steps p.tables e below (s₁.setTop (mkF m 21 #[.val (.int p0)] [(.int (9 : Int32)), (.int p0)])) t
            refine XS.icmpNo X0.here hx rfl (hb hby own_d2_21) rfl (feq hc21).1 ?_
            show Steps p.tables e below (s₁.setTop (mkF m 24 #[.val (.int p0)] [])) t
            exact k
          refine Owe.step (T' := s₁) (g' := (mkF m 27 #[.val (.int p0)] [(.int (10 : Int32)), (.int p0)])) (fun t k => ?_) ?_
          · show Steps p.tables e below (s₁.setTop (mkF m 24 #[.val (.int p0)] [])) t
            refine XS.iloadN X0.here hx rfl (hb hby own_d2_24) rfl ?_
            show Steps p.tables e below (s₁.setTop (mkF m 25 #[.val (.int p0)] [(.int p0)])) t
            refine XS.bipush X0.here hx rfl (hb hby own_d2_25) ?_
            show Steps p.tables e below (s₁.setTop (mkF m 27 #[.val (.int p0)] [(.int (10 : Int32)), (.int p0)])) t
            exact k
          by_cases hc27 : p0 = (10 : Int32)
          · refine Owe.step (T' := s₁) (g' := (mkF m 36 #[.val (.int p0)] [])) (fun t k => ?_) ?_
            · show Steps p.tables e below (s₁.setTop (mkF m 27 #[.val (.int p0)] [(.int (10 : Int32)), (.int p0)])) t
              refine XS.icmpYes X0.here hx rfl (pc0 := 27) (pc' := 36) rfl (hb hby own_d2_27) rfl (teq hc27).1 (by decide) (by decide) ?_
              show Steps p.tables e below (s₁.setTop (mkF m 36 #[.val (.int p0)] [])) t
              exact k
            rw [show own_f2_0 p0 = (1 : Int32) from (by rw [own_f2_0, if_neg hc1, if_neg hc7, if_pos hc15, if_neg hc21, if_pos hc27])]
            refine Owe.ret X0 Bd.notSynchronized (v := (some (.int (1 : Int32)))) (fun h => by rw [Bd.returns] at h; cases h) (fun fs hr => ?_) ⟨rfl, N0, e0⟩ (by decide) (by decide)
            show Steps p.tables e below (s₁.setTop (mkF m 36 #[.val (.int p0)] [])) _
            refine XS.iconst X0.here hx rfl (hb hby own_d2_36) ?_
            show Steps p.tables e below (s₁.setTop (mkF m 37 #[.val (.int p0)] [(.int (1 : Int32))])) _
            refine XS.goto X0.here hx rfl (pc0 := 37) (pc' := 41) rfl (hb hby own_d2_37) (by decide) (by decide) ?_
            show Steps p.tables e below (s₁.setTop (mkF m 41 #[.val (.int p0)] [(.int (1 : Int32))])) _
            exact retN X0 hx (t := .boolean) Bd.returns (by simp) (hb hby own_d2_41) hr
          · refine Owe.step (T' := s₁) (g' := (mkF m 30 #[.val (.int p0)] [])) (fun t k => ?_) ?_
            · show Steps p.tables e below (s₁.setTop (mkF m 27 #[.val (.int p0)] [(.int (10 : Int32)), (.int p0)])) t
              refine XS.icmpNo X0.here hx rfl (hb hby own_d2_27) rfl (feq hc27).1 ?_
              show Steps p.tables e below (s₁.setTop (mkF m 30 #[.val (.int p0)] [])) t
              exact k
            refine Owe.step (T' := s₁) (g' := (mkF m 33 #[.val (.int p0)] [(.int (13 : Int32)), (.int p0)])) (fun t k => ?_) ?_
            · show Steps p.tables e below (s₁.setTop (mkF m 30 #[.val (.int p0)] [])) t
              refine XS.iloadN X0.here hx rfl (hb hby own_d2_30) rfl ?_
              show Steps p.tables e below (s₁.setTop (mkF m 31 #[.val (.int p0)] [(.int p0)])) t
              refine XS.bipush X0.here hx rfl (hb hby own_d2_31) ?_
              show Steps p.tables e below (s₁.setTop (mkF m 33 #[.val (.int p0)] [(.int (13 : Int32)), (.int p0)])) t
              exact k
            by_cases hc33 : p0 = (13 : Int32)
            · refine Owe.step (T' := s₁) (g' := (mkF m 36 #[.val (.int p0)] [])) (fun t k => ?_) ?_
              · show Steps p.tables e below (s₁.setTop (mkF m 33 #[.val (.int p0)] [(.int (13 : Int32)), (.int p0)])) t
                refine XS.icmpNo X0.here hx rfl (hb hby own_d2_33) rfl (teq hc33).2 ?_
                show Steps p.tables e below (s₁.setTop (mkF m 36 #[.val (.int p0)] [])) t
                exact k
              rw [show own_f2_0 p0 = (1 : Int32) from (by rw [own_f2_0, if_neg hc1, if_neg hc7, if_pos hc15, if_neg hc21, if_neg hc27, if_pos hc33])]
              refine Owe.ret X0 Bd.notSynchronized (v := (some (.int (1 : Int32)))) (fun h => by rw [Bd.returns] at h; cases h) (fun fs hr => ?_) ⟨rfl, N0, e0⟩ (by decide) (by decide)
              show Steps p.tables e below (s₁.setTop (mkF m 36 #[.val (.int p0)] [])) _
              refine XS.iconst X0.here hx rfl (hb hby own_d2_36) ?_
              show Steps p.tables e below (s₁.setTop (mkF m 37 #[.val (.int p0)] [(.int (1 : Int32))])) _
              refine XS.goto X0.here hx rfl (pc0 := 37) (pc' := 41) rfl (hb hby own_d2_37) (by decide) (by decide) ?_
              show Steps p.tables e below (s₁.setTop (mkF m 41 #[.val (.int p0)] [(.int (1 : Int32))])) _
              exact retN X0 hx (t := .boolean) Bd.returns (by simp) (hb hby own_d2_41) hr
            · refine Owe.step (T' := s₁) (g' := (mkF m 40 #[.val (.int p0)] [])) (fun t k => ?_) ?_
              · show Steps p.tables e below (s₁.setTop (mkF m 33 #[.val (.int p0)] [(.int (13 : Int32)), (.int p0)])) t
                refine XS.icmpYes X0.here hx rfl (pc0 := 33) (pc' := 40) rfl (hb hby own_d2_33) rfl (feq hc33).2 (by decide) (by decide) ?_
                show Steps p.tables e below (s₁.setTop (mkF m 40 #[.val (.int p0)] [])) t
                exact k
              rw [show own_f2_0 p0 = (0 : Int32) from (by rw [own_f2_0, if_neg hc1, if_neg hc7, if_pos hc15, if_neg hc21, if_neg hc27, if_neg hc33])]
              refine Owe.ret X0 Bd.notSynchronized (v := (some (.int (0 : Int32)))) (fun h => by rw [Bd.returns] at h; cases h) (fun fs hr => ?_) ⟨rfl, N0, e0⟩ (by decide) (by decide)
              show Steps p.tables e below (s₁.setTop (mkF m 40 #[.val (.int p0)] [])) _
              refine XS.iconst X0.here hx rfl (hb hby own_d2_40) ?_
              show Steps p.tables e below (s₁.setTop (mkF m 41 #[.val (.int p0)] [(.int (0 : Int32))])) _
              exact retN X0 hx (t := .boolean) Bd.returns (by simp) (hb hby own_d2_41) hr
      · refine Owe.step (T' := s₁) (g' := (mkF m 42 #[.val (.int p0)] [])) (fun t k => ?_) ?_
        · show Steps p.tables e below (s₁.setTop (mkF m 15 #[.val (.int p0)] [(.int (32 : Int32)), (.int p0)])) t
          refine XS.icmpYes X0.here hx rfl (pc0 := 15) (pc' := 42) rfl (hb hby own_d2_15) rfl (flt hc15).2.1 (by decide) (by decide) ?_
          show Steps p.tables e below (s₁.setTop (mkF m 42 #[.val (.int p0)] [])) t
          exact k
        refine Owe.step (T' := s₁) (g' := (mkF m 45 #[.val (.int p0)] [(.int (55296 : Int32)), (.int p0)])) (fun t k => ?_) ?_
        · show Steps p.tables e below (s₁.setTop (mkF m 42 #[.val (.int p0)] [])) t
          refine XS.iloadN X0.here hx rfl (hb hby own_d2_42) rfl ?_
          show Steps p.tables e below (s₁.setTop (mkF m 43 #[.val (.int p0)] [(.int p0)])) t
          refine X0.ldcInt hx hown (mvT hZ (hw _ (List.mem_of_getElem? (i := 2) rfl))) (g := (mkF m 43 #[.val (.int p0)] [(.int p0)])) rfl (hb hby own_d2_43) _ ?_
          show Steps p.tables e below (s₁.setTop (mkF m 45 #[.val (.int p0)] [(.int (55296 : Int32)), (.int p0)])) t
          exact k
        have j56 : ∀ (T : State) (Lc : List Loc) (X : Stand p l e ({ frames := 0, cells := 0, slots := 0, locals := 0 } : Room) s m #[(.int p0)] below meth c T Lc 0 0) (eT : T.heap = h0) (N : Fr n0 Lc), Owe p e below s ({ frames := 0, cells := 0, slots := 0, locals := 0 } : Room).cells ({ frames := 0, cells := 0, slots := 0, locals := 0 } : Room).slots (QP (.int (own_f2_56 p0)) h0 n0) T (mkF m 56 #[.val (.int p0)] []) := by
          intro T56j Lc56j X56j e56j N56j
          refine Owe.step (T' := T56j) (g' := (mkF m 59 #[.val (.int p0)] [(.int (65534 : Int32)), (.int p0)])) (fun t k => ?_) ?_
          · show Steps p.tables e below (T56j.setTop (mkF m 56 #[.val (.int p0)] [])) t
            refine XS.iloadN X56j.here hx rfl (hb hby own_d2_56) rfl ?_
            show Steps p.tables e below (T56j.setTop (mkF m 57 #[.val (.int p0)] [(.int p0)])) t
            refine X56j.ldcInt hx hown (mvT hZ (hw _ (List.mem_of_getElem? (i := 6) rfl))) (g := (mkF m 57 #[.val (.int p0)] [(.int p0)])) rfl (hb hby own_d2_57) _ ?_
            show Steps p.tables e below (T56j.setTop (mkF m 59 #[.val (.int p0)] [(.int (65534 : Int32)), (.int p0)])) t
            exact k
          by_cases hc59 : p0 = (65534 : Int32)
          · refine Owe.step (T' := T56j) (g' := (mkF m 72 #[.val (.int p0)] [])) (fun t k => ?_) ?_
            · show Steps p.tables e below (T56j.setTop (mkF m 59 #[.val (.int p0)] [(.int (65534 : Int32)), (.int p0)])) t
              refine XS.icmpYes X56j.here hx rfl (pc0 := 59) (pc' := 72) rfl (hb hby own_d2_59) rfl (teq hc59).1 (by decide) (by decide) ?_
              show Steps p.tables e below (T56j.setTop (mkF m 72 #[.val (.int p0)] [])) t
              exact k
            rw [show own_f2_56 p0 = (0 : Int32) from (by rw [own_f2_56, if_pos hc59])]
            refine Owe.ret X56j Bd.notSynchronized (v := (some (.int (0 : Int32)))) (fun h => by rw [Bd.returns] at h; cases h) (fun fs hr => ?_) ⟨rfl, N56j, e56j⟩ (by decide) (by decide)
            show Steps p.tables e below (T56j.setTop (mkF m 72 #[.val (.int p0)] [])) _
            refine XS.iconst X56j.here hx rfl (hb hby own_d2_72) ?_
            show Steps p.tables e below (T56j.setTop (mkF m 73 #[.val (.int p0)] [(.int (0 : Int32))])) _
            exact retN X56j hx (t := .boolean) Bd.returns (by simp) (hb hby own_d2_73) hr
          · refine Owe.step (T' := T56j) (g' := (mkF m 62 #[.val (.int p0)] [])) (fun t k => ?_) ?_
            · show Steps p.tables e below (T56j.setTop (mkF m 59 #[.val (.int p0)] [(.int (65534 : Int32)), (.int p0)])) t
              refine XS.icmpNo X56j.here hx rfl (hb hby own_d2_59) rfl (feq hc59).1 ?_
              show Steps p.tables e below (T56j.setTop (mkF m 62 #[.val (.int p0)] [])) t
              exact k
            refine Owe.step (T' := T56j) (g' := (mkF m 65 #[.val (.int p0)] [(.int (65535 : Int32)), (.int p0)])) (fun t k => ?_) ?_
            · show Steps p.tables e below (T56j.setTop (mkF m 62 #[.val (.int p0)] [])) t
              refine XS.iloadN X56j.here hx rfl (hb hby own_d2_62) rfl ?_
              show Steps p.tables e below (T56j.setTop (mkF m 63 #[.val (.int p0)] [(.int p0)])) t
              refine X56j.ldcInt hx hown (mvT hZ (hw _ (List.mem_of_getElem? (i := 7) rfl))) (g := (mkF m 63 #[.val (.int p0)] [(.int p0)])) rfl (hb hby own_d2_63) _ ?_
              show Steps p.tables e below (T56j.setTop (mkF m 65 #[.val (.int p0)] [(.int (65535 : Int32)), (.int p0)])) t
              exact k
            by_cases hc65 : p0 = (65535 : Int32)
            · refine Owe.step (T' := T56j) (g' := (mkF m 72 #[.val (.int p0)] [])) (fun t k => ?_) ?_
              · show Steps p.tables e below (T56j.setTop (mkF m 65 #[.val (.int p0)] [(.int (65535 : Int32)), (.int p0)])) t
                refine XS.icmpYes X56j.here hx rfl (pc0 := 65) (pc' := 72) rfl (hb hby own_d2_65) rfl (teq hc65).1 (by decide) (by decide) ?_
                show Steps p.tables e below (T56j.setTop (mkF m 72 #[.val (.int p0)] [])) t
                exact k
              rw [show own_f2_56 p0 = (0 : Int32) from (by rw [own_f2_56, if_neg hc59, if_pos hc65])]
              refine Owe.ret X56j Bd.notSynchronized (v := (some (.int (0 : Int32)))) (fun h => by rw [Bd.returns] at h; cases h) (fun fs hr => ?_) ⟨rfl, N56j, e56j⟩ (by decide) (by decide)
              show Steps p.tables e below (T56j.setTop (mkF m 72 #[.val (.int p0)] [])) _
              refine XS.iconst X56j.here hx rfl (hb hby own_d2_72) ?_
              show Steps p.tables e below (T56j.setTop (mkF m 73 #[.val (.int p0)] [(.int (0 : Int32))])) _
              exact retN X56j hx (t := .boolean) Bd.returns (by simp) (hb hby own_d2_73) hr
            · refine Owe.step (T' := T56j) (g' := (mkF m 68 #[.val (.int p0)] [])) (fun t k => ?_) ?_
              · show Steps p.tables e below (T56j.setTop (mkF m 65 #[.val (.int p0)] [(.int (65535 : Int32)), (.int p0)])) t
                refine XS.icmpNo X56j.here hx rfl (hb hby own_d2_65) rfl (feq hc65).1 ?_
                show Steps p.tables e below (T56j.setTop (mkF m 68 #[.val (.int p0)] [])) t
                exact k
              rw [show own_f2_56 p0 = (1 : Int32) from (by rw [own_f2_56, if_neg hc59, if_neg hc65])]
              refine Owe.ret X56j Bd.notSynchronized (v := (some (.int (1 : Int32)))) (fun h => by rw [Bd.returns] at h; cases h) (fun fs hr => ?_) ⟨rfl, N56j, e56j⟩ (by decide) (by decide)
              show Steps p.tables e below (T56j.setTop (mkF m 68 #[.val (.int p0)] [])) _
              refine XS.iconst X56j.here hx rfl (hb hby own_d2_68) ?_
              show Steps p.tables e below (T56j.setTop (mkF m 69 #[.val (.int p0)] [(.int (1 : Int32))])) _
              refine XS.goto X56j.here hx rfl (pc0 := 69) (pc' := 73) rfl (hb hby own_d2_69) (by decide) (by decide) ?_
              show Steps p.tables e below (T56j.setTop (mkF m 73 #[.val (.int p0)] [(.int (1 : Int32))])) _
              exact retN X56j hx (t := .boolean) Bd.returns (by simp) (hb hby own_d2_73) hr
        by_cases hc45 : p0 < (55296 : Int32)
        · refine Owe.step (T' := s₁) (g' := (mkF m 56 #[.val (.int p0)] [])) (fun t k => ?_) ?_
          · show Steps p.tables e below (s₁.setTop (mkF m 45 #[.val (.int p0)] [(.int (55296 : Int32)), (.int p0)])) t
            refine XS.icmpYes X0.here hx rfl (pc0 := 45) (pc' := 56) rfl (hb hby own_d2_45) rfl (tlt hc45).1 (by decide) (by decide) ?_
            show Steps p.tables e below (s₁.setTop (mkF m 56 #[.val (.int p0)] [])) t
            exact k
          rw [show own_f2_0 p0 = (own_f2_56 p0) from (by rw [own_f2_0, if_neg hc1, if_neg hc7, if_neg hc15, if_pos hc45])]
          exact j56 s₁ _ X0 e0 N0
        · refine Owe.step (T' := s₁) (g' := (mkF m 48 #[.val (.int p0)] [])) (fun t k => ?_) ?_
          · show Steps p.tables e below (s₁.setTop (mkF m 45 #[.val (.int p0)] [(.int (55296 : Int32)), (.int p0)])) t
            refine XS.icmpNo X0.here hx rfl (hb hby own_d2_45) rfl (flt hc45).1 ?_
            show Steps p.tables e below (s₁.setTop (mkF m 48 #[.val (.int p0)] [])) t
            exact k
          refine Owe.step (T' := s₁) (g' := (mkF m 51 #[.val (.int p0)] [(.int (57343 : Int32)), (.int p0)])) (fun t k => ?_) ?_
          · show Steps p.tables e below (s₁.setTop (mkF m 48 #[.val (.int p0)] [])) t
            refine XS.iloadN X0.here hx rfl (hb hby own_d2_48) rfl ?_
            show Steps p.tables e below (s₁.setTop (mkF m 49 #[.val (.int p0)] [(.int p0)])) t
            refine X0.ldcInt hx hown (mvT hZ (hw _ (List.mem_of_getElem? (i := 3) rfl))) (g := (mkF m 49 #[.val (.int p0)] [(.int p0)])) rfl (hb hby own_d2_49) _ ?_
            show Steps p.tables e below (s₁.setTop (mkF m 51 #[.val (.int p0)] [(.int (57343 : Int32)), (.int p0)])) t
            exact k
          by_cases hc51 : (57343 : Int32) < p0
          · refine Owe.step (T' := s₁) (g' := (mkF m 56 #[.val (.int p0)] [])) (fun t k => ?_) ?_
            · show Steps p.tables e below (s₁.setTop (mkF m 51 #[.val (.int p0)] [(.int (57343 : Int32)), (.int p0)])) t
              refine XS.icmpYes X0.here hx rfl (pc0 := 51) (pc' := 56) rfl (hb hby own_d2_51) rfl (tlt hc51).2.2.1 (by decide) (by decide) ?_
              show Steps p.tables e below (s₁.setTop (mkF m 56 #[.val (.int p0)] [])) t
              exact k
            rw [show own_f2_0 p0 = (own_f2_56 p0) from (by rw [own_f2_0, if_neg hc1, if_neg hc7, if_neg hc15, if_neg hc45, if_pos hc51])]
            exact j56 s₁ _ X0 e0 N0
          · refine Owe.step (T' := s₁) (g' := (mkF m 54 #[.val (.int p0)] [])) (fun t k => ?_) ?_
            · show Steps p.tables e below (s₁.setTop (mkF m 51 #[.val (.int p0)] [(.int (57343 : Int32)), (.int p0)])) t
              refine XS.icmpNo X0.here hx rfl (hb hby own_d2_51) rfl (flt hc51).2.2.1 ?_
              show Steps p.tables e below (s₁.setTop (mkF m 54 #[.val (.int p0)] [])) t
              exact k
            rw [show own_f2_0 p0 = (0 : Int32) from (by rw [own_f2_0, if_neg hc1, if_neg hc7, if_neg hc15, if_neg hc45, if_neg hc51])]
            refine Owe.ret X0 Bd.notSynchronized (v := (some (.int (0 : Int32)))) (fun h => by rw [Bd.returns] at h; cases h) (fun fs hr => ?_) ⟨rfl, N0, e0⟩ (by decide) (by decide)
            show Steps p.tables e below (s₁.setTop (mkF m 54 #[.val (.int p0)] [])) _
            refine XS.iconst X0.here hx rfl (hb hby own_d2_54) ?_
            show Steps p.tables e below (s₁.setTop (mkF m 55 #[.val (.int p0)] [(.int (0 : Int32))])) _
            exact retN X0 hx (t := .boolean) Bd.returns (by simp) (hb hby own_d2_55) hr
theorem own_i16 (x : Int32) : ¬ (x &&& (15 : Int32)) < 0 ∧ (x &&& (15 : Int32)).toNatClampNeg < 16 := by
  have h := c_mask x 15 4 (by decide) (by decide)
  refine own_ix ?_ ?_ <;> omega
theorem own_pd0 : parseMethodDescriptor "(I)Z" = some ⟨[.int], some .boolean⟩ := by decide +kernel
theorem own_ef0 (m : MethodId) (p0 : Int32) (p1 : Int32) (p2 : Int32) : entryFrame m #[(.int p0), (.int p1), (.int p2)] maxLocals = mkF m 0 #[.val (.int p0), .val (.int p1), .val (.int p2), .unset, .unset, .unset, .unset] [] := by first | (simp [entryFrame, mkF, argsToLocals, Value.category, maxLocals]; done) | rfl
def own_f0_144 (t144_0 : Int32) (t124_0 : Int32) : Int32 := (if t124_0 = (0 : Int32) then (0 : Int32) else (if t144_0 = (0 : Int32) then (0 : Int32) else (1 : Int32)))
def own_f0_124 (p1 : Int32) (p2 : Int32) (t124_0 : Int32) (f17 : Nat → Int32) : Int32 := (if (own_f1_0 ((f17 ((p1 &&& (15 : Int32))).toNatClampNeg) + ((p2 &&& (3 : Int32)) - (1 : Int32)))) = (own_f2_0 ((f17 ((p1 &&& (15 : Int32))).toNatClampNeg) + ((p2 &&& (3 : Int32)) - (1 : Int32)))) then (own_f0_144 (1 : Int32) t124_0) else (own_f0_144 (0 : Int32) t124_0))
def own_f0_0 (p0 : Int32) (p1 : Int32) (p2 : Int32) (f17 : Nat → Int32) : Int32 := (if (own_f1_0 p0) = (own_f2_0 p0) then (own_f0_124 p1 p2 (1 : Int32) f17) else (own_f0_124 p1 p2 (0 : Int32) f17))
theorem own_c (x : Int32) : (own_f1_0 x = 1 ∧ (x.toInt = 9 ∨ x.toInt = 10 ∨ x.toInt = 13 ∨ (32 ≤ x.toInt ∧ x.toInt ≤ 55295) ∨ (57344 ≤ x.toInt ∧ x.toInt ≤ 65533) ∨ (65536 ≤ x.toInt ∧ x.toInt ≤ 1114111))) ∨
    (own_f1_0 x = 0 ∧ ¬ (x.toInt = 9 ∨ x.toInt = 10 ∨ x.toInt = 13 ∨ (32 ≤ x.toInt ∧ x.toInt ≤ 55295) ∨ (57344 ≤ x.toInt ∧ x.toInt ≤ 65533) ∨ (65536 ≤ x.toInt ∧ x.toInt ≤ 1114111))) := by
  have eqi : ∀ c : Int32, (x = c) = (x.toInt = c.toInt) := fun c => propext Int32.toInt_inj.symm
  simp only [own_f1_0, own_f1_30, own_f1_42, Int32.lt_iff_toInt_lt, eqi, Int32.reduceToInt]
  generalize x.toInt = t
  repeat' split
  all_goals first | exact Or.inl ⟨rfl, by omega⟩ | exact Or.inr ⟨rfl, by omega⟩
theorem own_x (x : Int32) : (own_f2_0 x = 1 ∧ (x.toInt = 9 ∨ x.toInt = 10 ∨ x.toInt = 13 ∨ (32 ≤ x.toInt ∧ x.toInt ≤ 55295) ∨ (57344 ≤ x.toInt ∧ x.toInt ≤ 65533) ∨ (65536 ≤ x.toInt ∧ x.toInt ≤ 1114111))) ∨
    (own_f2_0 x = 0 ∧ ¬ (x.toInt = 9 ∨ x.toInt = 10 ∨ x.toInt = 13 ∨ (32 ≤ x.toInt ∧ x.toInt ≤ 55295) ∨ (57344 ≤ x.toInt ∧ x.toInt ≤ 65533) ∨ (65536 ≤ x.toInt ∧ x.toInt ≤ 1114111))) := by
  have eqi : ∀ c : Int32, (x = c) = (x.toInt = c.toInt) := fun c => propext Int32.toInt_inj.symm
  simp only [own_f2_0, own_f2_56, Int32.lt_iff_toInt_lt, eqi, Int32.reduceToInt]
  generalize x.toInt = t
  repeat' split
  all_goals first | exact Or.inl ⟨rfl, by omega⟩ | exact Or.inr ⟨rfl, by omega⟩
theorem own_same (x : Int32) : own_f1_0 x = own_f2_0 x := by
  rcases own_c x with ⟨e, h⟩ | ⟨e, h⟩ <;> rcases own_x x with ⟨e', h'⟩ | ⟨e', h'⟩
  · rw [e, e']
  · exact absurd h h'
  · exact absurd h' h
  · rw [e, e']
theorem own_law (p0 p1 p2 : Int32) (f : Nat → Int32) : own_f0_0 p0 p1 p2 f = 1 := by
  have z : ¬ ((1 : Int32) = 0) := by decide
  unfold own_f0_0 own_f0_124 own_f0_144
  rw [if_pos (own_same _), if_pos (own_same _), if_neg z, if_neg z]
set_option maxRecDepth 65536 in
set_option maxHeartbeats 40000000 in
theorem own_rm0 (l : Launch) (Z : State) (a0 : Array Value) (hw : ∀ d ∈ tables_1, d.before a0 Z = true) (ws : List Jvm.Cond) (p0 : Int32) (p1 : Int32) (p2 : Int32)  (h0 : Heap) (n0 : Nat) (Z0 : n0 ≤ h0.size) :
    MetFree l x (head1 (Jvm.Cond.code x code maxLocals ret :: ws) room_1) (fun a U => a = #[(.int p0), (.int p1), (.int p2)] ∧ Z.Warmed39 U.vm ∧ U.heap = h0) (fun _ _ _ _ _ => True) (fun _ U o U' => ∃ v L, o = .returned v ∧ (QL (.int ((1 : Int32))) n0) v U'.heap L ∧ FrameEnd U o U' L 16 128) := by
  refine MetFree.of_bodySF (plainFor_of_name own_pn1) hisR ?_
  intro p e s m args below meth c s₁ Bd hml0 hP hK
  obtain ⟨rfl, hZ, hh⟩ := hP
  have hx := Bd.exec
  have hby := Bd.bytes
  have hml : c.maxLocals = 7 := hml0
  have hown : s.vm.findClass "com/example/feuillet/feuillet/xml/XmlNamesIsCharPinLaw" = some m.cls := findClass_of_methodNamed Bd.named
  have hnm := (name_of_methodNamed Bd.named Bd.method).1
  have X0 : Stand p l e room_1 s m #[(.int p0), (.int p1), (.int p2)] below meth c s₁ [] 0 0 := Stand.of_body Bd
  have e0 : s₁.heap = h0 := by rw [← hh, Bd.state]; rfl
  have N0 := Fr.nil n0
  refine Owe.step (T := s₁) (T' := s₁) (g' := (mkF m 0 #[.val (.int p0), .val (.int p1), .val (.int p2), .unset, .unset, .unset, .unset] [])) (fun t k => castTop (own_ef0 m p0 p1 p2) k) ?_
  obtain ⟨T1, h1, k1, X1, e1, E1, A1, st1⟩ := newP X0 hx hZ (hw _ (List.mem_of_getElem? (i := 0) rfl)) e0 (g := (mkF m 2 #[.val (.int p0), .val (.int p1), .val (.int p2), .unset, .unset, .unset, .unset] [(.int (16 : Int32))])) rfl (hb hby at_2) rfl (by decide) (cap := 16) (by decide) (by decide) (by decide) (by decide)
  obtain ⟨b1, g1⟩ : ∃ z, z = h0.size := ⟨_, rfl⟩
  rw [← g1] at A1 st1
  have g_b1 : n0 ≤ b1 := Nat.le_trans Z0 (Nat.le_of_eq g1.symm)
  have V1 : AI Z h1 b1 .int 16 (fun _ => (0 : Int32)) := AV.new A1 (by decide)
  obtain ⟨T2, h2, X2, e2, W2, V2, st2⟩ := stAI X1 hx hZ e1 V1 (j := (0 : Int32)) (by decide) (by decide) (g := (mkF m 7 #[.val (.int p0), .val (.int p1), .val (.int p2), .unset, .unset, .unset, .unset] [(.int (0 : Int32)), (.int (0 : Int32)), (.ref b1), (.ref b1)])) rfl rfl (hb hby at_7)
  have N2 := Fr.snoc X2 N0 g_b1
  obtain ⟨f2, ef2⟩ : ∃ z, z = own_upd (fun _ => (0 : Int32)) ((0 : Int32)).toNatClampNeg (0 : Int32) := ⟨_, rfl⟩
  rw [← ef2] at V2
  obtain ⟨T3, h3, X3, e3, W3, V3, st3⟩ := stAI X2 hx hZ e2 V2 (j := (1 : Int32)) (by decide) (by decide) (g := (mkF m 12 #[.val (.int p0), .val (.int p1), .val (.int p2), .unset, .unset, .unset, .unset] [(.int (9 : Int32)), (.int (1 : Int32)), (.ref b1), (.ref b1)])) rfl rfl (hb hby at_12)
  have N3 := Fr.snoc X3 N2 g_b1
  obtain ⟨f3, ef3⟩ : ∃ z, z = own_upd f2 ((1 : Int32)).toNatClampNeg (9 : Int32) := ⟨_, rfl⟩
  rw [← ef3] at V3
  obtain ⟨T4, h4, X4, e4, W4, V4, st4⟩ := stAI X3 hx hZ e3 V3 (j := (2 : Int32)) (by decide) (by decide) (g := (mkF m 17 #[.val (.int p0), .val (.int p1), .val (.int p2), .unset, .unset, .unset, .unset] [(.int (10 : Int32)), (.int (2 : Int32)), (.ref b1), (.ref b1)])) rfl rfl (hb hby at_17)
  have N4 := Fr.snoc X4 N3 g_b1
  obtain ⟨f4, ef4⟩ : ∃ z, z = own_upd f3 ((2 : Int32)).toNatClampNeg (10 : Int32) := ⟨_, rfl⟩
  rw [← ef4] at V4
  obtain ⟨T5, h5, X5, e5, W5, V5, st5⟩ := stAI X4 hx hZ e4 V4 (j := (3 : Int32)) (by decide) (by decide) (g := (mkF m 22 #[.val (.int p0), .val (.int p1), .val (.int p2), .unset, .unset, .unset, .unset] [(.int (13 : Int32)), (.int (3 : Int32)), (.ref b1), (.ref b1)])) rfl rfl (hb hby at_22)
  have N5 := Fr.snoc X5 N4 g_b1
  obtain ⟨f5, ef5⟩ : ∃ z, z = own_upd f4 ((3 : Int32)).toNatClampNeg (13 : Int32) := ⟨_, rfl⟩
  rw [← ef5] at V5
  obtain ⟨T6, h6, X6, e6, W6, V6, st6⟩ := stAI X5 hx hZ e5 V5 (j := (4 : Int32)) (by decide) (by decide) (g := (mkF m 27 #[.val (.int p0), .val (.int p1), .val (.int p2), .unset, .unset, .unset, .unset] [(.int (32 : Int32)), (.int (4 : Int32)), (.ref b1), (.ref b1)])) rfl rfl (hb hby at_27)
  have N6 := Fr.snoc X6 N5 g_b1
  obtain ⟨f6, ef6⟩ : ∃ z, z = own_upd f5 ((4 : Int32)).toNatClampNeg (32 : Int32) := ⟨_, rfl⟩
  rw [← ef6] at V6
  obtain ⟨T7, h7, X7, e7, W7, V7, st7⟩ := stAI X6 hx hZ e6 V6 (j := (5 : Int32)) (by decide) (by decide) (g := (mkF m 32 #[.val (.int p0), .val (.int p1), .val (.int p2), .unset, .unset, .unset, .unset] [(.int (55295 : Int32)), (.int (5 : Int32)), (.ref b1), (.ref b1)])) rfl rfl (hb hby at_32)
  have N7 := Fr.snoc X7 N6 g_b1
  obtain ⟨f7, ef7⟩ : ∃ z, z = own_upd f6 ((5 : Int32)).toNatClampNeg (55295 : Int32) := ⟨_, rfl⟩
  rw [← ef7] at V7
  obtain ⟨T8, h8, X8, e8, W8, V8, st8⟩ := stAI X7 hx hZ e7 V7 (j := (6 : Int32)) (by decide) (by decide) (g := (mkF m 38 #[.val (.int p0), .val (.int p1), .val (.int p2), .unset, .unset, .unset, .unset] [(.int (55296 : Int32)), (.int (6 : Int32)), (.ref b1), (.ref b1)])) rfl rfl (hb hby at_38)
  have N8 := Fr.snoc X8 N7 g_b1
  obtain ⟨f8, ef8⟩ : ∃ z, z = own_upd f7 ((6 : Int32)).toNatClampNeg (55296 : Int32) := ⟨_, rfl⟩
  rw [← ef8] at V8
  obtain ⟨T9, h9, X9, e9, W9, V9, st9⟩ := stAI X8 hx hZ e8 V8 (j := (7 : Int32)) (by decide) (by decide) (g := (mkF m 44 #[.val (.int p0), .val (.int p1), .val (.int p2), .unset, .unset, .unset, .unset] [(.int (57343 : Int32)), (.int (7 : Int32)), (.ref b1), (.ref b1)])) rfl rfl (hb hby at_44)
  have N9 := Fr.snoc X9 N8 g_b1
  obtain ⟨f9, ef9⟩ : ∃ z, z = own_upd f8 ((7 : Int32)).toNatClampNeg (57343 : Int32) := ⟨_, rfl⟩
  rw [← ef9] at V9
  obtain ⟨T10, h10, X10, e10, W10, V10, st10⟩ := stAI X9 hx hZ e9 V9 (j := (8 : Int32)) (by decide) (by decide) (g := (mkF m 50 #[.val (.int p0), .val (.int p1), .val (.int p2), .unset, .unset, .unset, .unset] [(.int (57344 : Int32)), (.int (8 : Int32)), (.ref b1), (.ref b1)])) rfl rfl (hb hby at_50)
  have N10 := Fr.snoc X10 N9 g_b1
  obtain ⟨f10, ef10⟩ : ∃ z, z = own_upd f9 ((8 : Int32)).toNatClampNeg (57344 : Int32) := ⟨_, rfl⟩
  rw [← ef10] at V10
  obtain ⟨T11, h11, X11, e11, W11, V11, st11⟩ := stAI X10 hx hZ e10 V10 (j := (9 : Int32)) (by decide) (by decide) (g := (mkF m 56 #[.val (.int p0), .val (.int p1), .val (.int p2), .unset, .unset, .unset, .unset] [(.int (65533 : Int32)), (.int (9 : Int32)), (.ref b1), (.ref b1)])) rfl rfl (hb hby at_56)
  have N11 := Fr.snoc X11 N10 g_b1
  obtain ⟨f11, ef11⟩ : ∃ z, z = own_upd f10 ((9 : Int32)).toNatClampNeg (65533 : Int32) := ⟨_, rfl⟩
  rw [← ef11] at V11
  obtain ⟨T12, h12, X12, e12, W12, V12, st12⟩ := stAI X11 hx hZ e11 V11 (j := (10 : Int32)) (by decide) (by decide) (g := (mkF m 62 #[.val (.int p0), .val (.int p1), .val (.int p2), .unset, .unset, .unset, .unset] [(.int (65534 : Int32)), (.int (10 : Int32)), (.ref b1), (.ref b1)])) rfl rfl (hb hby at_62)
  have N12 := Fr.snoc X12 N11 g_b1
  obtain ⟨f12, ef12⟩ : ∃ z, z = own_upd f11 ((10 : Int32)).toNatClampNeg (65534 : Int32) := ⟨_, rfl⟩
  rw [← ef12] at V12
  obtain ⟨T13, h13, X13, e13, W13, V13, st13⟩ := stAI X12 hx hZ e12 V12 (j := (11 : Int32)) (by decide) (by decide) (g := (mkF m 68 #[.val (.int p0), .val (.int p1), .val (.int p2), .unset, .unset, .unset, .unset] [(.int (65535 : Int32)), (.int (11 : Int32)), (.ref b1), (.ref b1)])) rfl rfl (hb hby at_68)
  have N13 := Fr.snoc X13 N12 g_b1
  obtain ⟨f13, ef13⟩ : ∃ z, z = own_upd f12 ((11 : Int32)).toNatClampNeg (65535 : Int32) := ⟨_, rfl⟩
  rw [← ef13] at V13
  obtain ⟨T14, h14, X14, e14, W14, V14, st14⟩ := stAI X13 hx hZ e13 V13 (j := (12 : Int32)) (by decide) (by decide) (g := (mkF m 74 #[.val (.int p0), .val (.int p1), .val (.int p2), .unset, .unset, .unset, .unset] [(.int (65536 : Int32)), (.int (12 : Int32)), (.ref b1), (.ref b1)])) rfl rfl (hb hby at_74)
  have N14 := Fr.snoc X14 N13 g_b1
  obtain ⟨f14, ef14⟩ : ∃ z, z = own_upd f13 ((12 : Int32)).toNatClampNeg (65536 : Int32) := ⟨_, rfl⟩
  rw [← ef14] at V14
  obtain ⟨T15, h15, X15, e15, W15, V15, st15⟩ := stAI X14 hx hZ e14 V14 (j := (13 : Int32)) (by decide) (by decide) (g := (mkF m 80 #[.val (.int p0), .val (.int p1), .val (.int p2), .unset, .unset, .unset, .unset] [(.int (1114111 : Int32)), (.int (13 : Int32)), (.ref b1), (.ref b1)])) rfl rfl (hb hby at_80)
  have N15 := Fr.snoc X15 N14 g_b1
  obtain ⟨f15, ef15⟩ : ∃ z, z = own_upd f14 ((13 : Int32)).toNatClampNeg (1114111 : Int32) := ⟨_, rfl⟩
  rw [← ef15] at V15
  obtain ⟨T16, h16, X16, e16, W16, V16, st16⟩ := stAI X15 hx hZ e15 V15 (j := (14 : Int32)) (by decide) (by decide) (g := (mkF m 86 #[.val (.int p0), .val (.int p1), .val (.int p2), .unset, .unset, .unset, .unset] [(.int (1114112 : Int32)), (.int (14 : Int32)), (.ref b1), (.ref b1)])) rfl rfl (hb hby at_86)
  have N16 := Fr.snoc X16 N15 g_b1
  obtain ⟨f16, ef16⟩ : ∃ z, z = own_upd f15 ((14 : Int32)).toNatClampNeg (1114112 : Int32) := ⟨_, rfl⟩
  rw [← ef16] at V16
  obtain ⟨T17, h17, X17, e17, W17, V17, st17⟩ := stAI X16 hx hZ e16 V16 (j := (15 : Int32)) (by decide) (by decide) (g := (mkF m 92 #[.val (.int p0), .val (.int p1), .val (.int p2), .unset, .unset, .unset, .unset] [(.int (-2147483648 : Int32)), (.int (15 : Int32)), (.ref b1), (.ref b1)])) rfl rfl (hb hby at_92)
  have N17 := Fr.snoc X17 N16 g_b1
  obtain ⟨f17, ef17⟩ : ∃ z, z = own_upd f16 ((15 : Int32)).toNatClampNeg (-2147483648 : Int32) := ⟨_, rfl⟩
  rw [← ef17] at V17
  obtain ⟨_, _, ⟨T18, L18, k18, n18⟩, -, X18, ⟨Lc18, hQ18, l18, y18, z18⟩, st18⟩ := Jvm.LawKit.callS X17 hx (y := (⟨"com/example/feuillet/feuillet/xml/XmlNames", "isChar", "(I)Z"⟩ : MethodName)) hown (mvT hZ (hw _ (List.mem_of_getElem? (i := 12) rfl))) (mvT hZ (hw _ (List.mem_of_getElem? (i := 13) rfl))) (mvT hZ (hw _ (List.mem_of_getElem? (i := 14) rfl))) (mvT hZ (hw _ (List.mem_of_getElem? (i := 15) rfl))) (by decide) (backOf (W := 0) (own_rm1 l Z a0 hw [] p0 h17 n0 (Nat.le_trans (Nat.le_trans (Nat.le_trans (Nat.le_trans (Nat.le_trans (Nat.le_trans (Nat.le_trans (Nat.le_trans (Nat.le_trans (Nat.le_trans (Nat.le_trans (Nat.le_trans (Nat.le_trans (Nat.le_trans (Nat.le_trans (Nat.le_trans (Nat.le_trans Z0 E1.1) (Keep.of_wr W2).1) (Keep.of_wr W3).1) (Keep.of_wr W4).1) (Keep.of_wr W5).1) (Keep.of_wr W6).1) (Keep.of_wr W7).1) (Keep.of_wr W8).1) (Keep.of_wr W9).1) (Keep.of_wr W10).1) (Keep.of_wr W11).1) (Keep.of_wr W12).1) (Keep.of_wr W13).1) (Keep.of_wr W14).1) (Keep.of_wr W15).1) (Keep.of_wr W16).1) (Keep.of_wr W17).1) ) hZ (hw _ (List.mem_of_getElem? (i := 15) rfl)) (hw _ (List.mem_of_getElem? (i := 14) rfl)) (by decide) (by decide)) (g := (mkF m 109 #[.val (.int p0), .val (.int p1), .val (.int p2), .val (.ref b1), .val (.int ((f17 ((p1 &&& (15 : Int32))).toNatClampNeg) + ((p2 &&& (3 : Int32)) - (1 : Int32)))), .unset, .unset] [(.int p0)])) rfl (by rw [hml]; rfl) (argsL := [(.int p0)]) (rest := []) (lenOf own_pd0 rfl) rfl (by show 2 * 0 + _ ≤ _; exact Nat.le_of_eq rfl) (hb hby at_109) (fun _ _ => ⟨rfl, e17, (by decide : 1 + 0 ≤ _), (by decide : 16 + 0 ≤ _)⟩)
  dsimp only [Pt.U, Pt.locs, Pt.cells, Pt.slots] at X18 l18 y18 z18 st18 hQ18
  subst l18 y18 z18
  obtain ⟨rfl, N18q, e18⟩ := hQ18
  have N18 := Fr.app N17 N18q
  obtain ⟨_, _, ⟨T19, L19, k19, n19⟩, -, X19, ⟨Lc19, hQ19, l19, y19, z19⟩, st19⟩ := Jvm.LawKit.callS X18 hx (y := (⟨"com/example/feuillet/feuillet/xml/XmlNamesIsCharPinLaw", "ref", "(I)Z"⟩ : MethodName)) hown (mvT hZ (hw _ (List.mem_of_getElem? (i := 18) rfl))) (mvT hZ (hw _ (List.mem_of_getElem? (i := 19) rfl))) (mvT hZ (hw _ (List.mem_of_getElem? (i := 20) rfl))) (mvT hZ (hw _ (List.mem_of_getElem? (i := 21) rfl))) (by decide) (backOf (W := 1) (own_rm2 l Z a0 hw [] p0 h17 n0 (Nat.le_trans (Nat.le_trans (Nat.le_trans (Nat.le_trans (Nat.le_trans (Nat.le_trans (Nat.le_trans (Nat.le_trans (Nat.le_trans (Nat.le_trans (Nat.le_trans (Nat.le_trans (Nat.le_trans (Nat.le_trans (Nat.le_trans (Nat.le_trans (Nat.le_trans Z0 E1.1) (Keep.of_wr W2).1) (Keep.of_wr W3).1) (Keep.of_wr W4).1) (Keep.of_wr W5).1) (Keep.of_wr W6).1) (Keep.of_wr W7).1) (Keep.of_wr W8).1) (Keep.of_wr W9).1) (Keep.of_wr W10).1) (Keep.of_wr W11).1) (Keep.of_wr W12).1) (Keep.of_wr W13).1) (Keep.of_wr W14).1) (Keep.of_wr W15).1) (Keep.of_wr W16).1) (Keep.of_wr W17).1) ) hZ (hw _ (List.mem_of_getElem? (i := 21) rfl)) (hw _ (List.mem_of_getElem? (i := 20) rfl)) (by decide) (by decide)) (g := (mkF m 113 #[.val (.int p0), .val (.int p1), .val (.int p2), .val (.ref b1), .val (.int ((f17 ((p1 &&& (15 : Int32))).toNatClampNeg) + ((p2 &&& (3 : Int32)) - (1 : Int32)))), .unset, .unset] [(.int p0), (.int (own_f1_0 p0))])) rfl (by rw [hml]; rfl) (argsL := [(.int p0)]) (rest := [(.int (own_f1_0 p0))]) (lenOf own_pd0 rfl) rfl (by show 2 * 0 + _ ≤ _; exact Nat.le_of_eq rfl) (hb hby at_113) (fun _ _ => ⟨rfl, e18, (by decide : 1 + 0 ≤ _), (by decide : 16 + 0 ≤ _)⟩)
  dsimp only [Pt.U, Pt.locs, Pt.cells, Pt.slots] at X19 l19 y19 z19 st19 hQ19
  subst l19 y19 z19
  obtain ⟨rfl, N19q, e19⟩ := hQ19
  have N19 := Fr.app N18 N19q
  refine Owe.step (T' := T19) (g' := (mkF m 116 #[.val (.int p0), .val (.int p1), .val (.int p2), .val (.ref b1), .val (.int ((f17 ((p1 &&& (15 : Int32))).toNatClampNeg) + ((p2 &&& (3 : Int32)) - (1 : Int32)))), .unset, .unset] [(.int (own_f2_0 p0)), (.int (own_f1_0 p0))])) (fun t k => ?_) ?_
  · show Steps p.tables e below (s₁.setTop (mkF m 0 #[.val (.int p0), .val (.int p1), .val (.int p2), .unset, .unset, .unset, .unset] [])) t
    refine XS.bipush X0.here hx rfl (hb hby at_0) ?_
    show Steps p.tables e below (s₁.setTop (mkF m 2 #[.val (.int p0), .val (.int p1), .val (.int p2), .unset, .unset, .unset, .unset] [(.int (16 : Int32))])) t
    refine st1 _ ?_
    show Steps p.tables e below (T1.setTop (mkF m 4 #[.val (.int p0), .val (.int p1), .val (.int p2), .unset, .unset, .unset, .unset] [(.ref b1)])) t
    refine XS.dup X1.here hx rfl (hb hby at_4) rfl rfl ?_
    show Steps p.tables e below (T1.setTop (mkF m 5 #[.val (.int p0), .val (.int p1), .val (.int p2), .unset, .unset, .unset, .unset] [(.ref b1), (.ref b1)])) t
    refine XS.iconst X1.here hx rfl (hb hby at_5) ?_
    show Steps p.tables e below (T1.setTop (mkF m 6 #[.val (.int p0), .val (.int p1), .val (.int p2), .unset, .unset, .unset, .unset] [(.int (0 : Int32)), (.ref b1), (.ref b1)])) t
    refine XS.iconst X1.here hx rfl (hb hby at_6) ?_
    show Steps p.tables e below (T1.setTop (mkF m 7 #[.val (.int p0), .val (.int p1), .val (.int p2), .unset, .unset, .unset, .unset] [(.int (0 : Int32)), (.int (0 : Int32)), (.ref b1), (.ref b1)])) t
    refine st2 _ ?_
    show Steps p.tables e below (T2.setTop (mkF m 8 #[.val (.int p0), .val (.int p1), .val (.int p2), .unset, .unset, .unset, .unset] [(.ref b1)])) t
    refine XS.dup X2.here hx rfl (hb hby at_8) rfl rfl ?_
    show Steps p.tables e below (T2.setTop (mkF m 9 #[.val (.int p0), .val (.int p1), .val (.int p2), .unset, .unset, .unset, .unset] [(.ref b1), (.ref b1)])) t
    refine XS.iconst X2.here hx rfl (hb hby at_9) ?_
    show Steps p.tables e below (T2.setTop (mkF m 10 #[.val (.int p0), .val (.int p1), .val (.int p2), .unset, .unset, .unset, .unset] [(.int (1 : Int32)), (.ref b1), (.ref b1)])) t
    refine XS.bipush X2.here hx rfl (hb hby at_10) ?_
    show Steps p.tables e below (T2.setTop (mkF m 12 #[.val (.int p0), .val (.int p1), .val (.int p2), .unset, .unset, .unset, .unset] [(.int (9 : Int32)), (.int (1 : Int32)), (.ref b1), (.ref b1)])) t
    refine st3 _ ?_
    show Steps p.tables e below (T3.setTop (mkF m 13 #[.val (.int p0), .val (.int p1), .val (.int p2), .unset, .unset, .unset, .unset] [(.ref b1)])) t
    refine XS.dup X3.here hx rfl (hb hby at_13) rfl rfl ?_
    show Steps p.tables e below (T3.setTop (mkF m 14 #[.val (.int p0), .val (.int p1), .val (.int p2), .unset, .unset, .unset, .unset] [(.ref b1), (.ref b1)])) t
    refine XS.iconst X3.here hx rfl (hb hby at_14) ?_
    show Steps p.tables e below (T3.setTop (mkF m 15 #[.val (.int p0), .val (.int p1), .val (.int p2), .unset, .unset, .unset, .unset] [(.int (2 : Int32)), (.ref b1), (.ref b1)])) t
    refine XS.bipush X3.here hx rfl (hb hby at_15) ?_
    show Steps p.tables e below (T3.setTop (mkF m 17 #[.val (.int p0), .val (.int p1), .val (.int p2), .unset, .unset, .unset, .unset] [(.int (10 : Int32)), (.int (2 : Int32)), (.ref b1), (.ref b1)])) t
    refine st4 _ ?_
    show Steps p.tables e below (T4.setTop (mkF m 18 #[.val (.int p0), .val (.int p1), .val (.int p2), .unset, .unset, .unset, .unset] [(.ref b1)])) t
    refine XS.dup X4.here hx rfl (hb hby at_18) rfl rfl ?_
    show Steps p.tables e below (T4.setTop (mkF m 19 #[.val (.int p0), .val (.int p1), .val (.int p2), .unset, .unset, .unset, .unset] [(.ref b1), (.ref b1)])) t
    refine XS.iconst X4.here hx rfl (hb hby at_19) ?_
    show Steps p.tables e below (T4.setTop (mkF m 20 #[.val (.int p0), .val (.int p1), .val (.int p2), .unset, .unset, .unset, .unset] [(.int (3 : Int32)), (.ref b1), (.ref b1)])) t
    refine XS.bipush X4.here hx rfl (hb hby at_20) ?_
    show Steps p.tables e below (T4.setTop (mkF m 22 #[.val (.int p0), .val (.int p1), .val (.int p2), .unset, .unset, .unset, .unset] [(.int (13 : Int32)), (.int (3 : Int32)), (.ref b1), (.ref b1)])) t
    refine st5 _ ?_
    show Steps p.tables e below (T5.setTop (mkF m 23 #[.val (.int p0), .val (.int p1), .val (.int p2), .unset, .unset, .unset, .unset] [(.ref b1)])) t
    refine XS.dup X5.here hx rfl (hb hby at_23) rfl rfl ?_
    show Steps p.tables e below (T5.setTop (mkF m 24 #[.val (.int p0), .val (.int p1), .val (.int p2), .unset, .unset, .unset, .unset] [(.ref b1), (.ref b1)])) t
    refine XS.iconst X5.here hx rfl (hb hby at_24) ?_
    show Steps p.tables e below (T5.setTop (mkF m 25 #[.val (.int p0), .val (.int p1), .val (.int p2), .unset, .unset, .unset, .unset] [(.int (4 : Int32)), (.ref b1), (.ref b1)])) t
    refine XS.bipush X5.here hx rfl (hb hby at_25) ?_
    show Steps p.tables e below (T5.setTop (mkF m 27 #[.val (.int p0), .val (.int p1), .val (.int p2), .unset, .unset, .unset, .unset] [(.int (32 : Int32)), (.int (4 : Int32)), (.ref b1), (.ref b1)])) t
    refine st6 _ ?_
    show Steps p.tables e below (T6.setTop (mkF m 28 #[.val (.int p0), .val (.int p1), .val (.int p2), .unset, .unset, .unset, .unset] [(.ref b1)])) t
    refine XS.dup X6.here hx rfl (hb hby at_28) rfl rfl ?_
    show Steps p.tables e below (T6.setTop (mkF m 29 #[.val (.int p0), .val (.int p1), .val (.int p2), .unset, .unset, .unset, .unset] [(.ref b1), (.ref b1)])) t
    refine XS.iconst X6.here hx rfl (hb hby at_29) ?_
    show Steps p.tables e below (T6.setTop (mkF m 30 #[.val (.int p0), .val (.int p1), .val (.int p2), .unset, .unset, .unset, .unset] [(.int (5 : Int32)), (.ref b1), (.ref b1)])) t
    refine X6.ldcInt hx hown (mvT hZ (hw _ (List.mem_of_getElem? (i := 1) rfl))) (g := (mkF m 30 #[.val (.int p0), .val (.int p1), .val (.int p2), .unset, .unset, .unset, .unset] [(.int (5 : Int32)), (.ref b1), (.ref b1)])) rfl (hb hby at_30) _ ?_
    show Steps p.tables e below (T6.setTop (mkF m 32 #[.val (.int p0), .val (.int p1), .val (.int p2), .unset, .unset, .unset, .unset] [(.int (55295 : Int32)), (.int (5 : Int32)), (.ref b1), (.ref b1)])) t
    refine st7 _ ?_
    show Steps p.tables e below (T7.setTop (mkF m 33 #[.val (.int p0), .val (.int p1), .val (.int p2), .unset, .unset, .unset, .unset] [(.ref b1)])) t
    refine XS.dup X7.here hx rfl (hb hby at_33) rfl rfl ?_
    show Steps p.tables e below (T7.setTop (mkF m 34 #[.val (.int p0), .val (.int p1), .val (.int p2), .unset, .unset, .unset, .unset] [(.ref b1), (.ref b1)])) t
    refine XS.bipush X7.here hx rfl (hb hby at_34) ?_
    show Steps p.tables e below (T7.setTop (mkF m 36 #[.val (.int p0), .val (.int p1), .val (.int p2), .unset, .unset, .unset, .unset] [(.int (6 : Int32)), (.ref b1), (.ref b1)])) t
    refine X7.ldcInt hx hown (mvT hZ (hw _ (List.mem_of_getElem? (i := 2) rfl))) (g := (mkF m 36 #[.val (.int p0), .val (.int p1), .val (.int p2), .unset, .unset, .unset, .unset] [(.int (6 : Int32)), (.ref b1), (.ref b1)])) rfl (hb hby at_36) _ ?_
    show Steps p.tables e below (T7.setTop (mkF m 38 #[.val (.int p0), .val (.int p1), .val (.int p2), .unset, .unset, .unset, .unset] [(.int (55296 : Int32)), (.int (6 : Int32)), (.ref b1), (.ref b1)])) t
    refine st8 _ ?_
    show Steps p.tables e below (T8.setTop (mkF m 39 #[.val (.int p0), .val (.int p1), .val (.int p2), .unset, .unset, .unset, .unset] [(.ref b1)])) t
    refine XS.dup X8.here hx rfl (hb hby at_39) rfl rfl ?_
    show Steps p.tables e below (T8.setTop (mkF m 40 #[.val (.int p0), .val (.int p1), .val (.int p2), .unset, .unset, .unset, .unset] [(.ref b1), (.ref b1)])) t
    refine XS.bipush X8.here hx rfl (hb hby at_40) ?_
    show Steps p.tables e below (T8.setTop (mkF m 42 #[.val (.int p0), .val (.int p1), .val (.int p2), .unset, .unset, .unset, .unset] [(.int (7 : Int32)), (.ref b1), (.ref b1)])) t
    refine X8.ldcInt hx hown (mvT hZ (hw _ (List.mem_of_getElem? (i := 3) rfl))) (g := (mkF m 42 #[.val (.int p0), .val (.int p1), .val (.int p2), .unset, .unset, .unset, .unset] [(.int (7 : Int32)), (.ref b1), (.ref b1)])) rfl (hb hby at_42) _ ?_
    show Steps p.tables e below (T8.setTop (mkF m 44 #[.val (.int p0), .val (.int p1), .val (.int p2), .unset, .unset, .unset, .unset] [(.int (57343 : Int32)), (.int (7 : Int32)), (.ref b1), (.ref b1)])) t
    refine st9 _ ?_
    show Steps p.tables e below (T9.setTop (mkF m 45 #[.val (.int p0), .val (.int p1), .val (.int p2), .unset, .unset, .unset, .unset] [(.ref b1)])) t
    refine XS.dup X9.here hx rfl (hb hby at_45) rfl rfl ?_
    show Steps p.tables e below (T9.setTop (mkF m 46 #[.val (.int p0), .val (.int p1), .val (.int p2), .unset, .unset, .unset, .unset] [(.ref b1), (.ref b1)])) t
    refine XS.bipush X9.here hx rfl (hb hby at_46) ?_
    show Steps p.tables e below (T9.setTop (mkF m 48 #[.val (.int p0), .val (.int p1), .val (.int p2), .unset, .unset, .unset, .unset] [(.int (8 : Int32)), (.ref b1), (.ref b1)])) t
    refine X9.ldcInt hx hown (mvT hZ (hw _ (List.mem_of_getElem? (i := 4) rfl))) (g := (mkF m 48 #[.val (.int p0), .val (.int p1), .val (.int p2), .unset, .unset, .unset, .unset] [(.int (8 : Int32)), (.ref b1), (.ref b1)])) rfl (hb hby at_48) _ ?_
    show Steps p.tables e below (T9.setTop (mkF m 50 #[.val (.int p0), .val (.int p1), .val (.int p2), .unset, .unset, .unset, .unset] [(.int (57344 : Int32)), (.int (8 : Int32)), (.ref b1), (.ref b1)])) t
    refine st10 _ ?_
    show Steps p.tables e below (T10.setTop (mkF m 51 #[.val (.int p0), .val (.int p1), .val (.int p2), .unset, .unset, .unset, .unset] [(.ref b1)])) t
    refine XS.dup X10.here hx rfl (hb hby at_51) rfl rfl ?_
    show Steps p.tables e below (T10.setTop (mkF m 52 #[.val (.int p0), .val (.int p1), .val (.int p2), .unset, .unset, .unset, .unset] [(.ref b1), (.ref b1)])) t
    refine XS.bipush X10.here hx rfl (hb hby at_52) ?_
    show Steps p.tables e below (T10.setTop (mkF m 54 #[.val (.int p0), .val (.int p1), .val (.int p2), .unset, .unset, .unset, .unset] [(.int (9 : Int32)), (.ref b1), (.ref b1)])) t
    refine X10.ldcInt hx hown (mvT hZ (hw _ (List.mem_of_getElem? (i := 5) rfl))) (g := (mkF m 54 #[.val (.int p0), .val (.int p1), .val (.int p2), .unset, .unset, .unset, .unset] [(.int (9 : Int32)), (.ref b1), (.ref b1)])) rfl (hb hby at_54) _ ?_
    show Steps p.tables e below (T10.setTop (mkF m 56 #[.val (.int p0), .val (.int p1), .val (.int p2), .unset, .unset, .unset, .unset] [(.int (65533 : Int32)), (.int (9 : Int32)), (.ref b1), (.ref b1)])) t
    refine st11 _ ?_
    show Steps p.tables e below (T11.setTop (mkF m 57 #[.val (.int p0), .val (.int p1), .val (.int p2), .unset, .unset, .unset, .unset] [(.ref b1)])) t
    refine XS.dup X11.here hx rfl (hb hby at_57) rfl rfl ?_
    show Steps p.tables e below (T11.setTop (mkF m 58 #[.val (.int p0), .val (.int p1), .val (.int p2), .unset, .unset, .unset, .unset] [(.ref b1), (.ref b1)])) t
    refine XS.bipush X11.here hx rfl (hb hby at_58) ?_
    show Steps p.tables e below (T11.setTop (mkF m 60 #[.val (.int p0), .val (.int p1), .val (.int p2), .unset, .unset, .unset, .unset] [(.int (10 : Int32)), (.ref b1), (.ref b1)])) t
    refine X11.ldcInt hx hown (mvT hZ (hw _ (List.mem_of_getElem? (i := 6) rfl))) (g := (mkF m 60 #[.val (.int p0), .val (.int p1), .val (.int p2), .unset, .unset, .unset, .unset] [(.int (10 : Int32)), (.ref b1), (.ref b1)])) rfl (hb hby at_60) _ ?_
    show Steps p.tables e below (T11.setTop (mkF m 62 #[.val (.int p0), .val (.int p1), .val (.int p2), .unset, .unset, .unset, .unset] [(.int (65534 : Int32)), (.int (10 : Int32)), (.ref b1), (.ref b1)])) t
    refine st12 _ ?_
    show Steps p.tables e below (T12.setTop (mkF m 63 #[.val (.int p0), .val (.int p1), .val (.int p2), .unset, .unset, .unset, .unset] [(.ref b1)])) t
    refine XS.dup X12.here hx rfl (hb hby at_63) rfl rfl ?_
    show Steps p.tables e below (T12.setTop (mkF m 64 #[.val (.int p0), .val (.int p1), .val (.int p2), .unset, .unset, .unset, .unset] [(.ref b1), (.ref b1)])) t
    refine XS.bipush X12.here hx rfl (hb hby at_64) ?_
    show Steps p.tables e below (T12.setTop (mkF m 66 #[.val (.int p0), .val (.int p1), .val (.int p2), .unset, .unset, .unset, .unset] [(.int (11 : Int32)), (.ref b1), (.ref b1)])) t
    refine X12.ldcInt hx hown (mvT hZ (hw _ (List.mem_of_getElem? (i := 7) rfl))) (g := (mkF m 66 #[.val (.int p0), .val (.int p1), .val (.int p2), .unset, .unset, .unset, .unset] [(.int (11 : Int32)), (.ref b1), (.ref b1)])) rfl (hb hby at_66) _ ?_
    show Steps p.tables e below (T12.setTop (mkF m 68 #[.val (.int p0), .val (.int p1), .val (.int p2), .unset, .unset, .unset, .unset] [(.int (65535 : Int32)), (.int (11 : Int32)), (.ref b1), (.ref b1)])) t
    refine st13 _ ?_
    show Steps p.tables e below (T13.setTop (mkF m 69 #[.val (.int p0), .val (.int p1), .val (.int p2), .unset, .unset, .unset, .unset] [(.ref b1)])) t
    refine XS.dup X13.here hx rfl (hb hby at_69) rfl rfl ?_
    show Steps p.tables e below (T13.setTop (mkF m 70 #[.val (.int p0), .val (.int p1), .val (.int p2), .unset, .unset, .unset, .unset] [(.ref b1), (.ref b1)])) t
    refine XS.bipush X13.here hx rfl (hb hby at_70) ?_
    show Steps p.tables e below (T13.setTop (mkF m 72 #[.val (.int p0), .val (.int p1), .val (.int p2), .unset, .unset, .unset, .unset] [(.int (12 : Int32)), (.ref b1), (.ref b1)])) t
    refine X13.ldcInt hx hown (mvT hZ (hw _ (List.mem_of_getElem? (i := 8) rfl))) (g := (mkF m 72 #[.val (.int p0), .val (.int p1), .val (.int p2), .unset, .unset, .unset, .unset] [(.int (12 : Int32)), (.ref b1), (.ref b1)])) rfl (hb hby at_72) _ ?_
    show Steps p.tables e below (T13.setTop (mkF m 74 #[.val (.int p0), .val (.int p1), .val (.int p2), .unset, .unset, .unset, .unset] [(.int (65536 : Int32)), (.int (12 : Int32)), (.ref b1), (.ref b1)])) t
    refine st14 _ ?_
    show Steps p.tables e below (T14.setTop (mkF m 75 #[.val (.int p0), .val (.int p1), .val (.int p2), .unset, .unset, .unset, .unset] [(.ref b1)])) t
    refine XS.dup X14.here hx rfl (hb hby at_75) rfl rfl ?_
    show Steps p.tables e below (T14.setTop (mkF m 76 #[.val (.int p0), .val (.int p1), .val (.int p2), .unset, .unset, .unset, .unset] [(.ref b1), (.ref b1)])) t
    refine XS.bipush X14.here hx rfl (hb hby at_76) ?_
    show Steps p.tables e below (T14.setTop (mkF m 78 #[.val (.int p0), .val (.int p1), .val (.int p2), .unset, .unset, .unset, .unset] [(.int (13 : Int32)), (.ref b1), (.ref b1)])) t
    refine X14.ldcInt hx hown (mvT hZ (hw _ (List.mem_of_getElem? (i := 9) rfl))) (g := (mkF m 78 #[.val (.int p0), .val (.int p1), .val (.int p2), .unset, .unset, .unset, .unset] [(.int (13 : Int32)), (.ref b1), (.ref b1)])) rfl (hb hby at_78) _ ?_
    show Steps p.tables e below (T14.setTop (mkF m 80 #[.val (.int p0), .val (.int p1), .val (.int p2), .unset, .unset, .unset, .unset] [(.int (1114111 : Int32)), (.int (13 : Int32)), (.ref b1), (.ref b1)])) t
    refine st15 _ ?_
    show Steps p.tables e below (T15.setTop (mkF m 81 #[.val (.int p0), .val (.int p1), .val (.int p2), .unset, .unset, .unset, .unset] [(.ref b1)])) t
    refine XS.dup X15.here hx rfl (hb hby at_81) rfl rfl ?_
    show Steps p.tables e below (T15.setTop (mkF m 82 #[.val (.int p0), .val (.int p1), .val (.int p2), .unset, .unset, .unset, .unset] [(.ref b1), (.ref b1)])) t
    refine XS.bipush X15.here hx rfl (hb hby at_82) ?_
    show Steps p.tables e below (T15.setTop (mkF m 84 #[.val (.int p0), .val (.int p1), .val (.int p2), .unset, .unset, .unset, .unset] [(.int (14 : Int32)), (.ref b1), (.ref b1)])) t
    refine X15.ldcInt hx hown (mvT hZ (hw _ (List.mem_of_getElem? (i := 10) rfl))) (g := (mkF m 84 #[.val (.int p0), .val (.int p1), .val (.int p2), .unset, .unset, .unset, .unset] [(.int (14 : Int32)), (.ref b1), (.ref b1)])) rfl (hb hby at_84) _ ?_
    show Steps p.tables e below (T15.setTop (mkF m 86 #[.val (.int p0), .val (.int p1), .val (.int p2), .unset, .unset, .unset, .unset] [(.int (1114112 : Int32)), (.int (14 : Int32)), (.ref b1), (.ref b1)])) t
    refine st16 _ ?_
    show Steps p.tables e below (T16.setTop (mkF m 87 #[.val (.int p0), .val (.int p1), .val (.int p2), .unset, .unset, .unset, .unset] [(.ref b1)])) t
    refine XS.dup X16.here hx rfl (hb hby at_87) rfl rfl ?_
    show Steps p.tables e below (T16.setTop (mkF m 88 #[.val (.int p0), .val (.int p1), .val (.int p2), .unset, .unset, .unset, .unset] [(.ref b1), (.ref b1)])) t
    refine XS.bipush X16.here hx rfl (hb hby at_88) ?_
    show Steps p.tables e below (T16.setTop (mkF m 90 #[.val (.int p0), .val (.int p1), .val (.int p2), .unset, .unset, .unset, .unset] [(.int (15 : Int32)), (.ref b1), (.ref b1)])) t
    refine X16.ldcInt hx hown (mvT hZ (hw _ (List.mem_of_getElem? (i := 11) rfl))) (g := (mkF m 90 #[.val (.int p0), .val (.int p1), .val (.int p2), .unset, .unset, .unset, .unset] [(.int (15 : Int32)), (.ref b1), (.ref b1)])) rfl (hb hby at_90) _ ?_
    show Steps p.tables e below (T16.setTop (mkF m 92 #[.val (.int p0), .val (.int p1), .val (.int p2), .unset, .unset, .unset, .unset] [(.int (-2147483648 : Int32)), (.int (15 : Int32)), (.ref b1), (.ref b1)])) t
    refine st17 _ ?_
    show Steps p.tables e below (T17.setTop (mkF m 93 #[.val (.int p0), .val (.int p1), .val (.int p2), .unset, .unset, .unset, .unset] [(.ref b1)])) t
    refine XS.astoreN X17.here hx rfl (hb hby at_93) rfl rfl (l' := #[.val (.int p0), .val (.int p1), .val (.int p2), .val (.ref b1), .unset, .unset, .unset]) rfl ?_
    show Steps p.tables e below (T17.setTop (mkF m 94 #[.val (.int p0), .val (.int p1), .val (.int p2), .val (.ref b1), .unset, .unset, .unset] [])) t
    refine XS.aloadN X17.here hx rfl (hb hby at_94) rfl rfl ?_
    show Steps p.tables e below (T17.setTop (mkF m 95 #[.val (.int p0), .val (.int p1), .val (.int p2), .val (.ref b1), .unset, .unset, .unset] [(.ref b1)])) t
    refine XS.iloadN X17.here hx rfl (hb hby at_95) rfl ?_
    show Steps p.tables e below (T17.setTop (mkF m 96 #[.val (.int p0), .val (.int p1), .val (.int p2), .val (.ref b1), .unset, .unset, .unset] [(.int p1), (.ref b1)])) t
    refine XS.bipush X17.here hx rfl (hb hby at_96) ?_
    show Steps p.tables e below (T17.setTop (mkF m 98 #[.val (.int p0), .val (.int p1), .val (.int p2), .val (.ref b1), .unset, .unset, .unset] [(.int (15 : Int32)), (.int p1), (.ref b1)])) t
    refine XS.iand X17.here hx rfl (hb hby at_98) rfl ?_
    show Steps p.tables e below (T17.setTop (mkF m 99 #[.val (.int p0), .val (.int p1), .val (.int p2), .val (.ref b1), .unset, .unset, .unset] [(.int (p1 &&& (15 : Int32))), (.ref b1)])) t
    refine ldAI X17 hx hZ e17 V17 (j := (p1 &&& (15 : Int32))) (own_i16 p1).1 (own_i16 p1).2 (g := (mkF m 99 #[.val (.int p0), .val (.int p1), .val (.int p2), .val (.ref b1), .unset, .unset, .unset] [(.int (p1 &&& (15 : Int32))), (.ref b1)])) rfl rfl (hb hby at_99) _ ?_
    show Steps p.tables e below (T17.setTop (mkF m 100 #[.val (.int p0), .val (.int p1), .val (.int p2), .val (.ref b1), .unset, .unset, .unset] [(.int (f17 ((p1 &&& (15 : Int32))).toNatClampNeg))])) t
    refine XS.iloadN X17.here hx rfl (hb hby at_100) rfl ?_
    show Steps p.tables e below (T17.setTop (mkF m 101 #[.val (.int p0), .val (.int p1), .val (.int p2), .val (.ref b1), .unset, .unset, .unset] [(.int p2), (.int (f17 ((p1 &&& (15 : Int32))).toNatClampNeg))])) t
    refine XS.iconst X17.here hx rfl (hb hby at_101) ?_
    show Steps p.tables e below (T17.setTop (mkF m 102 #[.val (.int p0), .val (.int p1), .val (.int p2), .val (.ref b1), .unset, .unset, .unset] [(.int (3 : Int32)), (.int p2), (.int (f17 ((p1 &&& (15 : Int32))).toNatClampNeg))])) t
    refine XS.iand X17.here hx rfl (hb hby at_102) rfl ?_
    show Steps p.tables e below (T17.setTop (mkF m 103 #[.val (.int p0), .val (.int p1), .val (.int p2), .val (.ref b1), .unset, .unset, .unset] [(.int (p2 &&& (3 : Int32))), (.int (f17 ((p1 &&& (15 : Int32))).toNatClampNeg))])) t
    refine XS.iconst X17.here hx rfl (hb hby at_103) ?_
    show Steps p.tables e below (T17.setTop (mkF m 104 #[.val (.int p0), .val (.int p1), .val (.int p2), .val (.ref b1), .unset, .unset, .unset] [(.int (1 : Int32)), (.int (p2 &&& (3 : Int32))), (.int (f17 ((p1 &&& (15 : Int32))).toNatClampNeg))])) t
    refine XS.isub X17.here hx rfl (hb hby at_104) rfl ?_
    show Steps p.tables e below (T17.setTop (mkF m 105 #[.val (.int p0), .val (.int p1), .val (.int p2), .val (.ref b1), .unset, .unset, .unset] [(.int ((p2 &&& (3 : Int32)) - (1 : Int32))), (.int (f17 ((p1 &&& (15 : Int32))).toNatClampNeg))])) t
    refine XS.iadd X17.here hx rfl (hb hby at_105) rfl ?_
    show Steps p.tables e below (T17.setTop (mkF m 106 #[.val (.int p0), .val (.int p1), .val (.int p2), .val (.ref b1), .unset, .unset, .unset] [(.int ((f17 ((p1 &&& (15 : Int32))).toNatClampNeg) + ((p2 &&& (3 : Int32)) - (1 : Int32))))])) t
    refine XS.istore X17.here hx rfl (hb hby at_106) rfl (l' := #[.val (.int p0), .val (.int p1), .val (.int p2), .val (.ref b1), .val (.int ((f17 ((p1 &&& (15 : Int32))).toNatClampNeg) + ((p2 &&& (3 : Int32)) - (1 : Int32)))), .unset, .unset]) rfl ?_
    show Steps p.tables e below (T17.setTop (mkF m 108 #[.val (.int p0), .val (.int p1), .val (.int p2), .val (.ref b1), .val (.int ((f17 ((p1 &&& (15 : Int32))).toNatClampNeg) + ((p2 &&& (3 : Int32)) - (1 : Int32)))), .unset, .unset] [])) t
    refine XS.iloadN X17.here hx rfl (hb hby at_108) rfl ?_
    show Steps p.tables e below (T17.setTop (mkF m 109 #[.val (.int p0), .val (.int p1), .val (.int p2), .val (.ref b1), .val (.int ((f17 ((p1 &&& (15 : Int32))).toNatClampNeg) + ((p2 &&& (3 : Int32)) - (1 : Int32)))), .unset, .unset] [(.int p0)])) t
    refine st18 _ ?_
    show Steps p.tables e below (T18.setTop (mkF m 112 #[.val (.int p0), .val (.int p1), .val (.int p2), .val (.ref b1), .val (.int ((f17 ((p1 &&& (15 : Int32))).toNatClampNeg) + ((p2 &&& (3 : Int32)) - (1 : Int32)))), .unset, .unset] [(.int (own_f1_0 p0))])) t
    refine XS.iloadN X18.here hx rfl (hb hby at_112) rfl ?_
    show Steps p.tables e below (T18.setTop (mkF m 113 #[.val (.int p0), .val (.int p1), .val (.int p2), .val (.ref b1), .val (.int ((f17 ((p1 &&& (15 : Int32))).toNatClampNeg) + ((p2 &&& (3 : Int32)) - (1 : Int32)))), .unset, .unset] [(.int p0), (.int (own_f1_0 p0))])) t
    refine st19 _ ?_
    show Steps p.tables e below (T19.setTop (mkF m 116 #[.val (.int p0), .val (.int p1), .val (.int p2), .val (.ref b1), .val (.int ((f17 ((p1 &&& (15 : Int32))).toNatClampNeg) + ((p2 &&& (3 : Int32)) - (1 : Int32)))), .unset, .unset] [(.int (own_f2_0 p0)), (.int (own_f1_0 p0))])) t
    exact k
  have j124 : ∀ (T : State) (Lc : List Loc) (X : Stand p l e room_1 s m #[(.int p0), (.int p1), (.int p2)] below meth c T Lc 1 16) (eT : T.heap = h17) (N : Fr n0 Lc) (t124_0 : Int32), Owe p e below s 16 128 (QL (.int (own_f0_124 p1 p2 t124_0 f17)) n0) T (mkF m 124 #[.val (.int p0), .val (.int p1), .val (.int p2), .val (.ref b1), .val (.int ((f17 ((p1 &&& (15 : Int32))).toNatClampNeg) + ((p2 &&& (3 : Int32)) - (1 : Int32)))), .unset, .unset] [(.int t124_0)]) := by
    intro T124j Lc124j X124j e124j N124j t124_0
    obtain ⟨_, _, ⟨T20, L20, k20, n20⟩, -, X20, ⟨Lc20, hQ20, l20, y20, z20⟩, st20⟩ := Jvm.LawKit.callS X124j hx (y := (⟨"com/example/feuillet/feuillet/xml/XmlNames", "isChar", "(I)Z"⟩ : MethodName)) hown (mvT hZ (hw _ (List.mem_of_getElem? (i := 12) rfl))) (mvT hZ (hw _ (List.mem_of_getElem? (i := 13) rfl))) (mvT hZ (hw _ (List.mem_of_getElem? (i := 14) rfl))) (mvT hZ (hw _ (List.mem_of_getElem? (i := 15) rfl))) (by decide) (backOf (W := 0) (own_rm1 l Z a0 hw [] ((f17 ((p1 &&& (15 : Int32))).toNatClampNeg) + ((p2 &&& (3 : Int32)) - (1 : Int32))) h17 n0 (Nat.le_trans (Nat.le_trans (Nat.le_trans (Nat.le_trans (Nat.le_trans (Nat.le_trans (Nat.le_trans (Nat.le_trans (Nat.le_trans (Nat.le_trans (Nat.le_trans (Nat.le_trans (Nat.le_trans (Nat.le_trans (Nat.le_trans (Nat.le_trans (Nat.le_trans Z0 E1.1) (Keep.of_wr W2).1) (Keep.of_wr W3).1) (Keep.of_wr W4).1) (Keep.of_wr W5).1) (Keep.of_wr W6).1) (Keep.of_wr W7).1) (Keep.of_wr W8).1) (Keep.of_wr W9).1) (Keep.of_wr W10).1) (Keep.of_wr W11).1) (Keep.of_wr W12).1) (Keep.of_wr W13).1) (Keep.of_wr W14).1) (Keep.of_wr W15).1) (Keep.of_wr W16).1) (Keep.of_wr W17).1) ) hZ (hw _ (List.mem_of_getElem? (i := 15) rfl)) (hw _ (List.mem_of_getElem? (i := 14) rfl)) (by decide) (by decide)) (g := (mkF m 128 #[.val (.int p0), .val (.int p1), .val (.int p2), .val (.ref b1), .val (.int ((f17 ((p1 &&& (15 : Int32))).toNatClampNeg) + ((p2 &&& (3 : Int32)) - (1 : Int32)))), .val (.int t124_0), .unset] [(.int ((f17 ((p1 &&& (15 : Int32))).toNatClampNeg) + ((p2 &&& (3 : Int32)) - (1 : Int32))))])) rfl (by rw [hml]; rfl) (argsL := [(.int ((f17 ((p1 &&& (15 : Int32))).toNatClampNeg) + ((p2 &&& (3 : Int32)) - (1 : Int32))))]) (rest := []) (lenOf own_pd0 rfl) rfl (by show 2 * 0 + _ ≤ _; exact Nat.le_of_eq rfl) (hb hby at_128) (fun _ _ => ⟨rfl, e124j, (by decide : 1 + 0 ≤ _), (by decide : 16 + 0 ≤ _)⟩)
    dsimp only [Pt.U, Pt.locs, Pt.cells, Pt.slots] at X20 l20 y20 z20 st20 hQ20
    subst l20 y20 z20
    obtain ⟨rfl, N20q, e20⟩ := hQ20
    have N20 := Fr.app N124j N20q
    obtain ⟨_, _, ⟨T21, L21, k21, n21⟩, -, X21, ⟨Lc21, hQ21, l21, y21, z21⟩, st21⟩ := Jvm.LawKit.callS X20 hx (y := (⟨"com/example/feuillet/feuillet/xml/XmlNamesIsCharPinLaw", "ref", "(I)Z"⟩ : MethodName)) hown (mvT hZ (hw _ (List.mem_of_getElem? (i := 18) rfl))) (mvT hZ (hw _ (List.mem_of_getElem? (i := 19) rfl))) (mvT hZ (hw _ (List.mem_of_getElem? (i := 20) rfl))) (mvT hZ (hw _ (List.mem_of_getElem? (i := 21) rfl))) (by decide) (backOf (W := 1) (own_rm2 l Z a0 hw [] ((f17 ((p1 &&& (15 : Int32))).toNatClampNeg) + ((p2 &&& (3 : Int32)) - (1 : Int32))) h17 n0 (Nat.le_trans (Nat.le_trans (Nat.le_trans (Nat.le_trans (Nat.le_trans (Nat.le_trans (Nat.le_trans (Nat.le_trans (Nat.le_trans (Nat.le_trans (Nat.le_trans (Nat.le_trans (Nat.le_trans (Nat.le_trans (Nat.le_trans (Nat.le_trans (Nat.le_trans Z0 E1.1) (Keep.of_wr W2).1) (Keep.of_wr W3).1) (Keep.of_wr W4).1) (Keep.of_wr W5).1) (Keep.of_wr W6).1) (Keep.of_wr W7).1) (Keep.of_wr W8).1) (Keep.of_wr W9).1) (Keep.of_wr W10).1) (Keep.of_wr W11).1) (Keep.of_wr W12).1) (Keep.of_wr W13).1) (Keep.of_wr W14).1) (Keep.of_wr W15).1) (Keep.of_wr W16).1) (Keep.of_wr W17).1) ) hZ (hw _ (List.mem_of_getElem? (i := 21) rfl)) (hw _ (List.mem_of_getElem? (i := 20) rfl)) (by decide) (by decide)) (g := (mkF m 133 #[.val (.int p0), .val (.int p1), .val (.int p2), .val (.ref b1), .val (.int ((f17 ((p1 &&& (15 : Int32))).toNatClampNeg) + ((p2 &&& (3 : Int32)) - (1 : Int32)))), .val (.int t124_0), .unset] [(.int ((f17 ((p1 &&& (15 : Int32))).toNatClampNeg) + ((p2 &&& (3 : Int32)) - (1 : Int32)))), (.int (own_f1_0 ((f17 ((p1 &&& (15 : Int32))).toNatClampNeg) + ((p2 &&& (3 : Int32)) - (1 : Int32)))))])) rfl (by rw [hml]; rfl) (argsL := [(.int ((f17 ((p1 &&& (15 : Int32))).toNatClampNeg) + ((p2 &&& (3 : Int32)) - (1 : Int32))))]) (rest := [(.int (own_f1_0 ((f17 ((p1 &&& (15 : Int32))).toNatClampNeg) + ((p2 &&& (3 : Int32)) - (1 : Int32)))))]) (lenOf own_pd0 rfl) rfl (by show 2 * 0 + _ ≤ _; exact Nat.le_of_eq rfl) (hb hby at_133) (fun _ _ => ⟨rfl, e20, (by decide : 1 + 0 ≤ _), (by decide : 16 + 0 ≤ _)⟩)
    dsimp only [Pt.U, Pt.locs, Pt.cells, Pt.slots] at X21 l21 y21 z21 st21 hQ21
    subst l21 y21 z21
    obtain ⟨rfl, N21q, e21⟩ := hQ21
    have N21 := Fr.app N20 N21q
    refine Owe.step (T' := T21) (g' := (mkF m 136 #[.val (.int p0), .val (.int p1), .val (.int p2), .val (.ref b1), .val (.int ((f17 ((p1 &&& (15 : Int32))).toNatClampNeg) + ((p2 &&& (3 : Int32)) - (1 : Int32)))), .val (.int t124_0), .unset] [(.int (own_f2_0 ((f17 ((p1 &&& (15 : Int32))).toNatClampNeg) + ((p2 &&& (3 : Int32)) - (1 : Int32))))), (.int (own_f1_0 ((f17 ((p1 &&& (15 : Int32))).toNatClampNeg) + ((p2 &&& (3 : Int32)) - (1 : Int32)))))])) (fun t k => ?_) ?_
    · show Steps p.tables e below (T124j.setTop (mkF m 124 #[.val (.int p0), .val (.int p1), .val (.int p2), .val (.ref b1), .val (.int ((f17 ((p1 &&& (15 : Int32))).toNatClampNeg) + ((p2 &&& (3 : Int32)) - (1 : Int32)))), .unset, .unset] [(.int t124_0)])) t
      refine XS.istore X124j.here hx rfl (hb hby at_124) rfl (l' := #[.val (.int p0), .val (.int p1), .val (.int p2), .val (.ref b1), .val (.int ((f17 ((p1 &&& (15 : Int32))).toNatClampNeg) + ((p2 &&& (3 : Int32)) - (1 : Int32)))), .val (.int t124_0), .unset]) rfl ?_
      show Steps p.tables e below (T124j.setTop (mkF m 126 #[.val (.int p0), .val (.int p1), .val (.int p2), .val (.ref b1), .val (.int ((f17 ((p1 &&& (15 : Int32))).toNatClampNeg) + ((p2 &&& (3 : Int32)) - (1 : Int32)))), .val (.int t124_0), .unset] [])) t
      refine XS.iload X124j.here hx rfl (hb hby at_126) rfl ?_
      show Steps p.tables e below (T124j.setTop (mkF m 128 #[.val (.int p0), .val (.int p1), .val (.int p2), .val (.ref b1), .val (.int ((f17 ((p1 &&& (15 : Int32))).toNatClampNeg) + ((p2 &&& (3 : Int32)) - (1 : Int32)))), .val (.int t124_0), .unset] [(.int ((f17 ((p1 &&& (15 : Int32))).toNatClampNeg) + ((p2 &&& (3 : Int32)) - (1 : Int32))))])) t
      refine st20 _ ?_
      show Steps p.tables e below (T20.setTop (mkF m 131 #[.val (.int p0), .val (.int p1), .val (.int p2), .val (.ref b1), .val (.int ((f17 ((p1 &&& (15 : Int32))).toNatClampNeg) + ((p2 &&& (3 : Int32)) - (1 : Int32)))), .val (.int t124_0), .unset] [(.int (own_f1_0 ((f17 ((p1 &&& (15 : Int32))).toNatClampNeg) + ((p2 &&& (3 : Int32)) - (1 : Int32)))))])) t
      refine XS.iload X20.here hx rfl (hb hby at_131) rfl ?_
      show Steps p.tables e below (T20.setTop (mkF m 133 #[.val (.int p0), .val (.int p1), .val (.int p2), .val (.ref b1), .val (.int ((f17 ((p1 &&& (15 : Int32))).toNatClampNeg) + ((p2 &&& (3 : Int32)) - (1 : Int32)))), .val (.int t124_0), .unset] [(.int ((f17 ((p1 &&& (15 : Int32))).toNatClampNeg) + ((p2 &&& (3 : Int32)) - (1 : Int32)))), (.int (own_f1_0 ((f17 ((p1 &&& (15 : Int32))).toNatClampNeg) + ((p2 &&& (3 : Int32)) - (1 : Int32)))))])) t
      refine st21 _ ?_
      show Steps p.tables e below (T21.setTop (mkF m 136 #[.val (.int p0), .val (.int p1), .val (.int p2), .val (.ref b1), .val (.int ((f17 ((p1 &&& (15 : Int32))).toNatClampNeg) + ((p2 &&& (3 : Int32)) - (1 : Int32)))), .val (.int t124_0), .unset] [(.int (own_f2_0 ((f17 ((p1 &&& (15 : Int32))).toNatClampNeg) + ((p2 &&& (3 : Int32)) - (1 : Int32))))), (.int (own_f1_0 ((f17 ((p1 &&& (15 : Int32))).toNatClampNeg) + ((p2 &&& (3 : Int32)) - (1 : Int32)))))])) t
      exact k
    have j144 : ∀ (T : State) (Lc : List Loc) (X : Stand p l e room_1 s m #[(.int p0), (.int p1), (.int p2)] below meth c T Lc 1 16) (eT : T.heap = h17) (N : Fr n0 Lc) (t144_0 : Int32), Owe p e below s 16 128 (QL (.int (own_f0_144 t144_0 t124_0)) n0) T (mkF m 144 #[.val (.int p0), .val (.int p1), .val (.int p2), .val (.ref b1), .val (.int ((f17 ((p1 &&& (15 : Int32))).toNatClampNeg) + ((p2 &&& (3 : Int32)) - (1 : Int32)))), .val (.int t124_0), .unset] [(.int t144_0)]) := by
      intro T144j Lc144j X144j e144j N144j t144_0
      refine Owe.step (T' := T144j) (g' := (mkF m 148 #[.val (.int p0), .val (.int p1), .val (.int p2), .val (.ref b1), .val (.int ((f17 ((p1 &&& (15 : Int32))).toNatClampNeg) + ((p2 &&& (3 : Int32)) - (1 : Int32)))), .val (.int t124_0), .val (.int t144_0)] [(.int t124_0)])) (fun t k => ?_) ?_
      · show Steps p.tables e below (T144j.setTop (mkF m 144 #[.val (.int p0), .val (.int p1), .val (.int p2), .val (.ref b1), .val (.int ((f17 ((p1 &&& (15 : Int32))).toNatClampNeg) + ((p2 &&& (3 : Int32)) - (1 : Int32)))), .val (.int t124_0), .unset] [(.int t144_0)])) t
        refine XS.istore X144j.here hx rfl (hb hby at_144) rfl (l' := #[.val (.int p0), .val (.int p1), .val (.int p2), .val (.ref b1), .val (.int ((f17 ((p1 &&& (15 : Int32))).toNatClampNeg) + ((p2 &&& (3 : Int32)) - (1 : Int32)))), .val (.int t124_0), .val (.int t144_0)]) rfl ?_
        show Steps p.tables e below (T144j.setTop (mkF m 146 #[.val (.int p0), .val (.int p1), .val (.int p2), .val (.ref b1), .val (.int ((f17 ((p1 &&& (15 : Int32))).toNatClampNeg) + ((p2 &&& (3 : Int32)) - (1 : Int32)))), .val (.int t124_0), .val (.int t144_0)] [])) t
        refine XS.iload X144j.here hx rfl (hb hby at_146) rfl ?_
        show Steps p.tables e below (T144j.setTop (mkF m 148 #[.val (.int p0), .val (.int p1), .val (.int p2), .val (.ref b1), .val (.int ((f17 ((p1 &&& (15 : Int32))).toNatClampNeg) + ((p2 &&& (3 : Int32)) - (1 : Int32)))), .val (.int t124_0), .val (.int t144_0)] [(.int t124_0)])) t
        exact k
      by_cases hc148 : t124_0 = (0 : Int32)
      · refine Owe.step (T' := T144j) (g' := (mkF m 160 #[.val (.int p0), .val (.int p1), .val (.int p2), .val (.ref b1), .val (.int ((f17 ((p1 &&& (15 : Int32))).toNatClampNeg) + ((p2 &&& (3 : Int32)) - (1 : Int32)))), .val (.int t124_0), .val (.int t144_0)] [])) (fun t k => ?_) ?_
        · show Steps p.tables e below (T144j.setTop (mkF m 148 #[.val (.int p0), .val (.int p1), .val (.int p2), .val (.ref b1), .val (.int ((f17 ((p1 &&& (15 : Int32))).toNatClampNeg) + ((p2 &&& (3 : Int32)) - (1 : Int32)))), .val (.int t124_0), .val (.int t144_0)] [(.int t124_0)])) t
          refine XS.ifYes X144j.here hx rfl (pc0 := 148) (pc' := 160) rfl (hb hby at_148) rfl ((if0 _ _).trans (teq hc148).1) (by decide) (by decide) ?_
          show Steps p.tables e below (T144j.setTop (mkF m 160 #[.val (.int p0), .val (.int p1), .val (.int p2), .val (.ref b1), .val (.int ((f17 ((p1 &&& (15 : Int32))).toNatClampNeg) + ((p2 &&& (3 : Int32)) - (1 : Int32)))), .val (.int t124_0), .val (.int t144_0)] [])) t
          exact k
        rw [show own_f0_144 t144_0 t124_0 = (0 : Int32) from (by rw [own_f0_144, if_pos hc148])]
        refine Owe.ret X144j Bd.notSynchronized (v := (some (.int (0 : Int32)))) (fun h => by rw [Bd.returns] at h; cases h) (fun fs hr => ?_) ⟨rfl, N144j⟩ (by decide) (by decide)
        show Steps p.tables e below (T144j.setTop (mkF m 160 #[.val (.int p0), .val (.int p1), .val (.int p2), .val (.ref b1), .val (.int ((f17 ((p1 &&& (15 : Int32))).toNatClampNeg) + ((p2 &&& (3 : Int32)) - (1 : Int32)))), .val (.int t124_0), .val (.int t144_0)] [])) _
        refine XS.iconst X144j.here hx rfl (hb hby at_160) ?_
        show Steps p.tables e below (T144j.setTop (mkF m 161 #[.val (.int p0), .val (.int p1), .val (.int p2), .val (.ref b1), .val (.int ((f17 ((p1 &&& (15 : Int32))).toNatClampNeg) + ((p2 &&& (3 : Int32)) - (1 : Int32)))), .val (.int t124_0), .val (.int t144_0)] [(.int (0 : Int32))])) _
        exact retN X144j hx (t := .boolean) Bd.returns (by simp) (hb hby at_161) hr
      · refine Owe.step (T' := T144j) (g' := (mkF m 151 #[.val (.int p0), .val (.int p1), .val (.int p2), .val (.ref b1), .val (.int ((f17 ((p1 &&& (15 : Int32))).toNatClampNeg) + ((p2 &&& (3 : Int32)) - (1 : Int32)))), .val (.int t124_0), .val (.int t144_0)] [])) (fun t k => ?_) ?_
        · show Steps p.tables e below (T144j.setTop (mkF m 148 #[.val (.int p0), .val (.int p1), .val (.int p2), .val (.ref b1), .val (.int ((f17 ((p1 &&& (15 : Int32))).toNatClampNeg) + ((p2 &&& (3 : Int32)) - (1 : Int32)))), .val (.int t124_0), .val (.int t144_0)] [(.int t124_0)])) t
          refine XS.ifNo X144j.here hx rfl (hb hby at_148) rfl ((if0 _ _).trans (feq hc148).1) ?_
          show Steps p.tables e below (T144j.setTop (mkF m 151 #[.val (.int p0), .val (.int p1), .val (.int p2), .val (.ref b1), .val (.int ((f17 ((p1 &&& (15 : Int32))).toNatClampNeg) + ((p2 &&& (3 : Int32)) - (1 : Int32)))), .val (.int t124_0), .val (.int t144_0)] [])) t
          exact k
        refine Owe.step (T' := T144j) (g' := (mkF m 153 #[.val (.int p0), .val (.int p1), .val (.int p2), .val (.ref b1), .val (.int ((f17 ((p1 &&& (15 : Int32))).toNatClampNeg) + ((p2 &&& (3 : Int32)) - (1 : Int32)))), .val (.int t124_0), .val (.int t144_0)] [(.int t144_0)])) (fun t k => ?_) ?_
        · show Steps p.tables e below (T144j.setTop (mkF m 151 #[.val (.int p0), .val (.int p1), .val (.int p2), .val (.ref b1), .val (.int ((f17 ((p1 &&& (15 : Int32))).toNatClampNeg) + ((p2 &&& (3 : Int32)) - (1 : Int32)))), .val (.int t124_0), .val (.int t144_0)] [])) t
          refine XS.iload X144j.here hx rfl (hb hby at_151) rfl ?_
          show Steps p.tables e below (T144j.setTop (mkF m 153 #[.val (.int p0), .val (.int p1), .val (.int p2), .val (.ref b1), .val (.int ((f17 ((p1 &&& (15 : Int32))).toNatClampNeg) + ((p2 &&& (3 : Int32)) - (1 : Int32)))), .val (.int t124_0), .val (.int t144_0)] [(.int t144_0)])) t
          exact k
        by_cases hc153 : t144_0 = (0 : Int32)
        · refine Owe.step (T' := T144j) (g' := (mkF m 160 #[.val (.int p0), .val (.int p1), .val (.int p2), .val (.ref b1), .val (.int ((f17 ((p1 &&& (15 : Int32))).toNatClampNeg) + ((p2 &&& (3 : Int32)) - (1 : Int32)))), .val (.int t124_0), .val (.int t144_0)] [])) (fun t k => ?_) ?_
          · show Steps p.tables e below (T144j.setTop (mkF m 153 #[.val (.int p0), .val (.int p1), .val (.int p2), .val (.ref b1), .val (.int ((f17 ((p1 &&& (15 : Int32))).toNatClampNeg) + ((p2 &&& (3 : Int32)) - (1 : Int32)))), .val (.int t124_0), .val (.int t144_0)] [(.int t144_0)])) t
            refine XS.ifYes X144j.here hx rfl (pc0 := 153) (pc' := 160) rfl (hb hby at_153) rfl ((if0 _ _).trans (teq hc153).1) (by decide) (by decide) ?_
            show Steps p.tables e below (T144j.setTop (mkF m 160 #[.val (.int p0), .val (.int p1), .val (.int p2), .val (.ref b1), .val (.int ((f17 ((p1 &&& (15 : Int32))).toNatClampNeg) + ((p2 &&& (3 : Int32)) - (1 : Int32)))), .val (.int t124_0), .val (.int t144_0)] [])) t
            exact k
          rw [show own_f0_144 t144_0 t124_0 = (0 : Int32) from (by rw [own_f0_144, if_neg hc148, if_pos hc153])]
          refine Owe.ret X144j Bd.notSynchronized (v := (some (.int (0 : Int32)))) (fun h => by rw [Bd.returns] at h; cases h) (fun fs hr => ?_) ⟨rfl, N144j⟩ (by decide) (by decide)
          show Steps p.tables e below (T144j.setTop (mkF m 160 #[.val (.int p0), .val (.int p1), .val (.int p2), .val (.ref b1), .val (.int ((f17 ((p1 &&& (15 : Int32))).toNatClampNeg) + ((p2 &&& (3 : Int32)) - (1 : Int32)))), .val (.int t124_0), .val (.int t144_0)] [])) _
          refine XS.iconst X144j.here hx rfl (hb hby at_160) ?_
          show Steps p.tables e below (T144j.setTop (mkF m 161 #[.val (.int p0), .val (.int p1), .val (.int p2), .val (.ref b1), .val (.int ((f17 ((p1 &&& (15 : Int32))).toNatClampNeg) + ((p2 &&& (3 : Int32)) - (1 : Int32)))), .val (.int t124_0), .val (.int t144_0)] [(.int (0 : Int32))])) _
          exact retN X144j hx (t := .boolean) Bd.returns (by simp) (hb hby at_161) hr
        · refine Owe.step (T' := T144j) (g' := (mkF m 156 #[.val (.int p0), .val (.int p1), .val (.int p2), .val (.ref b1), .val (.int ((f17 ((p1 &&& (15 : Int32))).toNatClampNeg) + ((p2 &&& (3 : Int32)) - (1 : Int32)))), .val (.int t124_0), .val (.int t144_0)] [])) (fun t k => ?_) ?_
          · show Steps p.tables e below (T144j.setTop (mkF m 153 #[.val (.int p0), .val (.int p1), .val (.int p2), .val (.ref b1), .val (.int ((f17 ((p1 &&& (15 : Int32))).toNatClampNeg) + ((p2 &&& (3 : Int32)) - (1 : Int32)))), .val (.int t124_0), .val (.int t144_0)] [(.int t144_0)])) t
            refine XS.ifNo X144j.here hx rfl (hb hby at_153) rfl ((if0 _ _).trans (feq hc153).1) ?_
            show Steps p.tables e below (T144j.setTop (mkF m 156 #[.val (.int p0), .val (.int p1), .val (.int p2), .val (.ref b1), .val (.int ((f17 ((p1 &&& (15 : Int32))).toNatClampNeg) + ((p2 &&& (3 : Int32)) - (1 : Int32)))), .val (.int t124_0), .val (.int t144_0)] [])) t
            exact k
          rw [show own_f0_144 t144_0 t124_0 = (1 : Int32) from (by rw [own_f0_144, if_neg hc148, if_neg hc153])]
          refine Owe.ret X144j Bd.notSynchronized (v := (some (.int (1 : Int32)))) (fun h => by rw [Bd.returns] at h; cases h) (fun fs hr => ?_) ⟨rfl, N144j⟩ (by decide) (by decide)
          show Steps p.tables e below (T144j.setTop (mkF m 156 #[.val (.int p0), .val (.int p1), .val (.int p2), .val (.ref b1), .val (.int ((f17 ((p1 &&& (15 : Int32))).toNatClampNeg) + ((p2 &&& (3 : Int32)) - (1 : Int32)))), .val (.int t124_0), .val (.int t144_0)] [])) _
          refine XS.iconst X144j.here hx rfl (hb hby at_156) ?_
          show Steps p.tables e below (T144j.setTop (mkF m 157 #[.val (.int p0), .val (.int p1), .val (.int p2), .val (.ref b1), .val (.int ((f17 ((p1 &&& (15 : Int32))).toNatClampNeg) + ((p2 &&& (3 : Int32)) - (1 : Int32)))), .val (.int t124_0), .val (.int t144_0)] [(.int (1 : Int32))])) _
          refine XS.goto X144j.here hx rfl (pc0 := 157) (pc' := 161) rfl (hb hby at_157) (by decide) (by decide) ?_
          show Steps p.tables e below (T144j.setTop (mkF m 161 #[.val (.int p0), .val (.int p1), .val (.int p2), .val (.ref b1), .val (.int ((f17 ((p1 &&& (15 : Int32))).toNatClampNeg) + ((p2 &&& (3 : Int32)) - (1 : Int32)))), .val (.int t124_0), .val (.int t144_0)] [(.int (1 : Int32))])) _
          exact retN X144j hx (t := .boolean) Bd.returns (by simp) (hb hby at_161) hr
    by_cases hc136 : (own_f1_0 ((f17 ((p1 &&& (15 : Int32))).toNatClampNeg) + ((p2 &&& (3 : Int32)) - (1 : Int32)))) = (own_f2_0 ((f17 ((p1 &&& (15 : Int32))).toNatClampNeg) + ((p2 &&& (3 : Int32)) - (1 : Int32))))
    · refine Owe.step (T' := T21) (g' := (mkF m 139 #[.val (.int p0), .val (.int p1), .val (.int p2), .val (.ref b1), .val (.int ((f17 ((p1 &&& (15 : Int32))).toNatClampNeg) + ((p2 &&& (3 : Int32)) - (1 : Int32)))), .val (.int t124_0), .unset] [])) (fun t k => ?_) ?_
      · show Steps p.tables e below (T21.setTop (mkF m 136 #[.val (.int p0), .val (.int p1), .val (.int p2), .val (.ref b1), .val (.int ((f17 ((p1 &&& (15 : Int32))).toNatClampNeg) + ((p2 &&& (3 : Int32)) - (1 : Int32)))), .val (.int t124_0), .unset] [(.int (own_f2_0 ((f17 ((p1 &&& (15 : Int32))).toNatClampNeg) + ((p2 &&& (3 : Int32)) - (1 : Int32))))), (.int (own_f1_0 ((f17 ((p1 &&& (15 : Int32))).toNatClampNeg) + ((p2 &&& (3 : Int32)) - (1 : Int32)))))])) t
        refine XS.icmpNo X21.here hx rfl (hb hby at_136) rfl (teq hc136).2 ?_
        show Steps p.tables e below (T21.setTop (mkF m 139 #[.val (.int p0), .val (.int p1), .val (.int p2), .val (.ref b1), .val (.int ((f17 ((p1 &&& (15 : Int32))).toNatClampNeg) + ((p2 &&& (3 : Int32)) - (1 : Int32)))), .val (.int t124_0), .unset] [])) t
        exact k
      refine Owe.step (T' := T21) (g' := (mkF m 144 #[.val (.int p0), .val (.int p1), .val (.int p2), .val (.ref b1), .val (.int ((f17 ((p1 &&& (15 : Int32))).toNatClampNeg) + ((p2 &&& (3 : Int32)) - (1 : Int32)))), .val (.int t124_0), .unset] [(.int (1 : Int32))])) (fun t k => ?_) ?_
      · show Steps p.tables e below (T21.setTop (mkF m 139 #[.val (.int p0), .val (.int p1), .val (.int p2), .val (.ref b1), .val (.int ((f17 ((p1 &&& (15 : Int32))).toNatClampNeg) + ((p2 &&& (3 : Int32)) - (1 : Int32)))), .val (.int t124_0), .unset] [])) t
        refine XS.iconst X21.here hx rfl (hb hby at_139) ?_
        show Steps p.tables e below (T21.setTop (mkF m 140 #[.val (.int p0), .val (.int p1), .val (.int p2), .val (.ref b1), .val (.int ((f17 ((p1 &&& (15 : Int32))).toNatClampNeg) + ((p2 &&& (3 : Int32)) - (1 : Int32)))), .val (.int t124_0), .unset] [(.int (1 : Int32))])) t
        refine XS.goto X21.here hx rfl (pc0 := 140) (pc' := 144) rfl (hb hby at_140) (by decide) (by decide) ?_
        show Steps p.tables e below (T21.setTop (mkF m 144 #[.val (.int p0), .val (.int p1), .val (.int p2), .val (.ref b1), .val (.int ((f17 ((p1 &&& (15 : Int32))).toNatClampNeg) + ((p2 &&& (3 : Int32)) - (1 : Int32)))), .val (.int t124_0), .unset] [(.int (1 : Int32))])) t
        exact k
      rw [show own_f0_124 p1 p2 t124_0 f17 = (own_f0_144 (1 : Int32) t124_0) from (by rw [own_f0_124, if_pos hc136])]
      exact j144 T21 _ X21 e21 N21 (1 : Int32)
    · refine Owe.step (T' := T21) (g' := (mkF m 143 #[.val (.int p0), .val (.int p1), .val (.int p2), .val (.ref b1), .val (.int ((f17 ((p1 &&& (15 : Int32))).toNatClampNeg) + ((p2 &&& (3 : Int32)) - (1 : Int32)))), .val (.int t124_0), .unset] [])) (fun t k => ?_) ?_
      · show Steps p.tables e below (T21.setTop (mkF m 136 #[.val (.int p0), .val (.int p1), .val (.int p2), .val (.ref b1), .val (.int ((f17 ((p1 &&& (15 : Int32))).toNatClampNeg) + ((p2 &&& (3 : Int32)) - (1 : Int32)))), .val (.int t124_0), .unset] [(.int (own_f2_0 ((f17 ((p1 &&& (15 : Int32))).toNatClampNeg) + ((p2 &&& (3 : Int32)) - (1 : Int32))))), (.int (own_f1_0 ((f17 ((p1 &&& (15 : Int32))).toNatClampNeg) + ((p2 &&& (3 : Int32)) - (1 : Int32)))))])) t
        refine XS.icmpYes X21.here hx rfl (pc0 := 136) (pc' := 143) rfl (hb hby at_136) rfl (feq hc136).2 (by decide) (by decide) ?_
        show Steps p.tables e below (T21.setTop (mkF m 143 #[.val (.int p0), .val (.int p1), .val (.int p2), .val (.ref b1), .val (.int ((f17 ((p1 &&& (15 : Int32))).toNatClampNeg) + ((p2 &&& (3 : Int32)) - (1 : Int32)))), .val (.int t124_0), .unset] [])) t
        exact k
      refine Owe.step (T' := T21) (g' := (mkF m 144 #[.val (.int p0), .val (.int p1), .val (.int p2), .val (.ref b1), .val (.int ((f17 ((p1 &&& (15 : Int32))).toNatClampNeg) + ((p2 &&& (3 : Int32)) - (1 : Int32)))), .val (.int t124_0), .unset] [(.int (0 : Int32))])) (fun t k => ?_) ?_
      · show Steps p.tables e below (T21.setTop (mkF m 143 #[.val (.int p0), .val (.int p1), .val (.int p2), .val (.ref b1), .val (.int ((f17 ((p1 &&& (15 : Int32))).toNatClampNeg) + ((p2 &&& (3 : Int32)) - (1 : Int32)))), .val (.int t124_0), .unset] [])) t
        refine XS.iconst X21.here hx rfl (hb hby at_143) ?_
        show Steps p.tables e below (T21.setTop (mkF m 144 #[.val (.int p0), .val (.int p1), .val (.int p2), .val (.ref b1), .val (.int ((f17 ((p1 &&& (15 : Int32))).toNatClampNeg) + ((p2 &&& (3 : Int32)) - (1 : Int32)))), .val (.int t124_0), .unset] [(.int (0 : Int32))])) t
        exact k
      rw [show own_f0_124 p1 p2 t124_0 f17 = (own_f0_144 (0 : Int32) t124_0) from (by rw [own_f0_124, if_neg hc136])]
      exact j144 T21 _ X21 e21 N21 (0 : Int32)
  by_cases hc116 : (own_f1_0 p0) = (own_f2_0 p0)
  · refine Owe.step (T' := T19) (g' := (mkF m 119 #[.val (.int p0), .val (.int p1), .val (.int p2), .val (.ref b1), .val (.int ((f17 ((p1 &&& (15 : Int32))).toNatClampNeg) + ((p2 &&& (3 : Int32)) - (1 : Int32)))), .unset, .unset] [])) (fun t k => ?_) ?_
    · show Steps p.tables e below (T19.setTop (mkF m 116 #[.val (.int p0), .val (.int p1), .val (.int p2), .val (.ref b1), .val (.int ((f17 ((p1 &&& (15 : Int32))).toNatClampNeg) + ((p2 &&& (3 : Int32)) - (1 : Int32)))), .unset, .unset] [(.int (own_f2_0 p0)), (.int (own_f1_0 p0))])) t
      refine XS.icmpNo X19.here hx rfl (hb hby at_116) rfl (teq hc116).2 ?_
      show Steps p.tables e below (T19.setTop (mkF m 119 #[.val (.int p0), .val (.int p1), .val (.int p2), .val (.ref b1), .val (.int ((f17 ((p1 &&& (15 : Int32))).toNatClampNeg) + ((p2 &&& (3 : Int32)) - (1 : Int32)))), .unset, .unset] [])) t
      exact k
    refine Owe.step (T' := T19) (g' := (mkF m 124 #[.val (.int p0), .val (.int p1), .val (.int p2), .val (.ref b1), .val (.int ((f17 ((p1 &&& (15 : Int32))).toNatClampNeg) + ((p2 &&& (3 : Int32)) - (1 : Int32)))), .unset, .unset] [(.int (1 : Int32))])) (fun t k => ?_) ?_
    · show Steps p.tables e below (T19.setTop (mkF m 119 #[.val (.int p0), .val (.int p1), .val (.int p2), .val (.ref b1), .val (.int ((f17 ((p1 &&& (15 : Int32))).toNatClampNeg) + ((p2 &&& (3 : Int32)) - (1 : Int32)))), .unset, .unset] [])) t
      refine XS.iconst X19.here hx rfl (hb hby at_119) ?_
      show Steps p.tables e below (T19.setTop (mkF m 120 #[.val (.int p0), .val (.int p1), .val (.int p2), .val (.ref b1), .val (.int ((f17 ((p1 &&& (15 : Int32))).toNatClampNeg) + ((p2 &&& (3 : Int32)) - (1 : Int32)))), .unset, .unset] [(.int (1 : Int32))])) t
      refine XS.goto X19.here hx rfl (pc0 := 120) (pc' := 124) rfl (hb hby at_120) (by decide) (by decide) ?_
      show Steps p.tables e below (T19.setTop (mkF m 124 #[.val (.int p0), .val (.int p1), .val (.int p2), .val (.ref b1), .val (.int ((f17 ((p1 &&& (15 : Int32))).toNatClampNeg) + ((p2 &&& (3 : Int32)) - (1 : Int32)))), .unset, .unset] [(.int (1 : Int32))])) t
      exact k
    refine Owe.cast (show (own_f0_124 p1 p2 (1 : Int32) f17) = (1 : Int32) from (show own_f0_0 p0 p1 p2 f17 = (own_f0_124 p1 p2 (1 : Int32) f17) from (by rw [own_f0_0, if_pos hc116])).symm.trans (own_law p0 p1 p2 f17 )) ?_
    exact j124 T19 _ X19 e19 N19 (1 : Int32)
  · refine Owe.step (T' := T19) (g' := (mkF m 123 #[.val (.int p0), .val (.int p1), .val (.int p2), .val (.ref b1), .val (.int ((f17 ((p1 &&& (15 : Int32))).toNatClampNeg) + ((p2 &&& (3 : Int32)) - (1 : Int32)))), .unset, .unset] [])) (fun t k => ?_) ?_
    · show Steps p.tables e below (T19.setTop (mkF m 116 #[.val (.int p0), .val (.int p1), .val (.int p2), .val (.ref b1), .val (.int ((f17 ((p1 &&& (15 : Int32))).toNatClampNeg) + ((p2 &&& (3 : Int32)) - (1 : Int32)))), .unset, .unset] [(.int (own_f2_0 p0)), (.int (own_f1_0 p0))])) t
      refine XS.icmpYes X19.here hx rfl (pc0 := 116) (pc' := 123) rfl (hb hby at_116) rfl (feq hc116).2 (by decide) (by decide) ?_
      show Steps p.tables e below (T19.setTop (mkF m 123 #[.val (.int p0), .val (.int p1), .val (.int p2), .val (.ref b1), .val (.int ((f17 ((p1 &&& (15 : Int32))).toNatClampNeg) + ((p2 &&& (3 : Int32)) - (1 : Int32)))), .unset, .unset] [])) t
      exact k
    refine Owe.step (T' := T19) (g' := (mkF m 124 #[.val (.int p0), .val (.int p1), .val (.int p2), .val (.ref b1), .val (.int ((f17 ((p1 &&& (15 : Int32))).toNatClampNeg) + ((p2 &&& (3 : Int32)) - (1 : Int32)))), .unset, .unset] [(.int (0 : Int32))])) (fun t k => ?_) ?_
    · show Steps p.tables e below (T19.setTop (mkF m 123 #[.val (.int p0), .val (.int p1), .val (.int p2), .val (.ref b1), .val (.int ((f17 ((p1 &&& (15 : Int32))).toNatClampNeg) + ((p2 &&& (3 : Int32)) - (1 : Int32)))), .unset, .unset] [])) t
      refine XS.iconst X19.here hx rfl (hb hby at_123) ?_
      show Steps p.tables e below (T19.setTop (mkF m 124 #[.val (.int p0), .val (.int p1), .val (.int p2), .val (.ref b1), .val (.int ((f17 ((p1 &&& (15 : Int32))).toNatClampNeg) + ((p2 &&& (3 : Int32)) - (1 : Int32)))), .unset, .unset] [(.int (0 : Int32))])) t
      exact k
    refine Owe.cast (show (own_f0_124 p1 p2 (0 : Int32) f17) = (1 : Int32) from (show own_f0_0 p0 p1 p2 f17 = (own_f0_124 p1 p2 (0 : Int32) f17) from (by rw [own_f0_0, if_neg hc116])).symm.trans (own_law p0 p1 p2 f17 )) ?_
    exact j124 T19 _ X19 e19 N19 (0 : Int32)
set_option maxRecDepth 65536 in
set_option maxHeartbeats 40000000 in
theorem comes_1 {Post : Tables → Env → Array Value → State → Outcome → State → Prop} (hpost : ∀ tb e args s v u, (limb_1_1.after args s (.returned v) u = true ∧ limb_1_2.after args s (.returned v) u = true ∧ True) → FrameEnd s (.returned v) u (Jvm.fieldLocs frame_1_writes args s ++ Jvm.arrayLocs frame_1_arrays args s ++ Jvm.staticLocs frame_1_statics s) 16 128 → Post tb e args s (.returned v) u) :
    ArmFor flags0 classFile x code maxLocals ret World_1 tables_1 room_1 Calls_1 rest_1 Pre_1 Post := by
  intro l hfl _ _ p e ha hc hk s m args below hf hA hF happ hP
  obtain ⟨hcalls, hrest, hpre⟩ := hP
  obtain ⟨-, -, -, hnamed, -, -, -, hat⟩ := (Spec.applies_iff hf).mp happ
  obtain ⟨hg, hn⟩ := and_e (Cond.before_iff.mp (show (Jvm.Cond.and given_1 narrow_1).before args s = true from hpre))
  obtain ⟨ga1, gb1⟩ := and_e hg
  obtain ⟨ga2, gb2⟩ := and_e gb1
  obtain ⟨ga3, gb3⟩ := and_e gb2
  obtain ⟨w0, w1, w2, rfl⟩ : ∃ w0 w1 w2 : Value, args = #[w0, w1, w2] := by
    have hs : args.size = 3 := by simpa [Cond.value, given_1] using ga1
    obtain ⟨L⟩ := args
    match L, hs with
    | [w0, w1, w2], _ => exact ⟨w0, w1, w2, rfl⟩
  have hw := fun d (hd : d ∈ tables_1) => atoms_spec (ws := Jvm.Cond.code x code maxLocals ret :: tables_1) hat d (List.mem_cons_of_mem _ hd)
  obtain ⟨i0, ei0⟩ := is_v ga2
  obtain rfl : w0 = (.int i0) := Option.some.inj ei0
  obtain ⟨i1, ei1⟩ := is_v ga3
  obtain rfl : w1 = (.int i1) := Option.some.inj ei1
  obtain ⟨i2, ei2⟩ := is_v gb3
  obtain rfl : w2 = (.int i2) := Option.some.inj ei2
  obtain ⟨n, o, h1, h2, h3, _, L, rfl, ⟨rfl, N⟩, hq⟩ := own_rm0 l s _ hw tables_1 i0 i1 i2 s.heap s.heap.size (Nat.le_refl _) p e ha hc hk s m _ below hf ((Spec.applies_iff_loose hf).mp happ).1 ⟨rfl, State.Warmed39.refl s, rfl⟩ trivial
  refine ⟨n, _, h1, h2, h3, hpost _ _ _ _ _ _ ⟨Cond.after_iff.mpr rfl, Cond.after_iff.mpr (eq_i res_at (Term.int_eval (1)) rfl), trivial⟩ ⟨hq.1, hq.2.1, (hq.2.2.sift fun y hy => Or.inr (N y hy)).mono (by decide) (by decide)⟩⟩
theorem main_1_1 : Claimed_1_1 := comes_1 fun _ _ _ _ _ _ h hF => ⟨h.1, hF⟩
theorem main_1_2 : Claimed_1_2 := comes_1 fun _ _ _ _ _ _ h hF => ⟨h.2.1, hF⟩
end Jvm.Pilot.@@N@@
namespace Jvm.Pilot.@@N@@
open Jvm Jvm.ClassFile Sem Op Lib Jvm.Free Jvm.Stand Jvm.Pilot.@@N@@.Jvm.D
/-! MADE BY PROGRAM (witnessworld.py) out of the Statement's table words and the real class files: 9 classes; the members and pool entries that the words name. The judged class is class 1, her method 2. -/
namespace start1
open Jvm.ClassFile
def u (s : String) : CpInfo := .utf8 (stringToUtf16 s)
/-- a pool by its gaps: so many unusable entries, then the entry; so many at the end -/
def gap : Nat → List CpInfo → List CpInfo
  | 0, r => r
  | n + 1, r => .unusable :: gap n r
def poolList (es : List (Nat × CpInfo)) (last : Nat) : List CpInfo := es.foldr (fun e r => gap e.1 (e.2 :: r)) (gap last [])
def pool (es : List (Nat × CpInfo)) (last : Nat) : Array CpInfo := ⟨poolList es last⟩
def fileOf (pool : Array CpInfo) (this : Nat) (attrs : Array Attribute := #[]) (ms : Array MethodInfo := #[]) (fl : Nat := 33) (sup : Nat := 0) (ifs : Array Nat := #[]) (fds : Array FieldInfo := #[]) : ClassFile where
  minorVersion := 0
  majorVersion := 65
  constantPool := pool
  accessFlags := fl
  thisClass := this
  superClass := sup
  interfaces := ifs
  fields := fds
  methods := ms
  attributes := attrs
def plain (name : String) (sup : Option ClassId) : Class where
  name := name
  kind := .ordinary
  loader := none
  accessFlags := 33
  super := sup
  interfaces := #[]
  cf := none
  fields := #[]
  methods := #[]
  instanceTypes := #[]
  staticTypes := #[]
  resolved := #[]
  callSites := []
  init := .initialized
  statics := none
  mirror := none

def pool0 : Array CpInfo := pool [(5, u "<init>"), (0, u "()V"), (1, .class_ 10), (1, u "java/lang/Object")] 113

def k0m0 : Method := { name := "<init>", desc := "()V", sig := { parameters := [], returnType := none }, accessFlags := 1, code := none }
/-- java/lang/Object -/
def k0 : Class := { plain "java/lang/Object" none with
  accessFlags := 33
  interfaces := #[]
  cf := some (fileOf pool0 8 #[] #[{ accessFlags := 1, nameIndex := 5, descriptorIndex := 6, attributes := #[] }] 33 0 #[] #[])
  fields := #[]
  methods := #[k0m0]
  instanceTypes := #[]
  staticTypes := #[]
  resolved := Array.replicate 124 none
  statics := none }

def pool1 : Array CpInfo := pool [(2, .class_ 4), (1, u "java/lang/Object"), (0, u "<init>"), (0, u "()V"), (0, .integer 1114111), (0, .integer 55296), (0, .integer 57343), (0, .integer 65534), (0, .integer 65535), (0, .integer 55295), (0, .integer 57344), (0, .integer 65533), (0, .integer 65536), (0, .integer 1114112), (2, .integer 2147483648), (0, .methodref 21 22), (0, .class_ 23), (0, .nameAndType 24 25), (0, u "com/example/feuillet/feuillet/xml/XmlNames"), (0, u "isChar"), (0, u "(I)Z"), (0, .methodref 27 28), (0, .class_ 29), (0, .nameAndType 30 25), (0, u "com/example/feuillet/feuillet/xml/XmlNamesIsCharPinLaw"), (0, u "ref"), (3, u "law"), (0, u "(III)Z")] 4

def k1m0 : Method := { name := "<init>", desc := "()V", sig := { parameters := [], returnType := none }, accessFlags := 2, code := none }
def k1c1 : Code := { maxStack := 2, maxLocals := 1, code := method_2_code, exceptionTable := #[], attributes := #[] }
def k1m1 : Method := { name := "ref", desc := "(I)Z", sig := { parameters := [.int], returnType := some .boolean }, accessFlags := 10, code := some k1c1 }
def k1c2 : Code := { maxStack := 4, maxLocals := 7, code := code, exceptionTable := #[], attributes := #[] }
def k1m2 : Method := { name := "law", desc := "(III)Z", sig := { parameters := [.int, .int, .int], returnType := some .boolean }, accessFlags := 9, code := some k1c2 }
/-- com/example/feuillet/feuillet/xml/XmlNamesIsCharPinLaw -/
def k1 : Class := { plain "com/example/feuillet/feuillet/xml/XmlNamesIsCharPinLaw" (some 0) with
  accessFlags := 49
  interfaces := #[]
  cf := some (fileOf pool1 27 #[] #[{ accessFlags := 2, nameIndex := 5, descriptorIndex := 6, attributes := #[] }, { accessFlags := 10, nameIndex := 30, descriptorIndex := 25, attributes := #[] }, { accessFlags := 9, nameIndex := 34, descriptorIndex := 35, attributes := #[] }] 49 2 #[] #[])
  fields := #[]
  methods := #[k1m0, k1m1, k1m2]
  instanceTypes := #[]
  staticTypes := #[]
  resolved := Array.replicate 40 none
  statics := none }

def pool2 : Array CpInfo := pool [(2, .class_ 4), (1, u "java/lang/Object"), (0, u "<init>"), (0, u "()V"), (0, .integer 55295), (0, .integer 57344), (0, .integer 65533), (0, .integer 65536), (2, .integer 1114111), (1, .class_ 17), (1, u "com/example/feuillet/feuillet/xml/XmlNames"), (24, u "(I)Z"), (70, .class_ 114), (0, u "com/example/feuillet/feuillet/xml/XmlNames$QualifiedName"), (18, u "isChar")] 10

def k2m0 : Method := { name := "<init>", desc := "()V", sig := { parameters := [], returnType := none }, accessFlags := 2, code := none }
def k2c1 : Code := { maxStack := 2, maxLocals := 1, code := prog_75_method_2_code, exceptionTable := #[], attributes := #[] }
def k2m1 : Method := { name := "isChar", desc := "(I)Z", sig := { parameters := [.int], returnType := some .boolean }, accessFlags := 9, code := some k2c1 }
/-- com/example/feuillet/feuillet/xml/XmlNames -/
def k2 : Class := { plain "com/example/feuillet/feuillet/xml/XmlNames" (some 0) with
  accessFlags := 49
  interfaces := #[]
  cf := some (fileOf pool2 15 #[.nestMembers #[113]] #[{ accessFlags := 2, nameIndex := 5, descriptorIndex := 6, attributes := #[] }, { accessFlags := 9, nameIndex := 133, descriptorIndex := 42, attributes := #[] }] 49 2 #[] #[])
  fields := #[]
  methods := #[k2m0, k2m1]
  instanceTypes := #[]
  staticTypes := #[]
  resolved := Array.replicate 144 none
  statics := none }

def pool3 : Array CpInfo := pool [(1, u "java/lang/Cloneable"), (0, .class_ 1), (0, u "java/lang/Object"), (0, .class_ 3)] 3

/-- java/lang/Cloneable -/
def k3 : Class := { plain "java/lang/Cloneable" (some 0) with
  accessFlags := 1537
  interfaces := #[]
  cf := some (fileOf pool3 2 #[] #[] 1537 4 #[] #[])
  fields := #[]
  methods := #[]
  instanceTypes := #[]
  staticTypes := #[]
  resolved := Array.replicate 8 none
  statics := none }

def pool4 : Array CpInfo := pool [(1, u "java/io/Serializable"), (0, .class_ 1), (0, u "java/lang/Object"), (0, .class_ 3)] 3

/-- java/io/Serializable -/
def k4 : Class := { plain "java/io/Serializable" (some 0) with
  accessFlags := 1537
  interfaces := #[]
  cf := some (fileOf pool4 2 #[] #[] 1537 4 #[] #[])
  fields := #[]
  methods := #[]
  instanceTypes := #[]
  staticTypes := #[]
  resolved := Array.replicate 8 none
  statics := none }

/-- the primitive byte -/
def k5 : Class := { plain "byte" none with kind := .primitive 'B', accessFlags := 0x411 }
/-- [B -/
def k6 : Class := { plain "[B" (some 0) with kind := .array 5 .byte, interfaces := #[3, 4], accessFlags := 1041 }

/-- the primitive int -/
def k7 : Class := { plain "int" none with kind := .primitive 'I', accessFlags := 0x411 }
/-- [I -/
def k8 : Class := { plain "[I" (some 0) with kind := .array 7 .int, interfaces := #[3, 4], accessFlags := 1041 }

def heap : Heap := #[]
def classes : Array Class := #[k0, k1, k2, k3, k4, k5, k6, k7, k8]
def interned : List (Array UInt16 × Addr) := []
def slotsUsed : Nat := 0
def theMethod : MethodId := ⟨1, 2⟩
def args0 : Array Value := #[.int 5, .int 7, .int 9]
def aboutOver (below : List Frame) : State where
  vm := { classes := classes, interned := interned.toArray }
  heap := heap
  slotsUsed := slotsUsed
  threads := #[{ frames := .invoking theMethod args0 :: below }]
def below0 : List Frame := [.native { method := ⟨0, 0⟩, args := #[] }]
def about1 : State := aboutOver below0
def p0 : Program := .bare "" "" ""
def e0 : Env := launch0.env 0 0 0
theorem w_frames : about1.frames = Frame.invoking theMethod args0 :: below0 := rfl
set_option maxRecDepth 65536 in
theorem w_args : argsFit about1.vm theMethod args0 = true := by decide +kernel
set_option maxRecDepth 65536 in
theorem w_heap : heapFits about1 = true := by decide +kernel
set_option maxRecDepth 65536 in
theorem w_runnable : about1.curStatus? = some .runnable := by decide +kernel
set_option maxRecDepth 65536 in
theorem w_alone : about1.alone = true := by decide +kernel
set_option maxRecDepth 65536 in
theorem w_named : about1.methodNamed? x = some theMethod := by decide +kernel
set_option maxRecDepth 65536 in
theorem w_hears : about1.hears theMethod below0 = true := by decide +kernel
set_option maxRecDepth 65536 in
theorem w_ripe : about1.ripe theMethod args0 below0 = true := by decide +kernel
theorem w_running : about1.status = .running := rfl
set_option maxRecDepth 65536 in
theorem w_room : about1.hasRoom e0.platform room_1 = true :=
  launch0.hasRoom_least _ room_1 (by decide +kernel) (by decide +kernel) (by decide +kernel) (by decide +kernel) (by decide +kernel) (by decide +kernel)
theorem allAtoms_all (ts : List Jvm.Cond) (a : Array Jvm.Value) (st : Jvm.State) : (allAtoms ts).before a st = ts.all (fun c => c.before a st) := by
  induction ts with
  | nil => rfl
  | cons c t ih =>
    show (Jvm.Cond.and c (allAtoms t)).before a st = _
    rw [Jvm.Cond.before_and, ih, List.all_cons]
def words1 : List Jvm.Cond := Jvm.Cond.code x code maxLocals ret :: tables_1
/-- a 'code' word, met by the world's own term for the bytes: nothing is compared byte by byte -/
theorem code_word {y : MethodName} {bytes : ByteArray} {mx : Nat} {rt : Option FieldType} {a : Array Value} {s : State} {m : MethodId} {meth : Method} {c : Code} (h1 : s.methodNamed? y = some m) (h2 : s.vm.method? m = some meth) (h3 : meth.code = some c) (h4 : c.code = bytes)
    (h5 : (c.maxLocals == mx && c.exceptionTable.isEmpty && decide (c.maxStack ≤ mostOperands) && decide (meth.sig.returnType = rt) && !meth.locks && decide (parseMethodDescriptor y.desc = some meth.sig)) = true) : (Jvm.Cond.code y bytes mx rt).before a s = true := by
  simp only [Bool.and_eq_true, beq_iff_eq, Bool.not_eq_true', decide_eq_true_eq] at h5
  obtain ⟨⟨⟨⟨⟨g1, g2⟩, g3⟩, g4⟩, g5⟩, g6⟩ := h5
  simp [Cond.before, Cond.holds, Cond.value, h1, h2, h3, h4, g1, g2, g3, g4, g5, g6]
def isCode : Jvm.Cond → Bool
  | .code _ _ _ _ => true
  | _ => false
theorem all_split {L : List Jvm.Cond} {P : Jvm.Cond → Bool} (h1 : L.all (fun c => isCode c || P c) = true) (h2 : ∀ c ∈ L.filter isCode, P c = true) : L.all P = true := by
  refine List.all_eq_true.mpr fun c hc => ?_
  have h := List.all_eq_true.mp h1 c hc
  rcases Bool.eq_false_or_eq_true (isCode c) with hi | hi
  · exact h2 c (List.mem_filter.mpr ⟨hc, hi⟩)
  · simpa [hi] using h
set_option maxRecDepth 65536 in
theorem w_c0 : (Jvm.Cond.code x code maxLocals ret).before args0 about1 = true := code_word (m := ⟨1, 2⟩) (meth := k1m2) (c := k1c2) (by decide +kernel) rfl rfl rfl (by decide +kernel)
set_option maxRecDepth 65536 in
theorem w_c1 : (Jvm.Cond.code ({ cls := "com/example/feuillet/feuillet/xml/XmlNames", name := "isChar", desc := "(I)Z" } : Jvm.MethodName) prog_75_method_2_code (1 : Nat) (Option.some Jvm.ClassFile.FieldType.boolean)).before args0 about1 = true := code_word (m := ⟨2, 1⟩) (meth := k2m1) (c := k2c1) (by decide +kernel) rfl rfl rfl (by decide +kernel)
set_option maxRecDepth 65536 in
theorem w_c2 : (Jvm.Cond.code ({ cls := "com/example/feuillet/feuillet/xml/XmlNamesIsCharPinLaw", name := "ref", desc := "(I)Z" } : Jvm.MethodName) method_2_code (1 : Nat) (Option.some Jvm.ClassFile.FieldType.boolean)).before args0 about1 = true := code_word (m := ⟨1, 1⟩) (meth := k1m1) (c := k1c1) (by decide +kernel) rfl rfl rfl (by decide +kernel)
def codes1 : List Jvm.Cond := [Jvm.Cond.code x code maxLocals ret, Jvm.Cond.code ({ cls := "com/example/feuillet/feuillet/xml/XmlNames", name := "isChar", desc := "(I)Z" } : Jvm.MethodName) prog_75_method_2_code (1 : Nat) (Option.some Jvm.ClassFile.FieldType.boolean), Jvm.Cond.code ({ cls := "com/example/feuillet/feuillet/xml/XmlNamesIsCharPinLaw", name := "ref", desc := "(I)Z" } : Jvm.MethodName) method_2_code (1 : Nat) (Option.some Jvm.ClassFile.FieldType.boolean)]
set_option maxRecDepth 65536 in
theorem codes_eq : words1.filter isCode = codes1 := rfl
theorem w_codes : ∀ c ∈ words1.filter isCode, c.before args0 about1 = true := by
  rw [codes_eq]
  intro c hc
  simp only [codes1, List.mem_cons, List.not_mem_nil, or_false] at hc
  rcases hc with rfl | rfl | rfl
  · exact w_c0
  · exact w_c1
  · exact w_c2
set_option maxRecDepth 65536 in
theorem w_t1 : (words1.take 24).all (fun c => isCode c || c.before args0 about1) = true := by decide +kernel
set_option maxRecDepth 65536 in
theorem w_t2 : (words1.drop 24).all (fun c => isCode c || c.before args0 about1) = true := by decide +kernel
theorem w_tables : (allAtoms (Jvm.Cond.code x code maxLocals ret :: tables_1)).before args0 about1 = true := by
  rw [allAtoms_all]
  show words1.all (fun c => c.before args0 about1) = true
  refine all_split ?_ w_codes
  rw [← List.take_append_drop 24 words1, List.all_append, w_t1, w_t2]
  rfl
set_option maxRecDepth 65536 in
theorem w_case : (Jvm.Cond.and given_1 narrow_1).before args0 about1 = true := by decide +kernel
theorem w_applies : (headSpec (Jvm.Cond.code x code maxLocals ret :: tables_1) room_1).applies x e0.platform about1 = true :=
  (Spec.applies_iff w_frames).mpr ⟨w_running, w_runnable, w_alone, w_named, w_hears, w_ripe, w_room, w_tables⟩
theorem atStart : AtStart classFile x code maxLocals ret World_1 tables_1 room_1 Calls_1 rest_1 Pre_1 launch0 p0 e0 about1 theMethod args0 below0 :=
  ⟨lists_1, trivial, launch0.admits_env _ _ _, launch0.least_env, fairChoices_fair.cas, fairChoices_fair.clock, w_frames, w_args, w_heap, w_applies, trivial, trivial, w_case⟩
end start1
theorem witness_1 : WitnessClaimed_1 := ⟨start1.p0, start1.e0, start1.about1, start1.theMethod, start1.args0, start1.below0, start1.atStart⟩
end Jvm.Pilot.@@N@@
