import JvmDerived
import JvmDerived.Pilot.@@N@@Statement
import JvmDerived.Pilot.@@N@@Code
set_option linter.unusedVariables false
set_option linter.unusedSimpArgs false
namespace Jvm.RoadKit
open Sem ClassFile Op Lib Jvm.Stand Jvm.Free Jvm.LawKit
section New
variable {p : Program} {l : Launch} {e : Env} {R : Room} {s : State} {m : MethodId} {args : Array Value} {below : List Frame} {meth : Method} {c : Code} {T : State} {locs : List Loc} {cells slots : Nat}
theorem retI (X : Stand p l e R s m args below meth c T locs cells slots) (hx : p.tables.exec = Jvm.exec) {pc : Nat} {Ls : Array Slot} {z : Int32} {rest : List Value} (hret : meth.sig.returnType = some .int) (hd : decode c.code pc = .ok (.ireturn, 1)) {fs : List Frame}
    (hl : ∀ (f : JFrame) (acts : List Action), f.method = m → f.locked = none → f.entered = [] → (doReturn e (T.setTop f) acts (some (.int z))).1 = T.setFrames fs) : Steps p.tables e below (T.setTop (mkF m pc Ls (.int z :: rest))) (T.setFrames fs) := by
  have hm' : T.vm.method? m = some meth := X.method'
  have hn : narrow .int (.int z) = .int z := rfl
  show Steps p.tables e below (T.setTop { method := m, pc := pc, locals := Ls, stack := _ :: rest, locked := none }) _
  jvm_step X.here [X.here.top, hx, hd, hm', hret, hn]
  first | (intro acts; rw [hl _ acts rfl rfl rfl]) | rw [hl _ _ rfl rfl rfl]
  exact Steps.refl _
theorem retJ (X : Stand p l e R s m args below meth c T locs cells slots) (hx : p.tables.exec = Jvm.exec) {pc : Nat} {Ls : Array Slot} {z : Int64} {rest : List Value} (hret : meth.sig.returnType = some .long) (hd : decode c.code pc = .ok (.lreturn, 1)) {fs : List Frame}
    (hl : ∀ (f : JFrame) (acts : List Action), f.method = m → f.locked = none → f.entered = [] → (doReturn e (T.setTop f) acts (some (.long z))).1 = T.setFrames fs) : Steps p.tables e below (T.setTop (mkF m pc Ls (.long z :: rest))) (T.setFrames fs) := by
  have hm' : T.vm.method? m = some meth := X.method'
  show Steps p.tables e below (T.setTop { method := m, pc := pc, locals := Ls, stack := _ :: rest, locked := none }) _
  jvm_step X.here [X.here.top, hx, hd, hm', hret, narrow]
  first | (intro acts; rw [hl _ acts rfl rfl rfl]) | rw [hl _ _ rfl rfl rfl]
  exact Steps.refl _
theorem retA (X : Stand p l e R s m args below meth c T locs cells slots) (hx : p.tables.exec = Jvm.exec) {pc : Nat} {Ls : Array Slot} {z : Value} {t : FieldType} {rest : List Value} (hret : meth.sig.returnType = some t) (ht : t.isReference = true) (hz : z.isRef = true) (hd : decode c.code pc = .ok (.areturn, 1)) {fs : List Frame}
    (hl : ∀ (f : JFrame) (acts : List Action), f.method = m → f.locked = none → f.entered = [] → (doReturn e (T.setTop f) acts (some z)).1 = T.setFrames fs) : Steps p.tables e below (T.setTop (mkF m pc Ls (z :: rest))) (T.setFrames fs) := by
  have hm' : T.vm.method? m = some meth := X.method'
  show Steps p.tables e below (T.setTop { method := m, pc := pc, locals := Ls, stack := _ :: rest, locked := none }) _
  jvm_step X.here [X.here.top, hx, hd, hm', hret, hz, ht]
  first | (intro acts; rw [hl _ acts rfl rfl rfl]) | rw [hl _ _ rfl rfl rfl]
  exact Steps.refl _
/-- what a body's contract owes from a state on -/
def Owe (p : Program) (e : Env) (below : List Frame) (first : State) (ck sk : Nat) (Q : Option Value → Heap → List Loc → Prop) (T : State) (g : JFrame) : Prop :=
  ∃ s₂ o, Steps p.tables e below (T.setTop g) s₂ ∧ s₂.status = .running ∧ Ended s₂ below o ∧ ∃ v L, o = .returned v ∧ Q v s₂.heap L ∧ FrameEnd first o s₂ L ck sk
theorem Owe.step {first : State} {ck sk : Nat} {Q : Option Value → Heap → List Loc → Prop} {T T' : State} {g g' : JFrame} (h : ∀ t, Steps p.tables e below (T'.setTop g') t → Steps p.tables e below (T.setTop g) t)
    (k : Owe p e below first ck sk Q T' g') : Owe p e below first ck sk Q T g := by
  obtain ⟨s₂, o, h1, h2⟩ := k
  exact ⟨s₂, o, h _ h1, h2⟩
theorem Owe.ret {ck sk : Nat} {Q : Option Value → Heap → List Loc → Prop} {g : JFrame} (X : Stand p l e R s m args below meth c T locs cells slots) (hlk : meth.locks = false) {v : Option Value} (hv : meth.sig.returnType = none → v = none)
    (hst : ∀ fs, (∀ (f : JFrame) (acts : List Action), f.method = m → f.locked = none → f.entered = [] → (doReturn e (T.setTop f) acts v).1 = T.setFrames fs) → Steps p.tables e below (T.setTop g) (T.setFrames fs))
    (hQ : Q v T.heap locs) (hc : cells ≤ ck) (hs : slots ≤ sk) : Owe p e below s ck sk Q T g := by
  obtain ⟨fs, hr, hrun, hended, hW, hsame⟩ := X.leave (v := v) hv hlk
  exact ⟨_, _, hst fs hr, hrun, hended, _, _, rfl, hQ, ⟨_, rfl⟩, hW, hsame.mono hc hs⟩
/-- a body that writes nothing and makes nothing: it returns w -/
def QP (w : Value) (h0 : Heap) (n0 : Nat) (v : Option Value) (h : Heap) (L : List Loc) : Prop := v = some w ∧ Fr n0 L ∧ h = h0
/-- .. and returns nothing -/
def QN (h0 : Heap) (n0 : Nat) (v : Option Value) (h : Heap) (L : List Loc) : Prop := v = none ∧ Fr n0 L ∧ h = h0
/-- the law itself -/
def QL (w : Value) (n0 : Nat) (v : Option Value) (h : Heap) (L : List Loc) : Prop := v = some w ∧ Fr n0 L
theorem Owe.cast {first : State} {ck sk n0 : Nat} {w w' : Int32} {g : JFrame} (q : w' = w) (k : Owe p e below first ck sk (QL (.int w') n0) T g) : Owe p e below first ck sk (QL (.int w) n0) T g := q ▸ k
end New
end Jvm.RoadKit
namespace Jvm.RoadKit
open Sem ClassFile Op Lib Jvm.Stand Jvm.Free Jvm.LawKit
section Arrays
variable {p : Program} {l : Launch} {e : Env} {R : Room} {s : State} {m : MethodId} {args : Array Value} {below : List Frame} {meth : Method} {c : Code} {T : State} {locs : List Loc} {cells slots : Nat}
variable {Z : State} {h h' : Heap} {a b : Addr} {ty : FieldType} {n sl : Nat} {f : Nat → Value} {v : Value} {ws : List Addr}
/-- an array of n places; place j holds f j -/
def AV (Z : State) (h : Heap) (a : Addr) (ty : FieldType) (n : Nat) (f : Nat → Value) : Prop := ∃ c : Cell, Arr Z h a c ty ∧ c.slots.size = n ∧ ∀ j, j < n → c.slots[j]? = some (f j)
abbrev AI (Z : State) (h : Heap) (a : Addr) (ty : FieldType) (n : Nat) (f : Nat → Int32) : Prop := AV Z h a ty n (fun k => .int (f k))
abbrev AJ (Z : State) (h : Heap) (a : Addr) (n : Nat) (f : Nat → Int64) : Prop := AV Z h a .long n (fun k => .long (f k))
def own_upd {α : Type} (f : Nat → α) (j : Nat) (x : α) : Nat → α := fun k => if k = j then x else f k
theorem own_upd_same {α : Type} (f : Nat → α) (j : Nat) (x : α) : own_upd f j x j = x := if_pos rfl
theorem own_upd_other {α : Type} (f : Nat → α) (j k : Nat) (x : α) (q : k ≠ j) : own_upd f j x k = f k := if_neg q
theorem AV.lt (F : AV Z h a ty n f) : a < h.size := by obtain ⟨c, A, -⟩ := F; exact A.lt
theorem AV.ext (F : AV Z h a ty n f) (E : Ext h h') : AV Z h' a ty n f := by obtain ⟨c, A, r⟩ := F; exact ⟨c, A.ext E, r⟩
theorem AV.other (F : AV Z h b ty n f) (W : Wr h h' a sl v) (q : b ≠ a) : AV Z h' b ty n f := by obtain ⟨c, A, r⟩ := F; exact ⟨c, A.other W q, r⟩
theorem AV.keep (F : AV Z h a ty n f) (K : Keep h h' ws) (q : a ∉ ws) : AV Z h' a ty n f := by obtain ⟨c, A, r⟩ := F; exact ⟨c, ⟨K.2.1 a c A.1 q, A.2⟩, r⟩
theorem AV.congr {f' : Nat → Value} (F : AV Z h a ty n f) (q : ∀ k, k < n → f k = f' k) : AV Z h a ty n f' := by obtain ⟨c, A, S, H⟩ := F; exact ⟨c, A, S, fun k hk => by rw [← q k hk]; exact H k hk⟩
theorem AV.new {k : ClassId} {z : Int32} (A : Arr Z h a (newA k ty z) ty) (e : z.toNatClampNeg = n) : AV Z h a ty n (fun _ => defaultValue ty) := by
  subst e
  exact ⟨_, A, sz_new _ _ _, fun j hj => by simp [newA, hj]⟩
theorem AV.set {j : Nat} (F : AV Z h a ty n f) (W : Wr h h' a j v) : AV Z h' a ty n (own_upd f j v) := by
  obtain ⟨c, A, S, H⟩ := F
  refine ⟨_, A.same W, by rw [sz_set]; exact S, fun k hk => ?_⟩
  by_cases u : k = j
  · subst u; simp [Cell.setSlot, S, hk, own_upd]
  · have := H k hk
    simp only [Cell.setSlot, own_upd, if_neg u] at this ⊢
    rw [Array.getElem?_setIfInBounds_ne (fun q => u q.symm)]; exact this
theorem AI.set {j : Nat} {g : Nat → Int32} {x : Int32} (F : AI Z h a ty n g) (W : Wr h h' a j (.int x)) : AI Z h' a ty n (own_upd g j x) := (AV.set F W).congr fun k _ => by unfold own_upd; split <;> rfl
theorem AJ.set {j : Nat} {g : Nat → Int64} {x : Int64} (F : AJ Z h a n g) (W : Wr h h' a j (.long x)) : AJ Z h' a n (own_upd g j x) := (AV.set F W).congr fun k _ => by unfold own_upd; split <;> rfl
theorem in_of {c : Cell} {j : Int32} (S : c.slots.size = n) (j0 : ¬ j < 0) (jn : j.toNatClampNeg < n) : ¬ (j < 0 ∨ c.slots.size ≤ j.toNatClampNeg) := by rw [S]; exact fun q => q.elim j0 fun y => absurd jn (Nat.not_lt.mpr y)
theorem ldAI (X : Stand p l e R s m args below meth c T locs cells slots) (hx : p.tables.exec = Jvm.exec) (hZ : Z.Warmed39 s.vm) (eT : T.heap = h) (F : AV Z h a .int n f) {j : Int32} (j0 : ¬ j < 0) (jn : j.toNatClampNeg < n) {g : JFrame} (hg : g.method = m) {rest : List Value} (hs : g.stack = .int j :: .ref a :: rest) (hd : decode c.code g.pc = .ok (.iaload, 1)) (target : State)
    (hr : Steps p.tables e below (T.setTop { g with pc := g.pc + 1, stack := f j.toNatClampNeg :: rest }) target) : Steps p.tables e below (T.setTop g) target := by
  obtain ⟨cl, A, S, H⟩ := F
  exact X.iaload hx (by rw [eT]; exact A.1) (State.isArrayOf_alike hZ.alike A.2.1) A.2.2 (in_of S j0 jn) (H _ jn) hg hs hd target hr
theorem ldAB (X : Stand p l e R s m args below meth c T locs cells slots) (hx : p.tables.exec = Jvm.exec) (hZ : Z.Warmed39 s.vm) (eT : T.heap = h) (F : AV Z h a .byte n f) {j : Int32} (j0 : ¬ j < 0) (jn : j.toNatClampNeg < n) {g : JFrame} (hg : g.method = m) {rest : List Value} (hs : g.stack = .int j :: .ref a :: rest) (hd : decode c.code g.pc = .ok (.baload, 1)) (target : State)
    (hr : Steps p.tables e below (T.setTop { g with pc := g.pc + 1, stack := f j.toNatClampNeg :: rest }) target) : Steps p.tables e below (T.setTop g) target := by
  obtain ⟨cl, A, S, H⟩ := F
  exact X.baloadBytes hx (by rw [eT]; exact A.1) (State.isArrayOf_alike hZ.alike A.2.1) A.2.2 (in_of S j0 jn) (H _ jn) hg hs hd target hr
theorem ldAJ (X : Stand p l e R s m args below meth c T locs cells slots) (hx : p.tables.exec = Jvm.exec) (hZ : Z.Warmed39 s.vm) (eT : T.heap = h) (F : AV Z h a .long n f) {j : Int32} (j0 : ¬ j < 0) (jn : j.toNatClampNeg < n) {g : JFrame} (hg : g.method = m) {rest : List Value} (hs : g.stack = .int j :: .ref a :: rest) (hd : decode c.code g.pc = .ok (.laload, 1)) (target : State)
    (hr : Steps p.tables e below (T.setTop { g with pc := g.pc + 1, stack := f j.toNatClampNeg :: rest }) target) : Steps p.tables e below (T.setTop g) target := by
  obtain ⟨cl, A, S, H⟩ := F
  exact X.laload hx (by rw [eT]; exact A.1) (State.isArrayOf_alike hZ.alike A.2.1) A.2.2 (in_of S j0 jn) (H _ jn) hg hs hd target hr
theorem stAI (X : Stand p l e R s m args below meth c T locs cells slots) (hx : p.tables.exec = Jvm.exec) (hZ : Z.Warmed39 s.vm) (eT : T.heap = h) {f : Nat → Int32} (F : AI Z h a .int n f) {j x : Int32} (j0 : ¬ j < 0) (jn : j.toNatClampNeg < n) {g : JFrame} (hg : g.method = m) {rest : List Value} (hs : g.stack = .int x :: .int j :: .ref a :: rest) (hd : decode c.code g.pc = .ok (.iastore, 1)) :
    ∃ T' h', Stand p l e R s m args below meth c T' (locs ++ [⟨a, j.toNatClampNeg⟩]) cells slots ∧ T'.heap = h' ∧ Wr h h' a j.toNatClampNeg (.int x) ∧ AI Z h' a .int n (own_upd f j.toNatClampNeg x) ∧ ∀ target, Steps p.tables e below (T'.setTop { g with pc := g.pc + 1, stack := rest }) target → Steps p.tables e below (T.setTop g) target := by
  obtain ⟨cl, A, S, H⟩ := id F
  obtain ⟨T', h', X', e', W, st⟩ := stI X hx hZ eT A (in_of S j0 jn) hg hs hd
  exact ⟨T', h', X', e', W, AI.set F W, st⟩
theorem stAB (X : Stand p l e R s m args below meth c T locs cells slots) (hx : p.tables.exec = Jvm.exec) (hZ : Z.Warmed39 s.vm) (eT : T.heap = h) {f : Nat → Int32} (F : AI Z h a .byte n f) {j x : Int32} (j0 : ¬ j < 0) (jn : j.toNatClampNeg < n) {g : JFrame} (hg : g.method = m) {rest : List Value} (hs : g.stack = .int x :: .int j :: .ref a :: rest) (hd : decode c.code g.pc = .ok (.bastore, 1)) :
    ∃ T' h', Stand p l e R s m args below meth c T' (locs ++ [⟨a, j.toNatClampNeg⟩]) cells slots ∧ T'.heap = h' ∧ Wr h h' a j.toNatClampNeg (.int (nar .byte x)) ∧ AI Z h' a .byte n (own_upd f j.toNatClampNeg (nar .byte x)) ∧ ∀ target, Steps p.tables e below (T'.setTop { g with pc := g.pc + 1, stack := rest }) target → Steps p.tables e below (T.setTop g) target := by
  obtain ⟨cl, A, S, H⟩ := id F
  obtain ⟨T', h', X', e', W, st⟩ := stB X hx hZ eT A (in_of S j0 jn) hg hs hd
  exact ⟨T', h', X', e', W, AI.set F W, st⟩
theorem stAC (X : Stand p l e R s m args below meth c T locs cells slots) (hx : p.tables.exec = Jvm.exec) (hZ : Z.Warmed39 s.vm) (eT : T.heap = h) {f : Nat → Int32} (F : AI Z h a .char n f) {j x : Int32} (j0 : ¬ j < 0) (jn : j.toNatClampNeg < n) {g : JFrame} (hg : g.method = m) {rest : List Value} (hs : g.stack = .int x :: .int j :: .ref a :: rest) (hd : decode c.code g.pc = .ok (.castore, 1)) :
    ∃ T' h', Stand p l e R s m args below meth c T' (locs ++ [⟨a, j.toNatClampNeg⟩]) cells slots ∧ T'.heap = h' ∧ Wr h h' a j.toNatClampNeg (.int (nar .char x)) ∧ AI Z h' a .char n (own_upd f j.toNatClampNeg (nar .char x)) ∧ ∀ target, Steps p.tables e below (T'.setTop { g with pc := g.pc + 1, stack := rest }) target → Steps p.tables e below (T.setTop g) target := by
  obtain ⟨cl, A, S, H⟩ := id F
  obtain ⟨T', h', X', e', W, st⟩ := stC X hx hZ eT A (in_of S j0 jn) hg hs hd
  exact ⟨T', h', X', e', W, AI.set F W, st⟩
theorem stAJ (X : Stand p l e R s m args below meth c T locs cells slots) (hx : p.tables.exec = Jvm.exec) (hZ : Z.Warmed39 s.vm) (eT : T.heap = h) {f : Nat → Int64} (F : AJ Z h a n f) {j : Int32} {x : Int64} (j0 : ¬ j < 0) (jn : j.toNatClampNeg < n) {g : JFrame} (hg : g.method = m) {rest : List Value} (hs : g.stack = .long x :: .int j :: .ref a :: rest) (hd : decode c.code g.pc = .ok (.lastore, 1)) :
    ∃ T' h', Stand p l e R s m args below meth c T' (locs ++ [⟨a, j.toNatClampNeg⟩]) cells slots ∧ T'.heap = h' ∧ Wr h h' a j.toNatClampNeg (.long x) ∧ AJ Z h' a n (own_upd f j.toNatClampNeg x) ∧ ∀ target, Steps p.tables e below (T'.setTop { g with pc := g.pc + 1, stack := rest }) target → Steps p.tables e below (T.setTop g) target := by
  obtain ⟨cl, A, S, H⟩ := id F
  obtain ⟨T', h', X', e', W, st⟩ := stJ X hx hZ eT A (in_of S j0 jn) hg hs hd
  exact ⟨T', h', X', e', W, AJ.set F W, st⟩
theorem lenA (X : Stand p l e R s m args below meth c T locs cells slots) (hx : p.tables.exec = Jvm.exec) (hZ : Z.Warmed39 s.vm) (eT : T.heap = h) (F : AV Z h a ty n f) {z : Int32} (hn : n.toInt32 = z) {g : JFrame} (hg : g.method = m) {rest : List Value} (hs : g.stack = .ref a :: rest) (hd : decode c.code g.pc = .ok (.arraylength, 1)) (target : State)
    (hr : Steps p.tables e below (T.setTop { g with pc := g.pc + 1, stack := .int z :: rest }) target) : Steps p.tables e below (T.setTop g) target := by
  obtain ⟨cl, A, S, H⟩ := F
  subst hn
  exact X.arraylength hx (by rw [eT]; exact A.1) (State.isArrayOf_alike hZ.alike A.2.1) hg hs hd target (by rw [S]; exact hr)
end Arrays
end Jvm.RoadKit
namespace Jvm.Pilot.@@N@@
open Jvm Jvm.ClassFile Sem Op Lib Jvm.Free Jvm.Stand Jvm.LawKit Jvm.RoadKit Bundle Jvm.Pilot.@@N@@.Jvm.D
theorem own_irem (x y : Int32) : x - (x / y) * y = x % y := by
  apply Int32.toInt_inj.mp
  have h1 := Int32.le_toInt (x % y)
  have h2 := Int32.toInt_lt (x % y)
  rw [Int32.toInt_sub, Int32.toInt_mul, Int32.toInt_div, Int.bmod_mul_bmod, Int.sub_bmod_bmod, Int.mul_comm (x.toInt.tdiv y.toInt), ← Int.tmod_def, ← Int32.toInt_mod]
  exact Int.bmod_eq_of_le_mul_two (by omega) (by omega)
/-- an index, told by its int -/
theorem own_ix {j : Int32} {n : Nat} (h0 : 0 ≤ j.toInt) (h1 : j.toInt < (n : Int)) : ¬ j < 0 ∧ j.toNatClampNeg < n := by
  rw [Int32.lt_iff_toInt_lt]
  have e0 : (0 : Int32).toInt = 0 := rfl
  have e1 : j.toNatClampNeg = j.toInt.toNat := rfl
  rw [e0, e1]; omega
theorem own_d1_0 : decode prog_75_method_12_code 0 = .ok (.iload_n 0, 1) := by decide +kernel
theorem own_d1_1 : decode prog_75_method_12_code 1 = .ok (.sipush 128, 3) := by decide +kernel
theorem own_d1_4 : decode prog_75_method_12_code 4 = .ok (.if_icmp .ge 45, 3) := by decide +kernel
theorem own_d1_7 : decode prog_75_method_12_code 7 = .ok (.iload_n 0, 1) := by decide +kernel
theorem own_d1_8 : decode prog_75_method_12_code 8 = .ok (.bipush 97, 2) := by decide +kernel
theorem own_d1_10 : decode prog_75_method_12_code 10 = .ok (.if_icmp .lt 9, 3) := by decide +kernel
theorem own_d1_13 : decode prog_75_method_12_code 13 = .ok (.iload_n 0, 1) := by decide +kernel
theorem own_d1_14 : decode prog_75_method_12_code 14 = .ok (.bipush 122, 2) := by decide +kernel
theorem own_d1_16 : decode prog_75_method_12_code 16 = .ok (.if_icmp .le 27, 3) := by decide +kernel
theorem own_d1_19 : decode prog_75_method_12_code 19 = .ok (.iload_n 0, 1) := by decide +kernel
theorem own_d1_20 : decode prog_75_method_12_code 20 = .ok (.bipush 65, 2) := by decide +kernel
theorem own_d1_22 : decode prog_75_method_12_code 22 = .ok (.if_icmp .lt 9, 3) := by decide +kernel
theorem own_d1_25 : decode prog_75_method_12_code 25 = .ok (.iload_n 0, 1) := by decide +kernel
theorem own_d1_26 : decode prog_75_method_12_code 26 = .ok (.bipush 90, 2) := by decide +kernel
theorem own_d1_28 : decode prog_75_method_12_code 28 = .ok (.if_icmp .le 15, 3) := by decide +kernel
theorem own_d1_31 : decode prog_75_method_12_code 31 = .ok (.iload_n 0, 1) := by decide +kernel
theorem own_d1_32 : decode prog_75_method_12_code 32 = .ok (.bipush 95, 2) := by decide +kernel
theorem own_d1_34 : decode prog_75_method_12_code 34 = .ok (.if_icmp .eq 9, 3) := by decide +kernel
theorem own_d1_37 : decode prog_75_method_12_code 37 = .ok (.iload_n 0, 1) := by decide +kernel
theorem own_d1_38 : decode prog_75_method_12_code 38 = .ok (.bipush 58, 2) := by decide +kernel
theorem own_d1_40 : decode prog_75_method_12_code 40 = .ok (.if_icmp .ne 7, 3) := by decide +kernel
theorem own_d1_43 : decode prog_75_method_12_code 43 = .ok (.iconst 1, 1) := by decide +kernel
theorem own_d1_44 : decode prog_75_method_12_code 44 = .ok (.goto 4, 3) := by decide +kernel
theorem own_d1_47 : decode prog_75_method_12_code 47 = .ok (.iconst 0, 1) := by decide +kernel
theorem own_d1_48 : decode prog_75_method_12_code 48 = .ok (.ireturn, 1) := by decide +kernel
theorem own_d1_49 : decode prog_75_method_12_code 49 = .ok (.iload_n 0, 1) := by decide +kernel
theorem own_d1_50 : decode prog_75_method_12_code 50 = .ok (.sipush 192, 3) := by decide +kernel
theorem own_d1_53 : decode prog_75_method_12_code 53 = .ok (.if_icmp .lt 10, 3) := by decide +kernel
theorem own_d1_56 : decode prog_75_method_12_code 56 = .ok (.iload_n 0, 1) := by decide +kernel
theorem own_d1_57 : decode prog_75_method_12_code 57 = .ok (.sipush 214, 3) := by decide +kernel
theorem own_d1_60 : decode prog_75_method_12_code 60 = .ok (.if_icmp .le 150, 3) := by decide +kernel
theorem own_d1_63 : decode prog_75_method_12_code 63 = .ok (.iload_n 0, 1) := by decide +kernel
theorem own_d1_64 : decode prog_75_method_12_code 64 = .ok (.sipush 216, 3) := by decide +kernel
theorem own_d1_67 : decode prog_75_method_12_code 67 = .ok (.if_icmp .lt 10, 3) := by decide +kernel
theorem own_d1_70 : decode prog_75_method_12_code 70 = .ok (.iload_n 0, 1) := by decide +kernel
theorem own_d1_71 : decode prog_75_method_12_code 71 = .ok (.sipush 246, 3) := by decide +kernel
theorem own_d1_74 : decode prog_75_method_12_code 74 = .ok (.if_icmp .le 136, 3) := by decide +kernel
theorem own_d1_77 : decode prog_75_method_12_code 77 = .ok (.iload_n 0, 1) := by decide +kernel
theorem own_d1_78 : decode prog_75_method_12_code 78 = .ok (.sipush 248, 3) := by decide +kernel
theorem own_d1_81 : decode prog_75_method_12_code 81 = .ok (.if_icmp .lt 10, 3) := by decide +kernel
theorem own_d1_84 : decode prog_75_method_12_code 84 = .ok (.iload_n 0, 1) := by decide +kernel
theorem own_d1_85 : decode prog_75_method_12_code 85 = .ok (.sipush 767, 3) := by decide +kernel
theorem own_d1_88 : decode prog_75_method_12_code 88 = .ok (.if_icmp .le 122, 3) := by decide +kernel
theorem own_d1_91 : decode prog_75_method_12_code 91 = .ok (.iload_n 0, 1) := by decide +kernel
theorem own_d1_92 : decode prog_75_method_12_code 92 = .ok (.sipush 880, 3) := by decide +kernel
theorem own_d1_95 : decode prog_75_method_12_code 95 = .ok (.if_icmp .lt 10, 3) := by decide +kernel
theorem own_d1_98 : decode prog_75_method_12_code 98 = .ok (.iload_n 0, 1) := by decide +kernel
theorem own_d1_99 : decode prog_75_method_12_code 99 = .ok (.sipush 893, 3) := by decide +kernel
theorem own_d1_102 : decode prog_75_method_12_code 102 = .ok (.if_icmp .le 108, 3) := by decide +kernel
theorem own_d1_105 : decode prog_75_method_12_code 105 = .ok (.iload_n 0, 1) := by decide +kernel
theorem own_d1_106 : decode prog_75_method_12_code 106 = .ok (.sipush 895, 3) := by decide +kernel
theorem own_d1_109 : decode prog_75_method_12_code 109 = .ok (.if_icmp .lt 10, 3) := by decide +kernel
theorem own_d1_112 : decode prog_75_method_12_code 112 = .ok (.iload_n 0, 1) := by decide +kernel
theorem own_d1_113 : decode prog_75_method_12_code 113 = .ok (.sipush 8191, 3) := by decide +kernel
theorem own_d1_116 : decode prog_75_method_12_code 116 = .ok (.if_icmp .le 94, 3) := by decide +kernel
theorem own_d1_119 : decode prog_75_method_12_code 119 = .ok (.iload_n 0, 1) := by decide +kernel
theorem own_d1_120 : decode prog_75_method_12_code 120 = .ok (.sipush 8204, 3) := by decide +kernel
theorem own_d1_123 : decode prog_75_method_12_code 123 = .ok (.if_icmp .lt 10, 3) := by decide +kernel
theorem own_d1_126 : decode prog_75_method_12_code 126 = .ok (.iload_n 0, 1) := by decide +kernel
theorem own_d1_127 : decode prog_75_method_12_code 127 = .ok (.sipush 8205, 3) := by decide +kernel
theorem own_d1_130 : decode prog_75_method_12_code 130 = .ok (.if_icmp .le 80, 3) := by decide +kernel
theorem own_d1_133 : decode prog_75_method_12_code 133 = .ok (.iload_n 0, 1) := by decide +kernel
theorem own_d1_134 : decode prog_75_method_12_code 134 = .ok (.sipush 8304, 3) := by decide +kernel
theorem own_d1_137 : decode prog_75_method_12_code 137 = .ok (.if_icmp .lt 10, 3) := by decide +kernel
theorem own_d1_140 : decode prog_75_method_12_code 140 = .ok (.iload_n 0, 1) := by decide +kernel
theorem own_d1_141 : decode prog_75_method_12_code 141 = .ok (.sipush 8591, 3) := by decide +kernel
theorem own_d1_144 : decode prog_75_method_12_code 144 = .ok (.if_icmp .le 66, 3) := by decide +kernel
theorem own_d1_147 : decode prog_75_method_12_code 147 = .ok (.iload_n 0, 1) := by decide +kernel
theorem own_d1_148 : decode prog_75_method_12_code 148 = .ok (.sipush 11264, 3) := by decide +kernel
theorem own_d1_151 : decode prog_75_method_12_code 151 = .ok (.if_icmp .lt 10, 3) := by decide +kernel
theorem own_d1_154 : decode prog_75_method_12_code 154 = .ok (.iload_n 0, 1) := by decide +kernel
theorem own_d1_155 : decode prog_75_method_12_code 155 = .ok (.sipush 12271, 3) := by decide +kernel
theorem own_d1_158 : decode prog_75_method_12_code 158 = .ok (.if_icmp .le 52, 3) := by decide +kernel
theorem own_d1_161 : decode prog_75_method_12_code 161 = .ok (.iload_n 0, 1) := by decide +kernel
theorem own_d1_162 : decode prog_75_method_12_code 162 = .ok (.sipush 12289, 3) := by decide +kernel
theorem own_d1_165 : decode prog_75_method_12_code 165 = .ok (.if_icmp .lt 9, 3) := by decide +kernel
theorem own_d1_168 : decode prog_75_method_12_code 168 = .ok (.iload_n 0, 1) := by decide +kernel
theorem own_d1_169 : decode prog_75_method_12_code 169 = .ok (.ldc 7, 2) := by decide +kernel
theorem own_d1_171 : decode prog_75_method_12_code 171 = .ok (.if_icmp .le 39, 3) := by decide +kernel
theorem own_d1_174 : decode prog_75_method_12_code 174 = .ok (.iload_n 0, 1) := by decide +kernel
theorem own_d1_175 : decode prog_75_method_12_code 175 = .ok (.ldc 76, 2) := by decide +kernel
theorem own_d1_177 : decode prog_75_method_12_code 177 = .ok (.if_icmp .lt 9, 3) := by decide +kernel
theorem own_d1_180 : decode prog_75_method_12_code 180 = .ok (.iload_n 0, 1) := by decide +kernel
theorem own_d1_181 : decode prog_75_method_12_code 181 = .ok (.ldc 77, 2) := by decide +kernel
theorem own_d1_183 : decode prog_75_method_12_code 183 = .ok (.if_icmp .le 27, 3) := by decide +kernel
theorem own_d1_186 : decode prog_75_method_12_code 186 = .ok (.iload_n 0, 1) := by decide +kernel
theorem own_d1_187 : decode prog_75_method_12_code 187 = .ok (.ldc 78, 2) := by decide +kernel
theorem own_d1_189 : decode prog_75_method_12_code 189 = .ok (.if_icmp .lt 9, 3) := by decide +kernel
theorem own_d1_192 : decode prog_75_method_12_code 192 = .ok (.iload_n 0, 1) := by decide +kernel
theorem own_d1_193 : decode prog_75_method_12_code 193 = .ok (.ldc 9, 2) := by decide +kernel
theorem own_d1_195 : decode prog_75_method_12_code 195 = .ok (.if_icmp .le 15, 3) := by decide +kernel
theorem own_d1_198 : decode prog_75_method_12_code 198 = .ok (.iload_n 0, 1) := by decide +kernel
theorem own_d1_199 : decode prog_75_method_12_code 199 = .ok (.ldc 10, 2) := by decide +kernel
theorem own_d1_201 : decode prog_75_method_12_code 201 = .ok (.if_icmp .lt 13, 3) := by decide +kernel
theorem own_d1_204 : decode prog_75_method_12_code 204 = .ok (.iload_n 0, 1) := by decide +kernel
theorem own_d1_205 : decode prog_75_method_12_code 205 = .ok (.ldc 79, 2) := by decide +kernel
theorem own_d1_207 : decode prog_75_method_12_code 207 = .ok (.if_icmp .gt 7, 3) := by decide +kernel
theorem own_d1_210 : decode prog_75_method_12_code 210 = .ok (.iconst 1, 1) := by decide +kernel
theorem own_d1_211 : decode prog_75_method_12_code 211 = .ok (.goto 4, 3) := by decide +kernel
theorem own_d1_214 : decode prog_75_method_12_code 214 = .ok (.iconst 0, 1) := by decide +kernel
theorem own_d1_215 : decode prog_75_method_12_code 215 = .ok (.ireturn, 1) := by decide +kernel
theorem own_pn0 : plainName "com/example/feuillet/feuillet/xml/XmlNames" = true := by first | (simp [plainName, overriddenIn]; done) | decide +kernel
theorem own_ef1 (m : MethodId) (p0 : Int32) : entryFrame m #[(.int p0)] 1 = mkF m 0 #[.val (.int p0)] [] := by first | (simp [entryFrame, mkF, argsToLocals, Value.category]; done) | rfl
def own_f1_31 (p0 : Int32) : Int32 := (if p0 = (95 : Int32) then (1 : Int32) else (if p0 = (58 : Int32) then (1 : Int32) else (0 : Int32)))
def own_f1_19 (p0 : Int32) : Int32 := (if p0 < (65 : Int32) then (own_f1_31 p0) else (if (90 : Int32) < p0 then (own_f1_31 p0) else (1 : Int32)))
def own_f1_198 (p0 : Int32) : Int32 := (if p0 < (65536 : Int32) then (0 : Int32) else (if (983039 : Int32) < p0 then (0 : Int32) else (1 : Int32)))
def own_f1_186 (p0 : Int32) : Int32 := (if p0 < (65008 : Int32) then (own_f1_198 p0) else (if (65533 : Int32) < p0 then (own_f1_198 p0) else (1 : Int32)))
def own_f1_174 (p0 : Int32) : Int32 := (if p0 < (63744 : Int32) then (own_f1_186 p0) else (if (64975 : Int32) < p0 then (own_f1_186 p0) else (1 : Int32)))
def own_f1_161 (p0 : Int32) : Int32 := (if p0 < (12289 : Int32) then (own_f1_174 p0) else (if (55295 : Int32) < p0 then (own_f1_174 p0) else (1 : Int32)))
def own_f1_147 (p0 : Int32) : Int32 := (if p0 < (11264 : Int32) then (own_f1_161 p0) else (if (12271 : Int32) < p0 then (own_f1_161 p0) else (1 : Int32)))
def own_f1_133 (p0 : Int32) : Int32 := (if p0 < (8304 : Int32) then (own_f1_147 p0) else (if (8591 : Int32) < p0 then (own_f1_147 p0) else (1 : Int32)))
def own_f1_119 (p0 : Int32) : Int32 := (if p0 < (8204 : Int32) then (own_f1_133 p0) else (if (8205 : Int32) < p0 then (own_f1_133 p0) else (1 : Int32)))
def own_f1_105 (p0 : Int32) : Int32 := (if p0 < (895 : Int32) then (own_f1_119 p0) else (if (8191 : Int32) < p0 then (own_f1_119 p0) else (1 : Int32)))
def own_f1_91 (p0 : Int32) : Int32 := (if p0 < (880 : Int32) then (own_f1_105 p0) else (if (893 : Int32) < p0 then (own_f1_105 p0) else (1 : Int32)))
def own_f1_77 (p0 : Int32) : Int32 := (if p0 < (248 : Int32) then (own_f1_91 p0) else (if (767 : Int32) < p0 then (own_f1_91 p0) else (1 : Int32)))
def own_f1_63 (p0 : Int32) : Int32 := (if p0 < (216 : Int32) then (own_f1_77 p0) else (if (246 : Int32) < p0 then (own_f1_77 p0) else (1 : Int32)))
def own_f1_0 (p0 : Int32) : Int32 := (if p0 < (128 : Int32) then (if p0 < (97 : Int32) then (own_f1_19 p0) else (if (122 : Int32) < p0 then (own_f1_19 p0) else (1 : Int32))) else (if p0 < (192 : Int32) then (own_f1_63 p0) else (if (214 : Int32) < p0 then (own_f1_63 p0) else (1 : Int32))))
set_option maxRecDepth 65536 in
set_option maxHeartbeats 40000000 in
theorem own_rm1 (l : Launch) (Z : State) (aA : Array Value) (hw : ∀ d ∈ tables_1, d.before aA Z = true) (ws : List Jvm.Cond) (p0 : Int32)  (h0 : Heap) (n0 : Nat) (Z0 : n0 ≤ h0.size) :
    MetFree l (⟨"com/example/feuillet/feuillet/xml/XmlNames", "isNameStartChar", "(I)Z"⟩ : MethodName) (head1 (Jvm.Cond.code (⟨"com/example/feuillet/feuillet/xml/XmlNames", "isNameStartChar", "(I)Z"⟩ : MethodName) prog_75_method_12_code 1 (some .boolean) :: ws) ({ frames := 0, cells := 0, slots := 0, locals := 0 } : Room)) (fun a U => a = #[(.int p0)] ∧ Z.Warmed39 U.vm ∧ U.heap = h0) (fun _ _ _ _ _ => True) (fun _ U o U' => ∃ v L, o = .returned v ∧ (QP (.int (own_f1_0 p0)) h0 n0) v U'.heap L ∧ FrameEnd U o U' L ({ frames := 0, cells := 0, slots := 0, locals := 0 } : Room).cells ({ frames := 0, cells := 0, slots := 0, locals := 0 } : Room).slots) := by
  refine MetFree.of_bodySF (plainFor_of_name own_pn0) hisR ?_
  intro p e s m args below meth c s₁ Bd hml0 hP hK
  obtain ⟨rfl, hZ, hh⟩ := hP
  have hx := Bd.exec
  have hby := Bd.bytes
  have hml : c.maxLocals = 1 := hml0
  have hown : s.vm.findClass "com/example/feuillet/feuillet/xml/XmlNames" = some m.cls := findClass_of_methodNamed Bd.named
  have hnm := (name_of_methodNamed Bd.named Bd.method).1
  have X0 : Stand p l e ({ frames := 0, cells := 0, slots := 0, locals := 0 } : Room) s m #[(.int p0)] below meth c s₁ [] 0 0 := Stand.of_body Bd
  have e0 : s₁.heap = h0 := by rw [← hh, Bd.state]; rfl
  have N0 := Fr.nil n0
  refine Owe.step (T := s₁) (T' := s₁) (g' := (mkF m 0 #[.val (.int p0)] [])) (fun t k => castTop (own_ef1 m p0) k) ?_
  refine Owe.step (T' := s₁) (g' := (mkF m 4 #[.val (.int p0)] [(.int (128 : Int32)), (.int p0)])) (fun t k => ?_) ?_
  · show Steps p.tables e below (s₁.setTop (mkF m 0 #[.val (.int p0)] [])) t
    refine XS.iloadN X0.here hx rfl (hb hby own_d1_0) rfl ?_
    show Steps p.tables e below (s₁.setTop (mkF m 1 #[.val (.int p0)] [(.int p0)])) t
    refine XS.sipush X0.here hx rfl (hb hby own_d1_1) ?_
    show Steps p.tables e below (s₁.setTop (mkF m 4 #[.val (.int p0)] [(.int (128 : Int32)), (.int p0)])) t
    exact k
  by_cases hc4 : p0 < (128 : Int32)
  · refine Owe.step (T' := s₁) (g' := (mkF m 7 #[.val (.int p0)] [])) (fun t k => ?_) ?_
    · show Steps p.tables e below (s₁.setTop (mkF m 4 #[.val (.int p0)] [(.int (128 : Int32)), (.int p0)])) t
      refine XS.icmpNo X0.here hx rfl (hb hby own_d1_4) rfl (tlt hc4).2.1 ?_
      show Steps p.tables e below (s₁.setTop (mkF m 7 #[.val (.int p0)] [])) t
      exact k
    refine Owe.step (T' := s₁) (g' := (mkF m 10 #[.val (.int p0)] [(.int (97 : Int32)), (.int p0)])) (fun t k => ?_) ?_
    · show Steps p.tables e below (s₁.setTop (mkF m 7 #[.val (.int p0)] [])) t
      refine XS.iloadN X0.here hx rfl (hb hby own_d1_7) rfl ?_
      show Steps p.tables e below (s₁.setTop (mkF m 8 #[.val (.int p0)] [(.int p0)])) t
      refine XS.bipush X0.here hx rfl (hb hby own_d1_8) ?_
      show Steps p.tables e below (s₁.setTop (mkF m 10 #[.val (.int p0)] [(.int (97 : Int32)), (.int p0)])) t
      exact k
    have j19 : ∀ (T : State) (Lc : List Loc) (X : Stand p l e ({ frames := 0, cells := 0, slots := 0, locals := 0 } : Room) s m #[(.int p0)] below meth c T Lc 0 0) (eT : T.heap = h0) (N : Fr n0 Lc), Owe p e below s ({ frames := 0, cells := 0, slots := 0, locals := 0 } : Room).cells ({ frames := 0, cells := 0, slots := 0, locals := 0 } : Room).slots (QP (.int (own_f1_19 p0)) h0 n0) T (mkF m 19 #[.val (.int p0)] []) := by
      intro T19j Lc19j X19j e19j N19j
      refine Owe.step (T' := T19j) (g' := (mkF m 22 #[.val (.int p0)] [(.int (65 : Int32)), (.int p0)])) (fun t k => ?_) ?_
      · show Steps p.tables e below (T19j.setTop (mkF m 19 #[.val (.int p0)] [])) t
        refine XS.iloadN X19j.here hx rfl (hb hby own_d1_19) rfl ?_
        show Steps p.tables e below (T19j.setTop (mkF m 20 #[.val (.int p0)] [(.int p0)])) t
        refine XS.bipush X19j.here hx rfl (hb hby own_d1_20) ?_
        show Steps p.tables e below (T19j.setTop (mkF m 22 #[.val (.int p0)] [(.int (65 : Int32)), (.int p0)])) t
        exact k
      have j31 : ∀ (T : State) (Lc : List Loc) (X : Stand p l e ({ frames := 0, cells := 0, slots := 0, locals := 0 } : Room) s m #[(.int p0)] below meth c T Lc 0 0) (eT : T.heap = h0) (N : Fr n0 Lc), Owe p e below s ({ frames := 0, cells := 0, slots := 0, locals := 0 } : Room).cells ({ frames := 0, cells := 0, slots := 0, locals := 0 } : Room).slots (QP (.int (own_f1_31 p0)) h0 n0) T (mkF m 31 #[.val (.int p0)] []) := by
        intro T31j Lc31j X31j e31j N31j
        refine Owe.step (T' := T31j) (g' := (mkF m 34 #[.val (.int p0)] [(.int (95 : Int32)), (.int p0)])) (fun t k => ?_) ?_
        · show Steps p.tables e below (T31j.setTop (mkF m 31 #[.val (.int p0)] [])) t
          refine XS.iloadN X31j.here hx rfl (hb hby own_d1_31) rfl ?_
          show Steps p.tables e below (T31j.setTop (mkF m 32 #[.val (.int p0)] [(.int p0)])) t
          refine XS.bipush X31j.here hx rfl (hb hby own_d1_32) ?_
          show Steps p.tables e below (T31j.setTop (mkF m 34 #[.val (.int p0)] [(.int (95 : Int32)), (.int p0)])) t
          exact k
        by_cases hc34 : p0 = (95 : Int32)
        · refine Owe.step (T' := T31j) (g' := (mkF m 43 #[.val (.int p0)] [])) (fun t k => ?_) ?_
          · show Steps p.tables e below (T31j.setTop (mkF m 34 #[.val (.int p0)] [(.int (95 : Int32)), (.int p0)])) t
            refine XS.icmpYes X31j.here hx rfl (pc0 := 34) (pc' := 43) rfl (hb hby own_d1_34) rfl (teq hc34).1 (by decide) (by decide) ?_
            show Steps p.tables e below (T31j.setTop (mkF m 43 #[.val (.int p0)] [])) t
            exact k
          rw [show own_f1_31 p0 = (1 : Int32) from (by rw [own_f1_31, if_pos hc34])]
          refine Owe.ret X31j Bd.notSynchronized (v := (some (.int (1 : Int32)))) (fun h => by rw [Bd.returns] at h; cases h) (fun fs hr => ?_) ⟨rfl, N31j, e31j⟩ (by decide) (by decide)
          show Steps p.tables e below (T31j.setTop (mkF m 43 #[.val (.int p0)] [])) _
          refine XS.iconst X31j.here hx rfl (hb hby own_d1_43) ?_
          show Steps p.tables e below (T31j.setTop (mkF m 44 #[.val (.int p0)] [(.int (1 : Int32))])) _
          refine XS.goto X31j.here hx rfl (pc0 := 44) (pc' := 48) rfl (hb hby own_d1_44) (by decide) (by decide) ?_
          show Steps p.tables e below (T31j.setTop (mkF m 48 #[.val (.int p0)] [(.int (1 : Int32))])) _
          exact retN X31j hx (t := .boolean) Bd.returns (by simp) (hb hby own_d1_48) hr
        · refine Owe.step (T' := T31j) (g' := (mkF m 37 #[.val (.int p0)] [])) (fun t k => ?_) ?_
          · show Steps p.tables e below (T31j.setTop (mkF m 34 #[.val (.int p0)] [(.int (95 : Int32)), (.int p0)])) t
            refine XS.icmpNo X31j.here hx rfl (hb hby own_d1_34) rfl (feq hc34).1 ?_
            show Steps p.tables e below (T31j.setTop (mkF m 37 #[.val (.int p0)] [])) t
            exact k
          refine Owe.step (T' := T31j) (g' := (mkF m 40 #[.val (.int p0)] [(.int (58 : Int32)), (.int p0)])) (fun t k => ?_) ?_
          · show Steps p.tables e below (T31j.setTop (mkF m 37 #[.val (.int p0)] [])) t
            refine XS.iloadN X31j.here hx rfl (hb hby own_d1_37) rfl ?_
            show Steps p.tables e below (T31j.setTop (mkF m 38 #[.val (.int p0)] [(.int p0)])) t
            refine XS.bipush X31j.here hx rfl (hb hby own_d1_38) ?_
            show Steps p.tables e below (T31j.setTop (mkF m 40 #[.val (.int p0)] [(.int (58 : Int32)), (.int p0)])) t
            exact k
          by_cases hc40 : p0 = (58 : Int32)
          · refine Owe.step (T' := T31j) (g' := (mkF m 43 #[.val (.int p0)] [])) (fun t k => ?_) ?_
            · show Steps p.tables e below (T31j.setTop (mkF m 40 #[.val (.int p0)] [(.int (58 : Int32)), (.int p0)])) t
              refine XS.icmpNo X31j.here hx rfl (hb hby own_d1_40) rfl (teq hc40).2 ?_
              show Steps p.tables e below (T31j.setTop (mkF m 43 #[.val (.int p0)] [])) t
              exact k
            rw [show own_f1_31 p0 = (1 : Int32) from (by rw [own_f1_31, if_neg hc34, if_pos hc40])]
            refine Owe.ret X31j Bd.notSynchronized (v := (some (.int (1 : Int32)))) (fun h => by rw [Bd.returns] at h; cases h) (fun fs hr => ?_) ⟨rfl, N31j, e31j⟩ (by decide) (by decide)
            show Steps p.tables e below (T31j.setTop (mkF m 43 #[.val (.int p0)] [])) _
            refine XS.iconst X31j.here hx rfl (hb hby own_d1_43) ?_
            show Steps p.tables e below (T31j.setTop (mkF m 44 #[.val (.int p0)] [(.int (1 : Int32))])) _
            refine XS.goto X31j.here hx rfl (pc0 := 44) (pc' := 48) rfl (hb hby own_d1_44) (by decide) (by decide) ?_
            show Steps p.tables e below (T31j.setTop (mkF m 48 #[.val (.int p0)] [(.int (1 : Int32))])) _
            exact retN X31j hx (t := .boolean) Bd.returns (by simp) (hb hby own_d1_48) hr
          · refine Owe.step (T' := T31j) (g' := (mkF m 47 #[.val (.int p0)] [])) (fun t k => ?_) ?_
            · show Steps p.tables e below (T31j.setTop (mkF m 40 #[.val (.int p0)] [(.int (58 : Int32)), (.int p0)])) t
              refine XS.icmpYes X31j.here hx rfl (pc0 := 40) (pc' := 47) rfl (hb hby own_d1_40) rfl (feq hc40).2 (by decide) (by decide) ?_
              show Steps p.tables e below (T31j.setTop (mkF m 47 #[.val (.int p0)] [])) t
              exact k
            rw [show own_f1_31 p0 = (0 : Int32) from (by rw [own_f1_31, if_neg hc34, if_neg hc40])]
            refine Owe.ret X31j Bd.notSynchronized (v := (some (.int (0 : Int32)))) (fun h => by rw [Bd.returns] at h; cases h) (fun fs hr => ?_) ⟨rfl, N31j, e31j⟩ (by decide) (by decide)
            show Steps p.tables e below (T31j.setTop (mkF m 47 #[.val (.int p0)] [])) _
            refine XS.iconst X31j.here hx rfl (hb hby own_d1_47) ?_
            show Steps p.tables e below (T31j.setTop (mkF m 48 #[.val (.int p0)] [(.int (0 : Int32))])) _
            exact retN X31j hx (t := .boolean) Bd.returns (by simp) (hb hby own_d1_48) hr
      by_cases hc22 : p0 < (65 : Int32)
      · refine Owe.step (T' := T19j) (g' := (mkF m 31 #[.val (.int p0)] [])) (fun t k => ?_) ?_
        · show Steps p.tables e below (T19j.setTop (mkF m 22 #[.val (.int p0)] [(.int (65 : Int32)), (.int p0)])) t
          refine XS.icmpYes X19j.here hx rfl (pc0 := 22) (pc' := 31) rfl (hb hby own_d1_22) rfl (tlt hc22).1 (by decide) (by decide) ?_
          show Steps p.tables e below (T19j.setTop (mkF m 31 #[.val (.int p0)] [])) t
          exact k
        rw [show own_f1_19 p0 = (own_f1_31 p0) from (by rw [own_f1_19, if_pos hc22])]
        exact j31 T19j _ X19j e19j N19j
      · refine Owe.step (T' := T19j) (g' := (mkF m 25 #[.val (.int p0)] [])) (fun t k => ?_) ?_
        · show Steps p.tables e below (T19j.setTop (mkF m 22 #[.val (.int p0)] [(.int (65 : Int32)), (.int p0)])) t
          refine XS.icmpNo X19j.here hx rfl (hb hby own_d1_22) rfl (flt hc22).1 ?_
          show Steps p.tables e below (T19j.setTop (mkF m 25 #[.val (.int p0)] [])) t
          exact k
        refine Owe.step (T' := T19j) (g' := (mkF m 28 #[.val (.int p0)] [(.int (90 : Int32)), (.int p0)])) (fun t k => ?_) ?_
        · show Steps p.tables e below (T19j.setTop (mkF m 25 #[.val (.int p0)] [])) t
          refine XS.iloadN X19j.here hx rfl (hb hby own_d1_25) rfl ?_
          show Steps p.tables e below (T19j.setTop (mkF m 26 #[.val (.int p0)] [(.int p0)])) t
          refine XS.bipush X19j.here hx rfl (hb hby own_d1_26) ?_
          show Steps p.tables e below (T19j.setTop (mkF m 28 #[.val (.int p0)] [(.int (90 : Int32)), (.int p0)])) t
          exact k
        by_cases hc28 : (90 : Int32) < p0
        · refine Owe.step (T' := T19j) (g' := (mkF m 31 #[.val (.int p0)] [])) (fun t k => ?_) ?_
          · show Steps p.tables e below (T19j.setTop (mkF m 28 #[.val (.int p0)] [(.int (90 : Int32)), (.int p0)])) t
            refine XS.icmpNo X19j.here hx rfl (hb hby own_d1_28) rfl (tlt hc28).2.2.2 ?_
            show Steps p.tables e below (T19j.setTop (mkF m 31 #[.val (.int p0)] [])) t
            exact k
          rw [show own_f1_19 p0 = (own_f1_31 p0) from (by rw [own_f1_19, if_neg hc22, if_pos hc28])]
          exact j31 T19j _ X19j e19j N19j
        · refine Owe.step (T' := T19j) (g' := (mkF m 43 #[.val (.int p0)] [])) (fun t k => ?_) ?_
          · show Steps p.tables e below (T19j.setTop (mkF m 28 #[.val (.int p0)] [(.int (90 : Int32)), (.int p0)])) t
            refine XS.icmpYes X19j.here hx rfl (pc0 := 28) (pc' := 43) rfl (hb hby own_d1_28) rfl (flt hc28).2.2.2 (by decide) (by decide) ?_
            show Steps p.tables e below (T19j.setTop (mkF m 43 #[.val (.int p0)] [])) t
            exact k
          rw [show own_f1_19 p0 = (1 : Int32) from (by rw [own_f1_19, if_neg hc22, if_neg hc28])]
          refine Owe.ret X19j Bd.notSynchronized (v := (some (.int (1 : Int32)))) (fun h => by rw [Bd.returns] at h; cases h) (fun fs hr => ?_) ⟨rfl, N19j, e19j⟩ (by decide) (by decide)
          show Steps p.tables e below (T19j.setTop (mkF m 43 #[.val (.int p0)] [])) _
          refine XS.iconst X19j.here hx rfl (hb hby own_d1_43) ?_
          show Steps p.tables e below (T19j.setTop (mkF m 44 #[.val (.int p0)] [(.int (1 : Int32))])) _
          refine XS.goto X19j.here hx rfl (pc0 := 44) (pc' := 48) rfl (hb hby own_d1_44) (by decide) (by decide) ?_
          show Steps p.tables e below (T19j.setTop (mkF m 48 #[.val (.int p0)] [(.int (1 : Int32))])) _
          exact retN X19j hx (t := .boolean) Bd.returns (by simp) (hb hby own_d1_48) hr
    by_cases hc10 : p0 < (97 : Int32)
    · refine Owe.step (T' := s₁) (g' := (mkF m 19 #[.val (.int p0)] [])) (fun t k => ?_) ?_
      · show Steps p.tables e below (s₁.setTop (mkF m 10 #[.val (.int p0)] [(.int (97 : Int32)), (.int p0)])) t
        refine XS.icmpYes X0.here hx rfl (pc0 := 10) (pc' := 19) rfl (hb hby own_d1_10) rfl (tlt hc10).1 (by decide) (by decide) ?_
        show Steps p.tables e below (s₁.setTop (mkF m 19 #[.val (.int p0)] [])) t
        exact k
      rw [show own_f1_0 p0 = (own_f1_19 p0) from (by rw [own_f1_0, if_pos hc4, if_pos hc10])]
      exact j19 s₁ _ X0 e0 N0
    · refine Owe.step (T' := s₁) (g' := (mkF m 13 #[.val (.int p0)] [])) (fun t k => ?_) ?_
      · show Steps p.tables e below (s₁.setTop (mkF m 10 #[.val (.int p0)] [(.int (97 : Int32)), (.int p0)])) t
        refine XS.icmpNo X0.here hx rfl (hb hby own_d1_10) rfl (flt hc10).1 ?_
        show Steps p.tables e below (s₁.setTop (mkF m 13 #[.val (.int p0)] [])) t
        exact k
      refine Owe.step (T' := s₁) (g' := (mkF m 16 #[.val (.int p0)] [(.int (122 : Int32)), (.int p0)])) (fun t k => ?_) ?_
      · show Steps p.tables e below (s₁.setTop (mkF m 13 #[.val (.int p0)] [])) t
        refine XS.iloadN X0.here hx rfl (hb hby own_d1_13) rfl ?_
        show Steps p.tables e below (s₁.setTop (mkF m 14 #[.val (.int p0)] [(.int p0)])) t
        refine XS.bipush X0.here hx rfl (hb hby own_d1_14) ?_
        show Steps p.tables e below (s₁.setTop (mkF m 16 #[.val (.int p0)] [(.int (122 : Int32)), (.int p0)])) t
        exact k
      by_cases hc16 : (122 : Int32) < p0
      · refine Owe.step (T' := s₁) (g' := (mkF m 19 #[.val (.int p0)] [])) (fun t k => ?_) ?_
        · show Steps p.tables e below (s₁.setTop (mkF m 16 #[.val (.int p0)] [(.int (122 : Int32)), (.int p0)])) t
          refine XS.icmpNo X0.here hx rfl (hb hby own_d1_16) rfl (tlt hc16).2.2.2 ?_
          show Steps p.tables e below (s₁.setTop (mkF m 19 #[.val (.int p0)] [])) t
          exact k
        rw [show own_f1_0 p0 = (own_f1_19 p0) from (by rw [own_f1_0, if_pos hc4, if_neg hc10, if_pos hc16])]
        exact j19 s₁ _ X0 e0 N0
      · refine Owe.step (T' := s₁) (g' := (mkF m 43 #[.val (.int p0)] [])) (fun t k => ?_) ?_
        · show Steps p.tables e below (s₁.setTop (mkF m 16 #[.val (.int p0)] [(.int (122 : Int32)), (.int p0)])) t
          refine XS.icmpYes X0.here hx rfl (pc0 := 16) (pc' := 43) rfl (hb hby own_d1_16) rfl (flt hc16).2.2.2 (by decide) (by decide) ?_
          show Steps p.tables e below (s₁.setTop (mkF m 43 #[.val (.int p0)] [])) t
          exact k
        rw [show own_f1_0 p0 = (1 : Int32) from (by rw [own_f1_0, if_pos hc4, if_neg hc10, if_neg hc16])]
        refine Owe.ret X0 Bd.notSynchronized (v := (some (.int (1 : Int32)))) (fun h => by rw [Bd.returns] at h; cases h) (fun fs hr => ?_) ⟨rfl, N0, e0⟩ (by decide) (by decide)
        show Steps p.tables e below (s₁.setTop (mkF m 43 #[.val (.int p0)] [])) _
        refine XS.iconst X0.here hx rfl (hb hby own_d1_43) ?_
        show Steps p.tables e below (s₁.setTop (mkF m 44 #[.val (.int p0)] [(.int (1 : Int32))])) _
        refine XS.goto X0.here hx rfl (pc0 := 44) (pc' := 48) rfl (hb hby own_d1_44) (by decide) (by decide) ?_
        show Steps p.tables e below (s₁.setTop (mkF m 48 #[.val (.int p0)] [(.int (1 : Int32))])) _
        exact retN X0 hx (t := .boolean) Bd.returns (by simp) (hb hby own_d1_48) hr
  · refine Owe.step (T' := s₁) (g' := (mkF m 49 #[.val (.int p0)] [])) (fun t k => ?_) ?_
    · show Steps p.tables e below (s₁.setTop (mkF m 4 #[.val (.int p0)] [(.int (128 : Int32)), (.int p0)])) t
      refine XS.icmpYes X0.here hx rfl (pc0 := 4) (pc' := 49) rfl (hb hby own_d1_4) rfl (flt hc4).2.1 (by decide) (by decide) ?_
      show Steps p.tables e below (s₁.setTop (mkF m 49 #[.val (.int p0)] [])) t
      exact k
    refine Owe.step (T' := s₁) (g' := (mkF m 53 #[.val (.int p0)] [(.int (192 : Int32)), (.int p0)])) (fun t k => ?_) ?_
    · show Steps p.tables e below (s₁.setTop (mkF m 49 #[.val (.int p0)] [])) t
      refine XS.iloadN X0.here hx rfl (hb hby own_d1_49) rfl ?_
      show Steps p.tables e below (s₁.setTop (mkF m 50 #[.val (.int p0)] [(.int p0)])) t
      refine XS.sipush X0.here hx rfl (hb hby own_d1_50) ?_
      show Steps p.tables e below (s₁.setTop (mkF m 53 #[.val (.int p0)] [(.int (192 : Int32)), (.int p0)])) t
      exact k
    have j63 : ∀ (T : State) (Lc : List Loc) (X : Stand p l e ({ frames := 0, cells := 0, slots := 0, locals := 0 } : Room) s m #[(.int p0)] below meth c T Lc 0 0) (eT : T.heap = h0) (N : Fr n0 Lc), Owe p e below s ({ frames := 0, cells := 0, slots := 0, locals := 0 } : Room).cells ({ frames := 0, cells := 0, slots := 0, locals := 0 } : Room).slots (QP (.int (own_f1_63 p0)) h0 n0) T (mkF m 63 #[.val (.int p0)] []) := by
      intro T63j Lc63j X63j e63j N63j
      refine Owe.step (T' := T63j) (g' := (mkF m 67 #[.val (.int p0)] [(.int (216 : Int32)), (.int p0)])) (fun t k => ?_) ?_
      · show Steps p.tables e below (T63j.setTop (mkF m 63 #[.val (.int p0)] [])) t
        refine XS.iloadN X63j.here hx rfl (hb hby own_d1_63) rfl ?_
        show Steps p.tables e below (T63j.setTop (mkF m 64 #[.val (.int p0)] [(.int p0)])) t
        refine XS.sipush X63j.here hx rfl (hb hby own_d1_64) ?_
        show Steps p.tables e below (T63j.setTop (mkF m 67 #[.val (.int p0)] [(.int (216 : Int32)), (.int p0)])) t
        exact k
      have j77 : ∀ (T : State) (Lc : List Loc) (X : Stand p l e ({ frames := 0, cells := 0, slots := 0, locals := 0 } : Room) s m #[(.int p0)] below meth c T Lc 0 0) (eT : T.heap = h0) (N : Fr n0 Lc), Owe p e below s ({ frames := 0, cells := 0, slots := 0, locals := 0 } : Room).cells ({ frames := 0, cells := 0, slots := 0, locals := 0 } : Room).slots (QP (.int (own_f1_77 p0)) h0 n0) T (mkF m 77 #[.val (.int p0)] []) := by
        intro T77j Lc77j X77j e77j N77j
        refine Owe.step (T' := T77j) (g' := (mkF m 81 #[.val (.int p0)] [(.int (248 : Int32)), (.int p0)])) (fun t k => ?_) ?_
        · show Steps p.tables e below (T77j.setTop (mkF m 77 #[.val (.int p0)] [])) t
          refine XS.iloadN X77j.here hx rfl (hb hby own_d1_77) rfl ?_
          show Steps p.tables e below (T77j.setTop (mkF m 78 #[.val (.int p0)] [(.int p0)])) t
          refine XS.sipush X77j.here hx rfl (hb hby own_d1_78) ?_
          show Steps p.tables e below (T77j.setTop (mkF m 81 #[.val (.int p0)] [(.int (248 : Int32)), (.int p0)])) t
          exact k
        have j91 : ∀ (T : State) (Lc : List Loc) (X : Stand p l e ({ frames := 0, cells := 0, slots := 0, locals := 0 } : Room) s m #[(.int p0)] below meth c T Lc 0 0) (eT : T.heap = h0) (N : Fr n0 Lc), Owe p e below s ({ frames := 0, cells := 0, slots := 0, locals := 0 } : Room).cells ({ frames := 0, cells := 0, slots := 0, locals := 0 } : Room).slots (QP (.int (own_f1_91 p0)) h0 n0) T (mkF m 91 #[.val (.int p0)] []) := by
          intro T91j Lc91j X91j e91j N91j
          refine Owe.step (T' := T91j) (g' := (mkF m 95 #[.val (.int p0)] [(.int (880 : Int32)), (.int p0)])) (fun t k => ?_) ?_
          · show Steps p.tables e below (T91j.setTop (mkF m 91 #[.val (.int p0)] [])) t
            refine XS.iloadN X91j.here hx rfl (hb hby own_d1_91) rfl ?_
            show Steps p.tables e below (T91j.setTop (mkF m 92 #[.val (.int p0)] [(.int p0)])) t
            refine XS.sipush X91j.here hx rfl (hb hby own_d1_92) ?_
            show Steps p.tables e below (T91j.setTop (mkF m 95 #[.val (.int p0)] [(.int (880 : Int32)), (.int p0)])) t
            exact k
          have j105 : ∀ (T : State) (Lc : List Loc) (X : Stand p l e ({ frames := 0, cells := 0, slots := 0, locals := 0 } : Room) s m #[(.int p0)] below meth c T Lc 0 0) (eT : T.heap = h0) (N : Fr n0 Lc), Owe p e below s ({ frames := 0, cells := 0, slots := 0, locals := 0 } : Room).cells ({ frames := 0, cells := 0, slots := 0, locals := 0 } : Room).slots (QP (.int (own_f1_105 p0)) h0 n0) T (mkF m 105 #[.val (.int p0)] []) := by
            intro T105j Lc105j X105j e105j N105j
            refine Owe.step (T' := T105j) (g' := (mkF m 109 #[.val (.int p0)] [(.int (895 : Int32)), (.int p0)])) (fun t k => ?_) ?_
            · show Steps p.tables e below (T105j.setTop (mkF m 105 #[.val (.int p0)] [])) t
              refine XS.iloadN X105j.here hx rfl (hb hby own_d1_105) rfl ?_
              show Steps p.tables e below (T105j.setTop (mkF m 106 #[.val (.int p0)] [(.int p0)])) t
              refine XS.sipush X105j.here hx rfl (hb hby own_d1_106) ?_
              show Steps p.tables e below (T105j.setTop (mkF m 109 #[.val (.int p0)] [(.int (895 : Int32)), (.int p0)])) t
              exact k
            have j119 : ∀ (T : State) (Lc : List Loc) (X : Stand p l e ({ frames := 0, cells := 0, slots := 0, locals := 0 } : Room) s m #[(.int p0)] below meth c T Lc 0 0) (eT : T.heap = h0) (N : Fr n0 Lc), Owe p e below s ({ frames := 0, cells := 0, slots := 0, locals := 0 } : Room).cells ({ frames := 0, cells := 0, slots := 0, locals := 0 } : Room).slots (QP (.int (own_f1_119 p0)) h0 n0) T (mkF m 119 #[.val (.int p0)] []) := by
              intro T119j Lc119j X119j e119j N119j
              refine Owe.step (T' := T119j) (g' := (mkF m 123 #[.val (.int p0)] [(.int (8204 : Int32)), (.int p0)])) (fun t k => ?_) ?_
              · show Steps p.tables e below (T119j.setTop (mkF m 119 #[.val (.int p0)] [])) t
                refine XS.iloadN X119j.here hx rfl (hb hby own_d1_119) rfl ?_
                show Steps p.tables e below (T119j.setTop (mkF m 120 #[.val (.int p0)] [(.int p0)])) t
                refine XS.sipush X119j.here hx rfl (hb hby own_d1_120) ?_
                show Steps p.tables e below (T119j.setTop (mkF m 123 #[.val (.int p0)] [(.int (8204 : Int32)), (.int p0)])) t
                exact k
              have j133 : ∀ (T : State) (Lc : List Loc) (X : Stand p l e ({ frames := 0, cells := 0, slots := 0, locals := 0 } : Room) s m #[(.int p0)] below meth c T Lc 0 0) (eT : T.heap = h0) (N : Fr n0 Lc), Owe p e below s ({ frames := 0, cells := 0, slots := 0, locals := 0 } : Room).cells ({ frames := 0, cells := 0, slots := 0, locals := 0 } : Room).slots (QP (.int (own_f1_133 p0)) h0 n0) T (mkF m 133 #[.val (.int p0)] []) := by
                intro T133j Lc133j X133j e133j N133j
                refine Owe.step (T' := T133j) (g' := (mkF m 137 #[.val (.int p0)] [(.int (8304 : Int32)), (.int p0)])) (fun t k => ?_) ?_
                · show Steps p.tables e below (T133j.setTop (mkF m 133 #[.val (.int p0)] [])) t
                  refine XS.iloadN X133j.here hx rfl (hb hby own_d1_133) rfl ?_
                  show Steps p.tables e below (T133j.setTop (mkF m 134 #[.val (.int p0)] [(.int p0)])) t
                  refine XS.sipush X133j.here hx rfl (hb hby own_d1_134) ?_
                  show Steps p.tables e below (T133j.setTop (mkF m 137 #[.val (.int p0)] [(.int (8304 : Int32)), (.int p0)])) t
                  exact k
                have j147 : ∀ (T : State) (Lc : List Loc) (X : Stand p l e ({ frames := 0, cells := 0, slots := 0, locals := 0 } : Room) s m #[(.int p0)] below meth c T Lc 0 0) (eT : T.heap = h0) (N : Fr n0 Lc), Owe p e below s ({ frames := 0, cells := 0, slots := 0, locals := 0 } : Room).cells ({ frames := 0, cells := 0, slots := 0, locals := 0 } : Room).slots (QP (.int (own_f1_147 p0)) h0 n0) T (mkF m 147 #[.val (.int p0)] []) := by
                  intro T147j Lc147j X147j e147j N147j
                  refine Owe.step (T' := T147j) (g' := (mkF m 151 #[.val (.int p0)] [(.int (11264 : Int32)), (.int p0)])) (fun t k => ?_) ?_
                  · show Steps p.tables e below (T147j.setTop (mkF m 147 #[.val (.int p0)] [])) t
                    refine XS.iloadN X147j.here hx rfl (hb hby own_d1_147) rfl ?_
                    show Steps p.tables e below (T147j.setTop (mkF m 148 #[.val (.int p0)] [(.int p0)])) t
                    refine XS.sipush X147j.here hx rfl (hb hby own_d1_148) ?_
                    show Steps p.tables e below (T147j.setTop (mkF m 151 #[.val (.int p0)] [(.int (11264 : Int32)), (.int p0)])) t
                    exact k
                  have j161 : ∀ (T : State) (Lc : List Loc) (X : Stand p l e ({ frames := 0, cells := 0, slots := 0, locals := 0 } : Room) s m #[(.int p0)] below meth c T Lc 0 0) (eT : T.heap = h0) (N : Fr n0 Lc), Owe p e below s ({ frames := 0, cells := 0, slots := 0, locals := 0 } : Room).cells ({ frames := 0, cells := 0, slots := 0, locals := 0 } : Room).slots (QP (.int (own_f1_161 p0)) h0 n0) T (mkF m 161 #[.val (.int p0)] []) := by
                    intro T161j Lc161j X161j e161j N161j
                    refine Owe.step (T' := T161j) (g' := (mkF m 165 #[.val (.int p0)] [(.int (12289 : Int32)), (.int p0)])) (fun t k => ?_) ?_
                    · show Steps p.tables e below (T161j.setTop (mkF m 161 #[.val (.int p0)] [])) t
                      refine XS.iloadN X161j.here hx rfl (hb hby own_d1_161) rfl ?_
                      show Steps p.tables e below (T161j.setTop (mkF m 162 #[.val (.int p0)] [(.int p0)])) t
                      refine XS.sipush X161j.here hx rfl (hb hby own_d1_162) ?_
                      show Steps p.tables e below (T161j.setTop (mkF m 165 #[.val (.int p0)] [(.int (12289 : Int32)), (.int p0)])) t
                      exact k
                    have j174 : ∀ (T : State) (Lc : List Loc) (X : Stand p l e ({ frames := 0, cells := 0, slots := 0, locals := 0 } : Room) s m #[(.int p0)] below meth c T Lc 0 0) (eT : T.heap = h0) (N : Fr n0 Lc), Owe p e below s ({ frames := 0, cells := 0, slots := 0, locals := 0 } : Room).cells ({ frames := 0, cells := 0, slots := 0, locals := 0 } : Room).slots (QP (.int (own_f1_174 p0)) h0 n0) T (mkF m 174 #[.val (.int p0)] []) := by
                      intro T174j Lc174j X174j e174j N174j
                      refine Owe.step (T' := T174j) (g' := (mkF m 177 #[.val (.int p0)] [(.int (63744 : Int32)), (.int p0)])) (fun t k => ?_) ?_
                      · show Steps p.tables e below (T174j.setTop (mkF m 174 #[.val (.int p0)] [])) t
                        refine XS.iloadN X174j.here hx rfl (hb hby own_d1_174) rfl ?_
                        show Steps p.tables e below (T174j.setTop (mkF m 175 #[.val (.int p0)] [(.int p0)])) t
                        refine X174j.ldcInt hx hown (mvT hZ (hw _ (List.mem_of_getElem? (i := 27) rfl))) (g := (mkF m 175 #[.val (.int p0)] [(.int p0)])) rfl (hb hby own_d1_175) _ ?_
                        show Steps p.tables e below (T174j.setTop (mkF m 177 #[.val (.int p0)] [(.int (63744 : Int32)), (.int p0)])) t
                        exact k
                      have j186 : ∀ (T : State) (Lc : List Loc) (X : Stand p l e ({ frames := 0, cells := 0, slots := 0, locals := 0 } : Room) s m #[(.int p0)] below meth c T Lc 0 0) (eT : T.heap = h0) (N : Fr n0 Lc), Owe p e below s ({ frames := 0, cells := 0, slots := 0, locals := 0 } : Room).cells ({ frames := 0, cells := 0, slots := 0, locals := 0 } : Room).slots (QP (.int (own_f1_186 p0)) h0 n0) T (mkF m 186 #[.val (.int p0)] []) := by
                        intro T186j Lc186j X186j e186j N186j
                        refine Owe.step (T' := T186j) (g' := (mkF m 189 #[.val (.int p0)] [(.int (65008 : Int32)), (.int p0)])) (fun t k => ?_) ?_
                        · show Steps p.tables e below (T186j.setTop (mkF m 186 #[.val (.int p0)] [])) t
                          refine XS.iloadN X186j.here hx rfl (hb hby own_d1_186) rfl ?_
                          show Steps p.tables e below (T186j.setTop (mkF m 187 #[.val (.int p0)] [(.int p0)])) t
                          refine X186j.ldcInt hx hown (mvT hZ (hw _ (List.mem_of_getElem? (i := 28) rfl))) (g := (mkF m 187 #[.val (.int p0)] [(.int p0)])) rfl (hb hby own_d1_187) _ ?_
                          show Steps p.tables e below (T186j.setTop (mkF m 189 #[.val (.int p0)] [(.int (65008 : Int32)), (.int p0)])) t
                          exact k
                        have j198 : ∀ (T : State) (Lc : List Loc) (X : Stand p l e ({ frames := 0, cells := 0, slots := 0, locals := 0 } : Room) s m #[(.int p0)] below meth c T Lc 0 0) (eT : T.heap = h0) (N : Fr n0 Lc), Owe p e below s ({ frames := 0, cells := 0, slots := 0, locals := 0 } : Room).cells ({ frames := 0, cells := 0, slots := 0, locals := 0 } : Room).slots (QP (.int (own_f1_198 p0)) h0 n0) T (mkF m 198 #[.val (.int p0)] []) := by
                          intro T198j Lc198j X198j e198j N198j
                          refine Owe.step (T' := T198j) (g' := (mkF m 201 #[.val (.int p0)] [(.int (65536 : Int32)), (.int p0)])) (fun t k => ?_) ?_
                          · show Steps p.tables e below (T198j.setTop (mkF m 198 #[.val (.int p0)] [])) t
                            refine XS.iloadN X198j.here hx rfl (hb hby own_d1_198) rfl ?_
                            show Steps p.tables e below (T198j.setTop (mkF m 199 #[.val (.int p0)] [(.int p0)])) t
                            refine X198j.ldcInt hx hown (mvT hZ (hw _ (List.mem_of_getElem? (i := 29) rfl))) (g := (mkF m 199 #[.val (.int p0)] [(.int p0)])) rfl (hb hby own_d1_199) _ ?_
                            show Steps p.tables e below (T198j.setTop (mkF m 201 #[.val (.int p0)] [(.int (65536 : Int32)), (.int p0)])) t
                            exact k
                          by_cases hc201 : p0 < (65536 : Int32)
                          · refine Owe.step (T' := T198j) (g' := (mkF m 214 #[.val (.int p0)] [])) (fun t k => ?_) ?_
                            · show Steps p.tables e below (T198j.setTop (mkF m 201 #[.val (.int p0)] [(.int (65536 : Int32)), (.int p0)])) t
                              refine XS.icmpYes X198j.here hx rfl (pc0 := 201) (pc' := 214) rfl (hb hby own_d1_201) rfl (tlt hc201).1 (by decide) (by decide) ?_
                              show Steps p.tables e below (T198j.setTop (mkF m 214 #[.val (.int p0)] [])) t
                              exact k
                            rw [show own_f1_198 p0 = (0 : Int32) from (by rw [own_f1_198, if_pos hc201])]
                            refine Owe.ret X198j Bd.notSynchronized (v := (some (.int (0 : Int32)))) (fun h => by rw [Bd.returns] at h; cases h) (fun fs hr => ?_) ⟨rfl, N198j, e198j⟩ (by decide) (by decide)
                            show Steps p.tables e below (T198j.setTop (mkF m 214 #[.val (.int p0)] [])) _
                            refine XS.iconst X198j.here hx rfl (hb hby own_d1_214) ?_
                            show Steps p.tables e below (T198j.setTop (mkF m 215 #[.val (.int p0)] [(.int (0 : Int32))])) _
                            exact retN X198j hx (t := .boolean) Bd.returns (by simp) (hb hby own_d1_215) hr
                          · refine Owe.step (T' := T198j) (g' := (mkF m 204 #[.val (.int p0)] [])) (fun t k => ?_) ?_
                            · show Steps p.tables e below (T198j.setTop (mkF m 201 #[.val (.int p0)] [(.int (65536 : Int32)), (.int p0)])) t
                              refine XS.icmpNo X198j.here hx rfl (hb hby own_d1_201) rfl (flt hc201).1 ?_
                              show Steps p.tables e below (T198j.setTop (mkF m 204 #[.val (.int p0)] [])) t
                              exact k
                            refine Owe.step (T' := T198j) (g' := (mkF m 207 #[.val (.int p0)] [(.int (983039 : Int32)), (.int p0)])) (fun t k => ?_) ?_
                            · show Steps p.tables e below (T198j.setTop (mkF m 204 #[.val (.int p0)] [])) t
                              refine XS.iloadN X198j.here hx rfl (hb hby own_d1_204) rfl ?_
                              show Steps p.tables e below (T198j.setTop (mkF m 205 #[.val (.int p0)] [(.int p0)])) t
                              refine X198j.ldcInt hx hown (mvT hZ (hw _ (List.mem_of_getElem? (i := 33) rfl))) (g := (mkF m 205 #[.val (.int p0)] [(.int p0)])) rfl (hb hby own_d1_205) _ ?_
                              show Steps p.tables e below (T198j.setTop (mkF m 207 #[.val (.int p0)] [(.int (983039 : Int32)), (.int p0)])) t
                              exact k
                            by_cases hc207 : (983039 : Int32) < p0
                            · refine Owe.step (T' := T198j) (g' := (mkF m 214 #[.val (.int p0)] [])) (fun t k => ?_) ?_
                              · show Steps p.tables e below (T198j.setTop (mkF m 207 #[.val (.int p0)] [(.int (983039 : Int32)), (.int p0)])) t
                                refine XS.icmpYes X198j.here hx rfl (pc0 := 207) (pc' := 214) rfl (hb hby own_d1_207) rfl (tlt hc207).2.2.1 (by decide) (by decide) ?_
                                show Steps p.tables e below (T198j.setTop (mkF m 214 #[.val (.int p0)] [])) t
                                exact k
                              rw [show own_f1_198 p0 = (0 : Int32) from (by rw [own_f1_198, if_neg hc201, if_pos hc207])]
                              refine Owe.ret X198j Bd.notSynchronized (v := (some (.int (0 : Int32)))) (fun h => by rw [Bd.returns] at h; cases h) (fun fs hr => ?_) ⟨rfl, N198j, e198j⟩ (by decide) (by decide)
                              show Steps p.tables e below (T198j.setTop (mkF m 214 #[.val (.int p0)] [])) _
                              refine XS.iconst X198j.here hx rfl (hb hby own_d1_214) ?_
                              show Steps p.tables e below (T198j.setTop (mkF m 215 #[.val (.int p0)] [(.int (0 : Int32))])) _
                              exact retN X198j hx (t := .boolean) Bd.returns (by simp) (hb hby own_d1_215) hr
                            · refine Owe.step (T' := T198j) (g' := (mkF m 210 #[.val (.int p0)] [])) (fun t k => ?_) ?_
                              · show Steps p.tables e below (T198j.setTop (mkF m 207 #[.val (.int p0)] [(.int (983039 : Int32)), (.int p0)])) t
                                refine XS.icmpNo X198j.here hx rfl (hb hby own_d1_207) rfl (flt hc207).2.2.1 ?_
                                show Steps p.tables e below (T198j.setTop (mkF m 210 #[.val (.int p0)] [])) t
                                exact k
                              rw [show own_f1_198 p0 = (1 : Int32) from (by rw [own_f1_198, if_neg hc201, if_neg hc207])]
                              refine Owe.ret X198j Bd.notSynchronized (v := (some (.int (1 : Int32)))) (fun h => by rw [Bd.returns] at h; cases h) (fun fs hr => ?_) ⟨rfl, N198j, e198j⟩ (by decide) (by decide)
                              show Steps p.tables e below (T198j.setTop (mkF m 210 #[.val (.int p0)] [])) _
                              refine XS.iconst X198j.here hx rfl (hb hby own_d1_210) ?_
                              show Steps p.tables e below (T198j.setTop (mkF m 211 #[.val (.int p0)] [(.int (1 : Int32))])) _
                              refine XS.goto X198j.here hx rfl (pc0 := 211) (pc' := 215) rfl (hb hby own_d1_211) (by decide) (by decide) ?_
                              show Steps p.tables e below (T198j.setTop (mkF m 215 #[.val (.int p0)] [(.int (1 : Int32))])) _
                              exact retN X198j hx (t := .boolean) Bd.returns (by simp) (hb hby own_d1_215) hr
                        by_cases hc189 : p0 < (65008 : Int32)
                        · refine Owe.step (T' := T186j) (g' := (mkF m 198 #[.val (.int p0)] [])) (fun t k => ?_) ?_
                          · show Steps p.tables e below (T186j.setTop (mkF m 189 #[.val (.int p0)] [(.int (65008 : Int32)), (.int p0)])) t
                            refine XS.icmpYes X186j.here hx rfl (pc0 := 189) (pc' := 198) rfl (hb hby own_d1_189) rfl (tlt hc189).1 (by decide) (by decide) ?_
                            show Steps p.tables e below (T186j.setTop (mkF m 198 #[.val (.int p0)] [])) t
                            exact k
                          rw [show own_f1_186 p0 = (own_f1_198 p0) from (by rw [own_f1_186, if_pos hc189])]
                          exact j198 T186j _ X186j e186j N186j
                        · refine Owe.step (T' := T186j) (g' := (mkF m 192 #[.val (.int p0)] [])) (fun t k => ?_) ?_
                          · show Steps p.tables e below (T186j.setTop (mkF m 189 #[.val (.int p0)] [(.int (65008 : Int32)), (.int p0)])) t
                            refine XS.icmpNo X186j.here hx rfl (hb hby own_d1_189) rfl (flt hc189).1 ?_
                            show Steps p.tables e below (T186j.setTop (mkF m 192 #[.val (.int p0)] [])) t
                            exact k
                          refine Owe.step (T' := T186j) (g' := (mkF m 195 #[.val (.int p0)] [(.int (65533 : Int32)), (.int p0)])) (fun t k => ?_) ?_
                          · show Steps p.tables e below (T186j.setTop (mkF m 192 #[.val (.int p0)] [])) t
                            refine XS.iloadN X186j.here hx rfl (hb hby own_d1_192) rfl ?_
                            show Steps p.tables e below (T186j.setTop (mkF m 193 #[.val (.int p0)] [(.int p0)])) t
                            refine X186j.ldcInt hx hown (mvT hZ (hw _ (List.mem_of_getElem? (i := 32) rfl))) (g := (mkF m 193 #[.val (.int p0)] [(.int p0)])) rfl (hb hby own_d1_193) _ ?_
                            show Steps p.tables e below (T186j.setTop (mkF m 195 #[.val (.int p0)] [(.int (65533 : Int32)), (.int p0)])) t
                            exact k
                          by_cases hc195 : (65533 : Int32) < p0
                          · refine Owe.step (T' := T186j) (g' := (mkF m 198 #[.val (.int p0)] [])) (fun t k => ?_) ?_
                            · show Steps p.tables e below (T186j.setTop (mkF m 195 #[.val (.int p0)] [(.int (65533 : Int32)), (.int p0)])) t
                              refine XS.icmpNo X186j.here hx rfl (hb hby own_d1_195) rfl (tlt hc195).2.2.2 ?_
                              show Steps p.tables e below (T186j.setTop (mkF m 198 #[.val (.int p0)] [])) t
                              exact k
                            rw [show own_f1_186 p0 = (own_f1_198 p0) from (by rw [own_f1_186, if_neg hc189, if_pos hc195])]
                            exact j198 T186j _ X186j e186j N186j
                          · refine Owe.step (T' := T186j) (g' := (mkF m 210 #[.val (.int p0)] [])) (fun t k => ?_) ?_
                            · show Steps p.tables e below (T186j.setTop (mkF m 195 #[.val (.int p0)] [(.int (65533 : Int32)), (.int p0)])) t
                              refine XS.icmpYes X186j.here hx rfl (pc0 := 195) (pc' := 210) rfl (hb hby own_d1_195) rfl (flt hc195).2.2.2 (by decide) (by decide) ?_
                              show Steps p.tables e below (T186j.setTop (mkF m 210 #[.val (.int p0)] [])) t
                              exact k
                            rw [show own_f1_186 p0 = (1 : Int32) from (by rw [own_f1_186, if_neg hc189, if_neg hc195])]
                            refine Owe.ret X186j Bd.notSynchronized (v := (some (.int (1 : Int32)))) (fun h => by rw [Bd.returns] at h; cases h) (fun fs hr => ?_) ⟨rfl, N186j, e186j⟩ (by decide) (by decide)
                            show Steps p.tables e below (T186j.setTop (mkF m 210 #[.val (.int p0)] [])) _
                            refine XS.iconst X186j.here hx rfl (hb hby own_d1_210) ?_
                            show Steps p.tables e below (T186j.setTop (mkF m 211 #[.val (.int p0)] [(.int (1 : Int32))])) _
                            refine XS.goto X186j.here hx rfl (pc0 := 211) (pc' := 215) rfl (hb hby own_d1_211) (by decide) (by decide) ?_
                            show Steps p.tables e below (T186j.setTop (mkF m 215 #[.val (.int p0)] [(.int (1 : Int32))])) _
                            exact retN X186j hx (t := .boolean) Bd.returns (by simp) (hb hby own_d1_215) hr
                      by_cases hc177 : p0 < (63744 : Int32)
                      · refine Owe.step (T' := T174j) (g' := (mkF m 186 #[.val (.int p0)] [])) (fun t k => ?_) ?_
                        · show Steps p.tables e below (T174j.setTop (mkF m 177 #[.val (.int p0)] [(.int (63744 : Int32)), (.int p0)])) t
                          refine XS.icmpYes X174j.here hx rfl (pc0 := 177) (pc' := 186) rfl (hb hby own_d1_177) rfl (tlt hc177).1 (by decide) (by decide) ?_
                          show Steps p.tables e below (T174j.setTop (mkF m 186 #[.val (.int p0)] [])) t
                          exact k
                        rw [show own_f1_174 p0 = (own_f1_186 p0) from (by rw [own_f1_174, if_pos hc177])]
                        exact j186 T174j _ X174j e174j N174j
                      · refine Owe.step (T' := T174j) (g' := (mkF m 180 #[.val (.int p0)] [])) (fun t k => ?_) ?_
                        · show Steps p.tables e below (T174j.setTop (mkF m 177 #[.val (.int p0)] [(.int (63744 : Int32)), (.int p0)])) t
                          refine XS.icmpNo X174j.here hx rfl (hb hby own_d1_177) rfl (flt hc177).1 ?_
                          show Steps p.tables e below (T174j.setTop (mkF m 180 #[.val (.int p0)] [])) t
                          exact k
                        refine Owe.step (T' := T174j) (g' := (mkF m 183 #[.val (.int p0)] [(.int (64975 : Int32)), (.int p0)])) (fun t k => ?_) ?_
                        · show Steps p.tables e below (T174j.setTop (mkF m 180 #[.val (.int p0)] [])) t
                          refine XS.iloadN X174j.here hx rfl (hb hby own_d1_180) rfl ?_
                          show Steps p.tables e below (T174j.setTop (mkF m 181 #[.val (.int p0)] [(.int p0)])) t
                          refine X174j.ldcInt hx hown (mvT hZ (hw _ (List.mem_of_getElem? (i := 31) rfl))) (g := (mkF m 181 #[.val (.int p0)] [(.int p0)])) rfl (hb hby own_d1_181) _ ?_
                          show Steps p.tables e below (T174j.setTop (mkF m 183 #[.val (.int p0)] [(.int (64975 : Int32)), (.int p0)])) t
                          exact k
                        by_cases hc183 : (64975 : Int32) < p0
                        · refine Owe.step (T' := T174j) (g' := (mkF m 186 #[.val (.int p0)] [])) (fun t k => ?_) ?_
                          · show Steps p.tables e below (T174j.setTop (mkF m 183 #[.val (.int p0)] [(.int (64975 : Int32)), (.int p0)])) t
                            refine XS.icmpNo X174j.here hx rfl (hb hby own_d1_183) rfl (tlt hc183).2.2.2 ?_
                            show Steps p.tables e below (T174j.setTop (mkF m 186 #[.val (.int p0)] [])) t
                            exact k
                          rw [show own_f1_174 p0 = (own_f1_186 p0) from (by rw [own_f1_174, if_neg hc177, if_pos hc183])]
                          exact j186 T174j _ X174j e174j N174j
                        · refine Owe.step (T' := T174j) (g' := (mkF m 210 #[.val (.int p0)] [])) (fun t k => ?_) ?_
                          · show Steps p.tables e below (T174j.setTop (mkF m 183 #[.val (.int p0)] [(.int (64975 : Int32)), (.int p0)])) t
                            refine XS.icmpYes X174j.here hx rfl (pc0 := 183) (pc' := 210) rfl (hb hby own_d1_183) rfl (flt hc183).2.2.2 (by decide) (by decide) ?_
                            show Steps p.tables e below (T174j.setTop (mkF m 210 #[.val (.int p0)] [])) t
                            exact k
                          rw [show own_f1_174 p0 = (1 : Int32) from (by rw [own_f1_174, if_neg hc177, if_neg hc183])]
                          refine Owe.ret X174j Bd.notSynchronized (v := (some (.int (1 : Int32)))) (fun h => by rw [Bd.returns] at h; cases h) (fun fs hr => ?_) ⟨rfl, N174j, e174j⟩ (by decide) (by decide)
                          show Steps p.tables e below (T174j.setTop (mkF m 210 #[.val (.int p0)] [])) _
                          refine XS.iconst X174j.here hx rfl (hb hby own_d1_210) ?_
                          show Steps p.tables e below (T174j.setTop (mkF m 211 #[.val (.int p0)] [(.int (1 : Int32))])) _
                          refine XS.goto X174j.here hx rfl (pc0 := 211) (pc' := 215) rfl (hb hby own_d1_211) (by decide) (by decide) ?_
                          show Steps p.tables e below (T174j.setTop (mkF m 215 #[.val (.int p0)] [(.int (1 : Int32))])) _
                          exact retN X174j hx (t := .boolean) Bd.returns (by simp) (hb hby own_d1_215) hr
                    by_cases hc165 : p0 < (12289 : Int32)
                    · refine Owe.step (T' := T161j) (g' := (mkF m 174 #[.val (.int p0)] [])) (fun t k => ?_) ?_
                      · show Steps p.tables e below (T161j.setTop (mkF m 165 #[.val (.int p0)] [(.int (12289 : Int32)), (.int p0)])) t
                        refine XS.icmpYes X161j.here hx rfl (pc0 := 165) (pc' := 174) rfl (hb hby own_d1_165) rfl (tlt hc165).1 (by decide) (by decide) ?_
                        show Steps p.tables e below (T161j.setTop (mkF m 174 #[.val (.int p0)] [])) t
                        exact k
                      rw [show own_f1_161 p0 = (own_f1_174 p0) from (by rw [own_f1_161, if_pos hc165])]
                      exact j174 T161j _ X161j e161j N161j
                    · refine Owe.step (T' := T161j) (g' := (mkF m 168 #[.val (.int p0)] [])) (fun t k => ?_) ?_
                      · show Steps p.tables e below (T161j.setTop (mkF m 165 #[.val (.int p0)] [(.int (12289 : Int32)), (.int p0)])) t
                        refine XS.icmpNo X161j.here hx rfl (hb hby own_d1_165) rfl (flt hc165).1 ?_
                        show Steps p.tables e below (T161j.setTop (mkF m 168 #[.val (.int p0)] [])) t
                        exact k
                      refine Owe.step (T' := T161j) (g' := (mkF m 171 #[.val (.int p0)] [(.int (55295 : Int32)), (.int p0)])) (fun t k => ?_) ?_
                      · show Steps p.tables e below (T161j.setTop (mkF m 168 #[.val (.int p0)] [])) t
                        refine XS.iloadN X161j.here hx rfl (hb hby own_d1_168) rfl ?_
                        show Steps p.tables e below (T161j.setTop (mkF m 169 #[.val (.int p0)] [(.int p0)])) t
                        refine X161j.ldcInt hx hown (mvT hZ (hw _ (List.mem_of_getElem? (i := 30) rfl))) (g := (mkF m 169 #[.val (.int p0)] [(.int p0)])) rfl (hb hby own_d1_169) _ ?_
                        show Steps p.tables e below (T161j.setTop (mkF m 171 #[.val (.int p0)] [(.int (55295 : Int32)), (.int p0)])) t
                        exact k
                      by_cases hc171 : (55295 : Int32) < p0
                      · refine Owe.step (T' := T161j) (g' := (mkF m 174 #[.val (.int p0)] [])) (fun t k => ?_) ?_
                        · show Steps p.tables e below (T161j.setTop (mkF m 171 #[.val (.int p0)] [(.int (55295 : Int32)), (.int p0)])) t
                          refine XS.icmpNo X161j.here hx rfl (hb hby own_d1_171) rfl (tlt hc171).2.2.2 ?_
                          show Steps p.tables e below (T161j.setTop (mkF m 174 #[.val (.int p0)] [])) t
                          exact k
                        rw [show own_f1_161 p0 = (own_f1_174 p0) from (by rw [own_f1_161, if_neg hc165, if_pos hc171])]
                        exact j174 T161j _ X161j e161j N161j
                      · refine Owe.step (T' := T161j) (g' := (mkF m 210 #[.val (.int p0)] [])) (fun t k => ?_) ?_
                        · show Steps p.tables e below (T161j.setTop (mkF m 171 #[.val (.int p0)] [(.int (55295 : Int32)), (.int p0)])) t
                          refine XS.icmpYes X161j.here hx rfl (pc0 := 171) (pc' := 210) rfl (hb hby own_d1_171) rfl (flt hc171).2.2.2 (by decide) (by decide) ?_
                          show Steps p.tables e below (T161j.setTop (mkF m 210 #[.val (.int p0)] [])) t
                          exact k
                        rw [show own_f1_161 p0 = (1 : Int32) from (by rw [own_f1_161, if_neg hc165, if_neg hc171])]
                        refine Owe.ret X161j Bd.notSynchronized (v := (some (.int (1 : Int32)))) (fun h => by rw [Bd.returns] at h; cases h) (fun fs hr => ?_) ⟨rfl, N161j, e161j⟩ (by decide) (by decide)
                        show Steps p.tables e below (T161j.setTop (mkF m 210 #[.val (.int p0)] [])) _
                        refine XS.iconst X161j.here hx rfl (hb hby own_d1_210) ?_
                        show Steps p.tables e below (T161j.setTop (mkF m 211 #[.val (.int p0)] [(.int (1 : Int32))])) _
                        refine XS.goto X161j.here hx rfl (pc0 := 211) (pc' := 215) rfl (hb hby own_d1_211) (by decide) (by decide) ?_
                        show Steps p.tables e below (T161j.setTop (mkF m 215 #[.val (.int p0)] [(.int (1 : Int32))])) _
                        exact retN X161j hx (t := .boolean) Bd.returns (by simp) (hb hby own_d1_215) hr
                  by_cases hc151 : p0 < (11264 : Int32)
                  · refine Owe.step (T' := T147j) (g' := (mkF m 161 #[.val (.int p0)] [])) (fun t k => ?_) ?_
                    · show Steps p.tables e below (T147j.setTop (mkF m 151 #[.val (.int p0)] [(.int (11264 : Int32)), (.int p0)])) t
                      refine XS.icmpYes X147j.here hx rfl (pc0 := 151) (pc' := 161) rfl (hb hby own_d1_151) rfl (tlt hc151).1 (by decide) (by decide) ?_
                      show Steps p.tables e below (T147j.setTop (mkF m 161 #[.val (.int p0)] [])) t
                      exact k
                    rw [show own_f1_147 p0 = (own_f1_161 p0) from (by rw [own_f1_147, if_pos hc151])]
                    exact j161 T147j _ X147j e147j N147j
                  · refine Owe.step (T' := T147j) (g' := (mkF m 154 #[.val (.int p0)] [])) (fun t k => ?_) ?_
                    · show Steps p.tables e below (T147j.setTop (mkF m 151 #[.val (.int p0)] [(.int (11264 : Int32)), (.int p0)])) t
                      refine XS.icmpNo X147j.here hx rfl (hb hby own_d1_151) rfl (flt hc151).1 ?_
                      show Steps p.tables e below (T147j.setTop (mkF m 154 #[.val (.int p0)] [])) t
                      exact k
                    refine Owe.step (T' := T147j) (g' := (mkF m 158 #[.val (.int p0)] [(.int (12271 : Int32)), (.int p0)])) (fun t k => ?_) ?_
                    · show Steps p.tables e below (T147j.setTop (mkF m 154 #[.val (.int p0)] [])) t
                      refine XS.iloadN X147j.here hx rfl (hb hby own_d1_154) rfl ?_
                      show Steps p.tables e below (T147j.setTop (mkF m 155 #[.val (.int p0)] [(.int p0)])) t
                      refine XS.sipush X147j.here hx rfl (hb hby own_d1_155) ?_
                      show Steps p.tables e below (T147j.setTop (mkF m 158 #[.val (.int p0)] [(.int (12271 : Int32)), (.int p0)])) t
                      exact k
                    by_cases hc158 : (12271 : Int32) < p0
                    · refine Owe.step (T' := T147j) (g' := (mkF m 161 #[.val (.int p0)] [])) (fun t k => ?_) ?_
                      · show Steps p.tables e below (T147j.setTop (mkF m 158 #[.val (.int p0)] [(.int (12271 : Int32)), (.int p0)])) t
                        refine XS.icmpNo X147j.here hx rfl (hb hby own_d1_158) rfl (tlt hc158).2.2.2 ?_
                        show Steps p.tables e below (T147j.setTop (mkF m 161 #[.val (.int p0)] [])) t
                        exact k
                      rw [show own_f1_147 p0 = (own_f1_161 p0) from (by rw [own_f1_147, if_neg hc151, if_pos hc158])]
                      exact j161 T147j _ X147j e147j N147j
                    · refine Owe.step (T' := T147j) (g' := (mkF m 210 #[.val (.int p0)] [])) (fun t k => ?_) ?_
                      · show Steps p.tables e below (T147j.setTop (mkF m 158 #[.val (.int p0)] [(.int (12271 : Int32)), (.int p0)])) t
                        refine XS.icmpYes X147j.here hx rfl (pc0 := 158) (pc' := 210) rfl (hb hby own_d1_158) rfl (flt hc158).2.2.2 (by decide) (by decide) ?_
                        show Steps p.tables e below (T147j.setTop (mkF m 210 #[.val (.int p0)] [])) t
                        exact k
                      rw [show own_f1_147 p0 = (1 : Int32) from (by rw [own_f1_147, if_neg hc151, if_neg hc158])]
                      refine Owe.ret X147j Bd.notSynchronized (v := (some (.int (1 : Int32)))) (fun h => by rw [Bd.returns] at h; cases h) (fun fs hr => ?_) ⟨rfl, N147j, e147j⟩ (by decide) (by decide)
                      show Steps p.tables e below (T147j.setTop (mkF m 210 #[.val (.int p0)] [])) _
                      refine XS.iconst X147j.here hx rfl (hb hby own_d1_210) ?_
                      show Steps p.tables e below (T147j.setTop (mkF m 211 #[.val (.int p0)] [(.int (1 : Int32))])) _
                      refine XS.goto X147j.here hx rfl (pc0 := 211) (pc' := 215) rfl (hb hby own_d1_211) (by decide) (by decide) ?_
                      show Steps p.tables e below (T147j.setTop (mkF m 215 #[.val (.int p0)] [(.int (1 : Int32))])) _
                      exact retN X147j hx (t := .boolean) Bd.returns (by simp) (hb hby own_d1_215) hr
                by_cases hc137 : p0 < (8304 : Int32)
                · refine Owe.step (T' := T133j) (g' := (mkF m 147 #[.val (.int p0)] [])) (fun t k => ?_) ?_
                  · show Steps p.tables e below (T133j.setTop (mkF m 137 #[.val (.int p0)] [(.int (8304 : Int32)), (.int p0)])) t
                    refine XS.icmpYes X133j.here hx rfl (pc0 := 137) (pc' := 147) rfl (hb hby own_d1_137) rfl (tlt hc137).1 (by decide) (by decide) ?_
                    show Steps p.tables e below (T133j.setTop (mkF m 147 #[.val (.int p0)] [])) t
                    exact k
                  rw [show own_f1_133 p0 = (own_f1_147 p0) from (by rw [own_f1_133, if_pos hc137])]
                  exact j147 T133j _ X133j e133j N133j
                · refine Owe.step (T' := T133j) (g' := (mkF m 140 #[.val (.int p0)] [])) (fun t k => ?_) ?_
                  · show Steps p.tables e below (T133j.setTop (mkF m 137 #[.val (.int p0)] [(.int (8304 : Int32)), (.int p0)])) t
                    refine XS.icmpNo X133j.here hx rfl (hb hby own_d1_137) rfl (flt hc137).1 ?_
                    show Steps p.tables e below (T133j.setTop (mkF m 140 #[.val (.int p0)] [])) t
                    exact k
                  refine Owe.step (T' := T133j) (g' := (mkF m 144 #[.val (.int p0)] [(.int (8591 : Int32)), (.int p0)])) (fun t k => ?_) ?_
                  · show Steps p.tables e below (T133j.setTop (mkF m 140 #[.val (.int p0)] [])) t
                    refine XS.iloadN X133j.here hx rfl (hb hby own_d1_140) rfl ?_
                    show Steps p.tables e below (T133j.setTop (mkF m 141 #[.val (.int p0)] [(.int p0)])) t
                    refine XS.sipush X133j.here hx rfl (hb hby own_d1_141) ?_
                    show Steps p.tables e below (T133j.setTop (mkF m 144 #[.val (.int p0)] [(.int (8591 : Int32)), (.int p0)])) t
                    exact k
                  by_cases hc144 : (8591 : Int32) < p0
                  · refine Owe.step (T' := T133j) (g' := (mkF m 147 #[.val (.int p0)] [])) (fun t k => ?_) ?_
                    · show Steps p.tables e below (T133j.setTop (mkF m 144 #[.val (.int p0)] [(.int (8591 : Int32)), (.int p0)])) t
                      refine XS.icmpNo X133j.here hx rfl (hb hby own_d1_144) rfl (tlt hc144).2.2.2 ?_
                      show Steps p.tables e below (T133j.setTop (mkF m 147 #[.val (.int p0)] [])) t
                      exact k
                    rw [show own_f1_133 p0 = (own_f1_147 p0) from (by rw [own_f1_133, if_neg hc137, if_pos hc144])]
                    exact j147 T133j _ X133j e133j N133j
                  · refine Owe.step (T' := T133j) (g' := (mkF m 210 #[.val (.int p0)] [])) (fun t k => ?_) ?_
                    · show Steps p.tables e below (T133j.setTop (mkF m 144 #[.val (.int p0)] [(.int (8591 : Int32)), (.int p0)])) t
                      refine XS.icmpYes X133j.here hx rfl (pc0 := 144) (pc' := 210) rfl (hb hby own_d1_144) rfl (flt hc144).2.2.2 (by decide) (by decide) ?_
                      show Steps p.tables e below (T133j.setTop (mkF m 210 #[.val (.int p0)] [])) t
                      exact k
                    rw [show own_f1_133 p0 = (1 : Int32) from (by rw [own_f1_133, if_neg hc137, if_neg hc144])]
                    refine Owe.ret X133j Bd.notSynchronized (v := (some (.int (1 : Int32)))) (fun h => by rw [Bd.returns] at h; cases h) (fun fs hr => ?_) ⟨rfl, N133j, e133j⟩ (by decide) (by decide)
                    show Steps p.tables e below (T133j.setTop (mkF m 210 #[.val (.int p0)] [])) _
                    refine XS.iconst X133j.here hx rfl (hb hby own_d1_210) ?_
                    show Steps p.tables e below (T133j.setTop (mkF m 211 #[.val (.int p0)] [(.int (1 : Int32))])) _
                    refine XS.goto X133j.here hx rfl (pc0 := 211) (pc' := 215) rfl (hb hby own_d1_211) (by decide) (by decide) ?_
                    show Steps p.tables e below (T133j.setTop (mkF m 215 #[.val (.int p0)] [(.int (1 : Int32))])) _
                    exact retN X133j hx (t := .boolean) Bd.returns (by simp) (hb hby own_d1_215) hr
              by_cases hc123 : p0 < (8204 : Int32)
              · refine Owe.step (T' := T119j) (g' := (mkF m 133 #[.val (.int p0)] [])) (fun t k => ?_) ?_
                · show Steps p.tables e below (T119j.setTop (mkF m 123 #[.val (.int p0)] [(.int (8204 : Int32)), (.int p0)])) t
                  refine XS.icmpYes X119j.here hx rfl (pc0 := 123) (pc' := 133) rfl (hb hby own_d1_123) rfl (tlt hc123).1 (by decide) (by decide) ?_
                  show Steps p.tables e below (T119j.setTop (mkF m 133 #[.val (.int p0)] [])) t
                  exact k
                rw [show own_f1_119 p0 = (own_f1_133 p0) from (by rw [own_f1_119, if_pos hc123])]
                exact j133 T119j _ X119j e119j N119j
              · refine Owe.step (T' := T119j) (g' := (mkF m 126 #[.val (.int p0)] [])) (fun t k => ?_) ?_
                · show Steps p.tables e below (T119j.setTop (mkF m 123 #[.val (.int p0)] [(.int (8204 : Int32)), (.int p0)])) t
                  refine XS.icmpNo X119j.here hx rfl (hb hby own_d1_123) rfl (flt hc123).1 ?_
                  show Steps p.tables e below (T119j.setTop (mkF m 126 #[.val (.int p0)] [])) t
                  exact k
                refine Owe.step (T' := T119j) (g' := (mkF m 130 #[.val (.int p0)] [(.int (8205 : Int32)), (.int p0)])) (fun t k => ?_) ?_
                · show Steps p.tables e below (T119j.setTop (mkF m 126 #[.val (.int p0)] [])) t
                  refine XS.iloadN X119j.here hx rfl (hb hby own_d1_126) rfl ?_
                  show Steps p.tables e below (T119j.setTop (mkF m 127 #[.val (.int p0)] [(.int p0)])) t
                  refine XS.sipush X119j.here hx rfl (hb hby own_d1_127) ?_
                  show Steps p.tables e below (T119j.setTop (mkF m 130 #[.val (.int p0)] [(.int (8205 : Int32)), (.int p0)])) t
                  exact k
                by_cases hc130 : (8205 : Int32) < p0
                · refine Owe.step (T' := T119j) (g' := (mkF m 133 #[.val (.int p0)] [])) (fun t k => ?_) ?_
                  · show Steps p.tables e below (T119j.setTop (mkF m 130 #[.val (.int p0)] [(.int (8205 : Int32)), (.int p0)])) t
                    refine XS.icmpNo X119j.here hx rfl (hb hby own_d1_130) rfl (tlt hc130).2.2.2 ?_
                    show Steps p.tables e below (T119j.setTop (mkF m 133 #[.val (.int p0)] [])) t
                    exact k
                  rw [show own_f1_119 p0 = (own_f1_133 p0) from (by rw [own_f1_119, if_neg hc123, if_pos hc130])]
                  exact j133 T119j _ X119j e119j N119j
                · refine Owe.step (T' := T119j) (g' := (mkF m 210 #[.val (.int p0)] [])) (fun t k => ?_) ?_
                  · show Steps p.tables e below (T119j.setTop (mkF m 130 #[.val (.int p0)] [(.int (8205 : Int32)), (.int p0)])) t
                    refine XS.icmpYes X119j.here hx rfl (pc0 := 130) (pc' := 210) rfl (hb hby own_d1_130) rfl (flt hc130).2.2.2 (by decide) (by decide) ?_
                    show Steps p.tables e below (T119j.setTop (mkF m 210 #[.val (.int p0)] [])) t
                    exact k
                  rw [show own_f1_119 p0 = (1 : Int32) from (by rw [own_f1_119, if_neg hc123, if_neg hc130])]
                  refine Owe.ret X119j Bd.notSynchronized (v := (some (.int (1 : Int32)))) (fun h => by rw [Bd.returns] at h; cases h) (fun fs hr => ?_) ⟨rfl, N119j, e119j⟩ (by decide) (by decide)
                  show Steps p.tables e below (T119j.setTop (mkF m 210 #[.val (.int p0)] [])) _
                  refine XS.iconst X119j.here hx rfl (hb hby own_d1_210) ?_
                  show Steps p.tables e below (T119j.setTop (mkF m 211 #[.val (.int p0)] [(.int (1 : Int32))])) _
                  refine XS.goto X119j.here hx rfl (pc0 := 211) (pc' := 215) rfl (hb hby own_d1_211) (by decide) (by decide) ?_
                  show Steps p.tables e below (T119j.setTop (mkF m 215 #[.val (.int p0)] [(.int (1 : Int32))])) _
                  exact retN X119j hx (t := .boolean) Bd.returns (by simp) (hb hby own_d1_215) hr
            by_cases hc109 : p0 < (895 : Int32)
            · refine Owe.step (T' := T105j) (g' := (mkF m 119 #[.val (.int p0)] [])) (fun t k => ?_) ?_
              · show Steps p.tables e below (T105j.setTop (mkF m 109 #[.val (.int p0)] [(.int (895 : Int32)), (.int p0)])) t
                refine XS.icmpYes X105j.here hx rfl (pc0 := 109) (pc' := 119) rfl (hb hby own_d1_109) rfl (tlt hc109).1 (by decide) (by decide) ?_
                show Steps p.tables e below (T105j.setTop (mkF m 119 #[.val (.int p0)] [])) t
                exact k
              rw [show own_f1_105 p0 = (own_f1_119 p0) from (by rw [own_f1_105, if_pos hc109])]
              exact j119 T105j _ X105j e105j N105j
            · refine Owe.step (T' := T105j) (g' := (mkF m 112 #[.val (.int p0)] [])) (fun t k => ?_) ?_
              · show Steps p.tables e below (T105j.setTop (mkF m 109 #[.val (.int p0)] [(.int (895 : Int32)), (.int p0)])) t
                refine XS.icmpNo X105j.here hx rfl (hb hby own_d1_109) rfl (flt hc109).1 ?_
                show Steps p.tables e below (T105j.setTop (mkF m 112 #[.val (.int p0)] [])) t
                exact k
              refine Owe.step (T' := T105j) (g' := (mkF m 116 #[.val (.int p0)] [(.int (8191 : Int32)), (.int p0)])) (fun t k => ?_) ?_
              · show Steps p.tables e below (T105j.setTop (mkF m 112 #[.val (.int p0)] [])) t
                refine XS.iloadN X105j.here hx rfl (hb hby own_d1_112) rfl ?_
                show Steps p.tables e below (T105j.setTop (mkF m 113 #[.val (.int p0)] [(.int p0)])) t
                refine XS.sipush X105j.here hx rfl (hb hby own_d1_113) ?_
                show Steps p.tables e below (T105j.setTop (mkF m 116 #[.val (.int p0)] [(.int (8191 : Int32)), (.int p0)])) t
                exact k
              by_cases hc116 : (8191 : Int32) < p0
              · refine Owe.step (T' := T105j) (g' := (mkF m 119 #[.val (.int p0)] [])) (fun t k => ?_) ?_
                · show Steps p.tables e below (T105j.setTop (mkF m 116 #[.val (.int p0)] [(.int (8191 : Int32)), (.int p0)])) t
                  refine XS.icmpNo X105j.here hx rfl (hb hby own_d1_116) rfl (tlt hc116).2.2.2 ?_
                  show Steps p.tables e below (T105j.setTop (mkF m 119 #[.val (.int p0)] [])) t
                  exact k
                rw [show own_f1_105 p0 = (own_f1_119 p0) from (by rw [own_f1_105, if_neg hc109, if_pos hc116])]
                exact j119 T105j _ X105j e105j N105j
              · refine Owe.step (T' := T105j) (g' := (mkF m 210 #[.val (.int p0)] [])) (fun t k => ?_) ?_
                · show Steps p.tables e below (T105j.setTop (mkF m 116 #[.val (.int p0)] [(.int (8191 : Int32)), (.int p0)])) t
                  refine XS.icmpYes X105j.here hx rfl (pc0 := 116) (pc' := 210) rfl (hb hby own_d1_116) rfl (flt hc116).2.2.2 (by decide) (by decide) ?_
                  show Steps p.tables e below (T105j.setTop (mkF m 210 #[.val (.int p0)] [])) t
                  exact k
                rw [show own_f1_105 p0 = (1 : Int32) from (by rw [own_f1_105, if_neg hc109, if_neg hc116])]
                refine Owe.ret X105j Bd.notSynchronized (v := (some (.int (1 : Int32)))) (fun h => by rw [Bd.returns] at h; cases h) (fun fs hr => ?_) ⟨rfl, N105j, e105j⟩ (by decide) (by decide)
                show Steps p.tables e below (T105j.setTop (mkF m 210 #[.val (.int p0)] [])) _
                refine XS.iconst X105j.here hx rfl (hb hby own_d1_210) ?_
                show Steps p.tables e below (T105j.setTop (mkF m 211 #[.val (.int p0)] [(.int (1 : Int32))])) _
                refine XS.goto X105j.here hx rfl (pc0 := 211) (pc' := 215) rfl (hb hby own_d1_211) (by decide) (by decide) ?_
                show Steps p.tables e below (T105j.setTop (mkF m 215 #[.val (.int p0)] [(.int (1 : Int32))])) _
                exact retN X105j hx (t := .boolean) Bd.returns (by simp) (hb hby own_d1_215) hr
          by_cases hc95 : p0 < (880 : Int32)
          · refine Owe.step (T' := T91j) (g' := (mkF m 105 #[.val (.int p0)] [])) (fun t k => ?_) ?_
            · show Steps p.tables e below (T91j.setTop (mkF m 95 #[.val (.int p0)] [(.int (880 : Int32)), (.int p0)])) t
              refine XS.icmpYes X91j.here hx rfl (pc0 := 95) (pc' := 105) rfl (hb hby own_d1_95) rfl (tlt hc95).1 (by decide) (by decide) ?_
              show Steps p.tables e below (T91j.setTop (mkF m 105 #[.val (.int p0)] [])) t
              exact k
            rw [show own_f1_91 p0 = (own_f1_105 p0) from (by rw [own_f1_91, if_pos hc95])]
            exact j105 T91j _ X91j e91j N91j
          · refine Owe.step (T' := T91j) (g' := (mkF m 98 #[.val (.int p0)] [])) (fun t k => ?_) ?_
            · show Steps p.tables e below (T91j.setTop (mkF m 95 #[.val (.int p0)] [(.int (880 : Int32)), (.int p0)])) t
              refine XS.icmpNo X91j.here hx rfl (hb hby own_d1_95) rfl (flt hc95).1 ?_
              show Steps p.tables e below (T91j.setTop (mkF m 98 #[.val (.int p0)] [])) t
              exact k
            refine Owe.step (T' := T91j) (g' := (mkF m 102 #[.val (.int p0)] [(.int (893 : Int32)), (.int p0)])) (fun t k => ?_) ?_
            · show Steps p.tables e below (T91j.setTop (mkF m 98 #[.val (.int p0)] [])) t
              refine XS.iloadN X91j.here hx rfl (hb hby own_d1_98) rfl ?_
              show Steps p.tables e below (T91j.setTop (mkF m 99 #[.val (.int p0)] [(.int p0)])) t
              refine XS.sipush X91j.here hx rfl (hb hby own_d1_99) ?_
              show Steps p.tables e below (T91j.setTop (mkF m 102 #[.val (.int p0)] [(.int (893 : Int32)), (.int p0)])) t
              exact k
            by_cases hc102 : (893 : Int32) < p0
            · refine Owe.step (T' := T91j) (g' := (mkF m 105 #[.val (.int p0)] [])) (fun t k => ?_) ?_
              · show Steps p.tables e below (T91j.setTop (mkF m 102 #[.val (.int p0)] [(.int (893 : Int32)), (.int p0)])) t
                refine XS.icmpNo X91j.here hx rfl (hb hby own_d1_102) rfl (tlt hc102).2.2.2 ?_
                show Steps p.tables e below (T91j.setTop (mkF m 105 #[.val (.int p0)] [])) t
                exact k
              rw [show own_f1_91 p0 = (own_f1_105 p0) from (by rw [own_f1_91, if_neg hc95, if_pos hc102])]
              exact j105 T91j _ X91j e91j N91j
            · refine Owe.step (T' := T91j) (g' := (mkF m 210 #[.val (.int p0)] [])) (fun t k => ?_) ?_
              · show Steps p.tables e below (T91j.setTop (mkF m 102 #[.val (.int p0)] [(.int (893 : Int32)), (.int p0)])) t
                refine XS.icmpYes X91j.here hx rfl (pc0 := 102) (pc' := 210) rfl (hb hby own_d1_102) rfl (flt hc102).2.2.2 (by decide) (by decide) ?_
                show Steps p.tables e below (T91j.setTop (mkF m 210 #[.val (.int p0)] [])) t
                exact k
              rw [show own_f1_91 p0 = (1 : Int32) from (by rw [own_f1_91, if_neg hc95, if_neg hc102])]
              refine Owe.ret X91j Bd.notSynchronized (v := (some (.int (1 : Int32)))) (fun h => by rw [Bd.returns] at h; cases h) (fun fs hr => ?_) ⟨rfl, N91j, e91j⟩ (by decide) (by decide)
              show Steps p.tables e below (T91j.setTop (mkF m 210 #[.val (.int p0)] [])) _
              refine XS.iconst X91j.here hx rfl (hb hby own_d1_210) ?_
              show Steps p.tables e below (T91j.setTop (mkF m 211 #[.val (.int p0)] [(.int (1 : Int32))])) _
              refine XS.goto X91j.here hx rfl (pc0 := 211) (pc' := 215) rfl (hb hby own_d1_211) (by decide) (by decide) ?_
              show Steps p.tables e below (T91j.setTop (mkF m 215 #[.val (.int p0)] [(.int (1 : Int32))])) _
              exact retN X91j hx (t := .boolean) Bd.returns (by simp) (hb hby own_d1_215) hr
        by_cases hc81 : p0 < (248 : Int32)
        · refine Owe.step (T' := T77j) (g' := (mkF m 91 #[.val (.int p0)] [])) (fun t k => ?_) ?_
          · show Steps p.tables e below (T77j.setTop (mkF m 81 #[.val (.int p0)] [(.int (248 : Int32)), (.int p0)])) t
            refine XS.icmpYes X77j.here hx rfl (pc0 := 81) (pc' := 91) rfl (hb hby own_d1_81) rfl (tlt hc81).1 (by decide) (by decide) ?_
            show Steps p.tables e below (T77j.setTop (mkF m 91 #[.val (.int p0)] [])) t
            exact k
          rw [show own_f1_77 p0 = (own_f1_91 p0) from (by rw [own_f1_77, if_pos hc81])]
          exact j91 T77j _ X77j e77j N77j
        · refine Owe.step (T' := T77j) (g' := (mkF m 84 #[.val (.int p0)] [])) (fun t k => ?_) ?_
          · show Steps p.tables e below (T77j.setTop (mkF m 81 #[.val (.int p0)] [(.int (248 : Int32)), (.int p0)])) t
            refine XS.icmpNo X77j.here hx rfl (hb hby own_d1_81) rfl (flt hc81).1 ?_
            show Steps p.tables e below (T77j.setTop (mkF m 84 #[.val (.int p0)] [])) t
            exact k
          refine Owe.step (T' := T77j) (g' := (mkF m 88 #[.val (.int p0)] [(.int (767 : Int32)), (.int p0)])) (fun t k => ?_) ?_
          · show Steps p.tables e below (T77j.setTop (mkF m 84 #[.val (.int p0)] [])) t
            refine XS.iloadN X77j.here hx rfl (hb hby own_d1_84) rfl ?_
            show Steps p.tables e below (T77j.setTop (mkF m 85 #[.val (.int p0)] [(.int p0)])) t
            refine XS.sipush X77j.here hx rfl (hb hby own_d1_85) ?_
            show Steps p.tables e below (T77j.setTop (mkF m 88 #[.val (.int p0)] [(.int (767 : Int32)), (.int p0)])) t
            exact k
          by_cases hc88 : (767 : Int32) < p0
          · refine Owe.step (T' := T77j) (g' := (mkF m 91 #[.val (.int p0)] [])) (fun t k => ?_) ?_
            · show Steps p.tables e below (T77j.setTop (mkF m 88 #[.val (.int p0)] [(.int (767 : Int32)), (.int p0)])) t
              refine XS.icmpNo X77j.here hx rfl (hb hby own_d1_88) rfl (tlt hc88).2.2.2 ?_
              show Steps p.tables e below (T77j.setTop (mkF m 91 #[.val (.int p0)] [])) t
              exact k
            rw [show own_f1_77 p0 = (own_f1_91 p0) from (by rw [own_f1_77, if_neg hc81, if_pos hc88])]
            exact j91 T77j _ X77j e77j N77j
          · refine Owe.step (T' := T77j) (g' := (mkF m 210 #[.val (.int p0)] [])) (fun t k => ?_) ?_
            · show Steps p.tables e below (T77j.setTop (mkF m 88 #[.val (.int p0)] [(.int (767 : Int32)), (.int p0)])) t
              refine XS.icmpYes X77j.here hx rfl (pc0 := 88) (pc' := 210) rfl (hb hby own_d1_88) rfl (flt hc88).2.2.2 (by decide) (by decide) ?_
              show Steps p.tables e below (T77j.setTop (mkF m 210 #[.val (.int p0)] [])) t
              exact k
            rw [show own_f1_77 p0 = (1 : Int32) from (by rw [own_f1_77, if_neg hc81, if_neg hc88])]
            refine Owe.ret X77j Bd.notSynchronized (v := (some (.int (1 : Int32)))) (fun h => by rw [Bd.returns] at h; cases h) (fun fs hr => ?_) ⟨rfl, N77j, e77j⟩ (by decide) (by decide)
            show Steps p.tables e below (T77j.setTop (mkF m 210 #[.val (.int p0)] [])) _
            refine XS.iconst X77j.here hx rfl (hb hby own_d1_210) ?_
            show Steps p.tables e below (T77j.setTop (mkF m 211 #[.val (.int p0)] [(.int (1 : Int32))])) _
            refine XS.goto X77j.here hx rfl (pc0 := 211) (pc' := 215) rfl (hb hby own_d1_211) (by decide) (by decide) ?_
            show Steps p.tables e below (T77j.setTop (mkF m 215 #[.val (.int p0)] [(.int (1 : Int32))])) _
            exact retN X77j hx (t := .boolean) Bd.returns (by simp) (hb hby own_d1_215) hr
      by_cases hc67 : p0 < (216 : Int32)
      · refine Owe.step (T' := T63j) (g' := (mkF m 77 #[.val (.int p0)] [])) (fun t k => ?_) ?_
        · show Steps p.tables e below (T63j.setTop (mkF m 67 #[.val (.int p0)] [(.int (216 : Int32)), (.int p0)])) t
          refine XS.icmpYes X63j.here hx rfl (pc0 := 67) (pc' := 77) rfl (hb hby own_d1_67) rfl (tlt hc67).1 (by decide) (by decide) ?_
          show Steps p.tables e below (T63j.setTop (mkF m 77 #[.val (.int p0)] [])) t
          exact k
        rw [show own_f1_63 p0 = (own_f1_77 p0) from (by rw [own_f1_63, if_pos hc67])]
        exact j77 T63j _ X63j e63j N63j
      · refine Owe.step (T' := T63j) (g' := (mkF m 70 #[.val (.int p0)] [])) (fun t k => ?_) ?_
        · show Steps p.tables e below (T63j.setTop (mkF m 67 #[.val (.int p0)] [(.int (216 : Int32)), (.int p0)])) t
          refine XS.icmpNo X63j.here hx rfl (hb hby own_d1_67) rfl (flt hc67).1 ?_
          show Steps p.tables e below (T63j.setTop (mkF m 70 #[.val (.int p0)] [])) t
          exact k
        refine Owe.step (T' := T63j) (g' := (mkF m 74 #[.val (.int p0)] [(.int (246 : Int32)), (.int p0)])) (fun t k => ?_) ?_
        · show Steps p.tables e below (T63j.setTop (mkF m 70 #[.val (.int p0)] [])) t
          refine XS.iloadN X63j.here hx rfl (hb hby own_d1_70) rfl ?_
          show Steps p.tables e below (T63j.setTop (mkF m 71 #[.val (.int p0)] [(.int p0)])) t
          refine XS.sipush X63j.here hx rfl (hb hby own_d1_71) ?_
          show Steps p.tables e below (T63j.setTop (mkF m 74 #[.val (.int p0)] [(.int (246 : Int32)), (.int p0)])) t
          exact k
        by_cases hc74 : (246 : Int32) < p0
        · refine Owe.step (T' := T63j) (g' := (mkF m 77 #[.val (.int p0)] [])) (fun t k => ?_) ?_
          · show Steps p.tables e below (T63j.setTop (mkF m 74 #[.val (.int p0)] [(.int (246 : Int32)), (.int p0)])) t
            refine XS.icmpNo X63j.here hx rfl (hb hby own_d1_74) rfl (tlt hc74).2.2.2 ?_
            show Steps p.tables e below (T63j.setTop (mkF m 77 #[.val (.int p0)] [])) t
            exact k
          rw [show own_f1_63 p0 = (own_f1_77 p0) from (by rw [own_f1_63, if_neg hc67, if_pos hc74])]
          exact j77 T63j _ X63j e63j N63j
        · refine Owe.step (T' := T63j) (g' := (mkF m 210 #[.val (.int p0)] [])) (fun t k => ?_) ?_
          · show Steps p.tables e below (T63j.setTop (mkF m 74 #[.val (.int p0)] [(.int (246 : Int32)), (.int p0)])) t
            refine XS.icmpYes X63j.here hx rfl (pc0 := 74) (pc' := 210) rfl (hb hby own_d1_74) rfl (flt hc74).2.2.2 (by decide) (by decide) ?_
            show Steps p.tables e below (T63j.setTop (mkF m 210 #[.val (.int p0)] [])) t
            exact k
          rw [show own_f1_63 p0 = (1 : Int32) from (by rw [own_f1_63, if_neg hc67, if_neg hc74])]
          refine Owe.ret X63j Bd.notSynchronized (v := (some (.int (1 : Int32)))) (fun h => by rw [Bd.returns] at h; cases h) (fun fs hr => ?_) ⟨rfl, N63j, e63j⟩ (by decide) (by decide)
          show Steps p.tables e below (T63j.setTop (mkF m 210 #[.val (.int p0)] [])) _
          refine XS.iconst X63j.here hx rfl (hb hby own_d1_210) ?_
          show Steps p.tables e below (T63j.setTop (mkF m 211 #[.val (.int p0)] [(.int (1 : Int32))])) _
          refine XS.goto X63j.here hx rfl (pc0 := 211) (pc' := 215) rfl (hb hby own_d1_211) (by decide) (by decide) ?_
          show Steps p.tables e below (T63j.setTop (mkF m 215 #[.val (.int p0)] [(.int (1 : Int32))])) _
          exact retN X63j hx (t := .boolean) Bd.returns (by simp) (hb hby own_d1_215) hr
    by_cases hc53 : p0 < (192 : Int32)
    · refine Owe.step (T' := s₁) (g' := (mkF m 63 #[.val (.int p0)] [])) (fun t k => ?_) ?_
      · show Steps p.tables e below (s₁.setTop (mkF m 53 #[.val (.int p0)] [(.int (192 : Int32)), (.int p0)])) t
        refine XS.icmpYes X0.here hx rfl (pc0 := 53) (pc' := 63) rfl (hb hby own_d1_53) rfl (tlt hc53).1 (by decide) (by decide) ?_
        show Steps p.tables e below (s₁.setTop (mkF m 63 #[.val (.int p0)] [])) t
        exact k
      rw [show own_f1_0 p0 = (own_f1_63 p0) from (by rw [own_f1_0, if_neg hc4, if_pos hc53])]
      exact j63 s₁ _ X0 e0 N0
    · refine Owe.step (T' := s₁) (g' := (mkF m 56 #[.val (.int p0)] [])) (fun t k => ?_) ?_
      · show Steps p.tables e below (s₁.setTop (mkF m 53 #[.val (.int p0)] [(.int (192 : Int32)), (.int p0)])) t
        refine XS.icmpNo X0.here hx rfl (hb hby own_d1_53) rfl (flt hc53).1 ?_
        show Steps p.tables e below (s₁.setTop (mkF m 56 #[.val (.int p0)] [])) t
        exact k
      refine Owe.step (T' := s₁) (g' := (mkF m 60 #[.val (.int p0)] [(.int (214 : Int32)), (.int p0)])) (fun t k => ?_) ?_
      · show Steps p.tables e below (s₁.setTop (mkF m 56 #[.val (.int p0)] [])) t
        refine XS.iloadN X0.here hx rfl (hb hby own_d1_56) rfl ?_
        show Steps p.tables e below (s₁.setTop (mkF m 57 #[.val (.int p0)] [(.int p0)])) t
        refine XS.sipush X0.here hx rfl (hb hby own_d1_57) ?_
        show Steps p.tables e below (s₁.setTop (mkF m 60 #[.val (.int p0)] [(.int (214 : Int32)), (.int p0)])) t
        exact k
      by_cases hc60 : (214 : Int32) < p0
      · refine Owe.step (T' := s₁) (g' := (mkF m 63 #[.val (.int p0)] [])) (fun t k => ?_) ?_
        · show Steps p.tables e below (s₁.setTop (mkF m 60 #[.val (.int p0)] [(.int (214 : Int32)), (.int p0)])) t
          refine XS.icmpNo X0.here hx rfl (hb hby own_d1_60) rfl (tlt hc60).2.2.2 ?_
          show Steps p.tables e below (s₁.setTop (mkF m 63 #[.val (.int p0)] [])) t
          exact k
        rw [show own_f1_0 p0 = (own_f1_63 p0) from (by rw [own_f1_0, if_neg hc4, if_neg hc53, if_pos hc60])]
        exact j63 s₁ _ X0 e0 N0
      · refine Owe.step (T' := s₁) (g' := (mkF m 210 #[.val (.int p0)] [])) (fun t k => ?_) ?_
        · show Steps p.tables e below (s₁.setTop (mkF m 60 #[.val (.int p0)] [(.int (214 : Int32)), (.int p0)])) t
          refine XS.icmpYes X0.here hx rfl (pc0 := 60) (pc' := 210) rfl (hb hby own_d1_60) rfl (flt hc60).2.2.2 (by decide) (by decide) ?_
          show Steps p.tables e below (s₁.setTop (mkF m 210 #[.val (.int p0)] [])) t
          exact k
        rw [show own_f1_0 p0 = (1 : Int32) from (by rw [own_f1_0, if_neg hc4, if_neg hc53, if_neg hc60])]
        refine Owe.ret X0 Bd.notSynchronized (v := (some (.int (1 : Int32)))) (fun h => by rw [Bd.returns] at h; cases h) (fun fs hr => ?_) ⟨rfl, N0, e0⟩ (by decide) (by decide)
        show Steps p.tables e below (s₁.setTop (mkF m 210 #[.val (.int p0)] [])) _
        refine XS.iconst X0.here hx rfl (hb hby own_d1_210) ?_
        show Steps p.tables e below (s₁.setTop (mkF m 211 #[.val (.int p0)] [(.int (1 : Int32))])) _
        refine XS.goto X0.here hx rfl (pc0 := 211) (pc' := 215) rfl (hb hby own_d1_211) (by decide) (by decide) ?_
        show Steps p.tables e below (s₁.setTop (mkF m 215 #[.val (.int p0)] [(.int (1 : Int32))])) _
        exact retN X0 hx (t := .boolean) Bd.returns (by simp) (hb hby own_d1_215) hr
theorem own_d3_0 : decode method_2_code 0 = .ok (.iload_n 0, 1) := by decide +kernel
theorem own_d3_1 : decode method_2_code 1 = .ok (.iload_n 1, 1) := by decide +kernel
theorem own_d3_2 : decode method_2_code 2 = .ok (.if_icmp .lt 12, 3) := by decide +kernel
theorem own_d3_5 : decode method_2_code 5 = .ok (.iload_n 0, 1) := by decide +kernel
theorem own_d3_6 : decode method_2_code 6 = .ok (.iload_n 2, 1) := by decide +kernel
theorem own_d3_7 : decode method_2_code 7 = .ok (.if_icmp .gt 7, 3) := by decide +kernel
theorem own_d3_10 : decode method_2_code 10 = .ok (.iconst 1, 1) := by decide +kernel
theorem own_d3_11 : decode method_2_code 11 = .ok (.goto 4, 3) := by decide +kernel
theorem own_d3_14 : decode method_2_code 14 = .ok (.iconst 0, 1) := by decide +kernel
theorem own_d3_15 : decode method_2_code 15 = .ok (.ireturn, 1) := by decide +kernel
theorem own_pn1 : plainName "com/example/feuillet/feuillet/xml/XmlNamesIsNameStartCharPinLaw" = true := by first | (simp [plainName, overriddenIn]; done) | decide +kernel
theorem own_ef3 (m : MethodId) (p0 : Int32) (p1 : Int32) (p2 : Int32) : entryFrame m #[(.int p0), (.int p1), (.int p2)] 3 = mkF m 0 #[.val (.int p0), .val (.int p1), .val (.int p2)] [] := by first | (simp [entryFrame, mkF, argsToLocals, Value.category]; done) | rfl
def own_f3_0 (p0 : Int32) (p1 : Int32) (p2 : Int32) : Int32 := (if p0 < p1 then (0 : Int32) else (if p2 < p0 then (0 : Int32) else (1 : Int32)))
set_option maxRecDepth 65536 in
set_option maxHeartbeats 40000000 in
theorem own_rm3 (l : Launch) (Z : State) (aA : Array Value) (hw : ∀ d ∈ tables_1, d.before aA Z = true) (ws : List Jvm.Cond) (p0 : Int32) (p1 : Int32) (p2 : Int32)  (h0 : Heap) (n0 : Nat) (Z0 : n0 ≤ h0.size) :
    MetFree l (⟨"com/example/feuillet/feuillet/xml/XmlNamesIsNameStartCharPinLaw", "inGap", "(III)Z"⟩ : MethodName) (head1 (Jvm.Cond.code (⟨"com/example/feuillet/feuillet/xml/XmlNamesIsNameStartCharPinLaw", "inGap", "(III)Z"⟩ : MethodName) method_2_code 3 (some .boolean) :: ws) ({ frames := 0, cells := 0, slots := 0, locals := 0 } : Room)) (fun a U => a = #[(.int p0), (.int p1), (.int p2)] ∧ Z.Warmed39 U.vm ∧ U.heap = h0) (fun _ _ _ _ _ => True) (fun _ U o U' => ∃ v L, o = .returned v ∧ (QP (.int (own_f3_0 p0 p1 p2)) h0 n0) v U'.heap L ∧ FrameEnd U o U' L ({ frames := 0, cells := 0, slots := 0, locals := 0 } : Room).cells ({ frames := 0, cells := 0, slots := 0, locals := 0 } : Room).slots) := by
  refine MetFree.of_bodySF (plainFor_of_name own_pn1) hisR ?_
  intro p e s m args below meth c s₁ Bd hml0 hP hK
  obtain ⟨rfl, hZ, hh⟩ := hP
  have hx := Bd.exec
  have hby := Bd.bytes
  have hml : c.maxLocals = 3 := hml0
  have hown : s.vm.findClass "com/example/feuillet/feuillet/xml/XmlNamesIsNameStartCharPinLaw" = some m.cls := findClass_of_methodNamed Bd.named
  have hnm := (name_of_methodNamed Bd.named Bd.method).1
  have X0 : Stand p l e ({ frames := 0, cells := 0, slots := 0, locals := 0 } : Room) s m #[(.int p0), (.int p1), (.int p2)] below meth c s₁ [] 0 0 := Stand.of_body Bd
  have e0 : s₁.heap = h0 := by rw [← hh, Bd.state]; rfl
  have N0 := Fr.nil n0
  refine Owe.step (T := s₁) (T' := s₁) (g' := (mkF m 0 #[.val (.int p0), .val (.int p1), .val (.int p2)] [])) (fun t k => castTop (own_ef3 m p0 p1 p2) k) ?_
  refine Owe.step (T' := s₁) (g' := (mkF m 2 #[.val (.int p0), .val (.int p1), .val (.int p2)] [(.int p1), (.int p0)])) (fun t k => ?_) ?_
  · show Steps p.tables e below (s₁.setTop (mkF m 0 #[.val (.int p0), .val (.int p1), .val (.int p2)] [])) t
    refine XS.iloadN X0.here hx rfl (hb hby own_d3_0) rfl ?_
    show Steps p.tables e below (s₁.setTop (mkF m 1 #[.val (.int p0), .val (.int p1), .val (.int p2)] [(.int p0)])) t
    refine XS.iloadN X0.here hx rfl (hb hby own_d3_1) rfl ?_
    show Steps p.tables e below (s₁.setTop (mkF m 2 #[.val (.int p0), .val (.int p1), .val (.int p2)] [(.int p1), (.int p0)])) t
    exact k
  by_cases hc2 : p0 < p1
  · refine Owe.step (T' := s₁) (g' := (mkF m 14 #[.val (.int p0), .val (.int p1), .val (.int p2)] [])) (fun t k => ?_) ?_
    · show Steps p.tables e below (s₁.setTop (mkF m 2 #[.val (.int p0), .val (.int p1), .val (.int p2)] [(.int p1), (.int p0)])) t
      refine XS.icmpYes X0.here hx rfl (pc0 := 2) (pc' := 14) rfl (hb hby own_d3_2) rfl (tlt hc2).1 (by decide) (by decide) ?_
      show Steps p.tables e below (s₁.setTop (mkF m 14 #[.val (.int p0), .val (.int p1), .val (.int p2)] [])) t
      exact k
    rw [show own_f3_0 p0 p1 p2 = (0 : Int32) from (by rw [own_f3_0, if_pos hc2])]
    refine Owe.ret X0 Bd.notSynchronized (v := (some (.int (0 : Int32)))) (fun h => by rw [Bd.returns] at h; cases h) (fun fs hr => ?_) ⟨rfl, N0, e0⟩ (by decide) (by decide)
    show Steps p.tables e below (s₁.setTop (mkF m 14 #[.val (.int p0), .val (.int p1), .val (.int p2)] [])) _
    refine XS.iconst X0.here hx rfl (hb hby own_d3_14) ?_
    show Steps p.tables e below (s₁.setTop (mkF m 15 #[.val (.int p0), .val (.int p1), .val (.int p2)] [(.int (0 : Int32))])) _
    exact retN X0 hx (t := .boolean) Bd.returns (by simp) (hb hby own_d3_15) hr
  · refine Owe.step (T' := s₁) (g' := (mkF m 5 #[.val (.int p0), .val (.int p1), .val (.int p2)] [])) (fun t k => ?_) ?_
    · show Steps p.tables e below (s₁.setTop (mkF m 2 #[.val (.int p0), .val (.int p1), .val (.int p2)] [(.int p1), (.int p0)])) t
      refine XS.icmpNo X0.here hx rfl (hb hby own_d3_2) rfl (flt hc2).1 ?_
      show Steps p.tables e below (s₁.setTop (mkF m 5 #[.val (.int p0), .val (.int p1), .val (.int p2)] [])) t
      exact k
    refine Owe.step (T' := s₁) (g' := (mkF m 7 #[.val (.int p0), .val (.int p1), .val (.int p2)] [(.int p2), (.int p0)])) (fun t k => ?_) ?_
    · show Steps p.tables e below (s₁.setTop (mkF m 5 #[.val (.int p0), .val (.int p1), .val (.int p2)] [])) t
      refine XS.iloadN X0.here hx rfl (hb hby own_d3_5) rfl ?_
      show Steps p.tables e below (s₁.setTop (mkF m 6 #[.val (.int p0), .val (.int p1), .val (.int p2)] [(.int p0)])) t
      refine XS.iloadN X0.here hx rfl (hb hby own_d3_6) rfl ?_
      show Steps p.tables e below (s₁.setTop (mkF m 7 #[.val (.int p0), .val (.int p1), .val (.int p2)] [(.int p2), (.int p0)])) t
      exact k
    by_cases hc7 : p2 < p0
    · refine Owe.step (T' := s₁) (g' := (mkF m 14 #[.val (.int p0), .val (.int p1), .val (.int p2)] [])) (fun t k => ?_) ?_
      · show Steps p.tables e below (s₁.setTop (mkF m 7 #[.val (.int p0), .val (.int p1), .val (.int p2)] [(.int p2), (.int p0)])) t
        refine XS.icmpYes X0.here hx rfl (pc0 := 7) (pc' := 14) rfl (hb hby own_d3_7) rfl (tlt hc7).2.2.1 (by decide) (by decide) ?_
        show Steps p.tables e below (s₁.setTop (mkF m 14 #[.val (.int p0), .val (.int p1), .val (.int p2)] [])) t
        exact k
      rw [show own_f3_0 p0 p1 p2 = (0 : Int32) from (by rw [own_f3_0, if_neg hc2, if_pos hc7])]
      refine Owe.ret X0 Bd.notSynchronized (v := (some (.int (0 : Int32)))) (fun h => by rw [Bd.returns] at h; cases h) (fun fs hr => ?_) ⟨rfl, N0, e0⟩ (by decide) (by decide)
      show Steps p.tables e below (s₁.setTop (mkF m 14 #[.val (.int p0), .val (.int p1), .val (.int p2)] [])) _
      refine XS.iconst X0.here hx rfl (hb hby own_d3_14) ?_
      show Steps p.tables e below (s₁.setTop (mkF m 15 #[.val (.int p0), .val (.int p1), .val (.int p2)] [(.int (0 : Int32))])) _
      exact retN X0 hx (t := .boolean) Bd.returns (by simp) (hb hby own_d3_15) hr
    · refine Owe.step (T' := s₁) (g' := (mkF m 10 #[.val (.int p0), .val (.int p1), .val (.int p2)] [])) (fun t k => ?_) ?_
      · show Steps p.tables e below (s₁.setTop (mkF m 7 #[.val (.int p0), .val (.int p1), .val (.int p2)] [(.int p2), (.int p0)])) t
        refine XS.icmpNo X0.here hx rfl (hb hby own_d3_7) rfl (flt hc7).2.2.1 ?_
        show Steps p.tables e below (s₁.setTop (mkF m 10 #[.val (.int p0), .val (.int p1), .val (.int p2)] [])) t
        exact k
      rw [show own_f3_0 p0 p1 p2 = (1 : Int32) from (by rw [own_f3_0, if_neg hc2, if_neg hc7])]
      refine Owe.ret X0 Bd.notSynchronized (v := (some (.int (1 : Int32)))) (fun h => by rw [Bd.returns] at h; cases h) (fun fs hr => ?_) ⟨rfl, N0, e0⟩ (by decide) (by decide)
      show Steps p.tables e below (s₁.setTop (mkF m 10 #[.val (.int p0), .val (.int p1), .val (.int p2)] [])) _
      refine XS.iconst X0.here hx rfl (hb hby own_d3_10) ?_
      show Steps p.tables e below (s₁.setTop (mkF m 11 #[.val (.int p0), .val (.int p1), .val (.int p2)] [(.int (1 : Int32))])) _
      refine XS.goto X0.here hx rfl (pc0 := 11) (pc' := 15) rfl (hb hby own_d3_11) (by decide) (by decide) ?_
      show Steps p.tables e below (s₁.setTop (mkF m 15 #[.val (.int p0), .val (.int p1), .val (.int p2)] [(.int (1 : Int32))])) _
      exact retN X0 hx (t := .boolean) Bd.returns (by simp) (hb hby own_d3_15) hr
theorem own_d2_0 : decode method_3_code 0 = .ok (.iload_n 0, 1) := by decide +kernel
theorem own_d2_1 : decode method_3_code 1 = .ok (.bipush 58, 2) := by decide +kernel
theorem own_d2_3 : decode method_3_code 3 = .ok (.if_icmp .lt 9, 3) := by decide +kernel
theorem own_d2_6 : decode method_3_code 6 = .ok (.iload_n 0, 1) := by decide +kernel
theorem own_d2_7 : decode method_3_code 7 = .ok (.ldc 7, 2) := by decide +kernel
theorem own_d2_9 : decode method_3_code 9 = .ok (.if_icmp .le 5, 3) := by decide +kernel
theorem own_d2_12 : decode method_3_code 12 = .ok (.iconst 0, 1) := by decide +kernel
theorem own_d2_13 : decode method_3_code 13 = .ok (.ireturn, 1) := by decide +kernel
theorem own_d2_14 : decode method_3_code 14 = .ok (.iload_n 0, 1) := by decide +kernel
theorem own_d2_15 : decode method_3_code 15 = .ok (.bipush 59, 2) := by decide +kernel
theorem own_d2_17 : decode method_3_code 17 = .ok (.bipush 64, 2) := by decide +kernel
theorem own_d2_19 : decode method_3_code 19 = .ok (.invokestatic 8, 3) := by decide +kernel
theorem own_d2_22 : decode method_3_code 22 = .ok (.ifCond .ne 32, 3) := by decide +kernel
theorem own_d2_25 : decode method_3_code 25 = .ok (.iload_n 0, 1) := by decide +kernel
theorem own_d2_26 : decode method_3_code 26 = .ok (.bipush 91, 2) := by decide +kernel
theorem own_d2_28 : decode method_3_code 28 = .ok (.bipush 94, 2) := by decide +kernel
theorem own_d2_30 : decode method_3_code 30 = .ok (.invokestatic 8, 3) := by decide +kernel
theorem own_d2_33 : decode method_3_code 33 = .ok (.ifCond .ne 21, 3) := by decide +kernel
theorem own_d2_36 : decode method_3_code 36 = .ok (.iload_n 0, 1) := by decide +kernel
theorem own_d2_37 : decode method_3_code 37 = .ok (.bipush 96, 2) := by decide +kernel
theorem own_d2_39 : decode method_3_code 39 = .ok (.if_icmp .eq 15, 3) := by decide +kernel
theorem own_d2_42 : decode method_3_code 42 = .ok (.iload_n 0, 1) := by decide +kernel
theorem own_d2_43 : decode method_3_code 43 = .ok (.bipush 123, 2) := by decide +kernel
theorem own_d2_45 : decode method_3_code 45 = .ok (.sipush 191, 3) := by decide +kernel
theorem own_d2_48 : decode method_3_code 48 = .ok (.invokestatic 8, 3) := by decide +kernel
theorem own_d2_51 : decode method_3_code 51 = .ok (.ifCond .eq 5, 3) := by decide +kernel
theorem own_d2_54 : decode method_3_code 54 = .ok (.iconst 0, 1) := by decide +kernel
theorem own_d2_55 : decode method_3_code 55 = .ok (.ireturn, 1) := by decide +kernel
theorem own_d2_56 : decode method_3_code 56 = .ok (.iload_n 0, 1) := by decide +kernel
theorem own_d2_57 : decode method_3_code 57 = .ok (.sipush 215, 3) := by decide +kernel
theorem own_d2_60 : decode method_3_code 60 = .ok (.if_icmp .eq 30, 3) := by decide +kernel
theorem own_d2_63 : decode method_3_code 63 = .ok (.iload_n 0, 1) := by decide +kernel
theorem own_d2_64 : decode method_3_code 64 = .ok (.sipush 247, 3) := by decide +kernel
theorem own_d2_67 : decode method_3_code 67 = .ok (.if_icmp .eq 23, 3) := by decide +kernel
theorem own_d2_70 : decode method_3_code 70 = .ok (.iload_n 0, 1) := by decide +kernel
theorem own_d2_71 : decode method_3_code 71 = .ok (.sipush 768, 3) := by decide +kernel
theorem own_d2_74 : decode method_3_code 74 = .ok (.sipush 879, 3) := by decide +kernel
theorem own_d2_77 : decode method_3_code 77 = .ok (.invokestatic 8, 3) := by decide +kernel
theorem own_d2_80 : decode method_3_code 80 = .ok (.ifCond .ne 10, 3) := by decide +kernel
theorem own_d2_83 : decode method_3_code 83 = .ok (.iload_n 0, 1) := by decide +kernel
theorem own_d2_84 : decode method_3_code 84 = .ok (.sipush 894, 3) := by decide +kernel
theorem own_d2_87 : decode method_3_code 87 = .ok (.if_icmp .ne 5, 3) := by decide +kernel
theorem own_d2_90 : decode method_3_code 90 = .ok (.iconst 0, 1) := by decide +kernel
theorem own_d2_91 : decode method_3_code 91 = .ok (.ireturn, 1) := by decide +kernel
theorem own_d2_92 : decode method_3_code 92 = .ok (.iload_n 0, 1) := by decide +kernel
theorem own_d2_93 : decode method_3_code 93 = .ok (.sipush 8192, 3) := by decide +kernel
theorem own_d2_96 : decode method_3_code 96 = .ok (.sipush 8203, 3) := by decide +kernel
theorem own_d2_99 : decode method_3_code 99 = .ok (.invokestatic 8, 3) := by decide +kernel
theorem own_d2_102 : decode method_3_code 102 = .ok (.ifCond .ne 29, 3) := by decide +kernel
theorem own_d2_105 : decode method_3_code 105 = .ok (.iload_n 0, 1) := by decide +kernel
theorem own_d2_106 : decode method_3_code 106 = .ok (.sipush 8206, 3) := by decide +kernel
theorem own_d2_109 : decode method_3_code 109 = .ok (.sipush 8303, 3) := by decide +kernel
theorem own_d2_112 : decode method_3_code 112 = .ok (.invokestatic 8, 3) := by decide +kernel
theorem own_d2_115 : decode method_3_code 115 = .ok (.ifCond .ne 16, 3) := by decide +kernel
theorem own_d2_118 : decode method_3_code 118 = .ok (.iload_n 0, 1) := by decide +kernel
theorem own_d2_119 : decode method_3_code 119 = .ok (.sipush 8592, 3) := by decide +kernel
theorem own_d2_122 : decode method_3_code 122 = .ok (.sipush 11263, 3) := by decide +kernel
theorem own_d2_125 : decode method_3_code 125 = .ok (.invokestatic 8, 3) := by decide +kernel
theorem own_d2_128 : decode method_3_code 128 = .ok (.ifCond .eq 5, 3) := by decide +kernel
theorem own_d2_131 : decode method_3_code 131 = .ok (.iconst 0, 1) := by decide +kernel
theorem own_d2_132 : decode method_3_code 132 = .ok (.ireturn, 1) := by decide +kernel
theorem own_d2_133 : decode method_3_code 133 = .ok (.iload_n 0, 1) := by decide +kernel
theorem own_d2_134 : decode method_3_code 134 = .ok (.sipush 12272, 3) := by decide +kernel
theorem own_d2_137 : decode method_3_code 137 = .ok (.sipush 12288, 3) := by decide +kernel
theorem own_d2_140 : decode method_3_code 140 = .ok (.invokestatic 8, 3) := by decide +kernel
theorem own_d2_143 : decode method_3_code 143 = .ok (.ifCond .ne 25, 3) := by decide +kernel
theorem own_d2_146 : decode method_3_code 146 = .ok (.iload_n 0, 1) := by decide +kernel
theorem own_d2_147 : decode method_3_code 147 = .ok (.ldc 14, 2) := by decide +kernel
theorem own_d2_149 : decode method_3_code 149 = .ok (.ldc 15, 2) := by decide +kernel
theorem own_d2_151 : decode method_3_code 151 = .ok (.invokestatic 8, 3) := by decide +kernel
theorem own_d2_154 : decode method_3_code 154 = .ok (.ifCond .ne 14, 3) := by decide +kernel
theorem own_d2_157 : decode method_3_code 157 = .ok (.iload_n 0, 1) := by decide +kernel
theorem own_d2_158 : decode method_3_code 158 = .ok (.ldc 16, 2) := by decide +kernel
theorem own_d2_160 : decode method_3_code 160 = .ok (.ldc 17, 2) := by decide +kernel
theorem own_d2_162 : decode method_3_code 162 = .ok (.invokestatic 8, 3) := by decide +kernel
theorem own_d2_165 : decode method_3_code 165 = .ok (.ifCond .eq 5, 3) := by decide +kernel
theorem own_d2_168 : decode method_3_code 168 = .ok (.iconst 0, 1) := by decide +kernel
theorem own_d2_169 : decode method_3_code 169 = .ok (.ireturn, 1) := by decide +kernel
theorem own_d2_170 : decode method_3_code 170 = .ok (.iload_n 0, 1) := by decide +kernel
theorem own_d2_171 : decode method_3_code 171 = .ok (.ldc 18, 2) := by decide +kernel
theorem own_d2_173 : decode method_3_code 173 = .ok (.ldc 19, 2) := by decide +kernel
theorem own_d2_175 : decode method_3_code 175 = .ok (.invokestatic 8, 3) := by decide +kernel
theorem own_d2_178 : decode method_3_code 178 = .ok (.ifCond .eq 5, 3) := by decide +kernel
theorem own_d2_181 : decode method_3_code 181 = .ok (.iconst 0, 1) := by decide +kernel
theorem own_d2_182 : decode method_3_code 182 = .ok (.ireturn, 1) := by decide +kernel
theorem own_d2_183 : decode method_3_code 183 = .ok (.iconst 1, 1) := by decide +kernel
theorem own_d2_184 : decode method_3_code 184 = .ok (.ireturn, 1) := by decide +kernel
theorem own_pd0 : parseMethodDescriptor "(III)Z" = some ⟨[.int, .int, .int], some .boolean⟩ := by decide +kernel
theorem own_ef2 (m : MethodId) (p0 : Int32) : entryFrame m #[(.int p0)] 1 = mkF m 0 #[.val (.int p0)] [] := by first | (simp [entryFrame, mkF, argsToLocals, Value.category]; done) | rfl
def own_f2_0 (p0 : Int32) : Int32 := (if p0 < (58 : Int32) then (0 : Int32) else (if (983039 : Int32) < p0 then (0 : Int32) else (if (own_f3_0 p0 (59 : Int32) (64 : Int32)) = (0 : Int32) then (if (own_f3_0 p0 (91 : Int32) (94 : Int32)) = (0 : Int32) then (if p0 = (96 : Int32) then (0 : Int32) else (if (own_f3_0 p0 (123 : Int32) (191 : Int32)) = (0 : Int32) then (if p0 = (215 : Int32) then (0 : Int32) else (if p0 = (247 : Int32) then (0 : Int32) else (if (own_f3_0 p0 (768 : Int32) (879 : Int32)) = (0 : Int32) then (if p0 = (894 : Int32) then (0 : Int32) else (if (own_f3_0 p0 (8192 : Int32) (8203 : Int32)) = (0 : Int32) then (if (own_f3_0 p0 (8206 : Int32) (8303 : Int32)) = (0 : Int32) then (if (own_f3_0 p0 (8592 : Int32) (11263 : Int32)) = (0 : Int32) then (if (own_f3_0 p0 (12272 : Int32) (12288 : Int32)) = (0 : Int32) then (if (own_f3_0 p0 (55296 : Int32) (63743 : Int32)) = (0 : Int32) then (if (own_f3_0 p0 (64976 : Int32) (65007 : Int32)) = (0 : Int32) then (if (own_f3_0 p0 (65534 : Int32) (65535 : Int32)) = (0 : Int32) then (1 : Int32) else (0 : Int32)) else (0 : Int32)) else (0 : Int32)) else (0 : Int32)) else (0 : Int32)) else (0 : Int32)) else (0 : Int32))) else (0 : Int32)))) else (0 : Int32))) else (0 : Int32)) else (0 : Int32))))
set_option maxRecDepth 65536 in
set_option maxHeartbeats 40000000 in
theorem own_rm2 (l : Launch) (Z : State) (aA : Array Value) (hw : ∀ d ∈ tables_1, d.before aA Z = true) (ws : List Jvm.Cond) (p0 : Int32)  (h0 : Heap) (n0 : Nat) (Z0 : n0 ≤ h0.size) :
    MetFree l (⟨"com/example/feuillet/feuillet/xml/XmlNamesIsNameStartCharPinLaw", "ref", "(I)Z"⟩ : MethodName) (head1 (Jvm.Cond.code (⟨"com/example/feuillet/feuillet/xml/XmlNamesIsNameStartCharPinLaw", "ref", "(I)Z"⟩ : MethodName) method_3_code 1 (some .boolean) :: ws) ({ frames := 1, cells := 0, slots := 0, locals := 14 } : Room)) (fun a U => a = #[(.int p0)] ∧ Z.Warmed39 U.vm ∧ U.heap = h0) (fun _ _ _ _ _ => True) (fun _ U o U' => ∃ v L, o = .returned v ∧ (QP (.int (own_f2_0 p0)) h0 n0) v U'.heap L ∧ FrameEnd U o U' L ({ frames := 1, cells := 0, slots := 0, locals := 14 } : Room).cells ({ frames := 1, cells := 0, slots := 0, locals := 14 } : Room).slots) := by
  refine MetFree.of_bodySF (plainFor_of_name own_pn1) hisR ?_
  intro p e s m args below meth c s₁ Bd hml0 hP hK
  obtain ⟨rfl, hZ, hh⟩ := hP
  have hx := Bd.exec
  have hby := Bd.bytes
  have hml : c.maxLocals = 1 := hml0
  have hown : s.vm.findClass "com/example/feuillet/feuillet/xml/XmlNamesIsNameStartCharPinLaw" = some m.cls := findClass_of_methodNamed Bd.named
  have hnm := (name_of_methodNamed Bd.named Bd.method).1
  have X0 : Stand p l e ({ frames := 1, cells := 0, slots := 0, locals := 14 } : Room) s m #[(.int p0)] below meth c s₁ [] 0 0 := Stand.of_body Bd
  have e0 : s₁.heap = h0 := by rw [← hh, Bd.state]; rfl
  have N0 := Fr.nil n0
  refine Owe.step (T := s₁) (T' := s₁) (g' := (mkF m 0 #[.val (.int p0)] [])) (fun t k => castTop (own_ef2 m p0) k) ?_
  refine Owe.step (T' := s₁) (g' := (mkF m 3 #[.val (.int p0)] [(.int (58 : Int32)), (.int p0)])) (fun t k => ?_) ?_
  · show Steps p.tables e below (s₁.setTop (mkF m 0 #[.val (.int p0)] [])) t
    refine XS.iloadN X0.here hx rfl (hb hby own_d2_0) rfl ?_
    show Steps p.tables e below (s₁.setTop (mkF m 1 #[.val (.int p0)] [(.int p0)])) t
    refine XS.bipush X0.here hx rfl (hb hby own_d2_1) ?_
    show Steps p.tables e below (s₁.setTop (mkF m 3 #[.val (.int p0)] [(.int (58 : Int32)), (.int p0)])) t
    exact k
  by_cases hc3 : p0 < (58 : Int32)
  · refine Owe.step (T' := s₁) (g' := (mkF m 12 #[.val (.int p0)] [])) (fun t k => ?_) ?_
    · show Steps p.tables e below (s₁.setTop (mkF m 3 #[.val (.int p0)] [(.int (58 : Int32)), (.int p0)])) t
      refine XS.icmpYes X0.here hx rfl (pc0 := 3) (pc' := 12) rfl (hb hby own_d2_3) rfl (tlt hc3).1 (by decide) (by decide) ?_
      show Steps p.tables e below (s₁.setTop (mkF m 12 #[.val (.int p0)] [])) t
      exact k
    rw [show own_f2_0 p0 = (0 : Int32) from (by rw [own_f2_0, if_pos hc3])]
    refine Owe.ret X0 Bd.notSynchronized (v := (some (.int (0 : Int32)))) (fun h => by rw [Bd.returns] at h; cases h) (fun fs hr => ?_) ⟨rfl, N0, e0⟩ (by decide) (by decide)
    show Steps p.tables e below (s₁.setTop (mkF m 12 #[.val (.int p0)] [])) _
    refine XS.iconst X0.here hx rfl (hb hby own_d2_12) ?_
    show Steps p.tables e below (s₁.setTop (mkF m 13 #[.val (.int p0)] [(.int (0 : Int32))])) _
    exact retN X0 hx (t := .boolean) Bd.returns (by simp) (hb hby own_d2_13) hr
  · refine Owe.step (T' := s₁) (g' := (mkF m 6 #[.val (.int p0)] [])) (fun t k => ?_) ?_
    · show Steps p.tables e below (s₁.setTop (mkF m 3 #[.val (.int p0)] [(.int (58 : Int32)), (.int p0)])) t
      refine XS.icmpNo X0.here hx rfl (hb hby own_d2_3) rfl (flt hc3).1 ?_
      show Steps p.tables e below (s₁.setTop (mkF m 6 #[.val (.int p0)] [])) t
      exact k
    refine Owe.step (T' := s₁) (g' := (mkF m 9 #[.val (.int p0)] [(.int (983039 : Int32)), (.int p0)])) (fun t k => ?_) ?_
    · show Steps p.tables e below (s₁.setTop (mkF m 6 #[.val (.int p0)] [])) t
      refine XS.iloadN X0.here hx rfl (hb hby own_d2_6) rfl ?_
      show Steps p.tables e below (s₁.setTop (mkF m 7 #[.val (.int p0)] [(.int p0)])) t
      refine X0.ldcInt hx hown (mvT hZ (hw _ (List.mem_of_getElem? (i := 8) rfl))) (g := (mkF m 7 #[.val (.int p0)] [(.int p0)])) rfl (hb hby own_d2_7) _ ?_
      show Steps p.tables e below (s₁.setTop (mkF m 9 #[.val (.int p0)] [(.int (983039 : Int32)), (.int p0)])) t
      exact k
    by_cases hc9 : (983039 : Int32) < p0
    · refine Owe.step (T' := s₁) (g' := (mkF m 12 #[.val (.int p0)] [])) (fun t k => ?_) ?_
      · show Steps p.tables e below (s₁.setTop (mkF m 9 #[.val (.int p0)] [(.int (983039 : Int32)), (.int p0)])) t
        refine XS.icmpNo X0.here hx rfl (hb hby own_d2_9) rfl (tlt hc9).2.2.2 ?_
        show Steps p.tables e below (s₁.setTop (mkF m 12 #[.val (.int p0)] [])) t
        exact k
      rw [show own_f2_0 p0 = (0 : Int32) from (by rw [own_f2_0, if_neg hc3, if_pos hc9])]
      refine Owe.ret X0 Bd.notSynchronized (v := (some (.int (0 : Int32)))) (fun h => by rw [Bd.returns] at h; cases h) (fun fs hr => ?_) ⟨rfl, N0, e0⟩ (by decide) (by decide)
      show Steps p.tables e below (s₁.setTop (mkF m 12 #[.val (.int p0)] [])) _
      refine XS.iconst X0.here hx rfl (hb hby own_d2_12) ?_
      show Steps p.tables e below (s₁.setTop (mkF m 13 #[.val (.int p0)] [(.int (0 : Int32))])) _
      exact retN X0 hx (t := .boolean) Bd.returns (by simp) (hb hby own_d2_13) hr
    · refine Owe.step (T' := s₁) (g' := (mkF m 14 #[.val (.int p0)] [])) (fun t k => ?_) ?_
      · show Steps p.tables e below (s₁.setTop (mkF m 9 #[.val (.int p0)] [(.int (983039 : Int32)), (.int p0)])) t
        refine XS.icmpYes X0.here hx rfl (pc0 := 9) (pc' := 14) rfl (hb hby own_d2_9) rfl (flt hc9).2.2.2 (by decide) (by decide) ?_
        show Steps p.tables e below (s₁.setTop (mkF m 14 #[.val (.int p0)] [])) t
        exact k
      obtain ⟨_, _, ⟨T1, L1, k1, n1⟩, -, X1, ⟨Lc1, hQ1, l1, y1, z1⟩, st1⟩ := Jvm.LawKit.callS X0 hx (y := (⟨"com/example/feuillet/feuillet/xml/XmlNamesIsNameStartCharPinLaw", "inGap", "(III)Z"⟩ : MethodName)) hown (mvT hZ (hw _ (List.mem_of_getElem? (i := 18) rfl))) (mvT hZ (hw _ (List.mem_of_getElem? (i := 19) rfl))) (mvT hZ (hw _ (List.mem_of_getElem? (i := 16) rfl))) (mvT hZ (hw _ (List.mem_of_getElem? (i := 20) rfl))) (by decide) (backOf (W := 0) (own_rm3 l Z aA hw [] p0 (59 : Int32) (64 : Int32) h0 n0 Z0 ) hZ (hw _ (List.mem_of_getElem? (i := 20) rfl)) (hw _ (List.mem_of_getElem? (i := 16) rfl)) (by decide) (by decide)) (g := (mkF m 19 #[.val (.int p0)] [(.int (64 : Int32)), (.int (59 : Int32)), (.int p0)])) rfl (by rw [hml]; rfl) (argsL := [(.int p0), (.int (59 : Int32)), (.int (64 : Int32))]) (rest := []) (lenOf own_pd0 rfl) rfl (by show 2 * 0 + _ ≤ _; exact Nat.le_of_eq rfl) (hb hby own_d2_19) (fun _ _ => ⟨rfl, e0, (by decide : 0 + 0 ≤ _), (by decide : 0 + 0 ≤ _)⟩)
      dsimp only [Pt.U, Pt.locs, Pt.cells, Pt.slots] at X1 l1 y1 z1 st1 hQ1
      subst y1 z1
      obtain ⟨rfl, N1q, e1⟩ := hQ1
      have N1 : Fr n0 L1 := by rw [l1]; exact Fr.app N0 N1q
      refine Owe.step (T' := T1) (g' := (mkF m 22 #[.val (.int p0)] [(.int (own_f3_0 p0 (59 : Int32) (64 : Int32)))])) (fun t k => ?_) ?_
      · show Steps p.tables e below (s₁.setTop (mkF m 14 #[.val (.int p0)] [])) t
        refine XS.iloadN X0.here hx rfl (hb hby own_d2_14) rfl ?_
        show Steps p.tables e below (s₁.setTop (mkF m 15 #[.val (.int p0)] [(.int p0)])) t
        refine XS.bipush X0.here hx rfl (hb hby own_d2_15) ?_
        show Steps p.tables e below (s₁.setTop (mkF m 17 #[.val (.int p0)] [(.int (59 : Int32)), (.int p0)])) t
        refine XS.bipush X0.here hx rfl (hb hby own_d2_17) ?_
        show Steps p.tables e below (s₁.setTop (mkF m 19 #[.val (.int p0)] [(.int (64 : Int32)), (.int (59 : Int32)), (.int p0)])) t
        refine st1 _ ?_
        show Steps p.tables e below (T1.setTop (mkF m 22 #[.val (.int p0)] [(.int (own_f3_0 p0 (59 : Int32) (64 : Int32)))])) t
        exact k
      by_cases hc22 : (own_f3_0 p0 (59 : Int32) (64 : Int32)) = (0 : Int32)
      · refine Owe.step (T' := T1) (g' := (mkF m 25 #[.val (.int p0)] [])) (fun t k => ?_) ?_
        · show Steps p.tables e below (T1.setTop (mkF m 22 #[.val (.int p0)] [(.int (own_f3_0 p0 (59 : Int32) (64 : Int32)))])) t
          refine XS.ifNo X1.here hx rfl (hb hby own_d2_22) rfl ((if0 _ _).trans (teq hc22).2) ?_
          show Steps p.tables e below (T1.setTop (mkF m 25 #[.val (.int p0)] [])) t
          exact k
        obtain ⟨_, _, ⟨T2, L2, k2, n2⟩, -, X2, ⟨Lc2, hQ2, l2, y2, z2⟩, st2⟩ := Jvm.LawKit.callS X1 hx (y := (⟨"com/example/feuillet/feuillet/xml/XmlNamesIsNameStartCharPinLaw", "inGap", "(III)Z"⟩ : MethodName)) hown (mvT hZ (hw _ (List.mem_of_getElem? (i := 18) rfl))) (mvT hZ (hw _ (List.mem_of_getElem? (i := 19) rfl))) (mvT hZ (hw _ (List.mem_of_getElem? (i := 16) rfl))) (mvT hZ (hw _ (List.mem_of_getElem? (i := 20) rfl))) (by decide) (backOf (W := 0) (own_rm3 l Z aA hw [] p0 (91 : Int32) (94 : Int32) h0 n0 Z0 ) hZ (hw _ (List.mem_of_getElem? (i := 20) rfl)) (hw _ (List.mem_of_getElem? (i := 16) rfl)) (by decide) (by decide)) (g := (mkF m 30 #[.val (.int p0)] [(.int (94 : Int32)), (.int (91 : Int32)), (.int p0)])) rfl (by rw [hml]; rfl) (argsL := [(.int p0), (.int (91 : Int32)), (.int (94 : Int32))]) (rest := []) (lenOf own_pd0 rfl) rfl (by show 2 * 0 + _ ≤ _; exact Nat.le_of_eq rfl) (hb hby own_d2_30) (fun _ _ => ⟨rfl, e1, (by decide : 0 + 0 ≤ _), (by decide : 0 + 0 ≤ _)⟩)
        dsimp only [Pt.U, Pt.locs, Pt.cells, Pt.slots] at X2 l2 y2 z2 st2 hQ2
        subst y2 z2
        obtain ⟨rfl, N2q, e2⟩ := hQ2
        have N2 : Fr n0 L2 := by rw [l2]; exact Fr.app N1 N2q
        refine Owe.step (T' := T2) (g' := (mkF m 33 #[.val (.int p0)] [(.int (own_f3_0 p0 (91 : Int32) (94 : Int32)))])) (fun t k => ?_) ?_
        · show Steps p.tables e below (T1.setTop (mkF m 25 #[.val (.int p0)] [])) t
          refine XS.iloadN X1.here hx rfl (hb hby own_d2_25) rfl ?_
          show Steps p.tables e below (T1.setTop (mkF m 26 #[.val (.int p0)] [(.int p0)])) t
          refine XS.bipush X1.here hx rfl (hb hby own_d2_26) ?_
          show Steps p.tables e below (T1.setTop (mkF m 28 #[.val (.int p0)] [(.int (91 : Int32)), (.int p0)])) t
          refine XS.bipush X1.here hx rfl (hb hby own_d2_28) ?_
          show Steps p.tables e below (T1.setTop (mkF m 30 #[.val (.int p0)] [(.int (94 : Int32)), (.int (91 : Int32)), (.int p0)])) t
          refine st2 _ ?_
          show Steps p.tables e below (T2.setTop (mkF m 33 #[.val (.int p0)] [(.int (own_f3_0 p0 (91 : Int32) (94 : Int32)))])) t
          exact k
        by_cases hc33 : (own_f3_0 p0 (91 : Int32) (94 : Int32)) = (0 : Int32)
        · refine Owe.step (T' := T2) (g' := (mkF m 36 #[.val (.int p0)] [])) (fun t k => ?_) ?_
          · show Steps p.tables e below (T2.setTop (mkF m 33 #[.val (.int p0)] [(.int (own_f3_0 p0 (91 : Int32) (94 : Int32)))])) t
            refine XS.ifNo X2.here hx rfl (hb hby own_d2_33) rfl ((if0 _ _).trans (teq hc33).2) ?_
            show Steps p.tables e below (T2.setTop (mkF m 36 #[.val (.int p0)] [])) t
            exact k
          refine Owe.step (T' := T2) (g' := (mkF m 39 #[.val (.int p0)] [(.int (96 : Int32)), (.int p0)])) (fun t k => ?_) ?_
          · show Steps p.tables e below (T2.setTop (mkF m 36 #[.val (.int p0)] [])) t
            refine XS.iloadN X2.here hx rfl (hb hby own_d2_36) rfl ?_
            show Steps p.tables e below (T2.setTop (mkF m 37 #[.val (.int p0)] [(.int p0)])) t
            refine XS.bipush X2.here hx rfl (hb hby own_d2_37) ?_
            show Steps p.tables e below (T2.setTop (mkF m 39 #[.val (.int p0)] [(.int (96 : Int32)), (.int p0)])) t
            exact k
          by_cases hc39 : p0 = (96 : Int32)
          · refine Owe.step (T' := T2) (g' := (mkF m 54 #[.val (.int p0)] [])) (fun t k => ?_) ?_
            · show Steps p.tables e below (T2.setTop (mkF m 39 #[.val (.int p0)] [(.int (96 : Int32)), (.int p0)])) t
              refine XS.icmpYes X2.here hx rfl (pc0 := 39) (pc' := 54) rfl (hb hby own_d2_39) rfl (teq hc39).1 (by decide) (by decide) ?_
              show Steps p.tables e below (T2.setTop (mkF m 54 #[.val (.int p0)] [])) t
              exact k
            rw [show own_f2_0 p0 = (0 : Int32) from (by rw [own_f2_0, if_neg hc3, if_neg hc9, if_pos hc22, if_pos hc33, if_pos hc39])]
            refine Owe.ret X2 Bd.notSynchronized (v := (some (.int (0 : Int32)))) (fun h => by rw [Bd.returns] at h; cases h) (fun fs hr => ?_) ⟨rfl, N2, e2⟩ (by decide) (by decide)
            show Steps p.tables e below (T2.setTop (mkF m 54 #[.val (.int p0)] [])) _
            refine XS.iconst X2.here hx rfl (hb hby own_d2_54) ?_
            show Steps p.tables e below (T2.setTop (mkF m 55 #[.val (.int p0)] [(.int (0 : Int32))])) _
            exact retN X2 hx (t := .boolean) Bd.returns (by simp) (hb hby own_d2_55) hr
          · refine Owe.step (T' := T2) (g' := (mkF m 42 #[.val (.int p0)] [])) (fun t k => ?_) ?_
            · show Steps p.tables e below (T2.setTop (mkF m 39 #[.val (.int p0)] [(.int (96 : Int32)), (.int p0)])) t
              refine XS.icmpNo X2.here hx rfl (hb hby own_d2_39) rfl (feq hc39).1 ?_
              show Steps p.tables e below (T2.setTop (mkF m 42 #[.val (.int p0)] [])) t
              exact k
            obtain ⟨_, _, ⟨T3, L3, k3, n3⟩, -, X3, ⟨Lc3, hQ3, l3, y3, z3⟩, st3⟩ := Jvm.LawKit.callS X2 hx (y := (⟨"com/example/feuillet/feuillet/xml/XmlNamesIsNameStartCharPinLaw", "inGap", "(III)Z"⟩ : MethodName)) hown (mvT hZ (hw _ (List.mem_of_getElem? (i := 18) rfl))) (mvT hZ (hw _ (List.mem_of_getElem? (i := 19) rfl))) (mvT hZ (hw _ (List.mem_of_getElem? (i := 16) rfl))) (mvT hZ (hw _ (List.mem_of_getElem? (i := 20) rfl))) (by decide) (backOf (W := 0) (own_rm3 l Z aA hw [] p0 (123 : Int32) (191 : Int32) h0 n0 Z0 ) hZ (hw _ (List.mem_of_getElem? (i := 20) rfl)) (hw _ (List.mem_of_getElem? (i := 16) rfl)) (by decide) (by decide)) (g := (mkF m 48 #[.val (.int p0)] [(.int (191 : Int32)), (.int (123 : Int32)), (.int p0)])) rfl (by rw [hml]; rfl) (argsL := [(.int p0), (.int (123 : Int32)), (.int (191 : Int32))]) (rest := []) (lenOf own_pd0 rfl) rfl (by show 2 * 0 + _ ≤ _; exact Nat.le_of_eq rfl) (hb hby own_d2_48) (fun _ _ => ⟨rfl, e2, (by decide : 0 + 0 ≤ _), (by decide : 0 + 0 ≤ _)⟩)
            dsimp only [Pt.U, Pt.locs, Pt.cells, Pt.slots] at X3 l3 y3 z3 st3 hQ3
            subst y3 z3
            obtain ⟨rfl, N3q, e3⟩ := hQ3
            have N3 : Fr n0 L3 := by rw [l3]; exact Fr.app N2 N3q
            refine Owe.step (T' := T3) (g' := (mkF m 51 #[.val (.int p0)] [(.int (own_f3_0 p0 (123 : Int32) (191 : Int32)))])) (fun t k => ?_) ?_
            · show Steps p.tables e below (T2.setTop (mkF m 42 #[.val (.int p0)] [])) t
              refine XS.iloadN X2.here hx rfl (hb hby own_d2_42) rfl ?_
              show Steps p.tables e below (T2.setTop (mkF m 43 #[.val (.int p0)] [(.int p0)])) t
              refine XS.bipush X2.here hx rfl (hb hby own_d2_43) ?_
              show Steps p.tables e below (T2.setTop (mkF m 45 #[.val (.int p0)] [(.int (123 : Int32)), (.int p0)])) t
              refine XS.sipush X2.here hx rfl (hb hby own_d2_45) ?_
              show Steps p.tables e below (T2.setTop (mkF m 48 #[.val (.int p0)] [(.int (191 : Int32)), (.int (123 : Int32)), (.int p0)])) t
              refine st3 _ ?_
              show Steps p.tables e below (T3.setTop (mkF m 51 #[.val (.int p0)] [(.int (own_f3_0 p0 (123 : Int32) (191 : Int32)))])) t
              exact k
            by_cases hc51 : (own_f3_0 p0 (123 : Int32) (191 : Int32)) = (0 : Int32)
            · refine Owe.step (T' := T3) (g' := (mkF m 56 #[.val (.int p0)] [])) (fun t k => ?_) ?_
              · show Steps p.tables e below (T3.setTop (mkF m 51 #[.val (.int p0)] [(.int (own_f3_0 p0 (123 : Int32) (191 : Int32)))])) t
                refine XS.ifYes X3.here hx rfl (pc0 := 51) (pc' := 56) rfl (hb hby own_d2_51) rfl ((if0 _ _).trans (teq hc51).1) (by decide) (by decide) ?_
                show Steps p.tables e below (T3.setTop (mkF m 56 #[.val (.int p0)] [])) t
                exact k
              refine Owe.step (T' := T3) (g' := (mkF m 60 #[.val (.int p0)] [(.int (215 : Int32)), (.int p0)])) (fun t k => ?_) ?_
              · show Steps p.tables e below (T3.setTop (mkF m 56 #[.val (.int p0)] [])) t
                refine XS.iloadN X3.here hx rfl (hb hby own_d2_56) rfl ?_
                show Steps p.tables e below (T3.setTop (mkF m 57 #[.val (.int p0)] [(.int p0)])) t
                refine XS.sipush X3.here hx rfl (hb hby own_d2_57) ?_
                show Steps p.tables e below (T3.setTop (mkF m 60 #[.val (.int p0)] [(.int (215 : Int32)), (.int p0)])) t
                exact k
              by_cases hc60 : p0 = (215 : Int32)
              · refine Owe.step (T' := T3) (g' := (mkF m 90 #[.val (.int p0)] [])) (fun t k => ?_) ?_
                · show Steps p.tables e below (T3.setTop (mkF m 60 #[.val (.int p0)] [(.int (215 : Int32)), (.int p0)])) t
                  refine XS.icmpYes X3.here hx rfl (pc0 := 60) (pc' := 90) rfl (hb hby own_d2_60) rfl (teq hc60).1 (by decide) (by decide) ?_
                  show Steps p.tables e below (T3.setTop (mkF m 90 #[.val (.int p0)] [])) t
                  exact k
                rw [show own_f2_0 p0 = (0 : Int32) from (by rw [own_f2_0, if_neg hc3, if_neg hc9, if_pos hc22, if_pos hc33, if_neg hc39, if_pos hc51, if_pos hc60])]
                refine Owe.ret X3 Bd.notSynchronized (v := (some (.int (0 : Int32)))) (fun h => by rw [Bd.returns] at h; cases h) (fun fs hr => ?_) ⟨rfl, N3, e3⟩ (by decide) (by decide)
                show Steps p.tables e below (T3.setTop (mkF m 90 #[.val (.int p0)] [])) _
                refine XS.iconst X3.here hx rfl (hb hby own_d2_90) ?_
                show Steps p.tables e below (T3.setTop (mkF m 91 #[.val (.int p0)] [(.int (0 : Int32))])) _
                exact retN X3 hx (t := .boolean) Bd.returns (by simp) (hb hby own_d2_91) hr
              · refine Owe.step (T' := T3) (g' := (mkF m 63 #[.val (.int p0)] [])) (fun t k => ?_) ?_
                · show Steps p.tables e below (T3.setTop (mkF m 60 #[.val (.int p0)] [(.int (215 : Int32)), (.int p0)])) t
                  refine XS.icmpNo X3.here hx rfl (hb hby own_d2_60) rfl (feq hc60).1 ?_
                  show Steps p.tables e below (T3.setTop (mkF m 63 #[.val (.int p0)] [])) t
                  exact k
                refine Owe.step (T' := T3) (g' := (mkF m 67 #[.val (.int p0)] [(.int (247 : Int32)), (.int p0)])) (fun t k => ?_) ?_
                · show Steps p.tables e below (T3.setTop (mkF m 63 #[.val (.int p0)] [])) t
                  refine XS.iloadN X3.here hx rfl (hb hby own_d2_63) rfl ?_
                  show Steps p.tables e below (T3.setTop (mkF m 64 #[.val (.int p0)] [(.int p0)])) t
                  refine XS.sipush X3.here hx rfl (hb hby own_d2_64) ?_
                  show Steps p.tables e below (T3.setTop (mkF m 67 #[.val (.int p0)] [(.int (247 : Int32)), (.int p0)])) t
                  exact k
                by_cases hc67 : p0 = (247 : Int32)
                · refine Owe.step (T' := T3) (g' := (mkF m 90 #[.val (.int p0)] [])) (fun t k => ?_) ?_
                  · show Steps p.tables e below (T3.setTop (mkF m 67 #[.val (.int p0)] [(.int (247 : Int32)), (.int p0)])) t
                    refine XS.icmpYes X3.here hx rfl (pc0 := 67) (pc' := 90) rfl (hb hby own_d2_67) rfl (teq hc67).1 (by decide) (by decide) ?_
                    show Steps p.tables e below (T3.setTop (mkF m 90 #[.val (.int p0)] [])) t
                    exact k
                  rw [show own_f2_0 p0 = (0 : Int32) from (by rw [own_f2_0, if_neg hc3, if_neg hc9, if_pos hc22, if_pos hc33, if_neg hc39, if_pos hc51, if_neg hc60, if_pos hc67])]
                  refine Owe.ret X3 Bd.notSynchronized (v := (some (.int (0 : Int32)))) (fun h => by rw [Bd.returns] at h; cases h) (fun fs hr => ?_) ⟨rfl, N3, e3⟩ (by decide) (by decide)
                  show Steps p.tables e below (T3.setTop (mkF m 90 #[.val (.int p0)] [])) _
                  refine XS.iconst X3.here hx rfl (hb hby own_d2_90) ?_
                  show Steps p.tables e below (T3.setTop (mkF m 91 #[.val (.int p0)] [(.int (0 : Int32))])) _
                  exact retN X3 hx (t := .boolean) Bd.returns (by simp) (hb hby own_d2_91) hr
                · refine Owe.step (T' := T3) (g' := (mkF m 70 #[.val (.int p0)] [])) (fun t k => ?_) ?_
                  · show Steps p.tables e below (T3.setTop (mkF m 67 #[.val (.int p0)] [(.int (247 : Int32)), (.int p0)])) t
                    refine XS.icmpNo X3.here hx rfl (hb hby own_d2_67) rfl (feq hc67).1 ?_
                    show Steps p.tables e below (T3.setTop (mkF m 70 #[.val (.int p0)] [])) t
                    exact k
                  obtain ⟨_, _, ⟨T4, L4, k4, n4⟩, -, X4, ⟨Lc4, hQ4, l4, y4, z4⟩, st4⟩ := Jvm.LawKit.callS X3 hx (y := (⟨"com/example/feuillet/feuillet/xml/XmlNamesIsNameStartCharPinLaw", "inGap", "(III)Z"⟩ : MethodName)) hown (mvT hZ (hw _ (List.mem_of_getElem? (i := 18) rfl))) (mvT hZ (hw _ (List.mem_of_getElem? (i := 19) rfl))) (mvT hZ (hw _ (List.mem_of_getElem? (i := 16) rfl))) (mvT hZ (hw _ (List.mem_of_getElem? (i := 20) rfl))) (by decide) (backOf (W := 0) (own_rm3 l Z aA hw [] p0 (768 : Int32) (879 : Int32) h0 n0 Z0 ) hZ (hw _ (List.mem_of_getElem? (i := 20) rfl)) (hw _ (List.mem_of_getElem? (i := 16) rfl)) (by decide) (by decide)) (g := (mkF m 77 #[.val (.int p0)] [(.int (879 : Int32)), (.int (768 : Int32)), (.int p0)])) rfl (by rw [hml]; rfl) (argsL := [(.int p0), (.int (768 : Int32)), (.int (879 : Int32))]) (rest := []) (lenOf own_pd0 rfl) rfl (by show 2 * 0 + _ ≤ _; exact Nat.le_of_eq rfl) (hb hby own_d2_77) (fun _ _ => ⟨rfl, e3, (by decide : 0 + 0 ≤ _), (by decide : 0 + 0 ≤ _)⟩)
                  dsimp only [Pt.U, Pt.locs, Pt.cells, Pt.slots] at X4 l4 y4 z4 st4 hQ4
                  subst y4 z4
                  obtain ⟨rfl, N4q, e4⟩ := hQ4
                  have N4 : Fr n0 L4 := by rw [l4]; exact Fr.app N3 N4q
                  refine Owe.step (T' := T4) (g' := (mkF m 80 #[.val (.int p0)] [(.int (own_f3_0 p0 (768 : Int32) (879 : Int32)))])) (fun t k => ?_) ?_
                  · show Steps p.tables e below (T3.setTop (mkF m 70 #[.val (.int p0)] [])) t
                    refine XS.iloadN X3.here hx rfl (hb hby own_d2_70) rfl ?_
                    show Steps p.tables e below (T3.setTop (mkF m 71 #[.val (.int p0)] [(.int p0)])) t
                    refine XS.sipush X3.here hx rfl (hb hby own_d2_71) ?_
                    show Steps p.tables e below (T3.setTop (mkF m 74 #[.val (.int p0)] [(.int (768 : Int32)), (.int p0)])) t
                    refine XS.sipush X3.here hx rfl (hb hby own_d2_74) ?_
                    show Steps p.tables e below (T3.setTop (mkF m 77 #[.val (.int p0)] [(.int (879 : Int32)), (.int (768 : Int32)), (.int p0)])) t
                    refine st4 _ ?_
                    show Steps p.tables e below (T4.setTop (mkF m 80 #[.val (.int p0)] [(.int (own_f3_0 p0 (768 : Int32) (879 : Int32)))])) t
                    exact k
                  by_cases hc80 : (own_f3_0 p0 (768 : Int32) (879 : Int32)) = (0 : Int32)
                  · refine Owe.step (T' := T4) (g' := (mkF m 83 #[.val (.int p0)] [])) (fun t k => ?_) ?_
                    · show Steps p.tables e below (T4.setTop (mkF m 80 #[.val (.int p0)] [(.int (own_f3_0 p0 (768 : Int32) (879 : Int32)))])) t
                      refine XS.ifNo X4.here hx rfl (hb hby own_d2_80) rfl ((if0 _ _).trans (teq hc80).2) ?_
                      show Steps p.tables e below (T4.setTop (mkF m 83 #[.val (.int p0)] [])) t
                      exact k
                    refine Owe.step (T' := T4) (g' := (mkF m 87 #[.val (.int p0)] [(.int (894 : Int32)), (.int p0)])) (fun t k => ?_) ?_
                    · show Steps p.tables e below (T4.setTop (mkF m 83 #[.val (.int p0)] [])) t
                      refine XS.iloadN X4.here hx rfl (hb hby own_d2_83) rfl ?_
                      show Steps p.tables e below (T4.setTop (mkF m 84 #[.val (.int p0)] [(.int p0)])) t
                      refine XS.sipush X4.here hx rfl (hb hby own_d2_84) ?_
                      show Steps p.tables e below (T4.setTop (mkF m 87 #[.val (.int p0)] [(.int (894 : Int32)), (.int p0)])) t
                      exact k
                    by_cases hc87 : p0 = (894 : Int32)
                    · refine Owe.step (T' := T4) (g' := (mkF m 90 #[.val (.int p0)] [])) (fun t k => ?_) ?_
                      · show Steps p.tables e below (T4.setTop (mkF m 87 #[.val (.int p0)] [(.int (894 : Int32)), (.int p0)])) t
                        refine XS.icmpNo X4.here hx rfl (hb hby own_d2_87) rfl (teq hc87).2 ?_
                        show Steps p.tables e below (T4.setTop (mkF m 90 #[.val (.int p0)] [])) t
                        exact k
                      rw [show own_f2_0 p0 = (0 : Int32) from (by rw [own_f2_0, if_neg hc3, if_neg hc9, if_pos hc22, if_pos hc33, if_neg hc39, if_pos hc51, if_neg hc60, if_neg hc67, if_pos hc80, if_pos hc87])]
                      refine Owe.ret X4 Bd.notSynchronized (v := (some (.int (0 : Int32)))) (fun h => by rw [Bd.returns] at h; cases h) (fun fs hr => ?_) ⟨rfl, N4, e4⟩ (by decide) (by decide)
                      show Steps p.tables e below (T4.setTop (mkF m 90 #[.val (.int p0)] [])) _
                      refine XS.iconst X4.here hx rfl (hb hby own_d2_90) ?_
                      show Steps p.tables e below (T4.setTop (mkF m 91 #[.val (.int p0)] [(.int (0 : Int32))])) _
                      exact retN X4 hx (t := .boolean) Bd.returns (by simp) (hb hby own_d2_91) hr
                    · refine Owe.step (T' := T4) (g' := (mkF m 92 #[.val (.int p0)] [])) (fun t k => ?_) ?_
                      · show Steps p.tables e below (T4.setTop (mkF m 87 #[.val (.int p0)] [(.int (894 : Int32)), (.int p0)])) t
                        refine XS.icmpYes X4.here hx rfl (pc0 := 87) (pc' := 92) rfl (hb hby own_d2_87) rfl (feq hc87).2 (by decide) (by decide) ?_
                        show Steps p.tables e below (T4.setTop (mkF m 92 #[.val (.int p0)] [])) t
                        exact k
                      obtain ⟨_, _, ⟨T5, L5, k5, n5⟩, -, X5, ⟨Lc5, hQ5, l5, y5, z5⟩, st5⟩ := Jvm.LawKit.callS X4 hx (y := (⟨"com/example/feuillet/feuillet/xml/XmlNamesIsNameStartCharPinLaw", "inGap", "(III)Z"⟩ : MethodName)) hown (mvT hZ (hw _ (List.mem_of_getElem? (i := 18) rfl))) (mvT hZ (hw _ (List.mem_of_getElem? (i := 19) rfl))) (mvT hZ (hw _ (List.mem_of_getElem? (i := 16) rfl))) (mvT hZ (hw _ (List.mem_of_getElem? (i := 20) rfl))) (by decide) (backOf (W := 0) (own_rm3 l Z aA hw [] p0 (8192 : Int32) (8203 : Int32) h0 n0 Z0 ) hZ (hw _ (List.mem_of_getElem? (i := 20) rfl)) (hw _ (List.mem_of_getElem? (i := 16) rfl)) (by decide) (by decide)) (g := (mkF m 99 #[.val (.int p0)] [(.int (8203 : Int32)), (.int (8192 : Int32)), (.int p0)])) rfl (by rw [hml]; rfl) (argsL := [(.int p0), (.int (8192 : Int32)), (.int (8203 : Int32))]) (rest := []) (lenOf own_pd0 rfl) rfl (by show 2 * 0 + _ ≤ _; exact Nat.le_of_eq rfl) (hb hby own_d2_99) (fun _ _ => ⟨rfl, e4, (by decide : 0 + 0 ≤ _), (by decide : 0 + 0 ≤ _)⟩)
                      dsimp only [Pt.U, Pt.locs, Pt.cells, Pt.slots] at X5 l5 y5 z5 st5 hQ5
                      subst y5 z5
                      obtain ⟨rfl, N5q, e5⟩ := hQ5
                      have N5 : Fr n0 L5 := by rw [l5]; exact Fr.app N4 N5q
                      refine Owe.step (T' := T5) (g' := (mkF m 102 #[.val (.int p0)] [(.int (own_f3_0 p0 (8192 : Int32) (8203 : Int32)))])) (fun t k => ?_) ?_
                      · show Steps p.tables e below (T4.setTop (mkF m 92 #[.val (.int p0)] [])) t
                        refine XS.iloadN X4.here hx rfl (hb hby own_d2_92) rfl ?_
                        show Steps p.tables e below (T4.setTop (mkF m 93 #[.val (.int p0)] [(.int p0)])) t
                        refine XS.sipush X4.here hx rfl (hb hby own_d2_93) ?_
                        show Steps p.tables e below (T4.setTop (mkF m 96 #[.val (.int p0)] [(.int (8192 : Int32)), (.int p0)])) t
                        refine XS.sipush X4.here hx rfl (hb hby own_d2_96) ?_
                        show Steps p.tables e below (T4.setTop (mkF m 99 #[.val (.int p0)] [(.int (8203 : Int32)), (.int (8192 : Int32)), (.int p0)])) t
                        refine st5 _ ?_
                        show Steps p.tables e below (T5.setTop (mkF m 102 #[.val (.int p0)] [(.int (own_f3_0 p0 (8192 : Int32) (8203 : Int32)))])) t
                        exact k
                      by_cases hc102 : (own_f3_0 p0 (8192 : Int32) (8203 : Int32)) = (0 : Int32)
                      · refine Owe.step (T' := T5) (g' := (mkF m 105 #[.val (.int p0)] [])) (fun t k => ?_) ?_
                        · show Steps p.tables e below (T5.setTop (mkF m 102 #[.val (.int p0)] [(.int (own_f3_0 p0 (8192 : Int32) (8203 : Int32)))])) t
                          refine XS.ifNo X5.here hx rfl (hb hby own_d2_102) rfl ((if0 _ _).trans (teq hc102).2) ?_
                          show Steps p.tables e below (T5.setTop (mkF m 105 #[.val (.int p0)] [])) t
                          exact k
                        obtain ⟨_, _, ⟨T6, L6, k6, n6⟩, -, X6, ⟨Lc6, hQ6, l6, y6, z6⟩, st6⟩ := Jvm.LawKit.callS X5 hx (y := (⟨"com/example/feuillet/feuillet/xml/XmlNamesIsNameStartCharPinLaw", "inGap", "(III)Z"⟩ : MethodName)) hown (mvT hZ (hw _ (List.mem_of_getElem? (i := 18) rfl))) (mvT hZ (hw _ (List.mem_of_getElem? (i := 19) rfl))) (mvT hZ (hw _ (List.mem_of_getElem? (i := 16) rfl))) (mvT hZ (hw _ (List.mem_of_getElem? (i := 20) rfl))) (by decide) (backOf (W := 0) (own_rm3 l Z aA hw [] p0 (8206 : Int32) (8303 : Int32) h0 n0 Z0 ) hZ (hw _ (List.mem_of_getElem? (i := 20) rfl)) (hw _ (List.mem_of_getElem? (i := 16) rfl)) (by decide) (by decide)) (g := (mkF m 112 #[.val (.int p0)] [(.int (8303 : Int32)), (.int (8206 : Int32)), (.int p0)])) rfl (by rw [hml]; rfl) (argsL := [(.int p0), (.int (8206 : Int32)), (.int (8303 : Int32))]) (rest := []) (lenOf own_pd0 rfl) rfl (by show 2 * 0 + _ ≤ _; exact Nat.le_of_eq rfl) (hb hby own_d2_112) (fun _ _ => ⟨rfl, e5, (by decide : 0 + 0 ≤ _), (by decide : 0 + 0 ≤ _)⟩)
                        dsimp only [Pt.U, Pt.locs, Pt.cells, Pt.slots] at X6 l6 y6 z6 st6 hQ6
                        subst y6 z6
                        obtain ⟨rfl, N6q, e6⟩ := hQ6
                        have N6 : Fr n0 L6 := by rw [l6]; exact Fr.app N5 N6q
                        refine Owe.step (T' := T6) (g' := (mkF m 115 #[.val (.int p0)] [(.int (own_f3_0 p0 (8206 : Int32) (8303 : Int32)))])) (fun t k => ?_) ?_
                        · show Steps p.tables e below (T5.setTop (mkF m 105 #[.val (.int p0)] [])) t
                          refine XS.iloadN X5.here hx rfl (hb hby own_d2_105) rfl ?_
                          show Steps p.tables e below (T5.setTop (mkF m 106 #[.val (.int p0)] [(.int p0)])) t
                          refine XS.sipush X5.here hx rfl (hb hby own_d2_106) ?_
                          show Steps p.tables e below (T5.setTop (mkF m 109 #[.val (.int p0)] [(.int (8206 : Int32)), (.int p0)])) t
                          refine XS.sipush X5.here hx rfl (hb hby own_d2_109) ?_
                          show Steps p.tables e below (T5.setTop (mkF m 112 #[.val (.int p0)] [(.int (8303 : Int32)), (.int (8206 : Int32)), (.int p0)])) t
                          refine st6 _ ?_
                          show Steps p.tables e below (T6.setTop (mkF m 115 #[.val (.int p0)] [(.int (own_f3_0 p0 (8206 : Int32) (8303 : Int32)))])) t
                          exact k
                        by_cases hc115 : (own_f3_0 p0 (8206 : Int32) (8303 : Int32)) = (0 : Int32)
                        · refine Owe.step (T' := T6) (g' := (mkF m 118 #[.val (.int p0)] [])) (fun t k => ?_) ?_
                          · show Steps p.tables e below (T6.setTop (mkF m 115 #[.val (.int p0)] [(.int (own_f3_0 p0 (8206 : Int32) (8303 : Int32)))])) t
                            refine XS.ifNo X6.here hx rfl (hb hby own_d2_115) rfl ((if0 _ _).trans (teq hc115).2) ?_
                            show Steps p.tables e below (T6.setTop (mkF m 118 #[.val (.int p0)] [])) t
                            exact k
                          obtain ⟨_, _, ⟨T7, L7, k7, n7⟩, -, X7, ⟨Lc7, hQ7, l7, y7, z7⟩, st7⟩ := Jvm.LawKit.callS X6 hx (y := (⟨"com/example/feuillet/feuillet/xml/XmlNamesIsNameStartCharPinLaw", "inGap", "(III)Z"⟩ : MethodName)) hown (mvT hZ (hw _ (List.mem_of_getElem? (i := 18) rfl))) (mvT hZ (hw _ (List.mem_of_getElem? (i := 19) rfl))) (mvT hZ (hw _ (List.mem_of_getElem? (i := 16) rfl))) (mvT hZ (hw _ (List.mem_of_getElem? (i := 20) rfl))) (by decide) (backOf (W := 0) (own_rm3 l Z aA hw [] p0 (8592 : Int32) (11263 : Int32) h0 n0 Z0 ) hZ (hw _ (List.mem_of_getElem? (i := 20) rfl)) (hw _ (List.mem_of_getElem? (i := 16) rfl)) (by decide) (by decide)) (g := (mkF m 125 #[.val (.int p0)] [(.int (11263 : Int32)), (.int (8592 : Int32)), (.int p0)])) rfl (by rw [hml]; rfl) (argsL := [(.int p0), (.int (8592 : Int32)), (.int (11263 : Int32))]) (rest := []) (lenOf own_pd0 rfl) rfl (by show 2 * 0 + _ ≤ _; exact Nat.le_of_eq rfl) (hb hby own_d2_125) (fun _ _ => ⟨rfl, e6, (by decide : 0 + 0 ≤ _), (by decide : 0 + 0 ≤ _)⟩)
                          dsimp only [Pt.U, Pt.locs, Pt.cells, Pt.slots] at X7 l7 y7 z7 st7 hQ7
                          subst y7 z7
                          obtain ⟨rfl, N7q, e7⟩ := hQ7
                          have N7 : Fr n0 L7 := by rw [l7]; exact Fr.app N6 N7q
                          refine Owe.step (T' := T7) (g' := (mkF m 128 #[.val (.int p0)] [(.int (own_f3_0 p0 (8592 : Int32) (11263 : Int32)))])) (fun t k => ?_) ?_
                          · show Steps p.tables e below (T6.setTop (mkF m 118 #[.val (.int p0)] [])) t
                            refine XS.iloadN X6.here hx rfl (hb hby own_d2_118) rfl ?_
                            show Steps p.tables e below (T6.setTop (mkF m 119 #[.val (.int p0)] [(.int p0)])) t
                            refine XS.sipush X6.here hx rfl (hb hby own_d2_119) ?_
                            show Steps p.tables e below (T6.setTop (mkF m 122 #[.val (.int p0)] [(.int (8592 : Int32)), (.int p0)])) t
                            refine XS.sipush X6.here hx rfl (hb hby own_d2_122) ?_
                            show Steps p.tables e below (T6.setTop (mkF m 125 #[.val (.int p0)] [(.int (11263 : Int32)), (.int (8592 : Int32)), (.int p0)])) t
                            refine st7 _ ?_
                            show Steps p.tables e below (T7.setTop (mkF m 128 #[.val (.int p0)] [(.int (own_f3_0 p0 (8592 : Int32) (11263 : Int32)))])) t
                            exact k
                          by_cases hc128 : (own_f3_0 p0 (8592 : Int32) (11263 : Int32)) = (0 : Int32)
                          · refine Owe.step (T' := T7) (g' := (mkF m 133 #[.val (.int p0)] [])) (fun t k => ?_) ?_
                            · show Steps p.tables e below (T7.setTop (mkF m 128 #[.val (.int p0)] [(.int (own_f3_0 p0 (8592 : Int32) (11263 : Int32)))])) t
                              refine XS.ifYes X7.here hx rfl (pc0 := 128) (pc' := 133) rfl (hb hby own_d2_128) rfl ((if0 _ _).trans (teq hc128).1) (by decide) (by decide) ?_
                              show Steps p.tables e below (T7.setTop (mkF m 133 #[.val (.int p0)] [])) t
                              exact k
                            obtain ⟨_, _, ⟨T8, L8, k8, n8⟩, -, X8, ⟨Lc8, hQ8, l8, y8, z8⟩, st8⟩ := Jvm.LawKit.callS X7 hx (y := (⟨"com/example/feuillet/feuillet/xml/XmlNamesIsNameStartCharPinLaw", "inGap", "(III)Z"⟩ : MethodName)) hown (mvT hZ (hw _ (List.mem_of_getElem? (i := 18) rfl))) (mvT hZ (hw _ (List.mem_of_getElem? (i := 19) rfl))) (mvT hZ (hw _ (List.mem_of_getElem? (i := 16) rfl))) (mvT hZ (hw _ (List.mem_of_getElem? (i := 20) rfl))) (by decide) (backOf (W := 0) (own_rm3 l Z aA hw [] p0 (12272 : Int32) (12288 : Int32) h0 n0 Z0 ) hZ (hw _ (List.mem_of_getElem? (i := 20) rfl)) (hw _ (List.mem_of_getElem? (i := 16) rfl)) (by decide) (by decide)) (g := (mkF m 140 #[.val (.int p0)] [(.int (12288 : Int32)), (.int (12272 : Int32)), (.int p0)])) rfl (by rw [hml]; rfl) (argsL := [(.int p0), (.int (12272 : Int32)), (.int (12288 : Int32))]) (rest := []) (lenOf own_pd0 rfl) rfl (by show 2 * 0 + _ ≤ _; exact Nat.le_of_eq rfl) (hb hby own_d2_140) (fun _ _ => ⟨rfl, e7, (by decide : 0 + 0 ≤ _), (by decide : 0 + 0 ≤ _)⟩)
                            dsimp only [Pt.U, Pt.locs, Pt.cells, Pt.slots] at X8 l8 y8 z8 st8 hQ8
                            subst y8 z8
                            obtain ⟨rfl, N8q, e8⟩ := hQ8
                            have N8 : Fr n0 L8 := by rw [l8]; exact Fr.app N7 N8q
                            refine Owe.step (T' := T8) (g' := (mkF m 143 #[.val (.int p0)] [(.int (own_f3_0 p0 (12272 : Int32) (12288 : Int32)))])) (fun t k => ?_) ?_
                            · show Steps p.tables e below (T7.setTop (mkF m 133 #[.val (.int p0)] [])) t
                              refine XS.iloadN X7.here hx rfl (hb hby own_d2_133) rfl ?_
                              show Steps p.tables e below (T7.setTop (mkF m 134 #[.val (.int p0)] [(.int p0)])) t
                              refine XS.sipush X7.here hx rfl (hb hby own_d2_134) ?_
                              show Steps p.tables e below (T7.setTop (mkF m 137 #[.val (.int p0)] [(.int (12272 : Int32)), (.int p0)])) t
                              refine XS.sipush X7.here hx rfl (hb hby own_d2_137) ?_
                              show Steps p.tables e below (T7.setTop (mkF m 140 #[.val (.int p0)] [(.int (12288 : Int32)), (.int (12272 : Int32)), (.int p0)])) t
                              refine st8 _ ?_
                              show Steps p.tables e below (T8.setTop (mkF m 143 #[.val (.int p0)] [(.int (own_f3_0 p0 (12272 : Int32) (12288 : Int32)))])) t
                              exact k
                            by_cases hc143 : (own_f3_0 p0 (12272 : Int32) (12288 : Int32)) = (0 : Int32)
                            · refine Owe.step (T' := T8) (g' := (mkF m 146 #[.val (.int p0)] [])) (fun t k => ?_) ?_
                              · show Steps p.tables e below (T8.setTop (mkF m 143 #[.val (.int p0)] [(.int (own_f3_0 p0 (12272 : Int32) (12288 : Int32)))])) t
                                refine XS.ifNo X8.here hx rfl (hb hby own_d2_143) rfl ((if0 _ _).trans (teq hc143).2) ?_
                                show Steps p.tables e below (T8.setTop (mkF m 146 #[.val (.int p0)] [])) t
                                exact k
                              obtain ⟨_, _, ⟨T9, L9, k9, n9⟩, -, X9, ⟨Lc9, hQ9, l9, y9, z9⟩, st9⟩ := Jvm.LawKit.callS X8 hx (y := (⟨"com/example/feuillet/feuillet/xml/XmlNamesIsNameStartCharPinLaw", "inGap", "(III)Z"⟩ : MethodName)) hown (mvT hZ (hw _ (List.mem_of_getElem? (i := 18) rfl))) (mvT hZ (hw _ (List.mem_of_getElem? (i := 19) rfl))) (mvT hZ (hw _ (List.mem_of_getElem? (i := 16) rfl))) (mvT hZ (hw _ (List.mem_of_getElem? (i := 20) rfl))) (by decide) (backOf (W := 0) (own_rm3 l Z aA hw [] p0 (55296 : Int32) (63743 : Int32) h0 n0 Z0 ) hZ (hw _ (List.mem_of_getElem? (i := 20) rfl)) (hw _ (List.mem_of_getElem? (i := 16) rfl)) (by decide) (by decide)) (g := (mkF m 151 #[.val (.int p0)] [(.int (63743 : Int32)), (.int (55296 : Int32)), (.int p0)])) rfl (by rw [hml]; rfl) (argsL := [(.int p0), (.int (55296 : Int32)), (.int (63743 : Int32))]) (rest := []) (lenOf own_pd0 rfl) rfl (by show 2 * 0 + _ ≤ _; exact Nat.le_of_eq rfl) (hb hby own_d2_151) (fun _ _ => ⟨rfl, e8, (by decide : 0 + 0 ≤ _), (by decide : 0 + 0 ≤ _)⟩)
                              dsimp only [Pt.U, Pt.locs, Pt.cells, Pt.slots] at X9 l9 y9 z9 st9 hQ9
                              subst y9 z9
                              obtain ⟨rfl, N9q, e9⟩ := hQ9
                              have N9 : Fr n0 L9 := by rw [l9]; exact Fr.app N8 N9q
                              refine Owe.step (T' := T9) (g' := (mkF m 154 #[.val (.int p0)] [(.int (own_f3_0 p0 (55296 : Int32) (63743 : Int32)))])) (fun t k => ?_) ?_
                              · show Steps p.tables e below (T8.setTop (mkF m 146 #[.val (.int p0)] [])) t
                                refine XS.iloadN X8.here hx rfl (hb hby own_d2_146) rfl ?_
                                show Steps p.tables e below (T8.setTop (mkF m 147 #[.val (.int p0)] [(.int p0)])) t
                                refine X8.ldcInt hx hown (mvT hZ (hw _ (List.mem_of_getElem? (i := 21) rfl))) (g := (mkF m 147 #[.val (.int p0)] [(.int p0)])) rfl (hb hby own_d2_147) _ ?_
                                show Steps p.tables e below (T8.setTop (mkF m 149 #[.val (.int p0)] [(.int (55296 : Int32)), (.int p0)])) t
                                refine X8.ldcInt hx hown (mvT hZ (hw _ (List.mem_of_getElem? (i := 22) rfl))) (g := (mkF m 149 #[.val (.int p0)] [(.int (55296 : Int32)), (.int p0)])) rfl (hb hby own_d2_149) _ ?_
                                show Steps p.tables e below (T8.setTop (mkF m 151 #[.val (.int p0)] [(.int (63743 : Int32)), (.int (55296 : Int32)), (.int p0)])) t
                                refine st9 _ ?_
                                show Steps p.tables e below (T9.setTop (mkF m 154 #[.val (.int p0)] [(.int (own_f3_0 p0 (55296 : Int32) (63743 : Int32)))])) t
                                exact k
                              by_cases hc154 : (own_f3_0 p0 (55296 : Int32) (63743 : Int32)) = (0 : Int32)
                              · refine Owe.step (T' := T9) (g' := (mkF m 157 #[.val (.int p0)] [])) (fun t k => ?_) ?_
                                · show Steps p.tables e below (T9.setTop (mkF m 154 #[.val (.int p0)] [(.int (own_f3_0 p0 (55296 : Int32) (63743 : Int32)))])) t
                                  refine XS.ifNo X9.here hx rfl (hb hby own_d2_154) rfl ((if0 _ _).trans (teq hc154).2) ?_
                                  show Steps p.tables e below (T9.setTop (mkF m 157 #[.val (.int p0)] [])) t
                                  exact k
                                obtain ⟨_, _, ⟨T10, L10, k10, n10⟩, -, X10, ⟨Lc10, hQ10, l10, y10, z10⟩, st10⟩ := Jvm.LawKit.callS X9 hx (y := (⟨"com/example/feuillet/feuillet/xml/XmlNamesIsNameStartCharPinLaw", "inGap", "(III)Z"⟩ : MethodName)) hown (mvT hZ (hw _ (List.mem_of_getElem? (i := 18) rfl))) (mvT hZ (hw _ (List.mem_of_getElem? (i := 19) rfl))) (mvT hZ (hw _ (List.mem_of_getElem? (i := 16) rfl))) (mvT hZ (hw _ (List.mem_of_getElem? (i := 20) rfl))) (by decide) (backOf (W := 0) (own_rm3 l Z aA hw [] p0 (64976 : Int32) (65007 : Int32) h0 n0 Z0 ) hZ (hw _ (List.mem_of_getElem? (i := 20) rfl)) (hw _ (List.mem_of_getElem? (i := 16) rfl)) (by decide) (by decide)) (g := (mkF m 162 #[.val (.int p0)] [(.int (65007 : Int32)), (.int (64976 : Int32)), (.int p0)])) rfl (by rw [hml]; rfl) (argsL := [(.int p0), (.int (64976 : Int32)), (.int (65007 : Int32))]) (rest := []) (lenOf own_pd0 rfl) rfl (by show 2 * 0 + _ ≤ _; exact Nat.le_of_eq rfl) (hb hby own_d2_162) (fun _ _ => ⟨rfl, e9, (by decide : 0 + 0 ≤ _), (by decide : 0 + 0 ≤ _)⟩)
                                dsimp only [Pt.U, Pt.locs, Pt.cells, Pt.slots] at X10 l10 y10 z10 st10 hQ10
                                subst y10 z10
                                obtain ⟨rfl, N10q, e10⟩ := hQ10
                                have N10 : Fr n0 L10 := by rw [l10]; exact Fr.app N9 N10q
                                refine Owe.step (T' := T10) (g' := (mkF m 165 #[.val (.int p0)] [(.int (own_f3_0 p0 (64976 : Int32) (65007 : Int32)))])) (fun t k => ?_) ?_
                                · show Steps p.tables e below (T9.setTop (mkF m 157 #[.val (.int p0)] [])) t
                                  refine XS.iloadN X9.here hx rfl (hb hby own_d2_157) rfl ?_
                                  show Steps p.tables e below (T9.setTop (mkF m 158 #[.val (.int p0)] [(.int p0)])) t
                                  refine X9.ldcInt hx hown (mvT hZ (hw _ (List.mem_of_getElem? (i := 23) rfl))) (g := (mkF m 158 #[.val (.int p0)] [(.int p0)])) rfl (hb hby own_d2_158) _ ?_
                                  show Steps p.tables e below (T9.setTop (mkF m 160 #[.val (.int p0)] [(.int (64976 : Int32)), (.int p0)])) t
                                  refine X9.ldcInt hx hown (mvT hZ (hw _ (List.mem_of_getElem? (i := 24) rfl))) (g := (mkF m 160 #[.val (.int p0)] [(.int (64976 : Int32)), (.int p0)])) rfl (hb hby own_d2_160) _ ?_
                                  show Steps p.tables e below (T9.setTop (mkF m 162 #[.val (.int p0)] [(.int (65007 : Int32)), (.int (64976 : Int32)), (.int p0)])) t
                                  refine st10 _ ?_
                                  show Steps p.tables e below (T10.setTop (mkF m 165 #[.val (.int p0)] [(.int (own_f3_0 p0 (64976 : Int32) (65007 : Int32)))])) t
                                  exact k
                                by_cases hc165 : (own_f3_0 p0 (64976 : Int32) (65007 : Int32)) = (0 : Int32)
                                · refine Owe.step (T' := T10) (g' := (mkF m 170 #[.val (.int p0)] [])) (fun t k => ?_) ?_
                                  · show Steps p.tables e below (T10.setTop (mkF m 165 #[.val (.int p0)] [(.int (own_f3_0 p0 (64976 : Int32) (65007 : Int32)))])) t
                                    refine XS.ifYes X10.here hx rfl (pc0 := 165) (pc' := 170) rfl (hb hby own_d2_165) rfl ((if0 _ _).trans (teq hc165).1) (by decide) (by decide) ?_
                                    show Steps p.tables e below (T10.setTop (mkF m 170 #[.val (.int p0)] [])) t
                                    exact k
                                  obtain ⟨_, _, ⟨T11, L11, k11, n11⟩, -, X11, ⟨Lc11, hQ11, l11, y11, z11⟩, st11⟩ := Jvm.LawKit.callS X10 hx (y := (⟨"com/example/feuillet/feuillet/xml/XmlNamesIsNameStartCharPinLaw", "inGap", "(III)Z"⟩ : MethodName)) hown (mvT hZ (hw _ (List.mem_of_getElem? (i := 18) rfl))) (mvT hZ (hw _ (List.mem_of_getElem? (i := 19) rfl))) (mvT hZ (hw _ (List.mem_of_getElem? (i := 16) rfl))) (mvT hZ (hw _ (List.mem_of_getElem? (i := 20) rfl))) (by decide) (backOf (W := 0) (own_rm3 l Z aA hw [] p0 (65534 : Int32) (65535 : Int32) h0 n0 Z0 ) hZ (hw _ (List.mem_of_getElem? (i := 20) rfl)) (hw _ (List.mem_of_getElem? (i := 16) rfl)) (by decide) (by decide)) (g := (mkF m 175 #[.val (.int p0)] [(.int (65535 : Int32)), (.int (65534 : Int32)), (.int p0)])) rfl (by rw [hml]; rfl) (argsL := [(.int p0), (.int (65534 : Int32)), (.int (65535 : Int32))]) (rest := []) (lenOf own_pd0 rfl) rfl (by show 2 * 0 + _ ≤ _; exact Nat.le_of_eq rfl) (hb hby own_d2_175) (fun _ _ => ⟨rfl, e10, (by decide : 0 + 0 ≤ _), (by decide : 0 + 0 ≤ _)⟩)
                                  dsimp only [Pt.U, Pt.locs, Pt.cells, Pt.slots] at X11 l11 y11 z11 st11 hQ11
                                  subst y11 z11
                                  obtain ⟨rfl, N11q, e11⟩ := hQ11
                                  have N11 : Fr n0 L11 := by rw [l11]; exact Fr.app N10 N11q
                                  refine Owe.step (T' := T11) (g' := (mkF m 178 #[.val (.int p0)] [(.int (own_f3_0 p0 (65534 : Int32) (65535 : Int32)))])) (fun t k => ?_) ?_
                                  · show Steps p.tables e below (T10.setTop (mkF m 170 #[.val (.int p0)] [])) t
                                    refine XS.iloadN X10.here hx rfl (hb hby own_d2_170) rfl ?_
                                    show Steps p.tables e below (T10.setTop (mkF m 171 #[.val (.int p0)] [(.int p0)])) t
                                    refine X10.ldcInt hx hown (mvT hZ (hw _ (List.mem_of_getElem? (i := 25) rfl))) (g := (mkF m 171 #[.val (.int p0)] [(.int p0)])) rfl (hb hby own_d2_171) _ ?_
                                    show Steps p.tables e below (T10.setTop (mkF m 173 #[.val (.int p0)] [(.int (65534 : Int32)), (.int p0)])) t
                                    refine X10.ldcInt hx hown (mvT hZ (hw _ (List.mem_of_getElem? (i := 26) rfl))) (g := (mkF m 173 #[.val (.int p0)] [(.int (65534 : Int32)), (.int p0)])) rfl (hb hby own_d2_173) _ ?_
                                    show Steps p.tables e below (T10.setTop (mkF m 175 #[.val (.int p0)] [(.int (65535 : Int32)), (.int (65534 : Int32)), (.int p0)])) t
                                    refine st11 _ ?_
                                    show Steps p.tables e below (T11.setTop (mkF m 178 #[.val (.int p0)] [(.int (own_f3_0 p0 (65534 : Int32) (65535 : Int32)))])) t
                                    exact k
                                  by_cases hc178 : (own_f3_0 p0 (65534 : Int32) (65535 : Int32)) = (0 : Int32)
                                  · refine Owe.step (T' := T11) (g' := (mkF m 183 #[.val (.int p0)] [])) (fun t k => ?_) ?_
                                    · show Steps p.tables e below (T11.setTop (mkF m 178 #[.val (.int p0)] [(.int (own_f3_0 p0 (65534 : Int32) (65535 : Int32)))])) t
                                      refine XS.ifYes X11.here hx rfl (pc0 := 178) (pc' := 183) rfl (hb hby own_d2_178) rfl ((if0 _ _).trans (teq hc178).1) (by decide) (by decide) ?_
                                      show Steps p.tables e below (T11.setTop (mkF m 183 #[.val (.int p0)] [])) t
                                      exact k
                                    rw [show own_f2_0 p0 = (1 : Int32) from (by rw [own_f2_0, if_neg hc3, if_neg hc9, if_pos hc22, if_pos hc33, if_neg hc39, if_pos hc51, if_neg hc60, if_neg hc67, if_pos hc80, if_neg hc87, if_pos hc102, if_pos hc115, if_pos hc128, if_pos hc143, if_pos hc154, if_pos hc165, if_pos hc178])]
                                    refine Owe.ret X11 Bd.notSynchronized (v := (some (.int (1 : Int32)))) (fun h => by rw [Bd.returns] at h; cases h) (fun fs hr => ?_) ⟨rfl, N11, e11⟩ (by decide) (by decide)
                                    show Steps p.tables e below (T11.setTop (mkF m 183 #[.val (.int p0)] [])) _
                                    refine XS.iconst X11.here hx rfl (hb hby own_d2_183) ?_
                                    show Steps p.tables e below (T11.setTop (mkF m 184 #[.val (.int p0)] [(.int (1 : Int32))])) _
                                    exact retN X11 hx (t := .boolean) Bd.returns (by simp) (hb hby own_d2_184) hr
                                  · refine Owe.step (T' := T11) (g' := (mkF m 181 #[.val (.int p0)] [])) (fun t k => ?_) ?_
                                    · show Steps p.tables e below (T11.setTop (mkF m 178 #[.val (.int p0)] [(.int (own_f3_0 p0 (65534 : Int32) (65535 : Int32)))])) t
                                      refine XS.ifNo X11.here hx rfl (hb hby own_d2_178) rfl ((if0 _ _).trans (feq hc178).1) ?_
                                      show Steps p.tables e below (T11.setTop (mkF m 181 #[.val (.int p0)] [])) t
                                      exact k
                                    rw [show own_f2_0 p0 = (0 : Int32) from (by rw [own_f2_0, if_neg hc3, if_neg hc9, if_pos hc22, if_pos hc33, if_neg hc39, if_pos hc51, if_neg hc60, if_neg hc67, if_pos hc80, if_neg hc87, if_pos hc102, if_pos hc115, if_pos hc128, if_pos hc143, if_pos hc154, if_pos hc165, if_neg hc178])]
                                    refine Owe.ret X11 Bd.notSynchronized (v := (some (.int (0 : Int32)))) (fun h => by rw [Bd.returns] at h; cases h) (fun fs hr => ?_) ⟨rfl, N11, e11⟩ (by decide) (by decide)
                                    show Steps p.tables e below (T11.setTop (mkF m 181 #[.val (.int p0)] [])) _
                                    refine XS.iconst X11.here hx rfl (hb hby own_d2_181) ?_
                                    show Steps p.tables e below (T11.setTop (mkF m 182 #[.val (.int p0)] [(.int (0 : Int32))])) _
                                    exact retN X11 hx (t := .boolean) Bd.returns (by simp) (hb hby own_d2_182) hr
                                · refine Owe.step (T' := T10) (g' := (mkF m 168 #[.val (.int p0)] [])) (fun t k => ?_) ?_
                                  · show Steps p.tables e below (T10.setTop (mkF m 165 #[.val (.int p0)] [(.int (own_f3_0 p0 (64976 : Int32) (65007 : Int32)))])) t
                                    refine XS.ifNo X10.here hx rfl (hb hby own_d2_165) rfl ((if0 _ _).trans (feq hc165).1) ?_
                                    show Steps p.tables e below (T10.setTop (mkF m 168 #[.val (.int p0)] [])) t
                                    exact k
                                  rw [show own_f2_0 p0 = (0 : Int32) from (by rw [own_f2_0, if_neg hc3, if_neg hc9, if_pos hc22, if_pos hc33, if_neg hc39, if_pos hc51, if_neg hc60, if_neg hc67, if_pos hc80, if_neg hc87, if_pos hc102, if_pos hc115, if_pos hc128, if_pos hc143, if_pos hc154, if_neg hc165])]
                                  refine Owe.ret X10 Bd.notSynchronized (v := (some (.int (0 : Int32)))) (fun h => by rw [Bd.returns] at h; cases h) (fun fs hr => ?_) ⟨rfl, N10, e10⟩ (by decide) (by decide)
                                  show Steps p.tables e below (T10.setTop (mkF m 168 #[.val (.int p0)] [])) _
                                  refine XS.iconst X10.here hx rfl (hb hby own_d2_168) ?_
                                  show Steps p.tables e below (T10.setTop (mkF m 169 #[.val (.int p0)] [(.int (0 : Int32))])) _
                                  exact retN X10 hx (t := .boolean) Bd.returns (by simp) (hb hby own_d2_169) hr
                              · refine Owe.step (T' := T9) (g' := (mkF m 168 #[.val (.int p0)] [])) (fun t k => ?_) ?_
                                · show Steps p.tables e below (T9.setTop (mkF m 154 #[.val (.int p0)] [(.int (own_f3_0 p0 (55296 : Int32) (63743 : Int32)))])) t
                                  refine XS.ifYes X9.here hx rfl (pc0 := 154) (pc' := 168) rfl (hb hby own_d2_154) rfl ((if0 _ _).trans (feq hc154).2) (by decide) (by decide) ?_
                                  show Steps p.tables e below (T9.setTop (mkF m 168 #[.val (.int p0)] [])) t
                                  exact k
                                rw [show own_f2_0 p0 = (0 : Int32) from (by rw [own_f2_0, if_neg hc3, if_neg hc9, if_pos hc22, if_pos hc33, if_neg hc39, if_pos hc51, if_neg hc60, if_neg hc67, if_pos hc80, if_neg hc87, if_pos hc102, if_pos hc115, if_pos hc128, if_pos hc143, if_neg hc154])]
                                refine Owe.ret X9 Bd.notSynchronized (v := (some (.int (0 : Int32)))) (fun h => by rw [Bd.returns] at h; cases h) (fun fs hr => ?_) ⟨rfl, N9, e9⟩ (by decide) (by decide)
                                show Steps p.tables e below (T9.setTop (mkF m 168 #[.val (.int p0)] [])) _
                                refine XS.iconst X9.here hx rfl (hb hby own_d2_168) ?_
                                show Steps p.tables e below (T9.setTop (mkF m 169 #[.val (.int p0)] [(.int (0 : Int32))])) _
                                exact retN X9 hx (t := .boolean) Bd.returns (by simp) (hb hby own_d2_169) hr
                            · refine Owe.step (T' := T8) (g' := (mkF m 168 #[.val (.int p0)] [])) (fun t k => ?_) ?_
                              · show Steps p.tables e below (T8.setTop (mkF m 143 #[.val (.int p0)] [(.int (own_f3_0 p0 (12272 : Int32) (12288 : Int32)))])) t
                                refine XS.ifYes X8.here hx rfl (pc0 := 143) (pc' := 168) rfl (hb hby own_d2_143) rfl ((if0 _ _).trans (feq hc143).2) (by decide) (by decide) ?_
                                show Steps p.tables e below (T8.setTop (mkF m 168 #[.val (.int p0)] [])) t
                                exact k
                              rw [show own_f2_0 p0 = (0 : Int32) from (by rw [own_f2_0, if_neg hc3, if_neg hc9, if_pos hc22, if_pos hc33, if_neg hc39, if_pos hc51, if_neg hc60, if_neg hc67, if_pos hc80, if_neg hc87, if_pos hc102, if_pos hc115, if_pos hc128, if_neg hc143])]
                              refine Owe.ret X8 Bd.notSynchronized (v := (some (.int (0 : Int32)))) (fun h => by rw [Bd.returns] at h; cases h) (fun fs hr => ?_) ⟨rfl, N8, e8⟩ (by decide) (by decide)
                              show Steps p.tables e below (T8.setTop (mkF m 168 #[.val (.int p0)] [])) _
                              refine XS.iconst X8.here hx rfl (hb hby own_d2_168) ?_
                              show Steps p.tables e below (T8.setTop (mkF m 169 #[.val (.int p0)] [(.int (0 : Int32))])) _
                              exact retN X8 hx (t := .boolean) Bd.returns (by simp) (hb hby own_d2_169) hr
                          · refine Owe.step (T' := T7) (g' := (mkF m 131 #[.val (.int p0)] [])) (fun t k => ?_) ?_
                            · show Steps p.tables e below (T7.setTop (mkF m 128 #[.val (.int p0)] [(.int (own_f3_0 p0 (8592 : Int32) (11263 : Int32)))])) t
                              refine XS.ifNo X7.here hx rfl (hb hby own_d2_128) rfl ((if0 _ _).trans (feq hc128).1) ?_
                              show Steps p.tables e below (T7.setTop (mkF m 131 #[.val (.int p0)] [])) t
                              exact k
                            rw [show own_f2_0 p0 = (0 : Int32) from (by rw [own_f2_0, if_neg hc3, if_neg hc9, if_pos hc22, if_pos hc33, if_neg hc39, if_pos hc51, if_neg hc60, if_neg hc67, if_pos hc80, if_neg hc87, if_pos hc102, if_pos hc115, if_neg hc128])]
                            refine Owe.ret X7 Bd.notSynchronized (v := (some (.int (0 : Int32)))) (fun h => by rw [Bd.returns] at h; cases h) (fun fs hr => ?_) ⟨rfl, N7, e7⟩ (by decide) (by decide)
                            show Steps p.tables e below (T7.setTop (mkF m 131 #[.val (.int p0)] [])) _
                            refine XS.iconst X7.here hx rfl (hb hby own_d2_131) ?_
                            show Steps p.tables e below (T7.setTop (mkF m 132 #[.val (.int p0)] [(.int (0 : Int32))])) _
                            exact retN X7 hx (t := .boolean) Bd.returns (by simp) (hb hby own_d2_132) hr
                        · refine Owe.step (T' := T6) (g' := (mkF m 131 #[.val (.int p0)] [])) (fun t k => ?_) ?_
                          · show Steps p.tables e below (T6.setTop (mkF m 115 #[.val (.int p0)] [(.int (own_f3_0 p0 (8206 : Int32) (8303 : Int32)))])) t
                            refine XS.ifYes X6.here hx rfl (pc0 := 115) (pc' := 131) rfl (hb hby own_d2_115) rfl ((if0 _ _).trans (feq hc115).2) (by decide) (by decide) ?_
                            show Steps p.tables e below (T6.setTop (mkF m 131 #[.val (.int p0)] [])) t
                            exact k
                          rw [show own_f2_0 p0 = (0 : Int32) from (by rw [own_f2_0, if_neg hc3, if_neg hc9, if_pos hc22, if_pos hc33, if_neg hc39, if_pos hc51, if_neg hc60, if_neg hc67, if_pos hc80, if_neg hc87, if_pos hc102, if_neg hc115])]
                          refine Owe.ret X6 Bd.notSynchronized (v := (some (.int (0 : Int32)))) (fun h => by rw [Bd.returns] at h; cases h) (fun fs hr => ?_) ⟨rfl, N6, e6⟩ (by decide) (by decide)
                          show Steps p.tables e below (T6.setTop (mkF m 131 #[.val (.int p0)] [])) _
                          refine XS.iconst X6.here hx rfl (hb hby own_d2_131) ?_
                          show Steps p.tables e below (T6.setTop (mkF m 132 #[.val (.int p0)] [(.int (0 : Int32))])) _
                          exact retN X6 hx (t := .boolean) Bd.returns (by simp) (hb hby own_d2_132) hr
                      · refine Owe.step (T' := T5) (g' := (mkF m 131 #[.val (.int p0)] [])) (fun t k => ?_) ?_
                        · show Steps p.tables e below (T5.setTop (mkF m 102 #[.val (.int p0)] [(.int (own_f3_0 p0 (8192 : Int32) (8203 : Int32)))])) t
                          refine XS.ifYes X5.here hx rfl (pc0 := 102) (pc' := 131) rfl (hb hby own_d2_102) rfl ((if0 _ _).trans (feq hc102).2) (by decide) (by decide) ?_
                          show Steps p.tables e below (T5.setTop (mkF m 131 #[.val (.int p0)] [])) t
                          exact k
                        rw [show own_f2_0 p0 = (0 : Int32) from (by rw [own_f2_0, if_neg hc3, if_neg hc9, if_pos hc22, if_pos hc33, if_neg hc39, if_pos hc51, if_neg hc60, if_neg hc67, if_pos hc80, if_neg hc87, if_neg hc102])]
                        refine Owe.ret X5 Bd.notSynchronized (v := (some (.int (0 : Int32)))) (fun h => by rw [Bd.returns] at h; cases h) (fun fs hr => ?_) ⟨rfl, N5, e5⟩ (by decide) (by decide)
                        show Steps p.tables e below (T5.setTop (mkF m 131 #[.val (.int p0)] [])) _
                        refine XS.iconst X5.here hx rfl (hb hby own_d2_131) ?_
                        show Steps p.tables e below (T5.setTop (mkF m 132 #[.val (.int p0)] [(.int (0 : Int32))])) _
                        exact retN X5 hx (t := .boolean) Bd.returns (by simp) (hb hby own_d2_132) hr
                  · refine Owe.step (T' := T4) (g' := (mkF m 90 #[.val (.int p0)] [])) (fun t k => ?_) ?_
                    · show Steps p.tables e below (T4.setTop (mkF m 80 #[.val (.int p0)] [(.int (own_f3_0 p0 (768 : Int32) (879 : Int32)))])) t
                      refine XS.ifYes X4.here hx rfl (pc0 := 80) (pc' := 90) rfl (hb hby own_d2_80) rfl ((if0 _ _).trans (feq hc80).2) (by decide) (by decide) ?_
                      show Steps p.tables e below (T4.setTop (mkF m 90 #[.val (.int p0)] [])) t
                      exact k
                    rw [show own_f2_0 p0 = (0 : Int32) from (by rw [own_f2_0, if_neg hc3, if_neg hc9, if_pos hc22, if_pos hc33, if_neg hc39, if_pos hc51, if_neg hc60, if_neg hc67, if_neg hc80])]
                    refine Owe.ret X4 Bd.notSynchronized (v := (some (.int (0 : Int32)))) (fun h => by rw [Bd.returns] at h; cases h) (fun fs hr => ?_) ⟨rfl, N4, e4⟩ (by decide) (by decide)
                    show Steps p.tables e below (T4.setTop (mkF m 90 #[.val (.int p0)] [])) _
                    refine XS.iconst X4.here hx rfl (hb hby own_d2_90) ?_
                    show Steps p.tables e below (T4.setTop (mkF m 91 #[.val (.int p0)] [(.int (0 : Int32))])) _
                    exact retN X4 hx (t := .boolean) Bd.returns (by simp) (hb hby own_d2_91) hr
            · refine Owe.step (T' := T3) (g' := (mkF m 54 #[.val (.int p0)] [])) (fun t k => ?_) ?_
              · show Steps p.tables e below (T3.setTop (mkF m 51 #[.val (.int p0)] [(.int (own_f3_0 p0 (123 : Int32) (191 : Int32)))])) t
                refine XS.ifNo X3.here hx rfl (hb hby own_d2_51) rfl ((if0 _ _).trans (feq hc51).1) ?_
                show Steps p.tables e below (T3.setTop (mkF m 54 #[.val (.int p0)] [])) t
                exact k
              rw [show own_f2_0 p0 = (0 : Int32) from (by rw [own_f2_0, if_neg hc3, if_neg hc9, if_pos hc22, if_pos hc33, if_neg hc39, if_neg hc51])]
              refine Owe.ret X3 Bd.notSynchronized (v := (some (.int (0 : Int32)))) (fun h => by rw [Bd.returns] at h; cases h) (fun fs hr => ?_) ⟨rfl, N3, e3⟩ (by decide) (by decide)
              show Steps p.tables e below (T3.setTop (mkF m 54 #[.val (.int p0)] [])) _
              refine XS.iconst X3.here hx rfl (hb hby own_d2_54) ?_
              show Steps p.tables e below (T3.setTop (mkF m 55 #[.val (.int p0)] [(.int (0 : Int32))])) _
              exact retN X3 hx (t := .boolean) Bd.returns (by simp) (hb hby own_d2_55) hr
        · refine Owe.step (T' := T2) (g' := (mkF m 54 #[.val (.int p0)] [])) (fun t k => ?_) ?_
          · show Steps p.tables e below (T2.setTop (mkF m 33 #[.val (.int p0)] [(.int (own_f3_0 p0 (91 : Int32) (94 : Int32)))])) t
            refine XS.ifYes X2.here hx rfl (pc0 := 33) (pc' := 54) rfl (hb hby own_d2_33) rfl ((if0 _ _).trans (feq hc33).2) (by decide) (by decide) ?_
            show Steps p.tables e below (T2.setTop (mkF m 54 #[.val (.int p0)] [])) t
            exact k
          rw [show own_f2_0 p0 = (0 : Int32) from (by rw [own_f2_0, if_neg hc3, if_neg hc9, if_pos hc22, if_neg hc33])]
          refine Owe.ret X2 Bd.notSynchronized (v := (some (.int (0 : Int32)))) (fun h => by rw [Bd.returns] at h; cases h) (fun fs hr => ?_) ⟨rfl, N2, e2⟩ (by decide) (by decide)
          show Steps p.tables e below (T2.setTop (mkF m 54 #[.val (.int p0)] [])) _
          refine XS.iconst X2.here hx rfl (hb hby own_d2_54) ?_
          show Steps p.tables e below (T2.setTop (mkF m 55 #[.val (.int p0)] [(.int (0 : Int32))])) _
          exact retN X2 hx (t := .boolean) Bd.returns (by simp) (hb hby own_d2_55) hr
      · refine Owe.step (T' := T1) (g' := (mkF m 54 #[.val (.int p0)] [])) (fun t k => ?_) ?_
        · show Steps p.tables e below (T1.setTop (mkF m 22 #[.val (.int p0)] [(.int (own_f3_0 p0 (59 : Int32) (64 : Int32)))])) t
          refine XS.ifYes X1.here hx rfl (pc0 := 22) (pc' := 54) rfl (hb hby own_d2_22) rfl ((if0 _ _).trans (feq hc22).2) (by decide) (by decide) ?_
          show Steps p.tables e below (T1.setTop (mkF m 54 #[.val (.int p0)] [])) t
          exact k
        rw [show own_f2_0 p0 = (0 : Int32) from (by rw [own_f2_0, if_neg hc3, if_neg hc9, if_neg hc22])]
        refine Owe.ret X1 Bd.notSynchronized (v := (some (.int (0 : Int32)))) (fun h => by rw [Bd.returns] at h; cases h) (fun fs hr => ?_) ⟨rfl, N1, e1⟩ (by decide) (by decide)
        show Steps p.tables e below (T1.setTop (mkF m 54 #[.val (.int p0)] [])) _
        refine XS.iconst X1.here hx rfl (hb hby own_d2_54) ?_
        show Steps p.tables e below (T1.setTop (mkF m 55 #[.val (.int p0)] [(.int (0 : Int32))])) _
        exact retN X1 hx (t := .boolean) Bd.returns (by simp) (hb hby own_d2_55) hr
theorem own_i34 (x : Int32) : ¬ ((x &&& (2147483647 : Int32)) - ((x &&& (2147483647 : Int32)) / (34 : Int32)) * (34 : Int32)) < 0 ∧ ((x &&& (2147483647 : Int32)) - ((x &&& (2147483647 : Int32)) / (34 : Int32)) * (34 : Int32)).toNatClampNeg < 34 := by
  have h := c_mask x 2147483647 31 (by decide) (by decide)
  rw [own_irem]
  have r := c_irem (x &&& (2147483647 : Int32)) 34 34 (by decide)
  refine own_ix ?_ ?_ <;> omega
theorem own_pd1 : parseMethodDescriptor "(I)Z" = some ⟨[.int], some .boolean⟩ := by decide +kernel
theorem own_ef0 (m : MethodId) (p0 : Int32) (p1 : Int32) (p2 : Int32) : entryFrame m #[(.int p0), (.int p1), (.int p2)] maxLocals = mkF m 0 #[.val (.int p0), .val (.int p1), .val (.int p2), .unset, .unset] [] := by first | (simp [entryFrame, mkF, argsToLocals, Value.category, maxLocals]; done) | rfl
def own_f0_0 (p0 : Int32) (p1 : Int32) (p2 : Int32) (f35 : Nat → Int32) : Int32 := (if (own_f1_0 p0) = (own_f2_0 p0) then (if (own_f1_0 ((f35 (((p1 &&& (2147483647 : Int32)) - ((p1 &&& (2147483647 : Int32)) / (34 : Int32)) * (34 : Int32))).toNatClampNeg) + ((p2 &&& (3 : Int32)) - (1 : Int32)))) = (own_f2_0 ((f35 (((p1 &&& (2147483647 : Int32)) - ((p1 &&& (2147483647 : Int32)) / (34 : Int32)) * (34 : Int32))).toNatClampNeg) + ((p2 &&& (3 : Int32)) - (1 : Int32)))) then (1 : Int32) else (0 : Int32)) else (0 : Int32))
theorem own_rg (x lo hi r : Int32) : (if x < lo then r else (if hi < x then r else (1 : Int32))) = if lo.toInt ≤ x.toInt ∧ x.toInt ≤ hi.toInt then 1 else r := by
  simp only [Int32.lt_iff_toInt_lt]
  repeat' split
  all_goals first | rfl | omega
theorem own_gap (x lo hi : Int32) : own_f3_0 x lo hi = if lo.toInt ≤ x.toInt ∧ x.toInt ≤ hi.toInt then 1 else 0 := own_rg x lo hi 0
theorem own_or1 (a b : Prop) [Decidable a] [Decidable b] (r : Int32) : (if a then (1 : Int32) else if b then (1 : Int32) else r) = if a ∨ b then (1 : Int32) else r := by
  by_cases h : a <;> by_cases g : b <;> simp [h, g]
theorem own_or0 (a b : Prop) [Decidable a] [Decidable b] (r : Int32) : (if a then (0 : Int32) else if b then (0 : Int32) else r) = if a ∨ b then (0 : Int32) else r := by
  by_cases h : a <;> by_cases g : b <;> simp [h, g]
theorem own_same (x : Int32) : own_f1_0 x = own_f2_0 x := by
  have eqi : ∀ c : Int32, (x = c) = (x.toInt = c.toInt) := fun c => propext Int32.toInt_inj.symm
  have hg : ∀ lo hi : Int32, (own_f3_0 x lo hi = 0) = ¬ (lo.toInt ≤ x.toInt ∧ x.toInt ≤ hi.toInt) := fun lo hi => by
    rw [own_gap]
    split
    · rename_i h; exact propext ⟨fun q => absurd q (by decide), fun q => absurd h q⟩
    · rename_i h; exact propext ⟨fun _ => h, fun _ => rfl⟩
  have s198 : own_f1_198 x = if 65536 ≤ x.toInt ∧ x.toInt ≤ 983039 then 1 else 0 := own_rg x 65536 983039 _
  have s186 : own_f1_186 x = if 65008 ≤ x.toInt ∧ x.toInt ≤ 65533 then 1 else own_f1_198 x := own_rg x 65008 65533 _
  have s174 : own_f1_174 x = if 63744 ≤ x.toInt ∧ x.toInt ≤ 64975 then 1 else own_f1_186 x := own_rg x 63744 64975 _
  have s161 : own_f1_161 x = if 12289 ≤ x.toInt ∧ x.toInt ≤ 55295 then 1 else own_f1_174 x := own_rg x 12289 55295 _
  have s147 : own_f1_147 x = if 11264 ≤ x.toInt ∧ x.toInt ≤ 12271 then 1 else own_f1_161 x := own_rg x 11264 12271 _
  have s133 : own_f1_133 x = if 8304 ≤ x.toInt ∧ x.toInt ≤ 8591 then 1 else own_f1_147 x := own_rg x 8304 8591 _
  have s119 : own_f1_119 x = if 8204 ≤ x.toInt ∧ x.toInt ≤ 8205 then 1 else own_f1_133 x := own_rg x 8204 8205 _
  have s105 : own_f1_105 x = if 895 ≤ x.toInt ∧ x.toInt ≤ 8191 then 1 else own_f1_119 x := own_rg x 895 8191 _
  have s91 : own_f1_91 x = if 880 ≤ x.toInt ∧ x.toInt ≤ 893 then 1 else own_f1_105 x := own_rg x 880 893 _
  have s77 : own_f1_77 x = if 248 ≤ x.toInt ∧ x.toInt ≤ 767 then 1 else own_f1_91 x := own_rg x 248 767 _
  have s63 : own_f1_63 x = if 216 ≤ x.toInt ∧ x.toInt ≤ 246 then 1 else own_f1_77 x := own_rg x 216 246 _
  have s19 : own_f1_19 x = if 65 ≤ x.toInt ∧ x.toInt ≤ 90 then 1 else own_f1_31 x := own_rg x 65 90 _
  have s31 : own_f1_31 x = if x.toInt = 95 then 1 else if x.toInt = 58 then 1 else 0 := by
    unfold own_f1_31
    simp only [eqi, Int32.reduceToInt]
  unfold own_f1_0 own_f2_0
  rw [own_rg x 97 122, own_rg x 192 214]
  simp only [s63, s77, s91, s105, s119, s133, s147, s161, s174, s186, s198, s19, s31, hg, eqi, Int32.lt_iff_toInt_lt, Int32.reduceToInt]
  simp only [ite_not, own_or1, own_or0]
  generalize x.toInt = t
  by_cases h : t < 128
  · rw [if_pos h]
    split <;> split <;> first | rfl | omega
  · rw [if_neg h]
    split <;> split <;> first | rfl | omega
theorem own_law (p0 p1 p2 : Int32) (f : Nat → Int32) : own_f0_0 p0 p1 p2 f = 1 := by
  unfold own_f0_0
  rw [if_pos (own_same _), if_pos (own_same _)]
set_option maxRecDepth 65536 in
set_option maxHeartbeats 40000000 in
theorem own_rm0 (l : Launch) (Z : State) (aA : Array Value) (hw : ∀ d ∈ tables_1, d.before aA Z = true) (ws : List Jvm.Cond) (p0 : Int32) (p1 : Int32) (p2 : Int32)  (h0 : Heap) (n0 : Nat) (Z0 : n0 ≤ h0.size) :
    MetFree l x (head1 (Jvm.Cond.code x code maxLocals ret :: ws) room_1) (fun a U => a = #[(.int p0), (.int p1), (.int p2)] ∧ Z.Warmed39 U.vm ∧ U.heap = h0) (fun _ _ _ _ _ => True) (fun _ U o U' => ∃ v L, o = .returned v ∧ (QL (.int ((1 : Int32))) n0) v U'.heap L ∧ FrameEnd U o U' L 16 192) := by
  refine MetFree.of_bodySF (plainFor_of_name own_pn1) hisR ?_
  intro p e s m args below meth c s₁ Bd hml0 hP hK
  obtain ⟨rfl, hZ, hh⟩ := hP
  have hx := Bd.exec
  have hby := Bd.bytes
  have hml : c.maxLocals = 5 := hml0
  have hown : s.vm.findClass "com/example/feuillet/feuillet/xml/XmlNamesIsNameStartCharPinLaw" = some m.cls := findClass_of_methodNamed Bd.named
  have hnm := (name_of_methodNamed Bd.named Bd.method).1
  have X0 : Stand p l e room_1 s m #[(.int p0), (.int p1), (.int p2)] below meth c s₁ [] 0 0 := Stand.of_body Bd
  have e0 : s₁.heap = h0 := by rw [← hh, Bd.state]; rfl
  have N0 := Fr.nil n0
  refine Owe.step (T := s₁) (T' := s₁) (g' := (mkF m 0 #[.val (.int p0), .val (.int p1), .val (.int p2), .unset, .unset] [])) (fun t k => castTop (own_ef0 m p0 p1 p2) k) ?_
  obtain ⟨T1, h1, k1, X1, e1, E1, A1, st1⟩ := newP X0 hx hZ (hw _ (List.mem_of_getElem? (i := 0) rfl)) e0 (g := (mkF m 2 #[.val (.int p0), .val (.int p1), .val (.int p2), .unset, .unset] [(.int (34 : Int32))])) rfl (hb hby at_2) rfl (by decide) (cap := 34) (by decide) (by decide) (by decide) (by decide)
  obtain ⟨b1, g1⟩ : ∃ z, z = h0.size := ⟨_, rfl⟩
  rw [← g1] at A1 st1
  have g_b1 : n0 ≤ b1 := Nat.le_trans Z0 (Nat.le_of_eq g1.symm)
  have Zn1 : n0 ≤ h1.size := Nat.le_trans Z0 E1.1
  have V1 : AI Z h1 b1 .int 34 (fun _ => (0 : Int32)) := AV.new A1 (by decide)
  obtain ⟨T2, h2, X2, e2, W2, V2, st2⟩ := stAI X1 hx hZ e1 V1 (j := (0 : Int32)) (by decide) (by decide) (g := (mkF m 8 #[.val (.int p0), .val (.int p1), .val (.int p2), .unset, .unset] [(.int (-2147483648 : Int32)), (.int (0 : Int32)), (.ref b1), (.ref b1)])) rfl rfl (hb hby at_8)
  have N2 := Fr.snoc X2 N0 g_b1
  have Zn2 : n0 ≤ h2.size := Nat.le_trans Zn1 (Keep.of_wr W2).1
  obtain ⟨f2, ef2⟩ : ∃ z, z = own_upd (fun _ => (0 : Int32)) ((0 : Int32)).toNatClampNeg (-2147483648 : Int32) := ⟨_, rfl⟩
  rw [← ef2] at V2
  obtain ⟨T3, h3, X3, e3, W3, V3, st3⟩ := stAI X2 hx hZ e2 V2 (j := (1 : Int32)) (by decide) (by decide) (g := (mkF m 12 #[.val (.int p0), .val (.int p1), .val (.int p2), .unset, .unset] [(.int (0 : Int32)), (.int (1 : Int32)), (.ref b1), (.ref b1)])) rfl rfl (hb hby at_12)
  have N3 := Fr.snoc X3 N2 g_b1
  have Zn3 : n0 ≤ h3.size := Nat.le_trans Zn2 (Keep.of_wr W3).1
  obtain ⟨f3, ef3⟩ : ∃ z, z = own_upd f2 ((1 : Int32)).toNatClampNeg (0 : Int32) := ⟨_, rfl⟩
  rw [← ef3] at V3
  obtain ⟨T4, h4, X4, e4, W4, V4, st4⟩ := stAI X3 hx hZ e3 V3 (j := (2 : Int32)) (by decide) (by decide) (g := (mkF m 17 #[.val (.int p0), .val (.int p1), .val (.int p2), .unset, .unset] [(.int (58 : Int32)), (.int (2 : Int32)), (.ref b1), (.ref b1)])) rfl rfl (hb hby at_17)
  have N4 := Fr.snoc X4 N3 g_b1
  have Zn4 : n0 ≤ h4.size := Nat.le_trans Zn3 (Keep.of_wr W4).1
  obtain ⟨f4, ef4⟩ : ∃ z, z = own_upd f3 ((2 : Int32)).toNatClampNeg (58 : Int32) := ⟨_, rfl⟩
  rw [← ef4] at V4
  obtain ⟨T5, h5, X5, e5, W5, V5, st5⟩ := stAI X4 hx hZ e4 V4 (j := (3 : Int32)) (by decide) (by decide) (g := (mkF m 22 #[.val (.int p0), .val (.int p1), .val (.int p2), .unset, .unset] [(.int (65 : Int32)), (.int (3 : Int32)), (.ref b1), (.ref b1)])) rfl rfl (hb hby at_22)
  have N5 := Fr.snoc X5 N4 g_b1
  have Zn5 : n0 ≤ h5.size := Nat.le_trans Zn4 (Keep.of_wr W5).1
  obtain ⟨f5, ef5⟩ : ∃ z, z = own_upd f4 ((3 : Int32)).toNatClampNeg (65 : Int32) := ⟨_, rfl⟩
  rw [← ef5] at V5
  obtain ⟨T6, h6, X6, e6, W6, V6, st6⟩ := stAI X5 hx hZ e5 V5 (j := (4 : Int32)) (by decide) (by decide) (g := (mkF m 27 #[.val (.int p0), .val (.int p1), .val (.int p2), .unset, .unset] [(.int (90 : Int32)), (.int (4 : Int32)), (.ref b1), (.ref b1)])) rfl rfl (hb hby at_27)
  have N6 := Fr.snoc X6 N5 g_b1
  have Zn6 : n0 ≤ h6.size := Nat.le_trans Zn5 (Keep.of_wr W6).1
  obtain ⟨f6, ef6⟩ : ∃ z, z = own_upd f5 ((4 : Int32)).toNatClampNeg (90 : Int32) := ⟨_, rfl⟩
  rw [← ef6] at V6
  obtain ⟨T7, h7, X7, e7, W7, V7, st7⟩ := stAI X6 hx hZ e6 V6 (j := (5 : Int32)) (by decide) (by decide) (g := (mkF m 32 #[.val (.int p0), .val (.int p1), .val (.int p2), .unset, .unset] [(.int (95 : Int32)), (.int (5 : Int32)), (.ref b1), (.ref b1)])) rfl rfl (hb hby at_32)
  have N7 := Fr.snoc X7 N6 g_b1
  have Zn7 : n0 ≤ h7.size := Nat.le_trans Zn6 (Keep.of_wr W7).1
  obtain ⟨f7, ef7⟩ : ∃ z, z = own_upd f6 ((5 : Int32)).toNatClampNeg (95 : Int32) := ⟨_, rfl⟩
  rw [← ef7] at V7
  obtain ⟨T8, h8, X8, e8, W8, V8, st8⟩ := stAI X7 hx hZ e7 V7 (j := (6 : Int32)) (by decide) (by decide) (g := (mkF m 38 #[.val (.int p0), .val (.int p1), .val (.int p2), .unset, .unset] [(.int (97 : Int32)), (.int (6 : Int32)), (.ref b1), (.ref b1)])) rfl rfl (hb hby at_38)
  have N8 := Fr.snoc X8 N7 g_b1
  have Zn8 : n0 ≤ h8.size := Nat.le_trans Zn7 (Keep.of_wr W8).1
  obtain ⟨f8, ef8⟩ : ∃ z, z = own_upd f7 ((6 : Int32)).toNatClampNeg (97 : Int32) := ⟨_, rfl⟩
  rw [← ef8] at V8
  obtain ⟨T9, h9, X9, e9, W9, V9, st9⟩ := stAI X8 hx hZ e8 V8 (j := (7 : Int32)) (by decide) (by decide) (g := (mkF m 44 #[.val (.int p0), .val (.int p1), .val (.int p2), .unset, .unset] [(.int (122 : Int32)), (.int (7 : Int32)), (.ref b1), (.ref b1)])) rfl rfl (hb hby at_44)
  have N9 := Fr.snoc X9 N8 g_b1
  have Zn9 : n0 ≤ h9.size := Nat.le_trans Zn8 (Keep.of_wr W9).1
  obtain ⟨f9, ef9⟩ : ∃ z, z = own_upd f8 ((7 : Int32)).toNatClampNeg (122 : Int32) := ⟨_, rfl⟩
  rw [← ef9] at V9
  obtain ⟨T10, h10, X10, e10, W10, V10, st10⟩ := stAI X9 hx hZ e9 V9 (j := (8 : Int32)) (by decide) (by decide) (g := (mkF m 51 #[.val (.int p0), .val (.int p1), .val (.int p2), .unset, .unset] [(.int (128 : Int32)), (.int (8 : Int32)), (.ref b1), (.ref b1)])) rfl rfl (hb hby at_51)
  have N10 := Fr.snoc X10 N9 g_b1
  have Zn10 : n0 ≤ h10.size := Nat.le_trans Zn9 (Keep.of_wr W10).1
  obtain ⟨f10, ef10⟩ : ∃ z, z = own_upd f9 ((8 : Int32)).toNatClampNeg (128 : Int32) := ⟨_, rfl⟩
  rw [← ef10] at V10
  obtain ⟨T11, h11, X11, e11, W11, V11, st11⟩ := stAI X10 hx hZ e10 V10 (j := (9 : Int32)) (by decide) (by decide) (g := (mkF m 58 #[.val (.int p0), .val (.int p1), .val (.int p2), .unset, .unset] [(.int (192 : Int32)), (.int (9 : Int32)), (.ref b1), (.ref b1)])) rfl rfl (hb hby at_58)
  have N11 := Fr.snoc X11 N10 g_b1
  have Zn11 : n0 ≤ h11.size := Nat.le_trans Zn10 (Keep.of_wr W11).1
  obtain ⟨f11, ef11⟩ : ∃ z, z = own_upd f10 ((9 : Int32)).toNatClampNeg (192 : Int32) := ⟨_, rfl⟩
  rw [← ef11] at V11
  obtain ⟨T12, h12, X12, e12, W12, V12, st12⟩ := stAI X11 hx hZ e11 V11 (j := (10 : Int32)) (by decide) (by decide) (g := (mkF m 65 #[.val (.int p0), .val (.int p1), .val (.int p2), .unset, .unset] [(.int (214 : Int32)), (.int (10 : Int32)), (.ref b1), (.ref b1)])) rfl rfl (hb hby at_65)
  have N12 := Fr.snoc X12 N11 g_b1
  have Zn12 : n0 ≤ h12.size := Nat.le_trans Zn11 (Keep.of_wr W12).1
  obtain ⟨f12, ef12⟩ : ∃ z, z = own_upd f11 ((10 : Int32)).toNatClampNeg (214 : Int32) := ⟨_, rfl⟩
  rw [← ef12] at V12
  obtain ⟨T13, h13, X13, e13, W13, V13, st13⟩ := stAI X12 hx hZ e12 V12 (j := (11 : Int32)) (by decide) (by decide) (g := (mkF m 72 #[.val (.int p0), .val (.int p1), .val (.int p2), .unset, .unset] [(.int (216 : Int32)), (.int (11 : Int32)), (.ref b1), (.ref b1)])) rfl rfl (hb hby at_72)
  have N13 := Fr.snoc X13 N12 g_b1
  have Zn13 : n0 ≤ h13.size := Nat.le_trans Zn12 (Keep.of_wr W13).1
  obtain ⟨f13, ef13⟩ : ∃ z, z = own_upd f12 ((11 : Int32)).toNatClampNeg (216 : Int32) := ⟨_, rfl⟩
  rw [← ef13] at V13
  obtain ⟨T14, h14, X14, e14, W14, V14, st14⟩ := stAI X13 hx hZ e13 V13 (j := (12 : Int32)) (by decide) (by decide) (g := (mkF m 79 #[.val (.int p0), .val (.int p1), .val (.int p2), .unset, .unset] [(.int (246 : Int32)), (.int (12 : Int32)), (.ref b1), (.ref b1)])) rfl rfl (hb hby at_79)
  have N14 := Fr.snoc X14 N13 g_b1
  have Zn14 : n0 ≤ h14.size := Nat.le_trans Zn13 (Keep.of_wr W14).1
  obtain ⟨f14, ef14⟩ : ∃ z, z = own_upd f13 ((12 : Int32)).toNatClampNeg (246 : Int32) := ⟨_, rfl⟩
  rw [← ef14] at V14
  obtain ⟨T15, h15, X15, e15, W15, V15, st15⟩ := stAI X14 hx hZ e14 V14 (j := (13 : Int32)) (by decide) (by decide) (g := (mkF m 86 #[.val (.int p0), .val (.int p1), .val (.int p2), .unset, .unset] [(.int (248 : Int32)), (.int (13 : Int32)), (.ref b1), (.ref b1)])) rfl rfl (hb hby at_86)
  have N15 := Fr.snoc X15 N14 g_b1
  have Zn15 : n0 ≤ h15.size := Nat.le_trans Zn14 (Keep.of_wr W15).1
  obtain ⟨f15, ef15⟩ : ∃ z, z = own_upd f14 ((13 : Int32)).toNatClampNeg (248 : Int32) := ⟨_, rfl⟩
  rw [← ef15] at V15
  obtain ⟨T16, h16, X16, e16, W16, V16, st16⟩ := stAI X15 hx hZ e15 V15 (j := (14 : Int32)) (by decide) (by decide) (g := (mkF m 93 #[.val (.int p0), .val (.int p1), .val (.int p2), .unset, .unset] [(.int (767 : Int32)), (.int (14 : Int32)), (.ref b1), (.ref b1)])) rfl rfl (hb hby at_93)
  have N16 := Fr.snoc X16 N15 g_b1
  have Zn16 : n0 ≤ h16.size := Nat.le_trans Zn15 (Keep.of_wr W16).1
  obtain ⟨f16, ef16⟩ : ∃ z, z = own_upd f15 ((14 : Int32)).toNatClampNeg (767 : Int32) := ⟨_, rfl⟩
  rw [← ef16] at V16
  obtain ⟨T17, h17, X17, e17, W17, V17, st17⟩ := stAI X16 hx hZ e16 V16 (j := (15 : Int32)) (by decide) (by decide) (g := (mkF m 100 #[.val (.int p0), .val (.int p1), .val (.int p2), .unset, .unset] [(.int (880 : Int32)), (.int (15 : Int32)), (.ref b1), (.ref b1)])) rfl rfl (hb hby at_100)
  have N17 := Fr.snoc X17 N16 g_b1
  have Zn17 : n0 ≤ h17.size := Nat.le_trans Zn16 (Keep.of_wr W17).1
  obtain ⟨f17, ef17⟩ : ∃ z, z = own_upd f16 ((15 : Int32)).toNatClampNeg (880 : Int32) := ⟨_, rfl⟩
  rw [← ef17] at V17
  obtain ⟨T18, h18, X18, e18, W18, V18, st18⟩ := stAI X17 hx hZ e17 V17 (j := (16 : Int32)) (by decide) (by decide) (g := (mkF m 107 #[.val (.int p0), .val (.int p1), .val (.int p2), .unset, .unset] [(.int (893 : Int32)), (.int (16 : Int32)), (.ref b1), (.ref b1)])) rfl rfl (hb hby at_107)
  have N18 := Fr.snoc X18 N17 g_b1
  have Zn18 : n0 ≤ h18.size := Nat.le_trans Zn17 (Keep.of_wr W18).1
  obtain ⟨f18, ef18⟩ : ∃ z, z = own_upd f17 ((16 : Int32)).toNatClampNeg (893 : Int32) := ⟨_, rfl⟩
  rw [← ef18] at V18
  obtain ⟨T19, h19, X19, e19, W19, V19, st19⟩ := stAI X18 hx hZ e18 V18 (j := (17 : Int32)) (by decide) (by decide) (g := (mkF m 114 #[.val (.int p0), .val (.int p1), .val (.int p2), .unset, .unset] [(.int (895 : Int32)), (.int (17 : Int32)), (.ref b1), (.ref b1)])) rfl rfl (hb hby at_114)
  have N19 := Fr.snoc X19 N18 g_b1
  have Zn19 : n0 ≤ h19.size := Nat.le_trans Zn18 (Keep.of_wr W19).1
  obtain ⟨f19, ef19⟩ : ∃ z, z = own_upd f18 ((17 : Int32)).toNatClampNeg (895 : Int32) := ⟨_, rfl⟩
  rw [← ef19] at V19
  obtain ⟨T20, h20, X20, e20, W20, V20, st20⟩ := stAI X19 hx hZ e19 V19 (j := (18 : Int32)) (by decide) (by decide) (g := (mkF m 121 #[.val (.int p0), .val (.int p1), .val (.int p2), .unset, .unset] [(.int (8191 : Int32)), (.int (18 : Int32)), (.ref b1), (.ref b1)])) rfl rfl (hb hby at_121)
  have N20 := Fr.snoc X20 N19 g_b1
  have Zn20 : n0 ≤ h20.size := Nat.le_trans Zn19 (Keep.of_wr W20).1
  obtain ⟨f20, ef20⟩ : ∃ z, z = own_upd f19 ((18 : Int32)).toNatClampNeg (8191 : Int32) := ⟨_, rfl⟩
  rw [← ef20] at V20
  obtain ⟨T21, h21, X21, e21, W21, V21, st21⟩ := stAI X20 hx hZ e20 V20 (j := (19 : Int32)) (by decide) (by decide) (g := (mkF m 128 #[.val (.int p0), .val (.int p1), .val (.int p2), .unset, .unset] [(.int (8204 : Int32)), (.int (19 : Int32)), (.ref b1), (.ref b1)])) rfl rfl (hb hby at_128)
  have N21 := Fr.snoc X21 N20 g_b1
  have Zn21 : n0 ≤ h21.size := Nat.le_trans Zn20 (Keep.of_wr W21).1
  obtain ⟨f21, ef21⟩ : ∃ z, z = own_upd f20 ((19 : Int32)).toNatClampNeg (8204 : Int32) := ⟨_, rfl⟩
  rw [← ef21] at V21
  obtain ⟨T22, h22, X22, e22, W22, V22, st22⟩ := stAI X21 hx hZ e21 V21 (j := (20 : Int32)) (by decide) (by decide) (g := (mkF m 135 #[.val (.int p0), .val (.int p1), .val (.int p2), .unset, .unset] [(.int (8205 : Int32)), (.int (20 : Int32)), (.ref b1), (.ref b1)])) rfl rfl (hb hby at_135)
  have N22 := Fr.snoc X22 N21 g_b1
  have Zn22 : n0 ≤ h22.size := Nat.le_trans Zn21 (Keep.of_wr W22).1
  obtain ⟨f22, ef22⟩ : ∃ z, z = own_upd f21 ((20 : Int32)).toNatClampNeg (8205 : Int32) := ⟨_, rfl⟩
  rw [← ef22] at V22
  obtain ⟨T23, h23, X23, e23, W23, V23, st23⟩ := stAI X22 hx hZ e22 V22 (j := (21 : Int32)) (by decide) (by decide) (g := (mkF m 142 #[.val (.int p0), .val (.int p1), .val (.int p2), .unset, .unset] [(.int (8304 : Int32)), (.int (21 : Int32)), (.ref b1), (.ref b1)])) rfl rfl (hb hby at_142)
  have N23 := Fr.snoc X23 N22 g_b1
  have Zn23 : n0 ≤ h23.size := Nat.le_trans Zn22 (Keep.of_wr W23).1
  obtain ⟨f23, ef23⟩ : ∃ z, z = own_upd f22 ((21 : Int32)).toNatClampNeg (8304 : Int32) := ⟨_, rfl⟩
  rw [← ef23] at V23
  obtain ⟨T24, h24, X24, e24, W24, V24, st24⟩ := stAI X23 hx hZ e23 V23 (j := (22 : Int32)) (by decide) (by decide) (g := (mkF m 149 #[.val (.int p0), .val (.int p1), .val (.int p2), .unset, .unset] [(.int (8591 : Int32)), (.int (22 : Int32)), (.ref b1), (.ref b1)])) rfl rfl (hb hby at_149)
  have N24 := Fr.snoc X24 N23 g_b1
  have Zn24 : n0 ≤ h24.size := Nat.le_trans Zn23 (Keep.of_wr W24).1
  obtain ⟨f24, ef24⟩ : ∃ z, z = own_upd f23 ((22 : Int32)).toNatClampNeg (8591 : Int32) := ⟨_, rfl⟩
  rw [← ef24] at V24
  obtain ⟨T25, h25, X25, e25, W25, V25, st25⟩ := stAI X24 hx hZ e24 V24 (j := (23 : Int32)) (by decide) (by decide) (g := (mkF m 156 #[.val (.int p0), .val (.int p1), .val (.int p2), .unset, .unset] [(.int (11264 : Int32)), (.int (23 : Int32)), (.ref b1), (.ref b1)])) rfl rfl (hb hby at_156)
  have N25 := Fr.snoc X25 N24 g_b1
  have Zn25 : n0 ≤ h25.size := Nat.le_trans Zn24 (Keep.of_wr W25).1
  obtain ⟨f25, ef25⟩ : ∃ z, z = own_upd f24 ((23 : Int32)).toNatClampNeg (11264 : Int32) := ⟨_, rfl⟩
  rw [← ef25] at V25
  obtain ⟨T26, h26, X26, e26, W26, V26, st26⟩ := stAI X25 hx hZ e25 V25 (j := (24 : Int32)) (by decide) (by decide) (g := (mkF m 163 #[.val (.int p0), .val (.int p1), .val (.int p2), .unset, .unset] [(.int (12271 : Int32)), (.int (24 : Int32)), (.ref b1), (.ref b1)])) rfl rfl (hb hby at_163)
  have N26 := Fr.snoc X26 N25 g_b1
  have Zn26 : n0 ≤ h26.size := Nat.le_trans Zn25 (Keep.of_wr W26).1
  obtain ⟨f26, ef26⟩ : ∃ z, z = own_upd f25 ((24 : Int32)).toNatClampNeg (12271 : Int32) := ⟨_, rfl⟩
  rw [← ef26] at V26
  obtain ⟨T27, h27, X27, e27, W27, V27, st27⟩ := stAI X26 hx hZ e26 V26 (j := (25 : Int32)) (by decide) (by decide) (g := (mkF m 170 #[.val (.int p0), .val (.int p1), .val (.int p2), .unset, .unset] [(.int (12289 : Int32)), (.int (25 : Int32)), (.ref b1), (.ref b1)])) rfl rfl (hb hby at_170)
  have N27 := Fr.snoc X27 N26 g_b1
  have Zn27 : n0 ≤ h27.size := Nat.le_trans Zn26 (Keep.of_wr W27).1
  obtain ⟨f27, ef27⟩ : ∃ z, z = own_upd f26 ((25 : Int32)).toNatClampNeg (12289 : Int32) := ⟨_, rfl⟩
  rw [← ef27] at V27
  obtain ⟨T28, h28, X28, e28, W28, V28, st28⟩ := stAI X27 hx hZ e27 V27 (j := (26 : Int32)) (by decide) (by decide) (g := (mkF m 176 #[.val (.int p0), .val (.int p1), .val (.int p2), .unset, .unset] [(.int (55295 : Int32)), (.int (26 : Int32)), (.ref b1), (.ref b1)])) rfl rfl (hb hby at_176)
  have N28 := Fr.snoc X28 N27 g_b1
  have Zn28 : n0 ≤ h28.size := Nat.le_trans Zn27 (Keep.of_wr W28).1
  obtain ⟨f28, ef28⟩ : ∃ z, z = own_upd f27 ((26 : Int32)).toNatClampNeg (55295 : Int32) := ⟨_, rfl⟩
  rw [← ef28] at V28
  obtain ⟨T29, h29, X29, e29, W29, V29, st29⟩ := stAI X28 hx hZ e28 V28 (j := (27 : Int32)) (by decide) (by decide) (g := (mkF m 182 #[.val (.int p0), .val (.int p1), .val (.int p2), .unset, .unset] [(.int (63744 : Int32)), (.int (27 : Int32)), (.ref b1), (.ref b1)])) rfl rfl (hb hby at_182)
  have N29 := Fr.snoc X29 N28 g_b1
  have Zn29 : n0 ≤ h29.size := Nat.le_trans Zn28 (Keep.of_wr W29).1
  obtain ⟨f29, ef29⟩ : ∃ z, z = own_upd f28 ((27 : Int32)).toNatClampNeg (63744 : Int32) := ⟨_, rfl⟩
  rw [← ef29] at V29
  obtain ⟨T30, h30, X30, e30, W30, V30, st30⟩ := stAI X29 hx hZ e29 V29 (j := (28 : Int32)) (by decide) (by decide) (g := (mkF m 188 #[.val (.int p0), .val (.int p1), .val (.int p2), .unset, .unset] [(.int (64975 : Int32)), (.int (28 : Int32)), (.ref b1), (.ref b1)])) rfl rfl (hb hby at_188)
  have N30 := Fr.snoc X30 N29 g_b1
  have Zn30 : n0 ≤ h30.size := Nat.le_trans Zn29 (Keep.of_wr W30).1
  obtain ⟨f30, ef30⟩ : ∃ z, z = own_upd f29 ((28 : Int32)).toNatClampNeg (64975 : Int32) := ⟨_, rfl⟩
  rw [← ef30] at V30
  obtain ⟨T31, h31, X31, e31, W31, V31, st31⟩ := stAI X30 hx hZ e30 V30 (j := (29 : Int32)) (by decide) (by decide) (g := (mkF m 194 #[.val (.int p0), .val (.int p1), .val (.int p2), .unset, .unset] [(.int (65008 : Int32)), (.int (29 : Int32)), (.ref b1), (.ref b1)])) rfl rfl (hb hby at_194)
  have N31 := Fr.snoc X31 N30 g_b1
  have Zn31 : n0 ≤ h31.size := Nat.le_trans Zn30 (Keep.of_wr W31).1
  obtain ⟨f31, ef31⟩ : ∃ z, z = own_upd f30 ((29 : Int32)).toNatClampNeg (65008 : Int32) := ⟨_, rfl⟩
  rw [← ef31] at V31
  obtain ⟨T32, h32, X32, e32, W32, V32, st32⟩ := stAI X31 hx hZ e31 V31 (j := (30 : Int32)) (by decide) (by decide) (g := (mkF m 200 #[.val (.int p0), .val (.int p1), .val (.int p2), .unset, .unset] [(.int (65533 : Int32)), (.int (30 : Int32)), (.ref b1), (.ref b1)])) rfl rfl (hb hby at_200)
  have N32 := Fr.snoc X32 N31 g_b1
  have Zn32 : n0 ≤ h32.size := Nat.le_trans Zn31 (Keep.of_wr W32).1
  obtain ⟨f32, ef32⟩ : ∃ z, z = own_upd f31 ((30 : Int32)).toNatClampNeg (65533 : Int32) := ⟨_, rfl⟩
  rw [← ef32] at V32
  obtain ⟨T33, h33, X33, e33, W33, V33, st33⟩ := stAI X32 hx hZ e32 V32 (j := (31 : Int32)) (by decide) (by decide) (g := (mkF m 206 #[.val (.int p0), .val (.int p1), .val (.int p2), .unset, .unset] [(.int (65536 : Int32)), (.int (31 : Int32)), (.ref b1), (.ref b1)])) rfl rfl (hb hby at_206)
  have N33 := Fr.snoc X33 N32 g_b1
  have Zn33 : n0 ≤ h33.size := Nat.le_trans Zn32 (Keep.of_wr W33).1
  obtain ⟨f33, ef33⟩ : ∃ z, z = own_upd f32 ((31 : Int32)).toNatClampNeg (65536 : Int32) := ⟨_, rfl⟩
  rw [← ef33] at V33
  obtain ⟨T34, h34, X34, e34, W34, V34, st34⟩ := stAI X33 hx hZ e33 V33 (j := (32 : Int32)) (by decide) (by decide) (g := (mkF m 212 #[.val (.int p0), .val (.int p1), .val (.int p2), .unset, .unset] [(.int (983039 : Int32)), (.int (32 : Int32)), (.ref b1), (.ref b1)])) rfl rfl (hb hby at_212)
  have N34 := Fr.snoc X34 N33 g_b1
  have Zn34 : n0 ≤ h34.size := Nat.le_trans Zn33 (Keep.of_wr W34).1
  obtain ⟨f34, ef34⟩ : ∃ z, z = own_upd f33 ((32 : Int32)).toNatClampNeg (983039 : Int32) := ⟨_, rfl⟩
  rw [← ef34] at V34
  obtain ⟨T35, h35, X35, e35, W35, V35, st35⟩ := stAI X34 hx hZ e34 V34 (j := (33 : Int32)) (by decide) (by decide) (g := (mkF m 218 #[.val (.int p0), .val (.int p1), .val (.int p2), .unset, .unset] [(.int (2147483647 : Int32)), (.int (33 : Int32)), (.ref b1), (.ref b1)])) rfl rfl (hb hby at_218)
  have N35 := Fr.snoc X35 N34 g_b1
  have Zn35 : n0 ≤ h35.size := Nat.le_trans Zn34 (Keep.of_wr W35).1
  obtain ⟨f35, ef35⟩ : ∃ z, z = own_upd f34 ((33 : Int32)).toNatClampNeg (2147483647 : Int32) := ⟨_, rfl⟩
  rw [← ef35] at V35
  obtain ⟨_, _, ⟨T36, L36, k36, n36⟩, -, X36, ⟨Lc36, hQ36, l36, y36, z36⟩, st36⟩ := Jvm.LawKit.callS X35 hx (y := (⟨"com/example/feuillet/feuillet/xml/XmlNames", "isNameStartChar", "(I)Z"⟩ : MethodName)) hown (mvT hZ (hw _ (List.mem_of_getElem? (i := 10) rfl))) (mvT hZ (hw _ (List.mem_of_getElem? (i := 11) rfl))) (mvT hZ (hw _ (List.mem_of_getElem? (i := 12) rfl))) (mvT hZ (hw _ (List.mem_of_getElem? (i := 13) rfl))) (by decide) (backOf (W := 0) (own_rm1 l Z aA hw [] p0 h35 n0 Zn35 ) hZ (hw _ (List.mem_of_getElem? (i := 13) rfl)) (hw _ (List.mem_of_getElem? (i := 12) rfl)) (by decide) (by decide)) (g := (mkF m 238 #[.val (.int p0), .val (.int p1), .val (.int p2), .val (.ref b1), .val (.int ((f35 (((p1 &&& (2147483647 : Int32)) - ((p1 &&& (2147483647 : Int32)) / (34 : Int32)) * (34 : Int32))).toNatClampNeg) + ((p2 &&& (3 : Int32)) - (1 : Int32))))] [(.int p0)])) rfl (by rw [hml]; rfl) (argsL := [(.int p0)]) (rest := []) (lenOf own_pd1 rfl) rfl (by show 2 * 0 + _ ≤ _; exact Nat.le_of_eq rfl) (hb hby at_238) (fun _ _ => ⟨rfl, e35, (by decide : 1 + 0 ≤ _), (by decide : 34 + 0 ≤ _)⟩)
  dsimp only [Pt.U, Pt.locs, Pt.cells, Pt.slots] at X36 l36 y36 z36 st36 hQ36
  subst y36 z36
  obtain ⟨rfl, N36q, e36⟩ := hQ36
  have N36 : Fr n0 L36 := by rw [l36]; exact Fr.app N35 N36q
  obtain ⟨_, _, ⟨T37, L37, k37, n37⟩, -, X37, ⟨Lc37, hQ37, l37, y37, z37⟩, st37⟩ := Jvm.LawKit.callS X36 hx (y := (⟨"com/example/feuillet/feuillet/xml/XmlNamesIsNameStartCharPinLaw", "ref", "(I)Z"⟩ : MethodName)) hown (mvT hZ (hw _ (List.mem_of_getElem? (i := 14) rfl))) (mvT hZ (hw _ (List.mem_of_getElem? (i := 15) rfl))) (mvT hZ (hw _ (List.mem_of_getElem? (i := 16) rfl))) (mvT hZ (hw _ (List.mem_of_getElem? (i := 17) rfl))) (by decide) (backOf (W := 1) (own_rm2 l Z aA hw [] p0 h35 n0 Zn35 ) hZ (hw _ (List.mem_of_getElem? (i := 17) rfl)) (hw _ (List.mem_of_getElem? (i := 16) rfl)) (by decide) (by decide)) (g := (mkF m 242 #[.val (.int p0), .val (.int p1), .val (.int p2), .val (.ref b1), .val (.int ((f35 (((p1 &&& (2147483647 : Int32)) - ((p1 &&& (2147483647 : Int32)) / (34 : Int32)) * (34 : Int32))).toNatClampNeg) + ((p2 &&& (3 : Int32)) - (1 : Int32))))] [(.int p0), (.int (own_f1_0 p0))])) rfl (by rw [hml]; rfl) (argsL := [(.int p0)]) (rest := [(.int (own_f1_0 p0))]) (lenOf own_pd1 rfl) rfl (by show 2 * 0 + _ ≤ _; exact Nat.le_of_eq rfl) (hb hby at_242) (fun _ _ => ⟨rfl, e36, (by decide : 1 + 0 ≤ _), (by decide : 34 + 0 ≤ _)⟩)
  dsimp only [Pt.U, Pt.locs, Pt.cells, Pt.slots] at X37 l37 y37 z37 st37 hQ37
  subst y37 z37
  obtain ⟨rfl, N37q, e37⟩ := hQ37
  have N37 : Fr n0 L37 := by rw [l37]; exact Fr.app N36 N37q
  refine Owe.step (T' := T37) (g' := (mkF m 245 #[.val (.int p0), .val (.int p1), .val (.int p2), .val (.ref b1), .val (.int ((f35 (((p1 &&& (2147483647 : Int32)) - ((p1 &&& (2147483647 : Int32)) / (34 : Int32)) * (34 : Int32))).toNatClampNeg) + ((p2 &&& (3 : Int32)) - (1 : Int32))))] [(.int (own_f2_0 p0)), (.int (own_f1_0 p0))])) (fun t k => ?_) ?_
  · show Steps p.tables e below (s₁.setTop (mkF m 0 #[.val (.int p0), .val (.int p1), .val (.int p2), .unset, .unset] [])) t
    refine XS.bipush X0.here hx rfl (hb hby at_0) ?_
    show Steps p.tables e below (s₁.setTop (mkF m 2 #[.val (.int p0), .val (.int p1), .val (.int p2), .unset, .unset] [(.int (34 : Int32))])) t
    refine st1 _ ?_
    show Steps p.tables e below (T1.setTop (mkF m 4 #[.val (.int p0), .val (.int p1), .val (.int p2), .unset, .unset] [(.ref b1)])) t
    refine XS.dup X1.here hx rfl (hb hby at_4) rfl rfl ?_
    show Steps p.tables e below (T1.setTop (mkF m 5 #[.val (.int p0), .val (.int p1), .val (.int p2), .unset, .unset] [(.ref b1), (.ref b1)])) t
    refine XS.iconst X1.here hx rfl (hb hby at_5) ?_
    show Steps p.tables e below (T1.setTop (mkF m 6 #[.val (.int p0), .val (.int p1), .val (.int p2), .unset, .unset] [(.int (0 : Int32)), (.ref b1), (.ref b1)])) t
    refine X1.ldcInt hx hown (mvT hZ (hw _ (List.mem_of_getElem? (i := 1) rfl))) (g := (mkF m 6 #[.val (.int p0), .val (.int p1), .val (.int p2), .unset, .unset] [(.int (0 : Int32)), (.ref b1), (.ref b1)])) rfl (hb hby at_6) _ ?_
    show Steps p.tables e below (T1.setTop (mkF m 8 #[.val (.int p0), .val (.int p1), .val (.int p2), .unset, .unset] [(.int (-2147483648 : Int32)), (.int (0 : Int32)), (.ref b1), (.ref b1)])) t
    refine st2 _ ?_
    show Steps p.tables e below (T2.setTop (mkF m 9 #[.val (.int p0), .val (.int p1), .val (.int p2), .unset, .unset] [(.ref b1)])) t
    refine XS.dup X2.here hx rfl (hb hby at_9) rfl rfl ?_
    show Steps p.tables e below (T2.setTop (mkF m 10 #[.val (.int p0), .val (.int p1), .val (.int p2), .unset, .unset] [(.ref b1), (.ref b1)])) t
    refine XS.iconst X2.here hx rfl (hb hby at_10) ?_
    show Steps p.tables e below (T2.setTop (mkF m 11 #[.val (.int p0), .val (.int p1), .val (.int p2), .unset, .unset] [(.int (1 : Int32)), (.ref b1), (.ref b1)])) t
    refine XS.iconst X2.here hx rfl (hb hby at_11) ?_
    show Steps p.tables e below (T2.setTop (mkF m 12 #[.val (.int p0), .val (.int p1), .val (.int p2), .unset, .unset] [(.int (0 : Int32)), (.int (1 : Int32)), (.ref b1), (.ref b1)])) t
    refine st3 _ ?_
    show Steps p.tables e below (T3.setTop (mkF m 13 #[.val (.int p0), .val (.int p1), .val (.int p2), .unset, .unset] [(.ref b1)])) t
    refine XS.dup X3.here hx rfl (hb hby at_13) rfl rfl ?_
    show Steps p.tables e below (T3.setTop (mkF m 14 #[.val (.int p0), .val (.int p1), .val (.int p2), .unset, .unset] [(.ref b1), (.ref b1)])) t
    refine XS.iconst X3.here hx rfl (hb hby at_14) ?_
    show Steps p.tables e below (T3.setTop (mkF m 15 #[.val (.int p0), .val (.int p1), .val (.int p2), .unset, .unset] [(.int (2 : Int32)), (.ref b1), (.ref b1)])) t
    refine XS.bipush X3.here hx rfl (hb hby at_15) ?_
    show Steps p.tables e below (T3.setTop (mkF m 17 #[.val (.int p0), .val (.int p1), .val (.int p2), .unset, .unset] [(.int (58 : Int32)), (.int (2 : Int32)), (.ref b1), (.ref b1)])) t
    refine st4 _ ?_
    show Steps p.tables e below (T4.setTop (mkF m 18 #[.val (.int p0), .val (.int p1), .val (.int p2), .unset, .unset] [(.ref b1)])) t
    refine XS.dup X4.here hx rfl (hb hby at_18) rfl rfl ?_
    show Steps p.tables e below (T4.setTop (mkF m 19 #[.val (.int p0), .val (.int p1), .val (.int p2), .unset, .unset] [(.ref b1), (.ref b1)])) t
    refine XS.iconst X4.here hx rfl (hb hby at_19) ?_
    show Steps p.tables e below (T4.setTop (mkF m 20 #[.val (.int p0), .val (.int p1), .val (.int p2), .unset, .unset] [(.int (3 : Int32)), (.ref b1), (.ref b1)])) t
    refine XS.bipush X4.here hx rfl (hb hby at_20) ?_
    show Steps p.tables e below (T4.setTop (mkF m 22 #[.val (.int p0), .val (.int p1), .val (.int p2), .unset, .unset] [(.int (65 : Int32)), (.int (3 : Int32)), (.ref b1), (.ref b1)])) t
    refine st5 _ ?_
    show Steps p.tables e below (T5.setTop (mkF m 23 #[.val (.int p0), .val (.int p1), .val (.int p2), .unset, .unset] [(.ref b1)])) t
    refine XS.dup X5.here hx rfl (hb hby at_23) rfl rfl ?_
    show Steps p.tables e below (T5.setTop (mkF m 24 #[.val (.int p0), .val (.int p1), .val (.int p2), .unset, .unset] [(.ref b1), (.ref b1)])) t
    refine XS.iconst X5.here hx rfl (hb hby at_24) ?_
    show Steps p.tables e below (T5.setTop (mkF m 25 #[.val (.int p0), .val (.int p1), .val (.int p2), .unset, .unset] [(.int (4 : Int32)), (.ref b1), (.ref b1)])) t
    refine XS.bipush X5.here hx rfl (hb hby at_25) ?_
    show Steps p.tables e below (T5.setTop (mkF m 27 #[.val (.int p0), .val (.int p1), .val (.int p2), .unset, .unset] [(.int (90 : Int32)), (.int (4 : Int32)), (.ref b1), (.ref b1)])) t
    refine st6 _ ?_
    show Steps p.tables e below (T6.setTop (mkF m 28 #[.val (.int p0), .val (.int p1), .val (.int p2), .unset, .unset] [(.ref b1)])) t
    refine XS.dup X6.here hx rfl (hb hby at_28) rfl rfl ?_
    show Steps p.tables e below (T6.setTop (mkF m 29 #[.val (.int p0), .val (.int p1), .val (.int p2), .unset, .unset] [(.ref b1), (.ref b1)])) t
    refine XS.iconst X6.here hx rfl (hb hby at_29) ?_
    show Steps p.tables e below (T6.setTop (mkF m 30 #[.val (.int p0), .val (.int p1), .val (.int p2), .unset, .unset] [(.int (5 : Int32)), (.ref b1), (.ref b1)])) t
    refine XS.bipush X6.here hx rfl (hb hby at_30) ?_
    show Steps p.tables e below (T6.setTop (mkF m 32 #[.val (.int p0), .val (.int p1), .val (.int p2), .unset, .unset] [(.int (95 : Int32)), (.int (5 : Int32)), (.ref b1), (.ref b1)])) t
    refine st7 _ ?_
    show Steps p.tables e below (T7.setTop (mkF m 33 #[.val (.int p0), .val (.int p1), .val (.int p2), .unset, .unset] [(.ref b1)])) t
    refine XS.dup X7.here hx rfl (hb hby at_33) rfl rfl ?_
    show Steps p.tables e below (T7.setTop (mkF m 34 #[.val (.int p0), .val (.int p1), .val (.int p2), .unset, .unset] [(.ref b1), (.ref b1)])) t
    refine XS.bipush X7.here hx rfl (hb hby at_34) ?_
    show Steps p.tables e below (T7.setTop (mkF m 36 #[.val (.int p0), .val (.int p1), .val (.int p2), .unset, .unset] [(.int (6 : Int32)), (.ref b1), (.ref b1)])) t
    refine XS.bipush X7.here hx rfl (hb hby at_36) ?_
    show Steps p.tables e below (T7.setTop (mkF m 38 #[.val (.int p0), .val (.int p1), .val (.int p2), .unset, .unset] [(.int (97 : Int32)), (.int (6 : Int32)), (.ref b1), (.ref b1)])) t
    refine st8 _ ?_
    show Steps p.tables e below (T8.setTop (mkF m 39 #[.val (.int p0), .val (.int p1), .val (.int p2), .unset, .unset] [(.ref b1)])) t
    refine XS.dup X8.here hx rfl (hb hby at_39) rfl rfl ?_
    show Steps p.tables e below (T8.setTop (mkF m 40 #[.val (.int p0), .val (.int p1), .val (.int p2), .unset, .unset] [(.ref b1), (.ref b1)])) t
    refine XS.bipush X8.here hx rfl (hb hby at_40) ?_
    show Steps p.tables e below (T8.setTop (mkF m 42 #[.val (.int p0), .val (.int p1), .val (.int p2), .unset, .unset] [(.int (7 : Int32)), (.ref b1), (.ref b1)])) t
    refine XS.bipush X8.here hx rfl (hb hby at_42) ?_
    show Steps p.tables e below (T8.setTop (mkF m 44 #[.val (.int p0), .val (.int p1), .val (.int p2), .unset, .unset] [(.int (122 : Int32)), (.int (7 : Int32)), (.ref b1), (.ref b1)])) t
    refine st9 _ ?_
    show Steps p.tables e below (T9.setTop (mkF m 45 #[.val (.int p0), .val (.int p1), .val (.int p2), .unset, .unset] [(.ref b1)])) t
    refine XS.dup X9.here hx rfl (hb hby at_45) rfl rfl ?_
    show Steps p.tables e below (T9.setTop (mkF m 46 #[.val (.int p0), .val (.int p1), .val (.int p2), .unset, .unset] [(.ref b1), (.ref b1)])) t
    refine XS.bipush X9.here hx rfl (hb hby at_46) ?_
    show Steps p.tables e below (T9.setTop (mkF m 48 #[.val (.int p0), .val (.int p1), .val (.int p2), .unset, .unset] [(.int (8 : Int32)), (.ref b1), (.ref b1)])) t
    refine XS.sipush X9.here hx rfl (hb hby at_48) ?_
    show Steps p.tables e below (T9.setTop (mkF m 51 #[.val (.int p0), .val (.int p1), .val (.int p2), .unset, .unset] [(.int (128 : Int32)), (.int (8 : Int32)), (.ref b1), (.ref b1)])) t
    refine st10 _ ?_
    show Steps p.tables e below (T10.setTop (mkF m 52 #[.val (.int p0), .val (.int p1), .val (.int p2), .unset, .unset] [(.ref b1)])) t
    refine XS.dup X10.here hx rfl (hb hby at_52) rfl rfl ?_
    show Steps p.tables e below (T10.setTop (mkF m 53 #[.val (.int p0), .val (.int p1), .val (.int p2), .unset, .unset] [(.ref b1), (.ref b1)])) t
    refine XS.bipush X10.here hx rfl (hb hby at_53) ?_
    show Steps p.tables e below (T10.setTop (mkF m 55 #[.val (.int p0), .val (.int p1), .val (.int p2), .unset, .unset] [(.int (9 : Int32)), (.ref b1), (.ref b1)])) t
    refine XS.sipush X10.here hx rfl (hb hby at_55) ?_
    show Steps p.tables e below (T10.setTop (mkF m 58 #[.val (.int p0), .val (.int p1), .val (.int p2), .unset, .unset] [(.int (192 : Int32)), (.int (9 : Int32)), (.ref b1), (.ref b1)])) t
    refine st11 _ ?_
    show Steps p.tables e below (T11.setTop (mkF m 59 #[.val (.int p0), .val (.int p1), .val (.int p2), .unset, .unset] [(.ref b1)])) t
    refine XS.dup X11.here hx rfl (hb hby at_59) rfl rfl ?_
    show Steps p.tables e below (T11.setTop (mkF m 60 #[.val (.int p0), .val (.int p1), .val (.int p2), .unset, .unset] [(.ref b1), (.ref b1)])) t
    refine XS.bipush X11.here hx rfl (hb hby at_60) ?_
    show Steps p.tables e below (T11.setTop (mkF m 62 #[.val (.int p0), .val (.int p1), .val (.int p2), .unset, .unset] [(.int (10 : Int32)), (.ref b1), (.ref b1)])) t
    refine XS.sipush X11.here hx rfl (hb hby at_62) ?_
    show Steps p.tables e below (T11.setTop (mkF m 65 #[.val (.int p0), .val (.int p1), .val (.int p2), .unset, .unset] [(.int (214 : Int32)), (.int (10 : Int32)), (.ref b1), (.ref b1)])) t
    refine st12 _ ?_
    show Steps p.tables e below (T12.setTop (mkF m 66 #[.val (.int p0), .val (.int p1), .val (.int p2), .unset, .unset] [(.ref b1)])) t
    refine XS.dup X12.here hx rfl (hb hby at_66) rfl rfl ?_
    show Steps p.tables e below (T12.setTop (mkF m 67 #[.val (.int p0), .val (.int p1), .val (.int p2), .unset, .unset] [(.ref b1), (.ref b1)])) t
    refine XS.bipush X12.here hx rfl (hb hby at_67) ?_
    show Steps p.tables e below (T12.setTop (mkF m 69 #[.val (.int p0), .val (.int p1), .val (.int p2), .unset, .unset] [(.int (11 : Int32)), (.ref b1), (.ref b1)])) t
    refine XS.sipush X12.here hx rfl (hb hby at_69) ?_
    show Steps p.tables e below (T12.setTop (mkF m 72 #[.val (.int p0), .val (.int p1), .val (.int p2), .unset, .unset] [(.int (216 : Int32)), (.int (11 : Int32)), (.ref b1), (.ref b1)])) t
    refine st13 _ ?_
    show Steps p.tables e below (T13.setTop (mkF m 73 #[.val (.int p0), .val (.int p1), .val (.int p2), .unset, .unset] [(.ref b1)])) t
    refine XS.dup X13.here hx rfl (hb hby at_73) rfl rfl ?_
    show Steps p.tables e below (T13.setTop (mkF m 74 #[.val (.int p0), .val (.int p1), .val (.int p2), .unset, .unset] [(.ref b1), (.ref b1)])) t
    refine XS.bipush X13.here hx rfl (hb hby at_74) ?_
    show Steps p.tables e below (T13.setTop (mkF m 76 #[.val (.int p0), .val (.int p1), .val (.int p2), .unset, .unset] [(.int (12 : Int32)), (.ref b1), (.ref b1)])) t
    refine XS.sipush X13.here hx rfl (hb hby at_76) ?_
    show Steps p.tables e below (T13.setTop (mkF m 79 #[.val (.int p0), .val (.int p1), .val (.int p2), .unset, .unset] [(.int (246 : Int32)), (.int (12 : Int32)), (.ref b1), (.ref b1)])) t
    refine st14 _ ?_
    show Steps p.tables e below (T14.setTop (mkF m 80 #[.val (.int p0), .val (.int p1), .val (.int p2), .unset, .unset] [(.ref b1)])) t
    refine XS.dup X14.here hx rfl (hb hby at_80) rfl rfl ?_
    show Steps p.tables e below (T14.setTop (mkF m 81 #[.val (.int p0), .val (.int p1), .val (.int p2), .unset, .unset] [(.ref b1), (.ref b1)])) t
    refine XS.bipush X14.here hx rfl (hb hby at_81) ?_
    show Steps p.tables e below (T14.setTop (mkF m 83 #[.val (.int p0), .val (.int p1), .val (.int p2), .unset, .unset] [(.int (13 : Int32)), (.ref b1), (.ref b1)])) t
    refine XS.sipush X14.here hx rfl (hb hby at_83) ?_
    show Steps p.tables e below (T14.setTop (mkF m 86 #[.val (.int p0), .val (.int p1), .val (.int p2), .unset, .unset] [(.int (248 : Int32)), (.int (13 : Int32)), (.ref b1), (.ref b1)])) t
    refine st15 _ ?_
    show Steps p.tables e below (T15.setTop (mkF m 87 #[.val (.int p0), .val (.int p1), .val (.int p2), .unset, .unset] [(.ref b1)])) t
    refine XS.dup X15.here hx rfl (hb hby at_87) rfl rfl ?_
    show Steps p.tables e below (T15.setTop (mkF m 88 #[.val (.int p0), .val (.int p1), .val (.int p2), .unset, .unset] [(.ref b1), (.ref b1)])) t
    refine XS.bipush X15.here hx rfl (hb hby at_88) ?_
    show Steps p.tables e below (T15.setTop (mkF m 90 #[.val (.int p0), .val (.int p1), .val (.int p2), .unset, .unset] [(.int (14 : Int32)), (.ref b1), (.ref b1)])) t
    refine XS.sipush X15.here hx rfl (hb hby at_90) ?_
    show Steps p.tables e below (T15.setTop (mkF m 93 #[.val (.int p0), .val (.int p1), .val (.int p2), .unset, .unset] [(.int (767 : Int32)), (.int (14 : Int32)), (.ref b1), (.ref b1)])) t
    refine st16 _ ?_
    show Steps p.tables e below (T16.setTop (mkF m 94 #[.val (.int p0), .val (.int p1), .val (.int p2), .unset, .unset] [(.ref b1)])) t
    refine XS.dup X16.here hx rfl (hb hby at_94) rfl rfl ?_
    show Steps p.tables e below (T16.setTop (mkF m 95 #[.val (.int p0), .val (.int p1), .val (.int p2), .unset, .unset] [(.ref b1), (.ref b1)])) t
    refine XS.bipush X16.here hx rfl (hb hby at_95) ?_
    show Steps p.tables e below (T16.setTop (mkF m 97 #[.val (.int p0), .val (.int p1), .val (.int p2), .unset, .unset] [(.int (15 : Int32)), (.ref b1), (.ref b1)])) t
    refine XS.sipush X16.here hx rfl (hb hby at_97) ?_
    show Steps p.tables e below (T16.setTop (mkF m 100 #[.val (.int p0), .val (.int p1), .val (.int p2), .unset, .unset] [(.int (880 : Int32)), (.int (15 : Int32)), (.ref b1), (.ref b1)])) t
    refine st17 _ ?_
    show Steps p.tables e below (T17.setTop (mkF m 101 #[.val (.int p0), .val (.int p1), .val (.int p2), .unset, .unset] [(.ref b1)])) t
    refine XS.dup X17.here hx rfl (hb hby at_101) rfl rfl ?_
    show Steps p.tables e below (T17.setTop (mkF m 102 #[.val (.int p0), .val (.int p1), .val (.int p2), .unset, .unset] [(.ref b1), (.ref b1)])) t
    refine XS.bipush X17.here hx rfl (hb hby at_102) ?_
    show Steps p.tables e below (T17.setTop (mkF m 104 #[.val (.int p0), .val (.int p1), .val (.int p2), .unset, .unset] [(.int (16 : Int32)), (.ref b1), (.ref b1)])) t
    refine XS.sipush X17.here hx rfl (hb hby at_104) ?_
    show Steps p.tables e below (T17.setTop (mkF m 107 #[.val (.int p0), .val (.int p1), .val (.int p2), .unset, .unset] [(.int (893 : Int32)), (.int (16 : Int32)), (.ref b1), (.ref b1)])) t
    refine st18 _ ?_
    show Steps p.tables e below (T18.setTop (mkF m 108 #[.val (.int p0), .val (.int p1), .val (.int p2), .unset, .unset] [(.ref b1)])) t
    refine XS.dup X18.here hx rfl (hb hby at_108) rfl rfl ?_
    show Steps p.tables e below (T18.setTop (mkF m 109 #[.val (.int p0), .val (.int p1), .val (.int p2), .unset, .unset] [(.ref b1), (.ref b1)])) t
    refine XS.bipush X18.here hx rfl (hb hby at_109) ?_
    show Steps p.tables e below (T18.setTop (mkF m 111 #[.val (.int p0), .val (.int p1), .val (.int p2), .unset, .unset] [(.int (17 : Int32)), (.ref b1), (.ref b1)])) t
    refine XS.sipush X18.here hx rfl (hb hby at_111) ?_
    show Steps p.tables e below (T18.setTop (mkF m 114 #[.val (.int p0), .val (.int p1), .val (.int p2), .unset, .unset] [(.int (895 : Int32)), (.int (17 : Int32)), (.ref b1), (.ref b1)])) t
    refine st19 _ ?_
    show Steps p.tables e below (T19.setTop (mkF m 115 #[.val (.int p0), .val (.int p1), .val (.int p2), .unset, .unset] [(.ref b1)])) t
    refine XS.dup X19.here hx rfl (hb hby at_115) rfl rfl ?_
    show Steps p.tables e below (T19.setTop (mkF m 116 #[.val (.int p0), .val (.int p1), .val (.int p2), .unset, .unset] [(.ref b1), (.ref b1)])) t
    refine XS.bipush X19.here hx rfl (hb hby at_116) ?_
    show Steps p.tables e below (T19.setTop (mkF m 118 #[.val (.int p0), .val (.int p1), .val (.int p2), .unset, .unset] [(.int (18 : Int32)), (.ref b1), (.ref b1)])) t
    refine XS.sipush X19.here hx rfl (hb hby at_118) ?_
    show Steps p.tables e below (T19.setTop (mkF m 121 #[.val (.int p0), .val (.int p1), .val (.int p2), .unset, .unset] [(.int (8191 : Int32)), (.int (18 : Int32)), (.ref b1), (.ref b1)])) t
    refine st20 _ ?_
    show Steps p.tables e below (T20.setTop (mkF m 122 #[.val (.int p0), .val (.int p1), .val (.int p2), .unset, .unset] [(.ref b1)])) t
    refine XS.dup X20.here hx rfl (hb hby at_122) rfl rfl ?_
    show Steps p.tables e below (T20.setTop (mkF m 123 #[.val (.int p0), .val (.int p1), .val (.int p2), .unset, .unset] [(.ref b1), (.ref b1)])) t
    refine XS.bipush X20.here hx rfl (hb hby at_123) ?_
    show Steps p.tables e below (T20.setTop (mkF m 125 #[.val (.int p0), .val (.int p1), .val (.int p2), .unset, .unset] [(.int (19 : Int32)), (.ref b1), (.ref b1)])) t
    refine XS.sipush X20.here hx rfl (hb hby at_125) ?_
    show Steps p.tables e below (T20.setTop (mkF m 128 #[.val (.int p0), .val (.int p1), .val (.int p2), .unset, .unset] [(.int (8204 : Int32)), (.int (19 : Int32)), (.ref b1), (.ref b1)])) t
    refine st21 _ ?_
    show Steps p.tables e below (T21.setTop (mkF m 129 #[.val (.int p0), .val (.int p1), .val (.int p2), .unset, .unset] [(.ref b1)])) t
    refine XS.dup X21.here hx rfl (hb hby at_129) rfl rfl ?_
    show Steps p.tables e below (T21.setTop (mkF m 130 #[.val (.int p0), .val (.int p1), .val (.int p2), .unset, .unset] [(.ref b1), (.ref b1)])) t
    refine XS.bipush X21.here hx rfl (hb hby at_130) ?_
    show Steps p.tables e below (T21.setTop (mkF m 132 #[.val (.int p0), .val (.int p1), .val (.int p2), .unset, .unset] [(.int (20 : Int32)), (.ref b1), (.ref b1)])) t
    refine XS.sipush X21.here hx rfl (hb hby at_132) ?_
    show Steps p.tables e below (T21.setTop (mkF m 135 #[.val (.int p0), .val (.int p1), .val (.int p2), .unset, .unset] [(.int (8205 : Int32)), (.int (20 : Int32)), (.ref b1), (.ref b1)])) t
    refine st22 _ ?_
    show Steps p.tables e below (T22.setTop (mkF m 136 #[.val (.int p0), .val (.int p1), .val (.int p2), .unset, .unset] [(.ref b1)])) t
    refine XS.dup X22.here hx rfl (hb hby at_136) rfl rfl ?_
    show Steps p.tables e below (T22.setTop (mkF m 137 #[.val (.int p0), .val (.int p1), .val (.int p2), .unset, .unset] [(.ref b1), (.ref b1)])) t
    refine XS.bipush X22.here hx rfl (hb hby at_137) ?_
    show Steps p.tables e below (T22.setTop (mkF m 139 #[.val (.int p0), .val (.int p1), .val (.int p2), .unset, .unset] [(.int (21 : Int32)), (.ref b1), (.ref b1)])) t
    refine XS.sipush X22.here hx rfl (hb hby at_139) ?_
    show Steps p.tables e below (T22.setTop (mkF m 142 #[.val (.int p0), .val (.int p1), .val (.int p2), .unset, .unset] [(.int (8304 : Int32)), (.int (21 : Int32)), (.ref b1), (.ref b1)])) t
    refine st23 _ ?_
    show Steps p.tables e below (T23.setTop (mkF m 143 #[.val (.int p0), .val (.int p1), .val (.int p2), .unset, .unset] [(.ref b1)])) t
    refine XS.dup X23.here hx rfl (hb hby at_143) rfl rfl ?_
    show Steps p.tables e below (T23.setTop (mkF m 144 #[.val (.int p0), .val (.int p1), .val (.int p2), .unset, .unset] [(.ref b1), (.ref b1)])) t
    refine XS.bipush X23.here hx rfl (hb hby at_144) ?_
    show Steps p.tables e below (T23.setTop (mkF m 146 #[.val (.int p0), .val (.int p1), .val (.int p2), .unset, .unset] [(.int (22 : Int32)), (.ref b1), (.ref b1)])) t
    refine XS.sipush X23.here hx rfl (hb hby at_146) ?_
    show Steps p.tables e below (T23.setTop (mkF m 149 #[.val (.int p0), .val (.int p1), .val (.int p2), .unset, .unset] [(.int (8591 : Int32)), (.int (22 : Int32)), (.ref b1), (.ref b1)])) t
    refine st24 _ ?_
    show Steps p.tables e below (T24.setTop (mkF m 150 #[.val (.int p0), .val (.int p1), .val (.int p2), .unset, .unset] [(.ref b1)])) t
    refine XS.dup X24.here hx rfl (hb hby at_150) rfl rfl ?_
    show Steps p.tables e below (T24.setTop (mkF m 151 #[.val (.int p0), .val (.int p1), .val (.int p2), .unset, .unset] [(.ref b1), (.ref b1)])) t
    refine XS.bipush X24.here hx rfl (hb hby at_151) ?_
    show Steps p.tables e below (T24.setTop (mkF m 153 #[.val (.int p0), .val (.int p1), .val (.int p2), .unset, .unset] [(.int (23 : Int32)), (.ref b1), (.ref b1)])) t
    refine XS.sipush X24.here hx rfl (hb hby at_153) ?_
    show Steps p.tables e below (T24.setTop (mkF m 156 #[.val (.int p0), .val (.int p1), .val (.int p2), .unset, .unset] [(.int (11264 : Int32)), (.int (23 : Int32)), (.ref b1), (.ref b1)])) t
    refine st25 _ ?_
    show Steps p.tables e below (T25.setTop (mkF m 157 #[.val (.int p0), .val (.int p1), .val (.int p2), .unset, .unset] [(.ref b1)])) t
    refine XS.dup X25.here hx rfl (hb hby at_157) rfl rfl ?_
    show Steps p.tables e below (T25.setTop (mkF m 158 #[.val (.int p0), .val (.int p1), .val (.int p2), .unset, .unset] [(.ref b1), (.ref b1)])) t
    refine XS.bipush X25.here hx rfl (hb hby at_158) ?_
    show Steps p.tables e below (T25.setTop (mkF m 160 #[.val (.int p0), .val (.int p1), .val (.int p2), .unset, .unset] [(.int (24 : Int32)), (.ref b1), (.ref b1)])) t
    refine XS.sipush X25.here hx rfl (hb hby at_160) ?_
    show Steps p.tables e below (T25.setTop (mkF m 163 #[.val (.int p0), .val (.int p1), .val (.int p2), .unset, .unset] [(.int (12271 : Int32)), (.int (24 : Int32)), (.ref b1), (.ref b1)])) t
    refine st26 _ ?_
    show Steps p.tables e below (T26.setTop (mkF m 164 #[.val (.int p0), .val (.int p1), .val (.int p2), .unset, .unset] [(.ref b1)])) t
    refine XS.dup X26.here hx rfl (hb hby at_164) rfl rfl ?_
    show Steps p.tables e below (T26.setTop (mkF m 165 #[.val (.int p0), .val (.int p1), .val (.int p2), .unset, .unset] [(.ref b1), (.ref b1)])) t
    refine XS.bipush X26.here hx rfl (hb hby at_165) ?_
    show Steps p.tables e below (T26.setTop (mkF m 167 #[.val (.int p0), .val (.int p1), .val (.int p2), .unset, .unset] [(.int (25 : Int32)), (.ref b1), (.ref b1)])) t
    refine XS.sipush X26.here hx rfl (hb hby at_167) ?_
    show Steps p.tables e below (T26.setTop (mkF m 170 #[.val (.int p0), .val (.int p1), .val (.int p2), .unset, .unset] [(.int (12289 : Int32)), (.int (25 : Int32)), (.ref b1), (.ref b1)])) t
    refine st27 _ ?_
    show Steps p.tables e below (T27.setTop (mkF m 171 #[.val (.int p0), .val (.int p1), .val (.int p2), .unset, .unset] [(.ref b1)])) t
    refine XS.dup X27.here hx rfl (hb hby at_171) rfl rfl ?_
    show Steps p.tables e below (T27.setTop (mkF m 172 #[.val (.int p0), .val (.int p1), .val (.int p2), .unset, .unset] [(.ref b1), (.ref b1)])) t
    refine XS.bipush X27.here hx rfl (hb hby at_172) ?_
    show Steps p.tables e below (T27.setTop (mkF m 174 #[.val (.int p0), .val (.int p1), .val (.int p2), .unset, .unset] [(.int (26 : Int32)), (.ref b1), (.ref b1)])) t
    refine X27.ldcInt hx hown (mvT hZ (hw _ (List.mem_of_getElem? (i := 2) rfl))) (g := (mkF m 174 #[.val (.int p0), .val (.int p1), .val (.int p2), .unset, .unset] [(.int (26 : Int32)), (.ref b1), (.ref b1)])) rfl (hb hby at_174) _ ?_
    show Steps p.tables e below (T27.setTop (mkF m 176 #[.val (.int p0), .val (.int p1), .val (.int p2), .unset, .unset] [(.int (55295 : Int32)), (.int (26 : Int32)), (.ref b1), (.ref b1)])) t
    refine st28 _ ?_
    show Steps p.tables e below (T28.setTop (mkF m 177 #[.val (.int p0), .val (.int p1), .val (.int p2), .unset, .unset] [(.ref b1)])) t
    refine XS.dup X28.here hx rfl (hb hby at_177) rfl rfl ?_
    show Steps p.tables e below (T28.setTop (mkF m 178 #[.val (.int p0), .val (.int p1), .val (.int p2), .unset, .unset] [(.ref b1), (.ref b1)])) t
    refine XS.bipush X28.here hx rfl (hb hby at_178) ?_
    show Steps p.tables e below (T28.setTop (mkF m 180 #[.val (.int p0), .val (.int p1), .val (.int p2), .unset, .unset] [(.int (27 : Int32)), (.ref b1), (.ref b1)])) t
    refine X28.ldcInt hx hown (mvT hZ (hw _ (List.mem_of_getElem? (i := 3) rfl))) (g := (mkF m 180 #[.val (.int p0), .val (.int p1), .val (.int p2), .unset, .unset] [(.int (27 : Int32)), (.ref b1), (.ref b1)])) rfl (hb hby at_180) _ ?_
    show Steps p.tables e below (T28.setTop (mkF m 182 #[.val (.int p0), .val (.int p1), .val (.int p2), .unset, .unset] [(.int (63744 : Int32)), (.int (27 : Int32)), (.ref b1), (.ref b1)])) t
    refine st29 _ ?_
    show Steps p.tables e below (T29.setTop (mkF m 183 #[.val (.int p0), .val (.int p1), .val (.int p2), .unset, .unset] [(.ref b1)])) t
    refine XS.dup X29.here hx rfl (hb hby at_183) rfl rfl ?_
    show Steps p.tables e below (T29.setTop (mkF m 184 #[.val (.int p0), .val (.int p1), .val (.int p2), .unset, .unset] [(.ref b1), (.ref b1)])) t
    refine XS.bipush X29.here hx rfl (hb hby at_184) ?_
    show Steps p.tables e below (T29.setTop (mkF m 186 #[.val (.int p0), .val (.int p1), .val (.int p2), .unset, .unset] [(.int (28 : Int32)), (.ref b1), (.ref b1)])) t
    refine X29.ldcInt hx hown (mvT hZ (hw _ (List.mem_of_getElem? (i := 4) rfl))) (g := (mkF m 186 #[.val (.int p0), .val (.int p1), .val (.int p2), .unset, .unset] [(.int (28 : Int32)), (.ref b1), (.ref b1)])) rfl (hb hby at_186) _ ?_
    show Steps p.tables e below (T29.setTop (mkF m 188 #[.val (.int p0), .val (.int p1), .val (.int p2), .unset, .unset] [(.int (64975 : Int32)), (.int (28 : Int32)), (.ref b1), (.ref b1)])) t
    refine st30 _ ?_
    show Steps p.tables e below (T30.setTop (mkF m 189 #[.val (.int p0), .val (.int p1), .val (.int p2), .unset, .unset] [(.ref b1)])) t
    refine XS.dup X30.here hx rfl (hb hby at_189) rfl rfl ?_
    show Steps p.tables e below (T30.setTop (mkF m 190 #[.val (.int p0), .val (.int p1), .val (.int p2), .unset, .unset] [(.ref b1), (.ref b1)])) t
    refine XS.bipush X30.here hx rfl (hb hby at_190) ?_
    show Steps p.tables e below (T30.setTop (mkF m 192 #[.val (.int p0), .val (.int p1), .val (.int p2), .unset, .unset] [(.int (29 : Int32)), (.ref b1), (.ref b1)])) t
    refine X30.ldcInt hx hown (mvT hZ (hw _ (List.mem_of_getElem? (i := 5) rfl))) (g := (mkF m 192 #[.val (.int p0), .val (.int p1), .val (.int p2), .unset, .unset] [(.int (29 : Int32)), (.ref b1), (.ref b1)])) rfl (hb hby at_192) _ ?_
    show Steps p.tables e below (T30.setTop (mkF m 194 #[.val (.int p0), .val (.int p1), .val (.int p2), .unset, .unset] [(.int (65008 : Int32)), (.int (29 : Int32)), (.ref b1), (.ref b1)])) t
    refine st31 _ ?_
    show Steps p.tables e below (T31.setTop (mkF m 195 #[.val (.int p0), .val (.int p1), .val (.int p2), .unset, .unset] [(.ref b1)])) t
    refine XS.dup X31.here hx rfl (hb hby at_195) rfl rfl ?_
    show Steps p.tables e below (T31.setTop (mkF m 196 #[.val (.int p0), .val (.int p1), .val (.int p2), .unset, .unset] [(.ref b1), (.ref b1)])) t
    refine XS.bipush X31.here hx rfl (hb hby at_196) ?_
    show Steps p.tables e below (T31.setTop (mkF m 198 #[.val (.int p0), .val (.int p1), .val (.int p2), .unset, .unset] [(.int (30 : Int32)), (.ref b1), (.ref b1)])) t
    refine X31.ldcInt hx hown (mvT hZ (hw _ (List.mem_of_getElem? (i := 6) rfl))) (g := (mkF m 198 #[.val (.int p0), .val (.int p1), .val (.int p2), .unset, .unset] [(.int (30 : Int32)), (.ref b1), (.ref b1)])) rfl (hb hby at_198) _ ?_
    show Steps p.tables e below (T31.setTop (mkF m 200 #[.val (.int p0), .val (.int p1), .val (.int p2), .unset, .unset] [(.int (65533 : Int32)), (.int (30 : Int32)), (.ref b1), (.ref b1)])) t
    refine st32 _ ?_
    show Steps p.tables e below (T32.setTop (mkF m 201 #[.val (.int p0), .val (.int p1), .val (.int p2), .unset, .unset] [(.ref b1)])) t
    refine XS.dup X32.here hx rfl (hb hby at_201) rfl rfl ?_
    show Steps p.tables e below (T32.setTop (mkF m 202 #[.val (.int p0), .val (.int p1), .val (.int p2), .unset, .unset] [(.ref b1), (.ref b1)])) t
    refine XS.bipush X32.here hx rfl (hb hby at_202) ?_
    show Steps p.tables e below (T32.setTop (mkF m 204 #[.val (.int p0), .val (.int p1), .val (.int p2), .unset, .unset] [(.int (31 : Int32)), (.ref b1), (.ref b1)])) t
    refine X32.ldcInt hx hown (mvT hZ (hw _ (List.mem_of_getElem? (i := 7) rfl))) (g := (mkF m 204 #[.val (.int p0), .val (.int p1), .val (.int p2), .unset, .unset] [(.int (31 : Int32)), (.ref b1), (.ref b1)])) rfl (hb hby at_204) _ ?_
    show Steps p.tables e below (T32.setTop (mkF m 206 #[.val (.int p0), .val (.int p1), .val (.int p2), .unset, .unset] [(.int (65536 : Int32)), (.int (31 : Int32)), (.ref b1), (.ref b1)])) t
    refine st33 _ ?_
    show Steps p.tables e below (T33.setTop (mkF m 207 #[.val (.int p0), .val (.int p1), .val (.int p2), .unset, .unset] [(.ref b1)])) t
    refine XS.dup X33.here hx rfl (hb hby at_207) rfl rfl ?_
    show Steps p.tables e below (T33.setTop (mkF m 208 #[.val (.int p0), .val (.int p1), .val (.int p2), .unset, .unset] [(.ref b1), (.ref b1)])) t
    refine XS.bipush X33.here hx rfl (hb hby at_208) ?_
    show Steps p.tables e below (T33.setTop (mkF m 210 #[.val (.int p0), .val (.int p1), .val (.int p2), .unset, .unset] [(.int (32 : Int32)), (.ref b1), (.ref b1)])) t
    refine X33.ldcInt hx hown (mvT hZ (hw _ (List.mem_of_getElem? (i := 8) rfl))) (g := (mkF m 210 #[.val (.int p0), .val (.int p1), .val (.int p2), .unset, .unset] [(.int (32 : Int32)), (.ref b1), (.ref b1)])) rfl (hb hby at_210) _ ?_
    show Steps p.tables e below (T33.setTop (mkF m 212 #[.val (.int p0), .val (.int p1), .val (.int p2), .unset, .unset] [(.int (983039 : Int32)), (.int (32 : Int32)), (.ref b1), (.ref b1)])) t
    refine st34 _ ?_
    show Steps p.tables e below (T34.setTop (mkF m 213 #[.val (.int p0), .val (.int p1), .val (.int p2), .unset, .unset] [(.ref b1)])) t
    refine XS.dup X34.here hx rfl (hb hby at_213) rfl rfl ?_
    show Steps p.tables e below (T34.setTop (mkF m 214 #[.val (.int p0), .val (.int p1), .val (.int p2), .unset, .unset] [(.ref b1), (.ref b1)])) t
    refine XS.bipush X34.here hx rfl (hb hby at_214) ?_
    show Steps p.tables e below (T34.setTop (mkF m 216 #[.val (.int p0), .val (.int p1), .val (.int p2), .unset, .unset] [(.int (33 : Int32)), (.ref b1), (.ref b1)])) t
    refine X34.ldcInt hx hown (mvT hZ (hw _ (List.mem_of_getElem? (i := 9) rfl))) (g := (mkF m 216 #[.val (.int p0), .val (.int p1), .val (.int p2), .unset, .unset] [(.int (33 : Int32)), (.ref b1), (.ref b1)])) rfl (hb hby at_216) _ ?_
    show Steps p.tables e below (T34.setTop (mkF m 218 #[.val (.int p0), .val (.int p1), .val (.int p2), .unset, .unset] [(.int (2147483647 : Int32)), (.int (33 : Int32)), (.ref b1), (.ref b1)])) t
    refine st35 _ ?_
    show Steps p.tables e below (T35.setTop (mkF m 219 #[.val (.int p0), .val (.int p1), .val (.int p2), .unset, .unset] [(.ref b1)])) t
    refine XS.astoreN X35.here hx rfl (hb hby at_219) rfl rfl (l' := #[.val (.int p0), .val (.int p1), .val (.int p2), .val (.ref b1), .unset]) rfl ?_
    show Steps p.tables e below (T35.setTop (mkF m 220 #[.val (.int p0), .val (.int p1), .val (.int p2), .val (.ref b1), .unset] [])) t
    refine XS.aloadN X35.here hx rfl (hb hby at_220) rfl rfl ?_
    show Steps p.tables e below (T35.setTop (mkF m 221 #[.val (.int p0), .val (.int p1), .val (.int p2), .val (.ref b1), .unset] [(.ref b1)])) t
    refine XS.iloadN X35.here hx rfl (hb hby at_221) rfl ?_
    show Steps p.tables e below (T35.setTop (mkF m 222 #[.val (.int p0), .val (.int p1), .val (.int p2), .val (.ref b1), .unset] [(.int p1), (.ref b1)])) t
    refine X35.ldcInt hx hown (mvT hZ (hw _ (List.mem_of_getElem? (i := 9) rfl))) (g := (mkF m 222 #[.val (.int p0), .val (.int p1), .val (.int p2), .val (.ref b1), .unset] [(.int p1), (.ref b1)])) rfl (hb hby at_222) _ ?_
    show Steps p.tables e below (T35.setTop (mkF m 224 #[.val (.int p0), .val (.int p1), .val (.int p2), .val (.ref b1), .unset] [(.int (2147483647 : Int32)), (.int p1), (.ref b1)])) t
    refine XS.iand X35.here hx rfl (hb hby at_224) rfl ?_
    show Steps p.tables e below (T35.setTop (mkF m 225 #[.val (.int p0), .val (.int p1), .val (.int p2), .val (.ref b1), .unset] [(.int (p1 &&& (2147483647 : Int32))), (.ref b1)])) t
    refine XS.aloadN X35.here hx rfl (hb hby at_225) rfl rfl ?_
    show Steps p.tables e below (T35.setTop (mkF m 226 #[.val (.int p0), .val (.int p1), .val (.int p2), .val (.ref b1), .unset] [(.ref b1), (.int (p1 &&& (2147483647 : Int32))), (.ref b1)])) t
    refine lenA X35 hx hZ e35 V35 (z := (34 : Int32)) (by decide) (g := (mkF m 226 #[.val (.int p0), .val (.int p1), .val (.int p2), .val (.ref b1), .unset] [(.ref b1), (.int (p1 &&& (2147483647 : Int32))), (.ref b1)])) rfl rfl (hb hby at_226) _ ?_
    show Steps p.tables e below (T35.setTop (mkF m 227 #[.val (.int p0), .val (.int p1), .val (.int p2), .val (.ref b1), .unset] [(.int (34 : Int32)), (.int (p1 &&& (2147483647 : Int32))), (.ref b1)])) t
    refine XS.irem X35.here hx rfl (hb hby at_227) rfl (by decide) ?_
    show Steps p.tables e below (T35.setTop (mkF m 228 #[.val (.int p0), .val (.int p1), .val (.int p2), .val (.ref b1), .unset] [(.int ((p1 &&& (2147483647 : Int32)) - ((p1 &&& (2147483647 : Int32)) / (34 : Int32)) * (34 : Int32))), (.ref b1)])) t
    refine ldAI X35 hx hZ e35 V35 (j := ((p1 &&& (2147483647 : Int32)) - ((p1 &&& (2147483647 : Int32)) / (34 : Int32)) * (34 : Int32))) (own_i34 p1).1 (own_i34 p1).2 (g := (mkF m 228 #[.val (.int p0), .val (.int p1), .val (.int p2), .val (.ref b1), .unset] [(.int ((p1 &&& (2147483647 : Int32)) - ((p1 &&& (2147483647 : Int32)) / (34 : Int32)) * (34 : Int32))), (.ref b1)])) rfl rfl (hb hby at_228) _ ?_
    show Steps p.tables e below (T35.setTop (mkF m 229 #[.val (.int p0), .val (.int p1), .val (.int p2), .val (.ref b1), .unset] [(.int (f35 (((p1 &&& (2147483647 : Int32)) - ((p1 &&& (2147483647 : Int32)) / (34 : Int32)) * (34 : Int32))).toNatClampNeg))])) t
    refine XS.iloadN X35.here hx rfl (hb hby at_229) rfl ?_
    show Steps p.tables e below (T35.setTop (mkF m 230 #[.val (.int p0), .val (.int p1), .val (.int p2), .val (.ref b1), .unset] [(.int p2), (.int (f35 (((p1 &&& (2147483647 : Int32)) - ((p1 &&& (2147483647 : Int32)) / (34 : Int32)) * (34 : Int32))).toNatClampNeg))])) t
    refine XS.iconst X35.here hx rfl (hb hby at_230) ?_
    show Steps p.tables e below (T35.setTop (mkF m 231 #[.val (.int p0), .val (.int p1), .val (.int p2), .val (.ref b1), .unset] [(.int (3 : Int32)), (.int p2), (.int (f35 (((p1 &&& (2147483647 : Int32)) - ((p1 &&& (2147483647 : Int32)) / (34 : Int32)) * (34 : Int32))).toNatClampNeg))])) t
    refine XS.iand X35.here hx rfl (hb hby at_231) rfl ?_
    show Steps p.tables e below (T35.setTop (mkF m 232 #[.val (.int p0), .val (.int p1), .val (.int p2), .val (.ref b1), .unset] [(.int (p2 &&& (3 : Int32))), (.int (f35 (((p1 &&& (2147483647 : Int32)) - ((p1 &&& (2147483647 : Int32)) / (34 : Int32)) * (34 : Int32))).toNatClampNeg))])) t
    refine XS.iconst X35.here hx rfl (hb hby at_232) ?_
    show Steps p.tables e below (T35.setTop (mkF m 233 #[.val (.int p0), .val (.int p1), .val (.int p2), .val (.ref b1), .unset] [(.int (1 : Int32)), (.int (p2 &&& (3 : Int32))), (.int (f35 (((p1 &&& (2147483647 : Int32)) - ((p1 &&& (2147483647 : Int32)) / (34 : Int32)) * (34 : Int32))).toNatClampNeg))])) t
    refine XS.isub X35.here hx rfl (hb hby at_233) rfl ?_
    show Steps p.tables e below (T35.setTop (mkF m 234 #[.val (.int p0), .val (.int p1), .val (.int p2), .val (.ref b1), .unset] [(.int ((p2 &&& (3 : Int32)) - (1 : Int32))), (.int (f35 (((p1 &&& (2147483647 : Int32)) - ((p1 &&& (2147483647 : Int32)) / (34 : Int32)) * (34 : Int32))).toNatClampNeg))])) t
    refine XS.iadd X35.here hx rfl (hb hby at_234) rfl ?_
    show Steps p.tables e below (T35.setTop (mkF m 235 #[.val (.int p0), .val (.int p1), .val (.int p2), .val (.ref b1), .unset] [(.int ((f35 (((p1 &&& (2147483647 : Int32)) - ((p1 &&& (2147483647 : Int32)) / (34 : Int32)) * (34 : Int32))).toNatClampNeg) + ((p2 &&& (3 : Int32)) - (1 : Int32))))])) t
    refine XS.istore X35.here hx rfl (hb hby at_235) rfl (l' := #[.val (.int p0), .val (.int p1), .val (.int p2), .val (.ref b1), .val (.int ((f35 (((p1 &&& (2147483647 : Int32)) - ((p1 &&& (2147483647 : Int32)) / (34 : Int32)) * (34 : Int32))).toNatClampNeg) + ((p2 &&& (3 : Int32)) - (1 : Int32))))]) rfl ?_
    show Steps p.tables e below (T35.setTop (mkF m 237 #[.val (.int p0), .val (.int p1), .val (.int p2), .val (.ref b1), .val (.int ((f35 (((p1 &&& (2147483647 : Int32)) - ((p1 &&& (2147483647 : Int32)) / (34 : Int32)) * (34 : Int32))).toNatClampNeg) + ((p2 &&& (3 : Int32)) - (1 : Int32))))] [])) t
    refine XS.iloadN X35.here hx rfl (hb hby at_237) rfl ?_
    show Steps p.tables e below (T35.setTop (mkF m 238 #[.val (.int p0), .val (.int p1), .val (.int p2), .val (.ref b1), .val (.int ((f35 (((p1 &&& (2147483647 : Int32)) - ((p1 &&& (2147483647 : Int32)) / (34 : Int32)) * (34 : Int32))).toNatClampNeg) + ((p2 &&& (3 : Int32)) - (1 : Int32))))] [(.int p0)])) t
    refine st36 _ ?_
    show Steps p.tables e below (T36.setTop (mkF m 241 #[.val (.int p0), .val (.int p1), .val (.int p2), .val (.ref b1), .val (.int ((f35 (((p1 &&& (2147483647 : Int32)) - ((p1 &&& (2147483647 : Int32)) / (34 : Int32)) * (34 : Int32))).toNatClampNeg) + ((p2 &&& (3 : Int32)) - (1 : Int32))))] [(.int (own_f1_0 p0))])) t
    refine XS.iloadN X36.here hx rfl (hb hby at_241) rfl ?_
    show Steps p.tables e below (T36.setTop (mkF m 242 #[.val (.int p0), .val (.int p1), .val (.int p2), .val (.ref b1), .val (.int ((f35 (((p1 &&& (2147483647 : Int32)) - ((p1 &&& (2147483647 : Int32)) / (34 : Int32)) * (34 : Int32))).toNatClampNeg) + ((p2 &&& (3 : Int32)) - (1 : Int32))))] [(.int p0), (.int (own_f1_0 p0))])) t
    refine st37 _ ?_
    show Steps p.tables e below (T37.setTop (mkF m 245 #[.val (.int p0), .val (.int p1), .val (.int p2), .val (.ref b1), .val (.int ((f35 (((p1 &&& (2147483647 : Int32)) - ((p1 &&& (2147483647 : Int32)) / (34 : Int32)) * (34 : Int32))).toNatClampNeg) + ((p2 &&& (3 : Int32)) - (1 : Int32))))] [(.int (own_f2_0 p0)), (.int (own_f1_0 p0))])) t
    exact k
  by_cases hc245 : (own_f1_0 p0) = (own_f2_0 p0)
  · refine Owe.step (T' := T37) (g' := (mkF m 248 #[.val (.int p0), .val (.int p1), .val (.int p2), .val (.ref b1), .val (.int ((f35 (((p1 &&& (2147483647 : Int32)) - ((p1 &&& (2147483647 : Int32)) / (34 : Int32)) * (34 : Int32))).toNatClampNeg) + ((p2 &&& (3 : Int32)) - (1 : Int32))))] [])) (fun t k => ?_) ?_
    · show Steps p.tables e below (T37.setTop (mkF m 245 #[.val (.int p0), .val (.int p1), .val (.int p2), .val (.ref b1), .val (.int ((f35 (((p1 &&& (2147483647 : Int32)) - ((p1 &&& (2147483647 : Int32)) / (34 : Int32)) * (34 : Int32))).toNatClampNeg) + ((p2 &&& (3 : Int32)) - (1 : Int32))))] [(.int (own_f2_0 p0)), (.int (own_f1_0 p0))])) t
      refine XS.icmpNo X37.here hx rfl (hb hby at_245) rfl (teq hc245).2 ?_
      show Steps p.tables e below (T37.setTop (mkF m 248 #[.val (.int p0), .val (.int p1), .val (.int p2), .val (.ref b1), .val (.int ((f35 (((p1 &&& (2147483647 : Int32)) - ((p1 &&& (2147483647 : Int32)) / (34 : Int32)) * (34 : Int32))).toNatClampNeg) + ((p2 &&& (3 : Int32)) - (1 : Int32))))] [])) t
      exact k
    obtain ⟨_, _, ⟨T38, L38, k38, n38⟩, -, X38, ⟨Lc38, hQ38, l38, y38, z38⟩, st38⟩ := Jvm.LawKit.callS X37 hx (y := (⟨"com/example/feuillet/feuillet/xml/XmlNames", "isNameStartChar", "(I)Z"⟩ : MethodName)) hown (mvT hZ (hw _ (List.mem_of_getElem? (i := 10) rfl))) (mvT hZ (hw _ (List.mem_of_getElem? (i := 11) rfl))) (mvT hZ (hw _ (List.mem_of_getElem? (i := 12) rfl))) (mvT hZ (hw _ (List.mem_of_getElem? (i := 13) rfl))) (by decide) (backOf (W := 0) (own_rm1 l Z aA hw [] ((f35 (((p1 &&& (2147483647 : Int32)) - ((p1 &&& (2147483647 : Int32)) / (34 : Int32)) * (34 : Int32))).toNatClampNeg) + ((p2 &&& (3 : Int32)) - (1 : Int32))) h35 n0 Zn35 ) hZ (hw _ (List.mem_of_getElem? (i := 13) rfl)) (hw _ (List.mem_of_getElem? (i := 12) rfl)) (by decide) (by decide)) (g := (mkF m 250 #[.val (.int p0), .val (.int p1), .val (.int p2), .val (.ref b1), .val (.int ((f35 (((p1 &&& (2147483647 : Int32)) - ((p1 &&& (2147483647 : Int32)) / (34 : Int32)) * (34 : Int32))).toNatClampNeg) + ((p2 &&& (3 : Int32)) - (1 : Int32))))] [(.int ((f35 (((p1 &&& (2147483647 : Int32)) - ((p1 &&& (2147483647 : Int32)) / (34 : Int32)) * (34 : Int32))).toNatClampNeg) + ((p2 &&& (3 : Int32)) - (1 : Int32))))])) rfl (by rw [hml]; rfl) (argsL := [(.int ((f35 (((p1 &&& (2147483647 : Int32)) - ((p1 &&& (2147483647 : Int32)) / (34 : Int32)) * (34 : Int32))).toNatClampNeg) + ((p2 &&& (3 : Int32)) - (1 : Int32))))]) (rest := []) (lenOf own_pd1 rfl) rfl (by show 2 * 0 + _ ≤ _; exact Nat.le_of_eq rfl) (hb hby at_250) (fun _ _ => ⟨rfl, e37, (by decide : 1 + 0 ≤ _), (by decide : 34 + 0 ≤ _)⟩)
    dsimp only [Pt.U, Pt.locs, Pt.cells, Pt.slots] at X38 l38 y38 z38 st38 hQ38
    subst y38 z38
    obtain ⟨rfl, N38q, e38⟩ := hQ38
    have N38 : Fr n0 L38 := by rw [l38]; exact Fr.app N37 N38q
    obtain ⟨_, _, ⟨T39, L39, k39, n39⟩, -, X39, ⟨Lc39, hQ39, l39, y39, z39⟩, st39⟩ := Jvm.LawKit.callS X38 hx (y := (⟨"com/example/feuillet/feuillet/xml/XmlNamesIsNameStartCharPinLaw", "ref", "(I)Z"⟩ : MethodName)) hown (mvT hZ (hw _ (List.mem_of_getElem? (i := 14) rfl))) (mvT hZ (hw _ (List.mem_of_getElem? (i := 15) rfl))) (mvT hZ (hw _ (List.mem_of_getElem? (i := 16) rfl))) (mvT hZ (hw _ (List.mem_of_getElem? (i := 17) rfl))) (by decide) (backOf (W := 1) (own_rm2 l Z aA hw [] ((f35 (((p1 &&& (2147483647 : Int32)) - ((p1 &&& (2147483647 : Int32)) / (34 : Int32)) * (34 : Int32))).toNatClampNeg) + ((p2 &&& (3 : Int32)) - (1 : Int32))) h35 n0 Zn35 ) hZ (hw _ (List.mem_of_getElem? (i := 17) rfl)) (hw _ (List.mem_of_getElem? (i := 16) rfl)) (by decide) (by decide)) (g := (mkF m 255 #[.val (.int p0), .val (.int p1), .val (.int p2), .val (.ref b1), .val (.int ((f35 (((p1 &&& (2147483647 : Int32)) - ((p1 &&& (2147483647 : Int32)) / (34 : Int32)) * (34 : Int32))).toNatClampNeg) + ((p2 &&& (3 : Int32)) - (1 : Int32))))] [(.int ((f35 (((p1 &&& (2147483647 : Int32)) - ((p1 &&& (2147483647 : Int32)) / (34 : Int32)) * (34 : Int32))).toNatClampNeg) + ((p2 &&& (3 : Int32)) - (1 : Int32)))), (.int (own_f1_0 ((f35 (((p1 &&& (2147483647 : Int32)) - ((p1 &&& (2147483647 : Int32)) / (34 : Int32)) * (34 : Int32))).toNatClampNeg) + ((p2 &&& (3 : Int32)) - (1 : Int32)))))])) rfl (by rw [hml]; rfl) (argsL := [(.int ((f35 (((p1 &&& (2147483647 : Int32)) - ((p1 &&& (2147483647 : Int32)) / (34 : Int32)) * (34 : Int32))).toNatClampNeg) + ((p2 &&& (3 : Int32)) - (1 : Int32))))]) (rest := [(.int (own_f1_0 ((f35 (((p1 &&& (2147483647 : Int32)) - ((p1 &&& (2147483647 : Int32)) / (34 : Int32)) * (34 : Int32))).toNatClampNeg) + ((p2 &&& (3 : Int32)) - (1 : Int32)))))]) (lenOf own_pd1 rfl) rfl (by show 2 * 0 + _ ≤ _; exact Nat.le_of_eq rfl) (hb hby at_255) (fun _ _ => ⟨rfl, e38, (by decide : 1 + 0 ≤ _), (by decide : 34 + 0 ≤ _)⟩)
    dsimp only [Pt.U, Pt.locs, Pt.cells, Pt.slots] at X39 l39 y39 z39 st39 hQ39
    subst y39 z39
    obtain ⟨rfl, N39q, e39⟩ := hQ39
    have N39 : Fr n0 L39 := by rw [l39]; exact Fr.app N38 N39q
    refine Owe.step (T' := T39) (g' := (mkF m 258 #[.val (.int p0), .val (.int p1), .val (.int p2), .val (.ref b1), .val (.int ((f35 (((p1 &&& (2147483647 : Int32)) - ((p1 &&& (2147483647 : Int32)) / (34 : Int32)) * (34 : Int32))).toNatClampNeg) + ((p2 &&& (3 : Int32)) - (1 : Int32))))] [(.int (own_f2_0 ((f35 (((p1 &&& (2147483647 : Int32)) - ((p1 &&& (2147483647 : Int32)) / (34 : Int32)) * (34 : Int32))).toNatClampNeg) + ((p2 &&& (3 : Int32)) - (1 : Int32))))), (.int (own_f1_0 ((f35 (((p1 &&& (2147483647 : Int32)) - ((p1 &&& (2147483647 : Int32)) / (34 : Int32)) * (34 : Int32))).toNatClampNeg) + ((p2 &&& (3 : Int32)) - (1 : Int32)))))])) (fun t k => ?_) ?_
    · show Steps p.tables e below (T37.setTop (mkF m 248 #[.val (.int p0), .val (.int p1), .val (.int p2), .val (.ref b1), .val (.int ((f35 (((p1 &&& (2147483647 : Int32)) - ((p1 &&& (2147483647 : Int32)) / (34 : Int32)) * (34 : Int32))).toNatClampNeg) + ((p2 &&& (3 : Int32)) - (1 : Int32))))] [])) t
      refine XS.iload X37.here hx rfl (hb hby at_248) rfl ?_
      show Steps p.tables e below (T37.setTop (mkF m 250 #[.val (.int p0), .val (.int p1), .val (.int p2), .val (.ref b1), .val (.int ((f35 (((p1 &&& (2147483647 : Int32)) - ((p1 &&& (2147483647 : Int32)) / (34 : Int32)) * (34 : Int32))).toNatClampNeg) + ((p2 &&& (3 : Int32)) - (1 : Int32))))] [(.int ((f35 (((p1 &&& (2147483647 : Int32)) - ((p1 &&& (2147483647 : Int32)) / (34 : Int32)) * (34 : Int32))).toNatClampNeg) + ((p2 &&& (3 : Int32)) - (1 : Int32))))])) t
      refine st38 _ ?_
      show Steps p.tables e below (T38.setTop (mkF m 253 #[.val (.int p0), .val (.int p1), .val (.int p2), .val (.ref b1), .val (.int ((f35 (((p1 &&& (2147483647 : Int32)) - ((p1 &&& (2147483647 : Int32)) / (34 : Int32)) * (34 : Int32))).toNatClampNeg) + ((p2 &&& (3 : Int32)) - (1 : Int32))))] [(.int (own_f1_0 ((f35 (((p1 &&& (2147483647 : Int32)) - ((p1 &&& (2147483647 : Int32)) / (34 : Int32)) * (34 : Int32))).toNatClampNeg) + ((p2 &&& (3 : Int32)) - (1 : Int32)))))])) t
      refine XS.iload X38.here hx rfl (hb hby at_253) rfl ?_
      show Steps p.tables e below (T38.setTop (mkF m 255 #[.val (.int p0), .val (.int p1), .val (.int p2), .val (.ref b1), .val (.int ((f35 (((p1 &&& (2147483647 : Int32)) - ((p1 &&& (2147483647 : Int32)) / (34 : Int32)) * (34 : Int32))).toNatClampNeg) + ((p2 &&& (3 : Int32)) - (1 : Int32))))] [(.int ((f35 (((p1 &&& (2147483647 : Int32)) - ((p1 &&& (2147483647 : Int32)) / (34 : Int32)) * (34 : Int32))).toNatClampNeg) + ((p2 &&& (3 : Int32)) - (1 : Int32)))), (.int (own_f1_0 ((f35 (((p1 &&& (2147483647 : Int32)) - ((p1 &&& (2147483647 : Int32)) / (34 : Int32)) * (34 : Int32))).toNatClampNeg) + ((p2 &&& (3 : Int32)) - (1 : Int32)))))])) t
      refine st39 _ ?_
      show Steps p.tables e below (T39.setTop (mkF m 258 #[.val (.int p0), .val (.int p1), .val (.int p2), .val (.ref b1), .val (.int ((f35 (((p1 &&& (2147483647 : Int32)) - ((p1 &&& (2147483647 : Int32)) / (34 : Int32)) * (34 : Int32))).toNatClampNeg) + ((p2 &&& (3 : Int32)) - (1 : Int32))))] [(.int (own_f2_0 ((f35 (((p1 &&& (2147483647 : Int32)) - ((p1 &&& (2147483647 : Int32)) / (34 : Int32)) * (34 : Int32))).toNatClampNeg) + ((p2 &&& (3 : Int32)) - (1 : Int32))))), (.int (own_f1_0 ((f35 (((p1 &&& (2147483647 : Int32)) - ((p1 &&& (2147483647 : Int32)) / (34 : Int32)) * (34 : Int32))).toNatClampNeg) + ((p2 &&& (3 : Int32)) - (1 : Int32)))))])) t
      exact k
    by_cases hc258 : (own_f1_0 ((f35 (((p1 &&& (2147483647 : Int32)) - ((p1 &&& (2147483647 : Int32)) / (34 : Int32)) * (34 : Int32))).toNatClampNeg) + ((p2 &&& (3 : Int32)) - (1 : Int32)))) = (own_f2_0 ((f35 (((p1 &&& (2147483647 : Int32)) - ((p1 &&& (2147483647 : Int32)) / (34 : Int32)) * (34 : Int32))).toNatClampNeg) + ((p2 &&& (3 : Int32)) - (1 : Int32))))
    · refine Owe.step (T' := T39) (g' := (mkF m 261 #[.val (.int p0), .val (.int p1), .val (.int p2), .val (.ref b1), .val (.int ((f35 (((p1 &&& (2147483647 : Int32)) - ((p1 &&& (2147483647 : Int32)) / (34 : Int32)) * (34 : Int32))).toNatClampNeg) + ((p2 &&& (3 : Int32)) - (1 : Int32))))] [])) (fun t k => ?_) ?_
      · show Steps p.tables e below (T39.setTop (mkF m 258 #[.val (.int p0), .val (.int p1), .val (.int p2), .val (.ref b1), .val (.int ((f35 (((p1 &&& (2147483647 : Int32)) - ((p1 &&& (2147483647 : Int32)) / (34 : Int32)) * (34 : Int32))).toNatClampNeg) + ((p2 &&& (3 : Int32)) - (1 : Int32))))] [(.int (own_f2_0 ((f35 (((p1 &&& (2147483647 : Int32)) - ((p1 &&& (2147483647 : Int32)) / (34 : Int32)) * (34 : Int32))).toNatClampNeg) + ((p2 &&& (3 : Int32)) - (1 : Int32))))), (.int (own_f1_0 ((f35 (((p1 &&& (2147483647 : Int32)) - ((p1 &&& (2147483647 : Int32)) / (34 : Int32)) * (34 : Int32))).toNatClampNeg) + ((p2 &&& (3 : Int32)) - (1 : Int32)))))])) t
        refine XS.icmpNo X39.here hx rfl (hb hby at_258) rfl (teq hc258).2 ?_
        show Steps p.tables e below (T39.setTop (mkF m 261 #[.val (.int p0), .val (.int p1), .val (.int p2), .val (.ref b1), .val (.int ((f35 (((p1 &&& (2147483647 : Int32)) - ((p1 &&& (2147483647 : Int32)) / (34 : Int32)) * (34 : Int32))).toNatClampNeg) + ((p2 &&& (3 : Int32)) - (1 : Int32))))] [])) t
        exact k
      refine Owe.cast (show (1 : Int32) = (1 : Int32) from (show own_f0_0 p0 p1 p2 f35 = (1 : Int32) from (by rw [own_f0_0, if_pos hc245, if_pos hc258])).symm.trans (own_law p0 p1 p2 f35 )) ?_
      refine Owe.ret X39 Bd.notSynchronized (v := (some (.int (1 : Int32)))) (fun h => by rw [Bd.returns] at h; cases h) (fun fs hr => ?_) ⟨rfl, N39⟩ (by decide) (by decide)
      show Steps p.tables e below (T39.setTop (mkF m 261 #[.val (.int p0), .val (.int p1), .val (.int p2), .val (.ref b1), .val (.int ((f35 (((p1 &&& (2147483647 : Int32)) - ((p1 &&& (2147483647 : Int32)) / (34 : Int32)) * (34 : Int32))).toNatClampNeg) + ((p2 &&& (3 : Int32)) - (1 : Int32))))] [])) _
      refine XS.iconst X39.here hx rfl (hb hby at_261) ?_
      show Steps p.tables e below (T39.setTop (mkF m 262 #[.val (.int p0), .val (.int p1), .val (.int p2), .val (.ref b1), .val (.int ((f35 (((p1 &&& (2147483647 : Int32)) - ((p1 &&& (2147483647 : Int32)) / (34 : Int32)) * (34 : Int32))).toNatClampNeg) + ((p2 &&& (3 : Int32)) - (1 : Int32))))] [(.int (1 : Int32))])) _
      refine XS.goto X39.here hx rfl (pc0 := 262) (pc' := 266) rfl (hb hby at_262) (by decide) (by decide) ?_
      show Steps p.tables e below (T39.setTop (mkF m 266 #[.val (.int p0), .val (.int p1), .val (.int p2), .val (.ref b1), .val (.int ((f35 (((p1 &&& (2147483647 : Int32)) - ((p1 &&& (2147483647 : Int32)) / (34 : Int32)) * (34 : Int32))).toNatClampNeg) + ((p2 &&& (3 : Int32)) - (1 : Int32))))] [(.int (1 : Int32))])) _
      exact retN X39 hx (t := .boolean) Bd.returns (by simp) (hb hby at_266) hr
    · refine Owe.step (T' := T39) (g' := (mkF m 265 #[.val (.int p0), .val (.int p1), .val (.int p2), .val (.ref b1), .val (.int ((f35 (((p1 &&& (2147483647 : Int32)) - ((p1 &&& (2147483647 : Int32)) / (34 : Int32)) * (34 : Int32))).toNatClampNeg) + ((p2 &&& (3 : Int32)) - (1 : Int32))))] [])) (fun t k => ?_) ?_
      · show Steps p.tables e below (T39.setTop (mkF m 258 #[.val (.int p0), .val (.int p1), .val (.int p2), .val (.ref b1), .val (.int ((f35 (((p1 &&& (2147483647 : Int32)) - ((p1 &&& (2147483647 : Int32)) / (34 : Int32)) * (34 : Int32))).toNatClampNeg) + ((p2 &&& (3 : Int32)) - (1 : Int32))))] [(.int (own_f2_0 ((f35 (((p1 &&& (2147483647 : Int32)) - ((p1 &&& (2147483647 : Int32)) / (34 : Int32)) * (34 : Int32))).toNatClampNeg) + ((p2 &&& (3 : Int32)) - (1 : Int32))))), (.int (own_f1_0 ((f35 (((p1 &&& (2147483647 : Int32)) - ((p1 &&& (2147483647 : Int32)) / (34 : Int32)) * (34 : Int32))).toNatClampNeg) + ((p2 &&& (3 : Int32)) - (1 : Int32)))))])) t
        refine XS.icmpYes X39.here hx rfl (pc0 := 258) (pc' := 265) rfl (hb hby at_258) rfl (feq hc258).2 (by decide) (by decide) ?_
        show Steps p.tables e below (T39.setTop (mkF m 265 #[.val (.int p0), .val (.int p1), .val (.int p2), .val (.ref b1), .val (.int ((f35 (((p1 &&& (2147483647 : Int32)) - ((p1 &&& (2147483647 : Int32)) / (34 : Int32)) * (34 : Int32))).toNatClampNeg) + ((p2 &&& (3 : Int32)) - (1 : Int32))))] [])) t
        exact k
      refine Owe.cast (show (0 : Int32) = (1 : Int32) from (show own_f0_0 p0 p1 p2 f35 = (0 : Int32) from (by rw [own_f0_0, if_pos hc245, if_neg hc258])).symm.trans (own_law p0 p1 p2 f35 )) ?_
      refine Owe.ret X39 Bd.notSynchronized (v := (some (.int (0 : Int32)))) (fun h => by rw [Bd.returns] at h; cases h) (fun fs hr => ?_) ⟨rfl, N39⟩ (by decide) (by decide)
      show Steps p.tables e below (T39.setTop (mkF m 265 #[.val (.int p0), .val (.int p1), .val (.int p2), .val (.ref b1), .val (.int ((f35 (((p1 &&& (2147483647 : Int32)) - ((p1 &&& (2147483647 : Int32)) / (34 : Int32)) * (34 : Int32))).toNatClampNeg) + ((p2 &&& (3 : Int32)) - (1 : Int32))))] [])) _
      refine XS.iconst X39.here hx rfl (hb hby at_265) ?_
      show Steps p.tables e below (T39.setTop (mkF m 266 #[.val (.int p0), .val (.int p1), .val (.int p2), .val (.ref b1), .val (.int ((f35 (((p1 &&& (2147483647 : Int32)) - ((p1 &&& (2147483647 : Int32)) / (34 : Int32)) * (34 : Int32))).toNatClampNeg) + ((p2 &&& (3 : Int32)) - (1 : Int32))))] [(.int (0 : Int32))])) _
      exact retN X39 hx (t := .boolean) Bd.returns (by simp) (hb hby at_266) hr
  · refine Owe.step (T' := T37) (g' := (mkF m 265 #[.val (.int p0), .val (.int p1), .val (.int p2), .val (.ref b1), .val (.int ((f35 (((p1 &&& (2147483647 : Int32)) - ((p1 &&& (2147483647 : Int32)) / (34 : Int32)) * (34 : Int32))).toNatClampNeg) + ((p2 &&& (3 : Int32)) - (1 : Int32))))] [])) (fun t k => ?_) ?_
    · show Steps p.tables e below (T37.setTop (mkF m 245 #[.val (.int p0), .val (.int p1), .val (.int p2), .val (.ref b1), .val (.int ((f35 (((p1 &&& (2147483647 : Int32)) - ((p1 &&& (2147483647 : Int32)) / (34 : Int32)) * (34 : Int32))).toNatClampNeg) + ((p2 &&& (3 : Int32)) - (1 : Int32))))] [(.int (own_f2_0 p0)), (.int (own_f1_0 p0))])) t
      refine XS.icmpYes X37.here hx rfl (pc0 := 245) (pc' := 265) rfl (hb hby at_245) rfl (feq hc245).2 (by decide) (by decide) ?_
      show Steps p.tables e below (T37.setTop (mkF m 265 #[.val (.int p0), .val (.int p1), .val (.int p2), .val (.ref b1), .val (.int ((f35 (((p1 &&& (2147483647 : Int32)) - ((p1 &&& (2147483647 : Int32)) / (34 : Int32)) * (34 : Int32))).toNatClampNeg) + ((p2 &&& (3 : Int32)) - (1 : Int32))))] [])) t
      exact k
    refine Owe.cast (show (0 : Int32) = (1 : Int32) from (show own_f0_0 p0 p1 p2 f35 = (0 : Int32) from (by rw [own_f0_0, if_neg hc245])).symm.trans (own_law p0 p1 p2 f35 )) ?_
    refine Owe.ret X37 Bd.notSynchronized (v := (some (.int (0 : Int32)))) (fun h => by rw [Bd.returns] at h; cases h) (fun fs hr => ?_) ⟨rfl, N37⟩ (by decide) (by decide)
    show Steps p.tables e below (T37.setTop (mkF m 265 #[.val (.int p0), .val (.int p1), .val (.int p2), .val (.ref b1), .val (.int ((f35 (((p1 &&& (2147483647 : Int32)) - ((p1 &&& (2147483647 : Int32)) / (34 : Int32)) * (34 : Int32))).toNatClampNeg) + ((p2 &&& (3 : Int32)) - (1 : Int32))))] [])) _
    refine XS.iconst X37.here hx rfl (hb hby at_265) ?_
    show Steps p.tables e below (T37.setTop (mkF m 266 #[.val (.int p0), .val (.int p1), .val (.int p2), .val (.ref b1), .val (.int ((f35 (((p1 &&& (2147483647 : Int32)) - ((p1 &&& (2147483647 : Int32)) / (34 : Int32)) * (34 : Int32))).toNatClampNeg) + ((p2 &&& (3 : Int32)) - (1 : Int32))))] [(.int (0 : Int32))])) _
    exact retN X37 hx (t := .boolean) Bd.returns (by simp) (hb hby at_266) hr
set_option maxRecDepth 65536 in
set_option maxHeartbeats 40000000 in
theorem comes_1 {Post : Tables → Env → Array Value → State → Outcome → State → Prop} (hpost : ∀ tb e args s v u, (limb_1_1.after args s (.returned v) u = true ∧ limb_1_2.after args s (.returned v) u = true ∧ True) → FrameEnd s (.returned v) u (Jvm.fieldLocs frame_1_writes args s ++ Jvm.arrayLocs frame_1_arrays args s ++ Jvm.staticLocs frame_1_statics s) 16 192 → Post tb e args s (.returned v) u) :
    ArmFor flags0 classFile x code maxLocals ret World_1 tables_1 room_1 Calls_1 rest_1 Pre_1 Post := by
  intro l hfl _ _ p e ha hc hk s m args below hf hA hF happ hP
  obtain ⟨hcalls, hrest, hpre⟩ := hP
  obtain ⟨-, -, -, hnamed, -, -, -, hat⟩ := (Spec.applies_iff hf).mp happ
  obtain ⟨hg, hn⟩ := and_e (Cond.before_iff.mp (show (Jvm.Cond.and given_1 narrow_1).before args s = true from hpre))
  obtain ⟨ga1, gb1⟩ := and_e hg
  obtain ⟨ga2, gb2⟩ := and_e gb1
  obtain ⟨ga3, gb3⟩ := and_e gb2
  obtain ⟨w0, w1, w2, rfl⟩ : ∃ w0 w1 w2 : Value, args = #[w0, w1, w2] := by
    have hs : args.size = 3 := by simpa [Cond.value, given_1] using ga1
    obtain ⟨L⟩ := args
    match L, hs with
    | [w0, w1, w2], _ => exact ⟨w0, w1, w2, rfl⟩
  have hw := fun d (hd : d ∈ tables_1) => atoms_spec (ws := Jvm.Cond.code x code maxLocals ret :: tables_1) hat d (List.mem_cons_of_mem _ hd)
  obtain ⟨i0, ei0⟩ := is_v ga2
  obtain rfl : w0 = (.int i0) := Option.some.inj ei0
  obtain ⟨i1, ei1⟩ := is_v ga3
  obtain rfl : w1 = (.int i1) := Option.some.inj ei1
  obtain ⟨i2, ei2⟩ := is_v gb3
  obtain rfl : w2 = (.int i2) := Option.some.inj ei2
  obtain ⟨n, o, h1, h2, h3, _, L, rfl, ⟨rfl, N⟩, hq⟩ := own_rm0 l s _ hw tables_1 i0 i1 i2 s.heap s.heap.size (Nat.le_refl _) p e ha hc hk s m _ below hf ((Spec.applies_iff_loose hf).mp happ).1 ⟨rfl, State.Warmed39.refl s, rfl⟩ trivial
  refine ⟨n, _, h1, h2, h3, hpost _ _ _ _ _ _ ⟨Cond.after_iff.mpr rfl, Cond.after_iff.mpr (eq_i res_at (Term.int_eval (1)) rfl), trivial⟩ ⟨hq.1, hq.2.1, (hq.2.2.sift fun y hy => Or.inr (N y hy)).mono (by decide) (by decide)⟩⟩
theorem main_1_1 : Claimed_1_1 := comes_1 fun _ _ _ _ _ _ h hF => ⟨h.1, hF⟩
theorem main_1_2 : Claimed_1_2 := comes_1 fun _ _ _ _ _ _ h hF => ⟨h.2.1, hF⟩
end Jvm.Pilot.@@N@@
namespace Jvm.Pilot.@@N@@
open Jvm Jvm.ClassFile Sem Op Lib Jvm.Free Jvm.Stand Jvm.Pilot.@@N@@.Jvm.D
/-! MADE BY PROGRAM (witnessworld.py) out of the Statement's table words and the real class files: 9 classes; the members and pool entries that the words name. The judged class is class 1, her method 3. -/
namespace start1
open Jvm.ClassFile
def u (s : String) : CpInfo := .utf8 (stringToUtf16 s)
/-- a pool by its gaps: so many unusable entries, then the entry; so many at the end -/
def gap : Nat → List CpInfo → List CpInfo
  | 0, r => r
  | n + 1, r => .unusable :: gap n r
def poolList (es : List (Nat × CpInfo)) (last : Nat) : List CpInfo := es.foldr (fun e r => gap e.1 (e.2 :: r)) (gap last [])
def pool (es : List (Nat × CpInfo)) (last : Nat) : Array CpInfo := ⟨poolList es last⟩
def fileOf (pool : Array CpInfo) (this : Nat) (attrs : Array Attribute := #[]) (ms : Array MethodInfo := #[]) (fl : Nat := 33) (sup : Nat := 0) (ifs : Array Nat := #[]) (fds : Array FieldInfo := #[]) : ClassFile where
  minorVersion := 0
  majorVersion := 65
  constantPool := pool
  accessFlags := fl
  thisClass := this
  superClass := sup
  interfaces := ifs
  fields := fds
  methods := ms
  attributes := attrs
def plain (name : String) (sup : Option ClassId) : Class where
  name := name
  kind := .ordinary
  loader := none
  accessFlags := 33
  super := sup
  interfaces := #[]
  cf := none
  fields := #[]
  methods := #[]
  instanceTypes := #[]
  staticTypes := #[]
  resolved := #[]
  callSites := []
  init := .initialized
  statics := none
  mirror := none

def pool0 : Array CpInfo := pool [(5, u "<init>"), (0, u "()V"), (1, .class_ 10), (1, u "java/lang/Object")] 113

def k0m0 : Method := { name := "<init>", desc := "()V", sig := { parameters := [], returnType := none }, accessFlags := 1, code := none }
/-- java/lang/Object -/
def k0 : Class := { plain "java/lang/Object" none with
  accessFlags := 33
  interfaces := #[]
  cf := some (fileOf pool0 8 #[] #[{ accessFlags := 1, nameIndex := 5, descriptorIndex := 6, attributes := #[] }] 33 0 #[] #[])
  fields := #[]
  methods := #[k0m0]
  instanceTypes := #[]
  staticTypes := #[]
  resolved := Array.replicate 124 none
  statics := none }

def pool1 : Array CpInfo := pool [(2, .class_ 4), (1, u "java/lang/Object"), (0, u "<init>"), (0, u "()V"), (0, .integer 983039), (0, .methodref 9 10), (0, .class_ 11), (0, .nameAndType 12 13), (0, u "com/example/feuillet/feuillet/xml/XmlNamesIsNameStartCharPinLaw"), (0, u "inGap"), (0, u "(III)Z"), (0, .integer 55296), (0, .integer 63743), (0, .integer 64976), (0, .integer 65007), (0, .integer 65534), (0, .integer 65535), (2, .integer 2147483648), (0, .integer 55295), (0, .integer 63744), (0, .integer 64975), (0, .integer 65008), (0, .integer 65533), (0, .integer 65536), (0, .integer 2147483647), (0, .methodref 31 32), (0, .class_ 33), (0, .nameAndType 34 35), (0, u "com/example/feuillet/feuillet/xml/XmlNames"), (0, u "isNameStartChar"), (0, u "(I)Z"), (0, .methodref 9 37), (0, .nameAndType 38 35), (0, u "ref"), (3, u "law")] 4

def k1m0 : Method := { name := "<init>", desc := "()V", sig := { parameters := [], returnType := none }, accessFlags := 2, code := none }
def k1c1 : Code := { maxStack := 2, maxLocals := 3, code := method_2_code, exceptionTable := #[], attributes := #[] }
def k1m1 : Method := { name := "inGap", desc := "(III)Z", sig := { parameters := [.int, .int, .int], returnType := some .boolean }, accessFlags := 10, code := some k1c1 }
def k1c2 : Code := { maxStack := 3, maxLocals := 1, code := method_3_code, exceptionTable := #[], attributes := #[] }
def k1m2 : Method := { name := "ref", desc := "(I)Z", sig := { parameters := [.int], returnType := some .boolean }, accessFlags := 10, code := some k1c2 }
def k1c3 : Code := { maxStack := 4, maxLocals := 5, code := code, exceptionTable := #[], attributes := #[] }
def k1m3 : Method := { name := "law", desc := "(III)Z", sig := { parameters := [.int, .int, .int], returnType := some .boolean }, accessFlags := 9, code := some k1c3 }
/-- com/example/feuillet/feuillet/xml/XmlNamesIsNameStartCharPinLaw -/
def k1 : Class := { plain "com/example/feuillet/feuillet/xml/XmlNamesIsNameStartCharPinLaw" (some 0) with
  accessFlags := 49
  interfaces := #[]
  cf := some (fileOf pool1 9 #[] #[{ accessFlags := 2, nameIndex := 5, descriptorIndex := 6, attributes := #[] }, { accessFlags := 10, nameIndex := 12, descriptorIndex := 13, attributes := #[] }, { accessFlags := 10, nameIndex := 38, descriptorIndex := 35, attributes := #[] }, { accessFlags := 9, nameIndex := 42, descriptorIndex := 13, attributes := #[] }] 49 2 #[] #[])
  fields := #[]
  methods := #[k1m0, k1m1, k1m2, k1m3]
  instanceTypes := #[]
  staticTypes := #[]
  resolved := Array.replicate 47 none
  statics := none }

def pool2 : Array CpInfo := pool [(2, .class_ 4), (1, u "java/lang/Object"), (0, u "<init>"), (0, u "()V"), (0, .integer 55295), (1, .integer 65533), (0, .integer 65536), (4, .class_ 17), (1, u "com/example/feuillet/feuillet/xml/XmlNames"), (24, u "(I)Z"), (33, .integer 63744), (0, .integer 64975), (0, .integer 65008), (0, .integer 983039), (2, u "isNameStartChar"), (30, .class_ 114), (0, u "com/example/feuillet/feuillet/xml/XmlNames$QualifiedName")] 29

def k2m0 : Method := { name := "<init>", desc := "()V", sig := { parameters := [], returnType := none }, accessFlags := 2, code := none }
def k2c1 : Code := { maxStack := 2, maxLocals := 1, code := prog_75_method_12_code, exceptionTable := #[], attributes := #[] }
def k2m1 : Method := { name := "isNameStartChar", desc := "(I)Z", sig := { parameters := [.int], returnType := some .boolean }, accessFlags := 9, code := some k2c1 }
/-- com/example/feuillet/feuillet/xml/XmlNames -/
def k2 : Class := { plain "com/example/feuillet/feuillet/xml/XmlNames" (some 0) with
  accessFlags := 49
  interfaces := #[]
  cf := some (fileOf pool2 15 #[.nestMembers #[113]] #[{ accessFlags := 2, nameIndex := 5, descriptorIndex := 6, attributes := #[] }, { accessFlags := 9, nameIndex := 82, descriptorIndex := 42, attributes := #[] }] 49 2 #[] #[])
  fields := #[]
  methods := #[k2m0, k2m1]
  instanceTypes := #[]
  staticTypes := #[]
  resolved := Array.replicate 144 none
  statics := none }

def pool3 : Array CpInfo := pool [(1, u "java/lang/Cloneable"), (0, .class_ 1), (0, u "java/lang/Object"), (0, .class_ 3)] 3

/-- java/lang/Cloneable -/
def k3 : Class := { plain "java/lang/Cloneable" (some 0) with
  accessFlags := 1537
  interfaces := #[]
  cf := some (fileOf pool3 2 #[] #[] 1537 4 #[] #[])
  fields := #[]
  methods := #[]
  instanceTypes := #[]
  staticTypes := #[]
  resolved := Array.replicate 8 none
  statics := none }

def pool4 : Array CpInfo := pool [(1, u "java/io/Serializable"), (0, .class_ 1), (0, u "java/lang/Object"), (0, .class_ 3)] 3

/-- java/io/Serializable -/
def k4 : Class := { plain "java/io/Serializable" (some 0) with
  accessFlags := 1537
  interfaces := #[]
  cf := some (fileOf pool4 2 #[] #[] 1537 4 #[] #[])
  fields := #[]
  methods := #[]
  instanceTypes := #[]
  staticTypes := #[]
  resolved := Array.replicate 8 none
  statics := none }

/-- the primitive byte -/
def k5 : Class := { plain "byte" none with kind := .primitive 'B', accessFlags := 0x411 }
/-- [B -/
def k6 : Class := { plain "[B" (some 0) with kind := .array 5 .byte, interfaces := #[3, 4], accessFlags := 1041 }

/-- the primitive int -/
def k7 : Class := { plain "int" none with kind := .primitive 'I', accessFlags := 0x411 }
/-- [I -/
def k8 : Class := { plain "[I" (some 0) with kind := .array 7 .int, interfaces := #[3, 4], accessFlags := 1041 }

def heap : Heap := #[]
def classes : Array Class := #[k0, k1, k2, k3, k4, k5, k6, k7, k8]
def interned : List (Array UInt16 × Addr) := []
def slotsUsed : Nat := 0
def theMethod : MethodId := ⟨1, 3⟩
def args0 : Array Value := #[.int 5, .int 7, .int 9]
def aboutOver (below : List Frame) : State where
  vm := { classes := classes, interned := interned.toArray }
  heap := heap
  slotsUsed := slotsUsed
  threads := #[{ frames := .invoking theMethod args0 :: below }]
def below0 : List Frame := [.native { method := ⟨0, 0⟩, args := #[] }]
def about1 : State := aboutOver below0
def p0 : Program := .bare "" "" ""
def e0 : Env := launch0.env 0 0 0
theorem w_frames : about1.frames = Frame.invoking theMethod args0 :: below0 := rfl
set_option maxRecDepth 65536 in
theorem w_args : argsFit about1.vm theMethod args0 = true := by decide +kernel
set_option maxRecDepth 65536 in
theorem w_heap : heapFits about1 = true := by decide +kernel
set_option maxRecDepth 65536 in
theorem w_runnable : about1.curStatus? = some .runnable := by decide +kernel
set_option maxRecDepth 65536 in
theorem w_alone : about1.alone = true := by decide +kernel
set_option maxRecDepth 65536 in
theorem w_named : about1.methodNamed? x = some theMethod := by decide +kernel
set_option maxRecDepth 65536 in
theorem w_hears : about1.hears theMethod below0 = true := by decide +kernel
set_option maxRecDepth 65536 in
theorem w_ripe : about1.ripe theMethod args0 below0 = true := by decide +kernel
theorem w_running : about1.status = .running := rfl
set_option maxRecDepth 65536 in
theorem w_room : about1.hasRoom e0.platform room_1 = true :=
  launch0.hasRoom_least _ room_1 (by decide +kernel) (by decide +kernel) (by decide +kernel) (by decide +kernel) (by decide +kernel) (by decide +kernel)
theorem allAtoms_all (ts : List Jvm.Cond) (a : Array Jvm.Value) (st : Jvm.State) : (allAtoms ts).before a st = ts.all (fun c => c.before a st) := by
  induction ts with
  | nil => rfl
  | cons c t ih =>
    show (Jvm.Cond.and c (allAtoms t)).before a st = _
    rw [Jvm.Cond.before_and, ih, List.all_cons]
def words1 : List Jvm.Cond := Jvm.Cond.code x code maxLocals ret :: tables_1
/-- a 'code' word, met by the world's own term for the bytes: nothing is compared byte by byte -/
theorem code_word {y : MethodName} {bytes : ByteArray} {mx : Nat} {rt : Option FieldType} {a : Array Value} {s : State} {m : MethodId} {meth : Method} {c : Code} (h1 : s.methodNamed? y = some m) (h2 : s.vm.method? m = some meth) (h3 : meth.code = some c) (h4 : c.code = bytes)
    (h5 : (c.maxLocals == mx && c.exceptionTable.isEmpty && decide (c.maxStack ≤ mostOperands) && decide (meth.sig.returnType = rt) && !meth.locks && decide (parseMethodDescriptor y.desc = some meth.sig)) = true) : (Jvm.Cond.code y bytes mx rt).before a s = true := by
  simp only [Bool.and_eq_true, beq_iff_eq, Bool.not_eq_true', decide_eq_true_eq] at h5
  obtain ⟨⟨⟨⟨⟨g1, g2⟩, g3⟩, g4⟩, g5⟩, g6⟩ := h5
  simp [Cond.before, Cond.holds, Cond.value, h1, h2, h3, h4, g1, g2, g3, g4, g5, g6]
def isCode : Jvm.Cond → Bool
  | .code _ _ _ _ => true
  | _ => false
theorem all_split {L : List Jvm.Cond} {P : Jvm.Cond → Bool} (h1 : L.all (fun c => isCode c || P c) = true) (h2 : ∀ c ∈ L.filter isCode, P c = true) : L.all P = true := by
  refine List.all_eq_true.mpr fun c hc => ?_
  have h := List.all_eq_true.mp h1 c hc
  rcases Bool.eq_false_or_eq_true (isCode c) with hi | hi
  · exact h2 c (List.mem_filter.mpr ⟨hc, hi⟩)
  · simpa [hi] using h
set_option maxRecDepth 65536 in
theorem w_c0 : (Jvm.Cond.code x code maxLocals ret).before args0 about1 = true := code_word (m := ⟨1, 3⟩) (meth := k1m3) (c := k1c3) (by decide +kernel) rfl rfl rfl (by decide +kernel)
set_option maxRecDepth 65536 in
theorem w_c1 : (Jvm.Cond.code ({ cls := "com/example/feuillet/feuillet/xml/XmlNames", name := "isNameStartChar", desc := "(I)Z" } : Jvm.MethodName) prog_75_method_12_code (1 : Nat) (Option.some Jvm.ClassFile.FieldType.boolean)).before args0 about1 = true := code_word (m := ⟨2, 1⟩) (meth := k2m1) (c := k2c1) (by decide +kernel) rfl rfl rfl (by decide +kernel)
set_option maxRecDepth 65536 in
theorem w_c2 : (Jvm.Cond.code ({ cls := "com/example/feuillet/feuillet/xml/XmlNamesIsNameStartCharPinLaw", name := "ref", desc := "(I)Z" } : Jvm.MethodName) method_3_code (1 : Nat) (Option.some Jvm.ClassFile.FieldType.boolean)).before args0 about1 = true := code_word (m := ⟨1, 2⟩) (meth := k1m2) (c := k1c2) (by decide +kernel) rfl rfl rfl (by decide +kernel)
set_option maxRecDepth 65536 in
theorem w_c3 : (Jvm.Cond.code ({ cls := "com/example/feuillet/feuillet/xml/XmlNamesIsNameStartCharPinLaw", name := "inGap", desc := "(III)Z" } : Jvm.MethodName) method_2_code (3 : Nat) (Option.some Jvm.ClassFile.FieldType.boolean)).before args0 about1 = true := code_word (m := ⟨1, 1⟩) (meth := k1m1) (c := k1c1) (by decide +kernel) rfl rfl rfl (by decide +kernel)
def codes1 : List Jvm.Cond := [Jvm.Cond.code x code maxLocals ret, Jvm.Cond.code ({ cls := "com/example/feuillet/feuillet/xml/XmlNames", name := "isNameStartChar", desc := "(I)Z" } : Jvm.MethodName) prog_75_method_12_code (1 : Nat) (Option.some Jvm.ClassFile.FieldType.boolean), Jvm.Cond.code ({ cls := "com/example/feuillet/feuillet/xml/XmlNamesIsNameStartCharPinLaw", name := "ref", desc := "(I)Z" } : Jvm.MethodName) method_3_code (1 : Nat) (Option.some Jvm.ClassFile.FieldType.boolean), Jvm.Cond.code ({ cls := "com/example/feuillet/feuillet/xml/XmlNamesIsNameStartCharPinLaw", name := "inGap", desc := "(III)Z" } : Jvm.MethodName) method_2_code (3 : Nat) (Option.some Jvm.ClassFile.FieldType.boolean)]
set_option maxRecDepth 65536 in
theorem codes_eq : words1.filter isCode = codes1 := rfl
theorem w_codes : ∀ c ∈ words1.filter isCode, c.before args0 about1 = true := by
  rw [codes_eq]
  intro c hc
  simp only [codes1, List.mem_cons, List.not_mem_nil, or_false] at hc
  rcases hc with rfl | rfl | rfl | rfl
  · exact w_c0
  · exact w_c1
  · exact w_c2
  · exact w_c3
set_option maxRecDepth 65536 in
theorem w_t1 : (words1.take 24).all (fun c => isCode c || c.before args0 about1) = true := by decide +kernel
set_option maxRecDepth 65536 in
theorem w_t2 : (words1.drop 24).all (fun c => isCode c || c.before args0 about1) = true := by decide +kernel
theorem w_tables : (allAtoms (Jvm.Cond.code x code maxLocals ret :: tables_1)).before args0 about1 = true := by
  rw [allAtoms_all]
  show words1.all (fun c => c.before args0 about1) = true
  refine all_split ?_ w_codes
  rw [← List.take_append_drop 24 words1, List.all_append, w_t1, w_t2]
  rfl
set_option maxRecDepth 65536 in
theorem w_case : (Jvm.Cond.and given_1 narrow_1).before args0 about1 = true := by decide +kernel
theorem w_applies : (headSpec (Jvm.Cond.code x code maxLocals ret :: tables_1) room_1).applies x e0.platform about1 = true :=
  (Spec.applies_iff w_frames).mpr ⟨w_running, w_runnable, w_alone, w_named, w_hears, w_ripe, w_room, w_tables⟩
theorem atStart : AtStart classFile x code maxLocals ret World_1 tables_1 room_1 Calls_1 rest_1 Pre_1 launch0 p0 e0 about1 theMethod args0 below0 :=
  ⟨lists_1, trivial, launch0.admits_env _ _ _, launch0.least_env, fairChoices_fair.cas, fairChoices_fair.clock, w_frames, w_args, w_heap, w_applies, trivial, trivial, w_case⟩
end start1
theorem witness_1 : WitnessClaimed_1 := ⟨start1.p0, start1.e0, start1.about1, start1.theMethod, start1.args0, start1.below0, start1.atStart⟩
end Jvm.Pilot.@@N@@
