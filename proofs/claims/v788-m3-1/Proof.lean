import JvmDerived
import JvmDerived.Pilot.@@N@@Statement
import JvmDerived.Pilot.@@N@@Code
set_option linter.unusedVariables false
set_option linter.unusedSimpArgs false
namespace Jvm.RoadKit
open Sem ClassFile Op Lib Jvm.Stand Jvm.Free Jvm.LawKit
section New
variable {p : Program} {l : Launch} {e : Env} {R : Room} {s : State} {m : MethodId} {args : Array Value} {below : List Frame} {meth : Method} {c : Code} {T : State} {locs : List Loc} {cells slots : Nat}
theorem retI (X : Stand p l e R s m args below meth c T locs cells slots) (hx : p.tables.exec = Jvm.exec) {pc : Nat} {Ls : Array Slot} {z : Int32} {rest : List Value} (hret : meth.sig.returnType = some .int) (hd : decode c.code pc = .ok (.ireturn, 1)) {fs : List Frame}
    (hl : ∀ (f : JFrame) (acts : List Action), f.method = m → f.locked = none → f.entered = [] → (doReturn e (T.setTop f) acts (some (.int z))).1 = T.setFrames fs) : Steps p.tables e below (T.setTop (mkF m pc Ls (.int z :: rest))) (T.setFrames fs) := by
  have hm' : T.vm.method? m = some meth := X.method'
  have hn : narrow .int (.int z) = .int z := rfl
  show Steps p.tables e below (T.setTop { method := m, pc := pc, locals := Ls, stack := _ :: rest, locked := none }) _
  jvm_step X.here [X.here.top, hx, hd, hm', hret, hn]
  first | (intro acts; rw [hl _ acts rfl rfl rfl]) | rw [hl _ _ rfl rfl rfl]
  exact Steps.refl _
/-- the return of a reference, null or not -/
theorem own_retR (X : Stand p l e R s m args below meth c T locs cells slots) (hx : p.tables.exec = Jvm.exec) {pc : Nat} {Ls : Array Slot} {w : Value} {ty : FieldType} {rest : List Value} (hret : meth.sig.returnType = some ty) (ht : ty.isReference = true) (hw : w.isRef = true) (hd : decode c.code pc = .ok (.areturn, 1)) {fs : List Frame}
    (hl : ∀ (f : JFrame) (acts : List Action), f.method = m → f.locked = none → f.entered = [] → (doReturn e (T.setTop f) acts (some w)).1 = T.setFrames fs) : Steps p.tables e below (T.setTop (mkF m pc Ls (w :: rest))) (T.setFrames fs) := by
  have hm' : T.vm.method? m = some meth := X.method'
  show Steps p.tables e below (T.setTop { method := m, pc := pc, locals := Ls, stack := _ :: rest, locked := none }) _
  rcases ref_cases hw with rfl | ⟨z, rfl⟩
  all_goals
    jvm_step X.here [X.here.top, hx, hd, hm', hret, ht, Value.isRef]
    first | (intro acts; rw [hl _ acts rfl rfl rfl]) | rw [hl _ _ rfl rfl rfl]
    exact Steps.refl _
/-- what a walk owes from a state and a frame on -/
def own_G (p : Program) (e : Env) (below : List Frame) (s : State) (C N : Nat) (Q : Option Value → Heap → List Loc → Prop) (T : State) (g : JFrame) : Prop :=
  ∃ s₂ o, Steps p.tables e below (T.setTop g) s₂ ∧ s₂.status = .running ∧ Ended s₂ below o ∧ ∃ v L, o = .returned v ∧ Q v s₂.heap L ∧ FrameEnd s o s₂ L C N
variable {C N : Nat} {Q : Option Value → Heap → List Loc → Prop} {T' : State} {g g' : JFrame} {h : Heap}
theorem own_G.step (k : ∀ t, Steps p.tables e below (T'.setTop g') t → Steps p.tables e below (T.setTop g) t) (H : own_G p e below s C N Q T' g') : own_G p e below s C N Q T g := by
  obtain ⟨s₂, o, h1, r⟩ := H
  exact ⟨s₂, o, k _ h1, r⟩
theorem own_G.sp (pc : Nat) (Ls : Array Slot) (S : List Value) (k : ∀ t, Steps p.tables e below (T.setTop (mkF m pc Ls S)) t → Steps p.tables e below (T.setTop g) t) (H : own_G p e below s C N Q T (mkF m pc Ls S)) : own_G p e below s C N Q T g := own_G.step k H
theorem own_G.sk {pc0 : Nat} {Ls : Array Slot} {S0 : List Value} (pc : Nat) (S : List Value) (k : ∀ t, Steps p.tables e below (T.setTop (mkF m pc Ls S)) t → Steps p.tables e below (T.setTop (mkF m pc0 Ls S0)) t) (H : own_G p e below s C N Q T (mkF m pc Ls S)) : own_G p e below s C N Q T (mkF m pc0 Ls S0) := own_G.step k H
theorem own_G.si {Ls : Array Slot} (pc : Nat) (S : List Value) (k : ∀ t, Steps p.tables e below (T.setTop (mkF m pc Ls S)) t → Steps p.tables e below (T.setTop g) t) (H : own_G p e below s C N Q T (mkF m pc Ls S)) : own_G p e below s C N Q T g := own_G.step k H
theorem own_G.st {pc0 : Nat} {Ls : Array Slot} {S0 : List Value} (pc : Nat) (S : List Value) (k : ∀ t, Steps p.tables e below (T'.setTop (mkF m pc Ls S)) t → Steps p.tables e below (T.setTop (mkF m pc0 Ls S0)) t) (H : own_G p e below s C N Q T' (mkF m pc Ls S)) : own_G p e below s C N Q T (mkF m pc0 Ls S0) := own_G.step k H
theorem own_G.cast (q : g = g') (H : own_G p e below s C N Q T g') : own_G p e below s C N Q T g := by
  subst q
  exact H
theorem own_G.start (q : g = g') (H : own_G p e below s C N Q T g') : ∃ s₂ o, Steps p.tables e below (T.setTop g) s₂ ∧ s₂.status = .running ∧ Ended s₂ below o ∧ ∃ v L, o = .returned v ∧ Q v s₂.heap L ∧ FrameEnd s o s₂ L C N := by
  subst q
  exact H
theorem own_ret (X : Stand p l e R s m args below meth c T locs cells slots) (eT : T.heap = h) {v : Option Value} (hv : meth.sig.returnType = none → v = none) (hlk : meth.locks = false) (hq : Q v h locs) (hc : cells ≤ C) (hn : slots ≤ N)
    (st : ∀ fs, (∀ (f : JFrame) (acts : List Action), f.method = m → f.locked = none → f.entered = [] → (doReturn e (T.setTop f) acts v).1 = T.setFrames fs) → Steps p.tables e below (T.setTop g) (T.setFrames fs)) : own_G p e below s C N Q T g := by
  obtain ⟨fs, hr, hrun, hended, hW, hsame⟩ := X.leave (v := v) hv hlk
  subst eT
  exact ⟨_, _, st fs hr, hrun, hended, _, _, rfl, hq, ⟨_, rfl⟩, hW, hsame.mono hc hn⟩
/-- the same where String constants may be made on the way -/
def own_GW (p : Program) (e : Env) (below : List Frame) (s : State) (C N : Nat) (Q : Option Value → Heap → List Loc → Prop) (T : State) (g : JFrame) : Prop :=
  ∃ s₂ o, Steps p.tables e below (T.setTop g) s₂ ∧ s₂.status = .running ∧ Ended s₂ below o ∧ ∃ v L, o = .returned v ∧ Q v s₂.heap L ∧ ReturnedEndW s o s₂ L C N
theorem own_GW.step (k : ∀ t, Steps p.tables e below (T'.setTop g') t → Steps p.tables e below (T.setTop g) t) (H : own_GW p e below s C N Q T' g') : own_GW p e below s C N Q T g := by
  obtain ⟨s₂, o, h1, r⟩ := H
  exact ⟨s₂, o, k _ h1, r⟩
theorem own_GW.sp (pc : Nat) (Ls : Array Slot) (S : List Value) (k : ∀ t, Steps p.tables e below (T.setTop (mkF m pc Ls S)) t → Steps p.tables e below (T.setTop g) t) (H : own_GW p e below s C N Q T (mkF m pc Ls S)) : own_GW p e below s C N Q T g := own_GW.step k H
theorem own_GW.sk {pc0 : Nat} {Ls : Array Slot} {S0 : List Value} (pc : Nat) (S : List Value) (k : ∀ t, Steps p.tables e below (T.setTop (mkF m pc Ls S)) t → Steps p.tables e below (T.setTop (mkF m pc0 Ls S0)) t) (H : own_GW p e below s C N Q T (mkF m pc Ls S)) : own_GW p e below s C N Q T (mkF m pc0 Ls S0) := own_GW.step k H
theorem own_GW.si {Ls : Array Slot} (pc : Nat) (S : List Value) (k : ∀ t, Steps p.tables e below (T.setTop (mkF m pc Ls S)) t → Steps p.tables e below (T.setTop g) t) (H : own_GW p e below s C N Q T (mkF m pc Ls S)) : own_GW p e below s C N Q T g := own_GW.step k H
theorem own_GW.st {pc0 : Nat} {Ls : Array Slot} {S0 : List Value} (pc : Nat) (S : List Value) (k : ∀ t, Steps p.tables e below (T'.setTop (mkF m pc Ls S)) t → Steps p.tables e below (T.setTop (mkF m pc0 Ls S0)) t) (H : own_GW p e below s C N Q T' (mkF m pc Ls S)) : own_GW p e below s C N Q T (mkF m pc0 Ls S0) := own_GW.step k H
theorem own_GW.cast (q : g = g') (H : own_GW p e below s C N Q T g') : own_GW p e below s C N Q T g := by
  subst q
  exact H
theorem own_GW.start (q : g = g') (H : own_GW p e below s C N Q T g') : ∃ s₂ o, Steps p.tables e below (T.setTop g) s₂ ∧ s₂.status = .running ∧ Ended s₂ below o ∧ ∃ v L, o = .returned v ∧ Q v s₂.heap L ∧ ReturnedEndW s o s₂ L C N := by
  subst q
  exact H
theorem own_retW {vm₁ : Vm} {k : Nat} (X : Stand p l e R (s.setVm vm₁) m args below meth c T locs cells slots) (hS : s.Since vm₁ k) (eT : T.heap = h) (hk : k ≤ h.size) {v : Option Value} (hv : meth.sig.returnType = none → v = none) (hlk : meth.locks = false) (hq : Q v h locs) (hc : cells ≤ C) (hn : slots ≤ N)
    (st : ∀ fs, (∀ (f : JFrame) (acts : List Action), f.method = m → f.locked = none → f.entered = [] → (doReturn e (T.setTop f) acts v).1 = T.setFrames fs) → Steps p.tables e below (T.setTop g) (T.setFrames fs)) : own_GW p e below s C N Q T g := by
  obtain ⟨fs, hr, hrun, hended, hW, hsame⟩ := X.leave (v := v) hv hlk
  subst eT
  obtain ⟨a, b, d⟩ := hS.ended (U := T.setFrames fs) hW hk hsame
  exact ⟨_, _, st fs hr, hrun, hended, _, _, rfl, hq, ⟨_, rfl⟩, a, b, d.mono hc hn⟩
/-- the same where the held String constants are kept too -/
def own_GH (Z : State) (EL : List (String × Nat)) (p : Program) (e : Env) (below : List Frame) (s : State) (C N : Nat) (Q : Option Value → Heap → List Loc → Prop) (T : State) (g : JFrame) : Prop :=
  ∃ s₂ o, Steps p.tables e below (T.setTop g) s₂ ∧ s₂.status = .running ∧ Ended s₂ below o ∧ ∃ v L, o = .returned v ∧ Q v s₂.heap L ∧ CHr Z EL s.vm s.heap s₂.vm s₂.heap ∧ ReturnedEndW s o s₂ L C N
section HeldEnd
variable {Z : State} {EL : List (String × Nat)}
theorem own_GH.step (k : ∀ t, Steps p.tables e below (T'.setTop g') t → Steps p.tables e below (T.setTop g) t) (H : own_GH Z EL p e below s C N Q T' g') : own_GH Z EL p e below s C N Q T g := by
  obtain ⟨s₂, o, h1, r⟩ := H
  exact ⟨s₂, o, k _ h1, r⟩
theorem own_GH.sp (pc : Nat) (Ls : Array Slot) (S : List Value) (k : ∀ t, Steps p.tables e below (T.setTop (mkF m pc Ls S)) t → Steps p.tables e below (T.setTop g) t) (H : own_GH Z EL p e below s C N Q T (mkF m pc Ls S)) : own_GH Z EL p e below s C N Q T g := own_GH.step k H
theorem own_GH.sk {pc0 : Nat} {Ls : Array Slot} {S0 : List Value} (pc : Nat) (S : List Value) (k : ∀ t, Steps p.tables e below (T.setTop (mkF m pc Ls S)) t → Steps p.tables e below (T.setTop (mkF m pc0 Ls S0)) t) (H : own_GH Z EL p e below s C N Q T (mkF m pc Ls S)) : own_GH Z EL p e below s C N Q T (mkF m pc0 Ls S0) := own_GH.step k H
theorem own_GH.si {Ls : Array Slot} (pc : Nat) (S : List Value) (k : ∀ t, Steps p.tables e below (T.setTop (mkF m pc Ls S)) t → Steps p.tables e below (T.setTop g) t) (H : own_GH Z EL p e below s C N Q T (mkF m pc Ls S)) : own_GH Z EL p e below s C N Q T g := own_GH.step k H
theorem own_GH.st {pc0 : Nat} {Ls : Array Slot} {S0 : List Value} (pc : Nat) (S : List Value) (k : ∀ t, Steps p.tables e below (T'.setTop (mkF m pc Ls S)) t → Steps p.tables e below (T.setTop (mkF m pc0 Ls S0)) t) (H : own_GH Z EL p e below s C N Q T' (mkF m pc Ls S)) : own_GH Z EL p e below s C N Q T (mkF m pc0 Ls S0) := own_GH.step k H
theorem own_GH.cast (q : g = g') (H : own_GH Z EL p e below s C N Q T g') : own_GH Z EL p e below s C N Q T g := by
  subst q
  exact H
theorem own_GH.start (q : g = g') (H : own_GH Z EL p e below s C N Q T g') : ∃ s₂ o, Steps p.tables e below (T.setTop g) s₂ ∧ s₂.status = .running ∧ Ended s₂ below o ∧ ∃ v L, o = .returned v ∧ Q v s₂.heap L ∧ CHr Z EL s.vm s.heap s₂.vm s₂.heap ∧ ReturnedEndW s o s₂ L C N := by
  subst q
  exact H
theorem own_retH {vm₁ : Vm} {k : Nat} {h0 : Heap} {a0 : Array Value} (X : Stand p l e R (s.setVm vm₁) m args below meth c T locs cells slots) (hS : s.Since vm₁ k) (eT : T.heap = h) (hk : k ≤ h.size) (hZ : Z.Warmed39 vm₁) (ew : EW Z a0 EL) (hH : CHv Z EL vm₁ h) (hh : s.heap = h0) (hR : CHr Z EL s.vm h0 vm₁ h) {v : Option Value} (hv : meth.sig.returnType = none → v = none) (hlk : meth.locks = false) (hq : Q v h locs) (hc : cells ≤ C) (hn : slots ≤ N)
    (st : ∀ fs, (∀ (f : JFrame) (acts : List Action), f.method = m → f.locked = none → f.entered = [] → (doReturn e (T.setTop f) acts v).1 = T.setFrames fs) → Steps p.tables e below (T.setTop g) (T.setFrames fs)) : own_GH Z EL p e below s C N Q T g := by
  obtain ⟨fs, hr, hrun, hended, hW, hsame⟩ := X.leave (v := v) hv hlk
  subst eT
  subst hh
  have q := CHv.at X hZ ew hH
  obtain ⟨a, b, d⟩ := hS.ended (U := T.setFrames fs) hW hk hsame
  exact ⟨_, _, st fs hr, hrun, hended, _, _, rfl, hq, (show CHr Z EL s.vm s.heap (T.setFrames fs).vm (T.setFrames fs).heap from hR.trans q), ⟨_, rfl⟩, a, b, d.mono hc hn⟩
end HeldEnd
/-- an array of that length -/
def own_Len (Z : State) (h : Heap) (a : Addr) (n : Int32) : Prop := ∃ (c : Cell) (ty : FieldType), Arr Z h a c ty ∧ c.slots.size = n.toNatClampNeg ∧ ¬ n < 0
theorem own_Len.lt {Z : State} {a : Addr} {n : Int32} (F : own_Len Z h a n) : a < h.size := by
  obtain ⟨c, ty, A, -⟩ := F
  exact A.lt
theorem own_Len.ext {Z : State} {h' : Heap} {a : Addr} {n : Int32} (F : own_Len Z h a n) (E : Ext h h') : own_Len Z h' a n := by
  obtain ⟨c, ty, A, r⟩ := F
  exact ⟨c, ty, A.ext E, r⟩
theorem own_Len.other {Z : State} {h' : Heap} {a b : Addr} {n : Int32} {sl : Nat} {v : Value} (F : own_Len Z h b n) (W : Wr h h' a sl v) (q : b ≠ a) : own_Len Z h' b n := by
  obtain ⟨c, ty, A, r⟩ := F
  exact ⟨c, ty, A.other W q, r⟩
theorem own_Len.keep {Z : State} {h' : Heap} {a : Addr} {n : Int32} {ws : List Addr} (F : own_Len Z h a n) (K : Keep h h' ws) (q : a ∉ ws) : own_Len Z h' a n := by
  obtain ⟨c, ty, A, r⟩ := F
  exact ⟨c, ty, ⟨K.2.1 _ _ A.1 q, A.2⟩, r⟩
theorem own_Len.arv {Z : State} {a : Addr} {k : ClassId} {ty : FieldType} {n : Int32} {vs : List Value} {d : Value} (F : Arv Z h a k ty n vs d) : own_Len Z h a n := by
  obtain ⟨c, A, -, S, N, -⟩ := F
  exact ⟨c, ty, A, S, N⟩
theorem own_Len.start {Z : State} {a : Addr} {c : Cell} {ty : FieldType} {z : Int32} (A : Arr Z h a c ty) (q : c.slots.size < 2 ^ 31) (e : c.slots.size.toInt32 = z) (hz : ¬ z < 0) : own_Len Z h a z :=
  ⟨c, ty, A, by rw [← e]; simp only [Int32.toNatClampNeg, len_toInt q]; rfl, hz⟩
theorem own_join {α : Sort _} {P : α → Prop} {G : JFrame → Prop} {g : JFrame} (F : α → JFrame) (h1 : ∀ t, P t → G (F t)) (h2 : (∀ t, P t → G (F t)) → G g) : G g := h2 h1
/-- a byte of a byte[] -/
def own_At (Z : State) (h : Heap) (a : Addr) (i b : Int32) : Prop := ∃ c : Cell, Arr Z h a c .byte ∧ ¬ (i < 0 ∨ c.slots.size ≤ i.toNatClampNeg) ∧ c.slots[i.toNatClampNeg]? = some (.int b)
theorem own_At.arv {Z : State} {a : Addr} {k : ClassId} {n i b : Int32} {vs : List Value} {d : Value} (F : Arv Z h a k .byte n vs d) (h1 : ¬ i < 0 ∧ i < n) (h2 : vs.getD i.toNatClampNeg d = .int b) : own_At Z h a i b := by
  obtain ⟨c, A, -, S, N, H, -⟩ := F
  exact ⟨c, A, inb_of S h1, H.at (inb_of S h1) h2⟩
theorem own_cat {v : Value} (hv : v.isRef = true) : v.category = 1 := by rcases ref_cases hv with rfl | ⟨z, rfl⟩ <;> rfl
theorem own_fits {v : Value} {ty : FieldType} (hv : v.isRef = true) (ht : ty.isReference = true) : fits ty v = true := by
  rcases ref_cases hv with rfl | ⟨z, rfl⟩ <;> cases ty <;> first | rfl | (cases ht; done) | simp [fits]
theorem own_narrow {v : Value} {ty : FieldType} (hv : v.isRef = true) (ht : ty.isReference = true) : narrow ty v = v := by
  rcases ref_cases hv with rfl | ⟨z, rfl⟩ <;> cases ty <;> first | rfl | (cases ht; done)
theorem Old.le {Z : State} {n0 : Nat} (X : Old Z n0 h) : n0 ≤ h.size := X.1 ▸ X.2.1
end New
end Jvm.RoadKit
/- laws to paste: Road.backV, Road.eqW (cut by pick.py; bodies as the Statement names them) -/
namespace Jvm.Pilot.@@N@@
namespace StrChars
open Jvm Sem ClassFile Op Lib Jvm.Stand Jvm.Free.XT Jvm.Free.ALB Jvm.Free.JM Jvm.Free
open Jvm.Lib.Cold (StaticIs)
/-- a char array whose places are chars -/
def Ch (a : Addr) (A : Cell) (U : State) : Prop := Arr .char a A U ∧ Typed .char A
theorem Ch.mv {a : Addr} {A : Cell} {U U' : State} (h : Ch a A U) (hal : U.vm.Alike U'.vm) (hh : U'.heap = U.heap) : Ch a A U' := ⟨h.1.mv hal hh, h.2⟩
theorem Ch.keep {a : Addr} {A : Cell} {U U' : State} (h : Ch a A U) (hal : U.vm.Alike U'.vm) (hk : U'.heap[a]? = some A) : Ch a A U' := ⟨h.1.keep hal hk, h.2⟩
/-- what place i of a char[]'s cell holds -/
def cv (A : Cell) (i : Nat) : Int32 := match A.slots[i]? with | some (.int x) => x | _ => 0
theorem Ch.get {a : Addr} {A : Cell} {U : State} (h : Ch a A U) {i : Nat} (hi : i < A.slots.size) : A.slots[i]? = some (.int (cv A i)) := by
  have e := Array.getElem?_eq_getElem hi
  have f := h.2 i _ e
  unfold cv; rw [e]
  generalize A.slots[i] = v at f
  cases v <;> simp [fits] at f ⊢
/-- the byte that i2b leaves of a char -/
def lo8 (x : Int32) : Int32 := x.toInt8.toInt32
theorem fits_lo8 (y : Int32) : fits .byte (.int (lo8 y)) = true := by
  have h1 := y.toInt8.le_toInt
  have h2 := y.toInt8.toInt_lt
  simp only [lo8, fits, Bool.and_eq_true, decide_eq_true_eq, Int32.le_iff_toInt_le, Int8.toInt_toInt32, show (-128 : Int32).toInt = -128 from by decide, show (127 : Int32).toInt = 127 from by decide]
  omega
/-- A' is A but that each place j of lo .. hi - 1 holds f j -/
def Laid (A A' : Cell) (lo hi : Nat) (f : Nat → Value) : Prop := A'.cls = A.cls ∧ A'.vm = A.vm ∧ A'.slots.size = A.slots.size ∧ ∀ i, A'.slots[i]? = if lo ≤ i ∧ i < hi then some (f i) else A.slots[i]?
theorem Laid.zero (A : Cell) (lo : Nat) (f : Nat → Value) : Laid A A lo (lo + 0) f := ⟨rfl, rfl, rfl, fun i => by rw [if_neg (by omega)]⟩
theorem Laid.step {A Ak : Cell} {lo k : Nat} {f : Nat → Value} {v : Value} (h : Laid A Ak lo k f) (hlo : lo ≤ k) (hk : k < Ak.slots.size) (hv : v = f k) : Laid A (Ak.setSlot k v) lo (k + 1) f := by
  refine ⟨h.1, h.2.1, by simpa [Cell.setSlot] using h.2.2.1, fun i => ?_⟩
  by_cases e : k = i
  · subst e; rw [Cell.slots_setSlot_self v hk, if_pos (by omega), hv]
  · rw [Cell.slots_setSlot_ne v e, h.2.2.2 i]
    by_cases q : lo ≤ i ∧ i < k
    · rw [if_pos q, if_pos (by omega)]
    · rw [if_neg q, if_neg (by omega)]
def U16 : String := "java/lang/StringUTF16"
namespace Cmp5
def yN : MethodName := ⟨"java/lang/StringUTF16", "compress", "([CI[BII)I"⟩
abbrev yB : ByteArray := jdk_52_method_21_code
theorem d0 : decode yB 0 = .ok (.iconst 0, 1) := by decide +kernel
theorem d1 : decode yB 1 = .ok (.istore 5, 2) := by decide +kernel
theorem d3 : decode yB 3 = .ok (.iload 5, 2) := by decide +kernel
theorem d5 : decode yB 5 = .ok (.iload 4, 2) := by decide +kernel
theorem d7 : decode yB 7 = .ok (.if_icmp (.ge) 37, 3) := by decide +kernel
theorem d10 : decode yB 10 = .ok (.aload_n 0, 1) := by decide +kernel
theorem d11 : decode yB 11 = .ok (.iload_n 1, 1) := by decide +kernel
theorem d12 : decode yB 12 = .ok (.caload, 1) := by decide +kernel
theorem d13 : decode yB 13 = .ok (.istore 6, 2) := by decide +kernel
theorem d15 : decode yB 15 = .ok (.iload 6, 2) := by decide +kernel
theorem d17 : decode yB 17 = .ok (.sipush 255, 3) := by decide +kernel
theorem d20 : decode yB 20 = .ok (.if_icmp (.le) 6, 3) := by decide +kernel
theorem d26 : decode yB 26 = .ok (.aload_n 2, 1) := by decide +kernel
theorem d27 : decode yB 27 = .ok (.iload_n 3, 1) := by decide +kernel
theorem d28 : decode yB 28 = .ok (.iload 6, 2) := by decide +kernel
theorem d30 : decode yB 30 = .ok (.i2b, 1) := by decide +kernel
theorem d31 : decode yB 31 = .ok (.bastore, 1) := by decide +kernel
theorem d32 : decode yB 32 = .ok (.iinc 1 1, 3) := by decide +kernel
theorem d35 : decode yB 35 = .ok (.iinc 3 1, 3) := by decide +kernel
theorem d38 : decode yB 38 = .ok (.iinc 5 1, 3) := by decide +kernel
theorem d41 : decode yB 41 = .ok (.goto (-38), 3) := by decide +kernel
theorem d44 : decode yB 44 = .ok (.iload 4, 2) := by decide +kernel
theorem d46 : decode yB 46 = .ok (.ireturn, 1) := by decide +kernel
def site : List Cond := []
def tab : Cond := tabOf yN yB 7 (some .int) site
def P (b : Addr) (A : Cell) (d : Addr) (B : Cell) (o q len : Nat) (args : Array Value) (s : State) : Prop := args = #[.ref b, .int (Int32.ofNat o), .ref d, .int (Int32.ofNat q), .int (Int32.ofNat len)] ∧ Ch b A s ∧ Arr .byte d B s ∧ b ≠ d ∧ o + len ≤ A.slots.size ∧ q + len ≤ B.slots.size ∧ ∀ i, i < len → ¬ 255 < cv A (o + i)
def E (b : Addr) (A : Cell) (d : Addr) (B : Cell) (o q len : Nat) (r : Option Value) (s u : State) : Prop := r = some (.int (Int32.ofNat len)) ∧ ∃ B', Put d B' s u ∧ Laid B B' q (q + len) (fun j => Value.int (lo8 (cv A (o + (j - q)))))
/-- no char of the range above 255: len; the places written hold each char's low byte -/
theorem law (l : Launch) (b : Addr) (A : Cell) (d : Addr) (B : Cell) (o q len : Nat) : Law l yN 5 5 0 0 yB 7 (some .int) site (P b A d B o q len) (E b A d B o q len) (copyLocs d q len) 0 0 := by
  refine Law.of_walk (plainFor_of_name (by decide +kernel)) (by decide +kernel) (by decide +kernel) (by decide) (fun _ _ h => by rw [h.1]; rfl) (fun _ U U' hal hh h => ⟨h.1, h.2.1.mv hal hh, h.2.2.1.mv hal hh, h.2.2.2⟩) (fun r U U' V V' h1 hal h2 h => ⟨h.1, h.2.elim fun B' q => ⟨B', q.1.mv h1 h2, q.2⟩⟩) ?_
  intro p e s m args below meth c s₁ X0 hexec hbytes hml hret hlk hnm hown hh0 W hP
  obtain ⟨rfl, hA, hB, hne, l1, l2, hp⟩ := hP
  have c1 : Steps p.tables e below (s₁.setTop (entryFrame m #[.ref b, .int (Int32.ofNat o), .ref d, .int (Int32.ofNat q), .int (Int32.ofNat len)] 7)) (s₁.setTop (mkF m 0 #[.val (.ref b), .val (.int (Int32.ofNat o)), .val (.ref d), .val (.int (Int32.ofNat q)), .val (.int (Int32.ofNat len)), .unset, .unset] [])) := entry rfl
  have hA0 := hA.1.mv X0.warmed.alike hh0
  have hB0 := hB.mv X0.warmed.alike hh0
  have a31 := hA.1.2.2.2
  have c2 : Steps p.tables e below (s₁.setTop (entryFrame m #[.ref b, .int (Int32.ofNat o), .ref d, .int (Int32.ofNat q), .int (Int32.ofNat len)] 7)) (s₁.setTop (mkF m 3 #[.val (.ref b), .val (.int (Int32.ofNat o)), .val (.ref d), .val (.int (Int32.ofNat q)), .val (.int (Int32.ofNat len)), .val (.int 0), .unset] [])) := c1.trans (by
    refine iconstV X0.here hexec rfl 0 (hb hbytes d0) (by decide) ?_
    refine XS.istore X0.here hexec rfl (hb hbytes d1) rfl rfl ?_
    exact Steps.refl _)
  have loop : ∀ (r i : Nat), i + r = len → ∀ (z : Slot), (z = .unset ∨ ∃ w, z = .val w ∧ w.category = 1) → ∀ (Tl : State) (Bk : Cell), Stand p l e { frames := 0, locals := 0, cells := 0, slots := 0 } s m #[.ref b, .int (Int32.ofNat o), .ref d, .int (Int32.ofNat q), .int (Int32.ofNat len)] below meth c Tl ([] ++ copyLocs d q i) 0 0 → Put d Bk s₁ Tl → Laid B Bk q (q + i) (fun j => Value.int (lo8 (cv A (o + (j - q))))) →
      Steps p.tables e below (s₁.setTop (entryFrame m #[.ref b, .int (Int32.ofNat o), .ref d, .int (Int32.ofNat q), .int (Int32.ofNat len)] 7)) (Tl.setTop (mkF m 3 #[.val (.ref b), .val (.int (Int32.ofNat (o + i))), .val (.ref d), .val (.int (Int32.ofNat (q + i))), .val (.int (Int32.ofNat len)), .val (.int (Int32.ofNat i)), z] [])) → ∃ (T' : State) (B' : Cell) (z' : Slot), Stand p l e { frames := 0, locals := 0, cells := 0, slots := 0 } s m #[.ref b, .int (Int32.ofNat o), .ref d, .int (Int32.ofNat q), .int (Int32.ofNat len)] below meth c T' ([] ++ copyLocs d q len) 0 0 ∧ Put d B' s₁ T' ∧ Laid B B' q (q + len) (fun j => Value.int (lo8 (cv A (o + (j - q))))) ∧
      Steps p.tables e below (s₁.setTop (entryFrame m #[.ref b, .int (Int32.ofNat o), .ref d, .int (Int32.ofNat q), .int (Int32.ofNat len)] 7)) (T'.setTop (mkF m 3 #[.val (.ref b), .val (.int (Int32.ofNat (o + len))), .val (.ref d), .val (.int (Int32.ofNat (q + len))), .val (.int (Int32.ofNat len)), .val (.int (Int32.ofNat len)), z'] [])) := by
    intro r
    induction r with
    | zero =>
      intro i hi z hz Tl Bk Xl pl fl cl
      have hil : i = len := by omega
      rw [hil] at Xl fl cl
      exact ⟨Tl, Bk, z, Xl, pl, fl, cl⟩
    | succ r ih =>
      intro i hi z hz Tl Bk Xl pl fl cl
      have all := X0.warmed.alike.symm.trans Xl.warmed.alike
      have hAl := hA0.keep all (pl.other hne hA0.1)
      have hBk := hB0.like all pl.1 fl.1 fl.2.1 fl.2.2.1
      have hlt : q + i < Bk.slots.size := by rw [fl.2.2.1]; omega
      have c3 : Steps p.tables e below (s₁.setTop (entryFrame m #[.ref b, .int (Int32.ofNat o), .ref d, .int (Int32.ofNat q), .int (Int32.ofNat len)] 7)) (Tl.setTop (mkF m 12 #[.val (.ref b), .val (.int (Int32.ofNat (o + i))), .val (.ref d), .val (.int (Int32.ofNat (q + i))), .val (.int (Int32.ofNat len)), .val (.int (Int32.ofNat i)), z] [.int (Int32.ofNat (o + i)), .ref b])) := cl.trans (by
        refine XS.iload Xl.here hexec rfl (hb hbytes d3) rfl ?_
        refine XS.iload Xl.here hexec rfl (hb hbytes d5) rfl ?_
        refine XS.icmpNo Xl.here hexec rfl (hb hbytes d7) rfl (ii_ge_f (lt32 (by omega) (by omega))) ?_
        refine XS.aloadN Xl.here hexec rfl (hb hbytes d10) rfl rfl ?_
        refine XS.iloadN Xl.here hexec rfl (hb hbytes d11) rfl ?_
        exact Steps.refl _)
      have c4 : Steps p.tables e below (s₁.setTop (entryFrame m #[.ref b, .int (Int32.ofNat o), .ref d, .int (Int32.ofNat q), .int (Int32.ofNat len)] 7)) (Tl.setTop (mkF m 13 #[.val (.ref b), .val (.int (Int32.ofNat (o + i))), .val (.ref d), .val (.int (Int32.ofNat (q + i))), .val (.int (Int32.ofNat len)), .val (.int (Int32.ofNat i)), z] [.int (cv A (o + i))])) := c3.trans (by
        refine Xl.aget hexec hAl rfl (hA.get (i := o + i) (by omega)) rfl rfl (hb hbytes d12) ?_
        exact Steps.refl _)
      have c5 : Steps p.tables e below (s₁.setTop (entryFrame m #[.ref b, .int (Int32.ofNat o), .ref d, .int (Int32.ofNat q), .int (Int32.ofNat len)] 7)) (Tl.setTop (mkF m 15 #[.val (.ref b), .val (.int (Int32.ofNat (o + i))), .val (.ref d), .val (.int (Int32.ofNat (q + i))), .val (.int (Int32.ofNat len)), .val (.int (Int32.ofNat i)), .val (.int (cv A (o + i)))] [])) := c4.trans (by
        refine XS.istoreS Xl.here hexec rfl (hb hbytes d13) rfl rfl hz ?_
        exact Steps.refl _)
      have c6 : Steps p.tables e below (s₁.setTop (entryFrame m #[.ref b, .int (Int32.ofNat o), .ref d, .int (Int32.ofNat q), .int (Int32.ofNat len)] 7)) (Tl.setTop (mkF m 31 #[.val (.ref b), .val (.int (Int32.ofNat (o + i))), .val (.ref d), .val (.int (Int32.ofNat (q + i))), .val (.int (Int32.ofNat len)), .val (.int (Int32.ofNat i)), .val (.int (cv A (o + i)))] [.int (lo8 (cv A (o + i))), .int (Int32.ofNat (q + i)), .ref d])) := c5.trans (by
        refine XS.iload Xl.here hexec rfl (hb hbytes d15) rfl ?_
        refine sipushV Xl.here hexec rfl 255 (hb hbytes d17) (by decide) ?_
        refine XS.icmpYes Xl.here hexec rfl (pc0 := 20) rfl (hb hbytes d20) rfl (ii_le_t (hp i (by omega))) (by decide) rfl ?_
        refine XS.aloadN Xl.here hexec rfl (hb hbytes d26) rfl rfl ?_
        refine XS.iloadN Xl.here hexec rfl (hb hbytes d27) rfl ?_
        refine XS.iload Xl.here hexec rfl (hb hbytes d28) rfl ?_
        refine i2b Xl.here hexec rfl (hb hbytes d30) rfl ?_
        exact Steps.refl _)
      obtain ⟨T7, X7, p7, st7⟩ := Xl.aput hexec hBk rfl hlt rfl (fits_lo8 (cv A (o + i))) (g := (mkF m 31 #[.val (.ref b), .val (.int (Int32.ofNat (o + i))), .val (.ref d), .val (.int (Int32.ofNat (q + i))), .val (.int (Int32.ofNat len)), .val (.int (Int32.ofNat i)), .val (.int (cv A (o + i)))] [.int (lo8 (cv A (o + i))), .int (Int32.ofNat (q + i)), .ref d])) rfl (rest := []) rfl (hb hbytes d31)
      have c8 : Steps p.tables e below (s₁.setTop (entryFrame m #[.ref b, .int (Int32.ofNat o), .ref d, .int (Int32.ofNat q), .int (Int32.ofNat len)] 7)) (T7.setTop (mkF m 32 #[.val (.ref b), .val (.int (Int32.ofNat (o + i))), .val (.ref d), .val (.int (Int32.ofNat (q + i))), .val (.int (Int32.ofNat len)), .val (.int (Int32.ofNat i)), .val (.int (cv A (o + i)))] [])) := c6.trans (st7 _ (Steps.refl _))
      have c9 : Steps p.tables e below (s₁.setTop (entryFrame m #[.ref b, .int (Int32.ofNat o), .ref d, .int (Int32.ofNat q), .int (Int32.ofNat len)] 7)) (T7.setTop (mkF m 3 #[.val (.ref b), .val (.int (Int32.ofNat (o + i) + 1)), .val (.ref d), .val (.int (Int32.ofNat (q + i) + 1)), .val (.int (Int32.ofNat len)), .val (.int (Int32.ofNat i + 1)), .val (.int (cv A (o + i)))] [])) := c8.trans (by
        refine iincV X7.here hexec rfl 1 (hb hbytes d32) (by decide) rfl rfl ?_
        refine iincV X7.here hexec rfl 1 (hb hbytes d35) (by decide) rfl rfl ?_
        refine iincV X7.here hexec rfl 1 (hb hbytes d38) (by decide) rfl rfl ?_
        refine XS.goto X7.here hexec rfl (pc0 := 41) rfl (hb hbytes d41) (by decide) rfl ?_
        exact Steps.refl _)
      have c10 : Steps p.tables e below (s₁.setTop (entryFrame m #[.ref b, .int (Int32.ofNat o), .ref d, .int (Int32.ofNat q), .int (Int32.ofNat len)] 7)) (T7.setTop (mkF m 3 #[.val (.ref b), .val (.int (Int32.ofNat (o + (i + 1)))), .val (.ref d), .val (.int (Int32.ofNat (q + (i + 1)))), .val (.int (Int32.ofNat len)), .val (.int (Int32.ofNat (i + 1))), .val (.int (cv A (o + i)))] [])) := by
        have := c9
        rw [succ32, succ32, succ32] at this
        exact this
      exact ih (i + 1) (by omega) _ (Or.inr ⟨_, rfl, rfl⟩) T7 _ (by rw [copyLocs_step, ← List.append_assoc]; exact X7) (pl.trans p7) (fl.step (by omega) hlt (by simp)) c10
  obtain ⟨T9, B9, z9, X9, p9, f9, g9⟩ := loop len 0 (by omega) .unset (Or.inl rfl) s₁ B (by simpa [copyLocs] using X0) ⟨hB0.1, fun _ _ => rfl, rfl⟩ (Laid.zero _ _ _) c2
  have c11 : Steps p.tables e below (s₁.setTop (entryFrame m #[.ref b, .int (Int32.ofNat o), .ref d, .int (Int32.ofNat q), .int (Int32.ofNat len)] 7)) (T9.setTop (mkF m 46 #[.val (.ref b), .val (.int (Int32.ofNat (o + len))), .val (.ref d), .val (.int (Int32.ofNat (q + len))), .val (.int (Int32.ofNat len)), .val (.int (Int32.ofNat len)), z9] [.int (Int32.ofNat len)])) := g9.trans (by
    refine XS.iload X9.here hexec rfl (hb hbytes d3) rfl ?_
    refine XS.iload X9.here hexec rfl (hb hbytes d5) rfl ?_
    refine XS.icmpYes X9.here hexec rfl (pc0 := 7) rfl (hb hbytes d7) rfl (ii_ge_t (nlt32 (by omega) (Nat.le_refl _))) (by decide) rfl ?_
    refine XS.iload X9.here hexec rfl (hb hbytes d44) rfl ?_
    exact Steps.refl _)
  exact ⟨T9, some (.int (Int32.ofNat len)), _, _, _, X9, by simp, rfl, rfl, (fun h => by cases h), ⟨rfl, B9, p9.from hh0, f9⟩, fun fs hl => c11.trans (X9.ireturnOut hexec hret rfl (Or.inl rfl) (hb hbytes d46) hl)⟩
end Cmp5
namespace Cmp3
def yN : MethodName := ⟨"java/lang/StringUTF16", "compress", "([CII)[B"⟩
abbrev yB : ByteArray := jdk_52_method_16_code
theorem d0 : decode yB 0 = .ok (.iload_n 2, 1) := by decide +kernel
theorem d1 : decode yB 1 = .ok (.newarray .byte, 2) := by decide +kernel
theorem d3 : decode yB 3 = .ok (.astore_n 3, 1) := by decide +kernel
theorem d4 : decode yB 4 = .ok (.aload_n 0, 1) := by decide +kernel
theorem d5 : decode yB 5 = .ok (.iload_n 1, 1) := by decide +kernel
theorem d6 : decode yB 6 = .ok (.aload_n 3, 1) := by decide +kernel
theorem d7 : decode yB 7 = .ok (.iconst 0, 1) := by decide +kernel
theorem d8 : decode yB 8 = .ok (.iload_n 2, 1) := by decide +kernel
theorem d9 : decode yB 9 = .ok (.invokestatic 115, 3) := by decide +kernel
theorem d12 : decode yB 12 = .ok (.istore 4, 2) := by decide +kernel
theorem d14 : decode yB 14 = .ok (.iload 4, 2) := by decide +kernel
theorem d16 : decode yB 16 = .ok (.iload_n 2, 1) := by decide +kernel
theorem d17 : decode yB 17 = .ok (.if_icmp (.eq) 40, 3) := by decide +kernel
theorem d57 : decode yB 57 = .ok (.aload_n 3, 1) := by decide +kernel
theorem d58 : decode yB 58 = .ok (.areturn, 1) := by decide +kernel
def site : List Cond := [.arrayClass .byte, Cmp5.tab] ++ staticW U16 115 Cmp5.yN
def tab : Cond := tabOf yN yB 6 (some (.array .byte)) site
def P (b : Addr) (A : Cell) (o len : Nat) (args : Array Value) (s : State) : Prop := args = #[.ref b, .int (Int32.ofNat o), .int (Int32.ofNat len)] ∧ Ch b A s ∧ o + len ≤ A.slots.size ∧ len ≤ 536870912 ∧ ∀ i, i < len → ¬ 255 < cv A (o + i)
def E (b : Addr) (A : Cell) (o len : Nat) (r : Option Value) (s u : State) : Prop := NewArr .byte "[B" len (fun j => .int (lo8 (cv A (o + j)))) r s u ∧ u.heap.size = s.heap.size + 1
/-- no char of the range above 255: a new byte[] of their low bytes -/
theorem law (l : Launch) (b : Addr) (A : Cell) (o len : Nat) : Law l yN 3 3 1 18 yB 6 (some (.array .byte)) site (P b A o len) (E b A o len) [] 1 len := by
  refine Law.of_walk (plainFor_of_name (by decide +kernel)) (by decide +kernel) (by decide +kernel) (by decide) (fun _ _ h => by rw [h.1]; rfl) (fun _ U U' hal hh h => ⟨h.1, h.2.1.mv hal hh, h.2.2⟩) (fun r U U' V V' h1 hal h2 h => ⟨NewArr.mv r U U' V V' h1 hal h2 h.1, by rw [h1, h2]; exact h.2⟩) ?_
  intro p e s m args below meth c s₁ X0 hexec hbytes hml hret hlk hnm hown hh0 W hP
  obtain ⟨rfl, hA, l1, l2, hp⟩ := hP
  have a31 := hA.1.2.2.2
  have c1 : Steps p.tables e below (s₁.setTop (entryFrame m #[.ref b, .int (Int32.ofNat o), .int (Int32.ofNat len)] 6)) (s₁.setTop (mkF m 0 #[.val (.ref b), .val (.int (Int32.ofNat o)), .val (.int (Int32.ofNat len)), .unset, .unset, .unset] [])) := entry rfl
  have c2 : Steps p.tables e below (s₁.setTop (entryFrame m #[.ref b, .int (Int32.ofNat o), .int (Int32.ofNat len)] 6)) (s₁.setTop (mkF m 1 #[.val (.ref b), .val (.int (Int32.ofNat o)), .val (.int (Int32.ofNat len)), .unset, .unset, .unset] [.int (Int32.ofNat len)])) := c1.trans (by
    refine XS.iloadN X0.here hexec rfl (hb hbytes d0) rfl ?_
    exact Steps.refl _)
  obtain ⟨T3, B3, X3, ba3, bs3, bv3, bh3, bf3, st3⟩ := X0.anew hexec (atype := .byte) (wk W (.arrayClass .byte)) rfl (by show len * 1 ≤ _; omega) (by omega) (g := (mkF m 1 #[.val (.ref b), .val (.int (Int32.ofNat o)), .val (.int (Int32.ofNat len)), .unset, .unset, .unset] [.int (Int32.ofNat len)])) rfl (hb hbytes d1) (rest := []) rfl (Nat.le_refl _) (by show 0 + len ≤ len; omega)
  rw [hh0] at ba3 st3
  have kp3 : XT.Kept s T3 := (XT.Kept.of_eq hh0).push bh3
  have hA3 := hA.keep X3.warmed.alike (kp3 _ _ hA.1.1)
  have hne : b ≠ s.heap.size := hA.1.ne
  have c4 : Steps p.tables e below (s₁.setTop (entryFrame m #[.ref b, .int (Int32.ofNat o), .int (Int32.ofNat len)] 6)) (T3.setTop (mkF m 3 #[.val (.ref b), .val (.int (Int32.ofNat o)), .val (.int (Int32.ofNat len)), .unset, .unset, .unset] [.ref s.heap.size])) := c2.trans (st3 _ (Steps.refl _))
  have c5 : Steps p.tables e below (s₁.setTop (entryFrame m #[.ref b, .int (Int32.ofNat o), .int (Int32.ofNat len)] 6)) (T3.setTop (mkF m 9 #[.val (.ref b), .val (.int (Int32.ofNat o)), .val (.int (Int32.ofNat len)), .val (.ref s.heap.size), .unset, .unset] [.int (Int32.ofNat len), .int 0, .ref s.heap.size, .int (Int32.ofNat o), .ref b])) := c4.trans (by
    refine XS.astoreN X3.here hexec rfl (hb hbytes d3) rfl rfl rfl ?_
    refine XS.aloadN X3.here hexec rfl (hb hbytes d4) rfl rfl ?_
    refine XS.iloadN X3.here hexec rfl (hb hbytes d5) rfl ?_
    refine XS.aloadN X3.here hexec rfl (hb hbytes d6) rfl rfl ?_
    refine iconstV X3.here hexec rfl 0 (hb hbytes d7) (by decide) ?_
    refine XS.iloadN X3.here hexec rfl (hb hbytes d8) rfl ?_
    exact Steps.refl _)
  obtain ⟨v6, T6, X6, E6, g6⟩ := X3.callS hexec (Cmp5.law l b A s.heap.size B3 o 0 len) hown (wks W (staticW U16 115 Cmp5.yN)) (wk W Cmp5.tab) (W := 0) (Nat.le_of_ble_eq_true rfl) (Nat.le_of_ble_eq_true rfl) (Nat.le_refl _) (by show 0 + len + 0 ≤ len; omega) (g := (mkF m 9 #[.val (.ref b), .val (.int (Int32.ofNat o)), .val (.int (Int32.ofNat len)), .val (.ref s.heap.size), .unset, .unset] [.int (Int32.ofNat len), .int (Int32.ofNat 0), .ref s.heap.size, .int (Int32.ofNat o), .ref b])) rfl (by rw [hml]; rfl) c5 (argsL := [.ref b, .int (Int32.ofNat o), .ref s.heap.size, .int (Int32.ofNat 0), .int (Int32.ofNat len)]) (rest := []) rfl rfl (by show 2 * 0 + 0 ≤ _; decide) (hb hbytes d9) (⟨rfl, hA3, ba3, hne, l1, by rw [bs3]; simp, hp⟩)
  obtain ⟨rfl, B6, p6, f6⟩ := E6
  have c7 : Steps p.tables e below (s₁.setTop (entryFrame m #[.ref b, .int (Int32.ofNat o), .int (Int32.ofNat len)] 6)) (T6.setTop (mkF m 12 #[.val (.ref b), .val (.int (Int32.ofNat o)), .val (.int (Int32.ofNat len)), .val (.ref s.heap.size), .unset, .unset] [.int (Int32.ofNat len)])) := g6
  have c8 : Steps p.tables e below (s₁.setTop (entryFrame m #[.ref b, .int (Int32.ofNat o), .int (Int32.ofNat len)] 6)) (T6.setTop (mkF m 58 #[.val (.ref b), .val (.int (Int32.ofNat o)), .val (.int (Int32.ofNat len)), .val (.ref s.heap.size), .val (.int (Int32.ofNat len)), .unset] [.ref s.heap.size])) := c7.trans (by
    refine XS.istore X6.here hexec rfl (hb hbytes d12) rfl rfl ?_
    refine XS.iload X6.here hexec rfl (hb hbytes d14) rfl ?_
    refine XS.iloadN X6.here hexec rfl (hb hbytes d16) rfl ?_
    refine XS.icmpYes X6.here hexec rfl (pc0 := 17) rfl (hb hbytes d17) rfl (ii_eq_t rfl) (by decide) rfl ?_
    refine XS.aloadN X6.here hexec rfl (hb hbytes d57) rfl rfl ?_
    exact Steps.refl _)
  have X8 := X6.wide (L' := []) (cells' := 1) (slots' := len) (fun x hx hlt => by
    simp only [List.nil_append, copyLocs, List.mem_map, List.mem_range] at hx
    obtain ⟨i, -, rfl⟩ := hx
    exact absurd hlt (Nat.lt_irrefl _)) (Nat.le_refl _) (by omega)
  exact ⟨T6, some (.ref s.heap.size), _, _, _, X8, rfl, rfl, rfl, (fun h => by cases h), ⟨⟨rfl, B6, ba3.like (X3.warmed.alike.symm.trans X6.warmed.alike) p6.1 f6.1 f6.2.1 f6.2.2.1, f6.2.1.trans bv3, by rw [X6.warmed.alike.findClass, f6.1]; exact bf3, by rw [f6.2.2.1, bs3]; simp, fun j hj => by rw [f6.2.2.2 j, if_pos (by omega)]; rfl, kp3.put p6 (Nat.le_refl _)⟩, by rw [p6.2.2, bh3, hh0]; simp⟩, fun fs hl => c8.trans (X8.areturnOut hexec rfl hret rfl (hb hbytes d58) hl)⟩
end Cmp3
namespace CodL
def yN : MethodName := ⟨"java/lang/StringUTF16", "coderFromArrayLen", "([BI)B"⟩
abbrev yB : ByteArray := jdk_52_method_15_code
theorem d0 : decode yB 0 = .ok (.iload_n 1, 1) := by decide +kernel
theorem d1 : decode yB 1 = .ok (.aload_n 0, 1) := by decide +kernel
theorem d2 : decode yB 2 = .ok (.arraylength, 1) := by decide +kernel
theorem d3 : decode yB 3 = .ok (.isub, 1) := by decide +kernel
theorem d4 : decode yB 4 = .ok (.bipush 31, 2) := by decide +kernel
theorem d6 : decode yB 6 = .ok (.iushr, 1) := by decide +kernel
theorem d7 : decode yB 7 = .ok (.i2b, 1) := by decide +kernel
theorem d8 : decode yB 8 = .ok (.ireturn, 1) := by decide +kernel
def site : List Cond := []
def tab : Cond := tabOf yN yB 2 (some .byte) site
def P (d : Addr) (B : Cell) (args : Array Value) (s : State) : Prop := args = #[.ref d, .int (Int32.ofNat B.slots.size)] ∧ Arr .byte d B s
def E (r : Option Value) (s u : State) : Prop := XT.PureE (some (.int 0)) r s u
/-- an array as long as the number of chars: LATIN1 -/
theorem law (l : Launch) (d : Addr) (B : Cell) : Law l yN 2 2 0 0 yB 2 (some .byte) site (P d B) E [] 0 0 := by
  refine Law.of_walk (plainFor_of_name (by decide +kernel)) (by decide +kernel) (by decide +kernel) (by decide) (fun _ _ h => by rw [h.1]; rfl) (fun _ U U' hal hh h => ⟨h.1, h.2.mv hal hh⟩) (fun r U U' V V' h1 hal h2 h => XT.PureE.mv r U U' V V' h1 hal h2 h) ?_
  intro p e s m args below meth c s₁ X0 hexec hbytes hml hret hlk hnm hown hh0 W hP
  obtain ⟨rfl, hB⟩ := hP
  have hB0 := hB.mv X0.warmed.alike hh0
  have c1 : Steps p.tables e below (s₁.setTop (entryFrame m #[.ref d, .int (Int32.ofNat B.slots.size)] 2)) (s₁.setTop (mkF m 0 #[.val (.ref d), .val (.int (Int32.ofNat B.slots.size))] [])) := entry rfl
  have c2 : Steps p.tables e below (s₁.setTop (entryFrame m #[.ref d, .int (Int32.ofNat B.slots.size)] 2)) (s₁.setTop (mkF m 2 #[.val (.ref d), .val (.int (Int32.ofNat B.slots.size))] [.ref d, .int (Int32.ofNat B.slots.size)])) := c1.trans (by
    refine XS.iloadN X0.here hexec rfl (hb hbytes d0) rfl ?_
    refine XS.aloadN X0.here hexec rfl (hb hbytes d1) rfl rfl ?_
    exact Steps.refl _)
  have c3 : Steps p.tables e below (s₁.setTop (entryFrame m #[.ref d, .int (Int32.ofNat B.slots.size)] 2)) (s₁.setTop (mkF m 8 #[.val (.ref d), .val (.int (Int32.ofNat B.slots.size))] [.int (lo8 (ushr (Int32.ofNat B.slots.size - Int32.ofNat B.slots.size) 31))])) := c2.trans (by
    refine X0.alen hexec hB0 rfl rfl (hb hbytes d2) ?_
    refine XS.isub X0.here hexec rfl (hb hbytes d3) rfl ?_
    refine bipushV X0.here hexec rfl 31 (hb hbytes d4) (by decide) ?_
    refine iushr X0.here hexec rfl (hb hbytes d6) rfl ?_
    refine i2b X0.here hexec rfl (hb hbytes d7) rfl ?_
    exact Steps.refl _)
  have e0 : lo8 (ushr (Int32.ofNat B.slots.size - Int32.ofNat B.slots.size) 31) = 0 := by rw [Int32.sub_self]; decide
  rw [e0] at c3
  exact ⟨s₁, some (.int 0), _, _, _, X0, rfl, rfl, rfl, (fun h => by cases h), ⟨rfl, hh0⟩, fun fs hl => c3.trans (X0.ireturnOut hexec hret rfl (Or.inr (Or.inr (Or.inl rfl))) (hb hbytes d8) hl)⟩
end CodL
/-- the String at a is Latin-1 over a new byte[] (the heap's one new cell): the low bytes of the len chars of A from o on; every cell but a is kept -/
def Got (a : Addr) (D : Cell) (fV fC : Field) (A : Cell) (o len : Nat) (r : Option Value) (s u : State) : Prop := r = none ∧ ∃ D' V : Cell, Blank "java/lang/String" a D' u ∧ Same D D' [fV.slot, fC.slot] ∧ D'.slots[fV.slot]? = some (.ref s.heap.size) ∧ D'.slots[fC.slot]? = some (.int 0) ∧ Arr .byte s.heap.size V u ∧ V.vm = .none ∧ u.vm.findClass "[B" = some V.cls ∧ V.slots.size = len ∧ (∀ j, j < len → V.slots[j]? = some (.int (lo8 (cv A (o + j))))) ∧ (∀ (y : Addr) (c : Cell), y ≠ a → s.heap[y]? = some c → u.heap[y]? = some c) ∧ u.heap.size = s.heap.size + 1
theorem Got.mv {a : Addr} {D A : Cell} {fV fC : Field} {o len : Nat} : ∀ r (U U' V V' : State), U'.heap = U.heap → V.vm.Alike V'.vm → V'.heap = V.heap → Got a D fV fC A o len r U V → Got a D fV fC A o len r U' V' :=
  fun r U U' V V' h1 hal h2 ⟨e0, D', X, a1, a2, a3, a4, a5, a6, a7, a8, a9, a10, a11⟩ => ⟨e0, D', X, a1.mv hal h2, a2, by rw [h1]; exact a3, a4, by rw [h1]; exact a5.mv hal h2, a6, by rw [hal.findClass]; exact a7, a8, a9, by rw [h1, h2]; exact a10, by rw [h1, h2]; exact a11⟩
namespace New4
def yN : MethodName := ⟨"java/lang/String", "<init>", "([CIILjava/lang/Void;)V"⟩
abbrev yB : ByteArray := jdk_42_method_149_code
theorem d0 : decode yB 0 = .ok (.aload_n 0, 1) := by decide +kernel
theorem d1 : decode yB 1 = .ok (.invokespecial 1, 3) := by decide +kernel
theorem d4 : decode yB 4 = .ok (.iload_n 3, 1) := by decide +kernel
theorem d5 : decode yB 5 = .ok (.ifCond (.ne) 22, 3) := by decide +kernel
theorem d27 : decode yB 27 = .ok (.getstatic 38, 3) := by decide +kernel
theorem d30 : decode yB 30 = .ok (.ifCond (.eq) 28, 3) := by decide +kernel
theorem d33 : decode yB 33 = .ok (.aload_n 1, 1) := by decide +kernel
theorem d34 : decode yB 34 = .ok (.iload_n 2, 1) := by decide +kernel
theorem d35 : decode yB 35 = .ok (.iload_n 3, 1) := by decide +kernel
theorem d36 : decode yB 36 = .ok (.invokestatic 177, 3) := by decide +kernel
theorem d39 : decode yB 39 = .ok (.astore 5, 2) := by decide +kernel
theorem d41 : decode yB 41 = .ok (.aload_n 0, 1) := by decide +kernel
theorem d42 : decode yB 42 = .ok (.aload 5, 2) := by decide +kernel
theorem d44 : decode yB 44 = .ok (.iload_n 3, 1) := by decide +kernel
theorem d45 : decode yB 45 = .ok (.invokestatic 47, 3) := by decide +kernel
theorem d48 : decode yB 48 = .ok (.putfield 15, 3) := by decide +kernel
theorem d51 : decode yB 51 = .ok (.aload_n 0, 1) := by decide +kernel
theorem d52 : decode yB 52 = .ok (.aload 5, 2) := by decide +kernel
theorem d54 : decode yB 54 = .ok (.putfield 9, 3) := by decide +kernel
theorem d57 : decode yB 57 = .ok (.return_, 1) := by decide +kernel
def site : List Cond := [.fieldLink "java/lang/String" 38 "java/lang/String" "COMPACT_STRINGS" "Z", Cmp3.tab, CodL.tab, .laysFinal "java/lang/String" "java/lang/String" "value" "[B", .fieldLink "java/lang/String" 9 "java/lang/String" "value" "[B", .laysFinal "java/lang/String" "java/lang/String" "coder" "B", .fieldLink "java/lang/String" 15 "java/lang/String" "coder" "B"] ++ objW "java/lang/String" 1 ++ staticW "java/lang/String" 177 Cmp3.yN ++ staticW "java/lang/String" 47 CodL.yN
def tab : Cond := tabOf yN yB 6 none site
def P (a : Addr) (D : Cell) (fV fC : Field) (b : Addr) (A : Cell) (z : Int32) (o len : Nat) (args : Array Value) (s : State) : Prop := args = #[.ref a, .ref b, .int (Int32.ofNat o), .int (Int32.ofNat len), .null] ∧ Blank "java/lang/String" a D s ∧ Found "java/lang/String" "value" "[B" fV s ∧ Found "java/lang/String" "coder" "B" fC s ∧ Ch b A s ∧ StaticIs s "java/lang/String" "COMPACT_STRINGS" "Z" (.int z) ∧ ¬ z = 0 ∧ 0 < len ∧ o + len ≤ A.slots.size ∧ len ≤ 536870912 ∧ ∀ i, i < len → ¬ 255 < cv A (o + i)
def E (a : Addr) (D : Cell) (fV fC : Field) (A : Cell) (o len : Nat) (r : Option Value) (s u : State) : Prop := Got a D fV fC A o len r s u
/-- len > 0, no char of the range above 255: a Latin-1 String of their low bytes -/
theorem law (l : Launch) (a : Addr) (D : Cell) (fV fC : Field) (b : Addr) (A : Cell) (z : Int32) (o len : Nat) : Law l yN 5 4 2 35 yB 6 none site (P a D fV fC b A z o len) (E a D fV fC A o len) [⟨a, fC.slot⟩, ⟨a, fV.slot⟩] 1 len := by
  refine Law.of_walk (plainFor_of_name (by decide +kernel)) (by decide +kernel) (by decide +kernel) (by decide) (fun _ _ h => by rw [h.1]; rfl) (fun _ U U' hal hh h => ⟨h.1, h.2.1.mv hal hh, h.2.2.1.al hal, h.2.2.2.1.al hal, h.2.2.2.2.1.mv hal hh, h.2.2.2.2.2.1.there hal hh, h.2.2.2.2.2.2⟩) (fun r U U' V V' h1 hal h2 h => Got.mv r U U' V V' h1 hal h2 h) ?_
  intro p e s m args below meth c s₁ X0 hexec hbytes hml hret hlk hnm hown hh0 W hP
  obtain ⟨rfl, hB, f1, f2, hA, s1, hz, l0, l1, l2, hp⟩ := hP
  have a31 := hA.1.2.2.2
  have c1 : Steps p.tables e below (s₁.setTop (entryFrame m #[.ref a, .ref b, .int (Int32.ofNat o), .int (Int32.ofNat len), .null] 6)) (s₁.setTop (mkF m 0 #[.val (.ref a), .val (.ref b), .val (.int (Int32.ofNat o)), .val (.int (Int32.ofNat len)), .val .null, .unset] [])) := entry rfl
  have c2 : Steps p.tables e below (s₁.setTop (entryFrame m #[.ref a, .ref b, .int (Int32.ofNat o), .int (Int32.ofNat len), .null] 6)) (s₁.setTop (mkF m 1 #[.val (.ref a), .val (.ref b), .val (.int (Int32.ofNat o)), .val (.int (Int32.ofNat len)), .val .null, .unset] [.ref a])) := c1.trans (by
    refine XS.aloadN X0.here hexec rfl (hb hbytes d0) rfl rfl ?_
    exact Steps.refl _)
  obtain ⟨T3, X3, q3, st3⟩ := X0.oinit hexec hown (wks W (objW "java/lang/String" 1)) (g := (mkF m 1 #[.val (.ref a), .val (.ref b), .val (.int (Int32.ofNat o)), .val (.int (Int32.ofNat len)), .val .null, .unset] [.ref a])) rfl (by rw [hml]; rfl) (rest := []) rfl (hb hbytes d1) (W := 0) (by show 2 * 0 + 0 ≤ _; decide) (Nat.le_of_ble_eq_true rfl) (Nat.le_of_ble_eq_true rfl)
  have hh3 := q3.trans hh0
  have c4 : Steps p.tables e below (s₁.setTop (entryFrame m #[.ref a, .ref b, .int (Int32.ofNat o), .int (Int32.ofNat len), .null] 6)) (T3.setTop (mkF m 27 #[.val (.ref a), .val (.ref b), .val (.int (Int32.ofNat o)), .val (.int (Int32.ofNat len)), .val .null, .unset] [])) := (c2.trans (st3 _ (Steps.refl _))).trans (by
    refine XS.iloadN X3.here hexec rfl (hb hbytes d4) rfl ?_
    refine XS.ifYes X3.here hexec rfl (pc0 := 5) rfl (hb hbytes d5) rfl (i0_ne_t (nz32 (by omega) l0)) (by decide) rfl ?_
    exact Steps.refl _)
  obtain ⟨T5, X5, q5, st5⟩ := X3.sget hexec hown (wk W (.fieldLink "java/lang/String" 38 "java/lang/String" "COMPACT_STRINGS" "Z")) s1 (fun _ _ h => by rw [hh3]; exact h) (g := (mkF m 27 #[.val (.ref a), .val (.ref b), .val (.int (Int32.ofNat o)), .val (.int (Int32.ofNat len)), .val .null, .unset] [])) rfl (hb hbytes d27)
  have hh5 := q5.trans hh3
  have c6 : Steps p.tables e below (s₁.setTop (entryFrame m #[.ref a, .ref b, .int (Int32.ofNat o), .int (Int32.ofNat len), .null] 6)) (T5.setTop (mkF m 30 #[.val (.ref a), .val (.ref b), .val (.int (Int32.ofNat o)), .val (.int (Int32.ofNat len)), .val .null, .unset] [.int z])) := c4.trans (st5 _ (Steps.refl _))
  have c7 : Steps p.tables e below (s₁.setTop (entryFrame m #[.ref a, .ref b, .int (Int32.ofNat o), .int (Int32.ofNat len), .null] 6)) (T5.setTop (mkF m 36 #[.val (.ref a), .val (.ref b), .val (.int (Int32.ofNat o)), .val (.int (Int32.ofNat len)), .val .null, .unset] [.int (Int32.ofNat len), .int (Int32.ofNat o), .ref b])) := c6.trans (by
    refine XS.ifNo X5.here hexec rfl (hb hbytes d30) rfl (i0_eq_f hz) ?_
    refine XS.aloadN X5.here hexec rfl (hb hbytes d33) rfl rfl ?_
    refine XS.iloadN X5.here hexec rfl (hb hbytes d34) rfl ?_
    refine XS.iloadN X5.here hexec rfl (hb hbytes d35) rfl ?_
    exact Steps.refl _)
  obtain ⟨v8, T8, X8, E8, g8⟩ := X5.callS hexec (Cmp3.law l b A o len) hown (wks W (staticW "java/lang/String" 177 Cmp3.yN)) (wk W Cmp3.tab) (W := 0) (Nat.le_of_ble_eq_true rfl) (Nat.le_of_ble_eq_true rfl) (Nat.le_refl _) (by show 0 + len ≤ len; omega) (g := (mkF m 36 #[.val (.ref a), .val (.ref b), .val (.int (Int32.ofNat o)), .val (.int (Int32.ofNat len)), .val .null, .unset] [.int (Int32.ofNat len), .int (Int32.ofNat o), .ref b])) rfl (by rw [hml]; rfl) c7 (argsL := [.ref b, .int (Int32.ofNat o), .int (Int32.ofNat len)]) (rest := []) rfl rfl (by show 2 * 0 + 0 ≤ _; decide) (hb hbytes d36) (⟨rfl, hA.mv X5.warmed.alike hh5, l1, l2, hp⟩)
  obtain ⟨e8, z8⟩ := E8
  obtain ⟨rfl, N, n1, n2, n3, n4, n5, n6⟩ := NewArr.mv _ T5 s _ _ hh5.symm (Vm.Alike.refl _) rfl e8
  rw [hh5] at z8
  have hB1 := hB.keep X8.warmed.alike (n6 _ _ hB.1)
  have hne : s.heap.size ≠ a := (Nat.ne_of_lt (Array.getElem?_eq_some_iff.mp hB.1).1).symm
  have c9 : Steps p.tables e below (s₁.setTop (entryFrame m #[.ref a, .ref b, .int (Int32.ofNat o), .int (Int32.ofNat len), .null] 6)) (T8.setTop (mkF m 39 #[.val (.ref a), .val (.ref b), .val (.int (Int32.ofNat o)), .val (.int (Int32.ofNat len)), .val .null, .unset] [.ref s.heap.size])) := g8
  have c10 : Steps p.tables e below (s₁.setTop (entryFrame m #[.ref a, .ref b, .int (Int32.ofNat o), .int (Int32.ofNat len), .null] 6)) (T8.setTop (mkF m 45 #[.val (.ref a), .val (.ref b), .val (.int (Int32.ofNat o)), .val (.int (Int32.ofNat len)), .val .null, .val (.ref s.heap.size)] [.int (Int32.ofNat N.slots.size), .ref s.heap.size, .ref a])) := by
    have hc : Steps p.tables e below (s₁.setTop (entryFrame m #[.ref a, .ref b, .int (Int32.ofNat o), .int (Int32.ofNat len), .null] 6)) (T8.setTop (mkF m 45 #[.val (.ref a), .val (.ref b), .val (.int (Int32.ofNat o)), .val (.int (Int32.ofNat len)), .val .null, .val (.ref s.heap.size)] [.int (Int32.ofNat len), .ref s.heap.size, .ref a])) := c9.trans (by
      refine XS.astore X8.here hexec rfl (hb hbytes d39) rfl rfl rfl ?_
      refine XS.aloadN X8.here hexec rfl (hb hbytes d41) rfl rfl ?_
      refine XS.aload X8.here hexec rfl (hb hbytes d42) rfl rfl ?_
      refine XS.iloadN X8.here hexec rfl (hb hbytes d44) rfl ?_
      exact Steps.refl _)
    rw [n4]; exact hc
  obtain ⟨v11, T11, X11, E11, g11⟩ := X8.callS hexec (CodL.law l s.heap.size N) hown (wks W (staticW "java/lang/String" 47 CodL.yN)) (wk W CodL.tab) (W := 1) (Nat.le_of_ble_eq_true rfl) (Nat.le_of_ble_eq_true rfl) (Nat.le_refl _) (by show 0 + len + 0 ≤ len; omega) (g := (mkF m 45 #[.val (.ref a), .val (.ref b), .val (.int (Int32.ofNat o)), .val (.int (Int32.ofNat len)), .val .null, .val (.ref s.heap.size)] [.int (Int32.ofNat N.slots.size), .ref s.heap.size, .ref a])) rfl (by rw [hml]; rfl) c10 (argsL := [.ref s.heap.size, .int (Int32.ofNat N.slots.size)]) (rest := [.ref a]) rfl rfl (by show 2 * 0 + (1 + 0) ≤ _; decide) (hb hbytes d45) (⟨rfl, n1⟩)
  obtain ⟨rfl, q11⟩ := E11
  have hB11 := hB1.mv (X8.warmed.alike.symm.trans X11.warmed.alike) q11
  have c12 : Steps p.tables e below (s₁.setTop (entryFrame m #[.ref a, .ref b, .int (Int32.ofNat o), .int (Int32.ofNat len), .null] 6)) (T11.setTop (mkF m 48 #[.val (.ref a), .val (.ref b), .val (.int (Int32.ofNat o)), .val (.int (Int32.ofNat len)), .val .null, .val (.ref s.heap.size)] [.int 0, .ref a])) := g11
  obtain ⟨T13, X13, p13, bl13, sl13, st13⟩ := X11.finit hexec hown (wk W (.fieldLink "java/lang/String" 15 "java/lang/String" "coder" "B")) (Or.inr ⟨_, (wk W (.laysFinal "java/lang/String" "java/lang/String" "coder" "B"))⟩) (Or.inl ⟨rfl, hnm⟩) f2 (Or.inl rfl) hB11 (t := .byte) (by decide +kernel) rfl (g := (mkF m 48 #[.val (.ref a), .val (.ref b), .val (.int (Int32.ofNat o)), .val (.int (Int32.ofNat len)), .val .null, .val (.ref s.heap.size)] [.int 0, .ref a])) rfl (rest := []) rfl (hb hbytes d48)
  have c14 : Steps p.tables e below (s₁.setTop (entryFrame m #[.ref a, .ref b, .int (Int32.ofNat o), .int (Int32.ofNat len), .null] 6)) (T13.setTop (mkF m 54 #[.val (.ref a), .val (.ref b), .val (.int (Int32.ofNat o)), .val (.int (Int32.ofNat len)), .val .null, .val (.ref s.heap.size)] [.ref s.heap.size, .ref a])) := (c12.trans (st13 _ (Steps.refl _))).trans (by
    refine XS.aloadN X13.here hexec rfl (hb hbytes d51) rfl rfl ?_
    refine XS.aload X13.here hexec rfl (hb hbytes d52) rfl rfl ?_
    exact Steps.refl _)
  obtain ⟨T15, X15, p15, bl15, sl15, st15⟩ := X13.finit hexec hown (wk W (.fieldLink "java/lang/String" 9 "java/lang/String" "value" "[B")) (Or.inr ⟨_, (wk W (.laysFinal "java/lang/String" "java/lang/String" "value" "[B"))⟩) (Or.inl ⟨rfl, hnm⟩) f1 (Or.inl rfl) bl13 (t := (.array .byte)) (by decide +kernel) rfl (g := (mkF m 54 #[.val (.ref a), .val (.ref b), .val (.int (Int32.ofNat o)), .val (.int (Int32.ofNat len)), .val .null, .val (.ref s.heap.size)] [.ref s.heap.size, .ref a])) rfl (rest := []) rfl (hb hbytes d54)
  have c16 : Steps p.tables e below (s₁.setTop (entryFrame m #[.ref a, .ref b, .int (Int32.ofNat o), .int (Int32.ofNat len), .null] 6)) (T15.setTop (mkF m 57 #[.val (.ref a), .val (.ref b), .val (.int (Int32.ofNat o)), .val (.int (Int32.ofNat len)), .val .null, .val (.ref s.heap.size)] [])) := c14.trans (st15 _ (Steps.refl _))
  have ap := apart (Or.inr ⟨_, (wk W (.laysFinal "java/lang/String" "java/lang/String" "value" "[B"))⟩) (Or.inr ⟨_, (wk W (.laysFinal "java/lang/String" "java/lang/String" "coder" "B"))⟩) f1 f2 (t₁ := .array .byte) (t₂ := .byte) (by decide +kernel) (by decide +kernel) (by decide)
  have al := X8.warmed.alike.symm.trans X15.warmed.alike
  have n7 : T11.heap[s.heap.size]? = some N := by rw [q11]; exact n1.1
  exact ⟨T15, none, _, _, _, X15, by simp, rfl, by omega, (fun _ => rfl), ⟨rfl, _, N, bl15, ((Same.refl D _).set _ (by simp)).set _ (by simp), sl15, (Cell.slots_setSlot_ne _ ap).trans sl13, n1.keep al (p15.other hne (p13.other hne n7)), n2, by rw [al.findClass]; exact n3, n4, n5, fun y c h1 h2 => p15.other h1 (p13.other h1 (by rw [q11]; exact n6 y c h2)), by rw [p15.2.2, p13.2.2, q11]; exact z8⟩, fun fs hl => c16.trans (X15.returnOut hexec hret (hb hbytes d57) hl)⟩
end New4
namespace New1
def yN : MethodName := ⟨"java/lang/String", "<init>", "([C)V"⟩
abbrev yB : ByteArray := jdk_42_method_3_code
theorem d0 : decode yB 0 = .ok (.aload_n 0, 1) := by decide +kernel
theorem d1 : decode yB 1 = .ok (.aload_n 1, 1) := by decide +kernel
theorem d2 : decode yB 2 = .ok (.iconst 0, 1) := by decide +kernel
theorem d3 : decode yB 3 = .ok (.aload_n 1, 1) := by decide +kernel
theorem d4 : decode yB 4 = .ok (.arraylength, 1) := by decide +kernel
theorem d5 : decode yB 5 = .ok (.aconst_null, 1) := by decide +kernel
theorem d6 : decode yB 6 = .ok (.invokespecial 27, 3) := by decide +kernel
theorem d9 : decode yB 9 = .ok (.return_, 1) := by decide +kernel
def site : List Cond := [New4.tab] ++ initW "java/lang/String" 27 New4.yN
def tab : Cond := tabOf yN yB 2 none site
def P (a : Addr) (D : Cell) (fV fC : Field) (b : Addr) (A : Cell) (z : Int32) (args : Array Value) (s : State) : Prop := args = #[.ref a, .ref b] ∧ Blank "java/lang/String" a D s ∧ Found "java/lang/String" "value" "[B" fV s ∧ Found "java/lang/String" "coder" "B" fC s ∧ Ch b A s ∧ StaticIs s "java/lang/String" "COMPACT_STRINGS" "Z" (.int z) ∧ ¬ z = 0 ∧ 0 < A.slots.size ∧ A.slots.size ≤ 536870912 ∧ ∀ i, i < A.slots.size → ¬ 255 < cv A i
def E (a : Addr) (D : Cell) (fV fC : Field) (A : Cell) (r : Option Value) (s u : State) : Prop := Got a D fV fC A 0 A.slots.size r s u
/-- new String(chars), not empty, no char above 255: a Latin-1 String of their low bytes -/
theorem law (l : Launch) (a : Addr) (D : Cell) (fV fC : Field) (b : Addr) (A : Cell) (z : Int32) : Law l yN 2 1 3 52 yB 2 none site (P a D fV fC b A z) (E a D fV fC A) [⟨a, fC.slot⟩, ⟨a, fV.slot⟩] 1 A.slots.size := by
  refine Law.of_walk (plainFor_of_name (by decide +kernel)) (by decide +kernel) (by decide +kernel) (by decide) (fun _ _ h => by rw [h.1]; rfl) (fun _ U U' hal hh h => ⟨h.1, h.2.1.mv hal hh, h.2.2.1.al hal, h.2.2.2.1.al hal, h.2.2.2.2.1.mv hal hh, h.2.2.2.2.2.1.there hal hh, h.2.2.2.2.2.2⟩) (fun r U U' V V' h1 hal h2 h => Got.mv r U U' V V' h1 hal h2 h) ?_
  intro p e s m args below meth c s₁ X0 hexec hbytes hml hret hlk hnm hown hh0 W hP
  obtain ⟨rfl, hB, f1, f2, hA, s1, hz, l0, l2, hp⟩ := hP
  have c1 : Steps p.tables e below (s₁.setTop (entryFrame m #[.ref a, .ref b] 2)) (s₁.setTop (mkF m 0 #[.val (.ref a), .val (.ref b)] [])) := entry rfl
  have c2 : Steps p.tables e below (s₁.setTop (entryFrame m #[.ref a, .ref b] 2)) (s₁.setTop (mkF m 6 #[.val (.ref a), .val (.ref b)] [.null, .int (Int32.ofNat A.slots.size), .int 0, .ref b, .ref a])) := c1.trans (by
    refine XS.aloadN X0.here hexec rfl (hb hbytes d0) rfl rfl ?_
    refine XS.aloadN X0.here hexec rfl (hb hbytes d1) rfl rfl ?_
    refine iconstV X0.here hexec rfl 0 (hb hbytes d2) (by decide) ?_
    refine XS.aloadN X0.here hexec rfl (hb hbytes d3) rfl rfl ?_
    refine X0.alen hexec (hA.1.mv X0.warmed.alike hh0) rfl rfl (hb hbytes d4) ?_
    refine XS.aconstNull X0.here hexec rfl (hb hbytes d5) ?_
    exact Steps.refl _)
  obtain ⟨v3, T3, X3, E3, g3⟩ := X0.callN hexec (New4.law l a D fV fC b A z 0 A.slots.size) rfl hown (wks W (initW "java/lang/String" 27 New4.yN)) (W New4.tab (by simp only [site, List.mem_cons, List.mem_append, true_or, or_true])) (W := 0) (Nat.le_of_ble_eq_true rfl) (Nat.le_of_ble_eq_true rfl) (Nat.le_refl _) (by show 0 + A.slots.size ≤ A.slots.size; omega) (g := (mkF m 6 #[.val (.ref a), .val (.ref b)] [.null, .int (Int32.ofNat A.slots.size), .int (Int32.ofNat 0), .ref b, .ref a])) rfl (by rw [hml]; rfl) c2 (argsL := [.ref b, .int (Int32.ofNat 0), .int (Int32.ofNat A.slots.size), .null]) (rest := []) rfl rfl (by show 2 * 0 + 0 ≤ _; decide) (hb hbytes d6) (⟨rfl, hB.mv X0.warmed.alike hh0, f1.al X0.warmed.alike, f2.al X0.warmed.alike, hA.mv X0.warmed.alike hh0, s1.there X0.warmed.alike hh0, hz, l0, by omega, l2, fun i hi => by rw [Nat.zero_add]; exact hp i hi⟩)
  have e0 := Got.mv _ s₁ s _ _ hh0.symm (Vm.Alike.refl _) rfl E3
  obtain rfl := e0.1
  have c4 : Steps p.tables e below (s₁.setTop (entryFrame m #[.ref a, .ref b] 2)) (T3.setTop (mkF m 9 #[.val (.ref a), .val (.ref b)] [])) := g3
  exact ⟨T3, none, _, _, _, X3, by simp, rfl, by omega, (fun _ => rfl), e0, fun fs hl => c4.trans (X3.returnOut hexec hret (hb hbytes d9) hl)⟩
theorem pays {l : Launch} {R : Room} {p : Program} {e : Env} {below : List Frame} {s : State} {sargs : Array Value} {len W : Nat} (a : Addr) (D : Cell) (fV fC : Field) (b : Addr) (A : Cell) (z : Int32) (htab : tab.before sargs s = true) (hfr : 4 ≤ R.frames) (hlo : W + 65 ≤ R.locals) :
    Back l R p e below s sargs yN len W (fun A₁ a₁ => A₁.cells + 1 ≤ R.cells ∧ A₁.slots + A.slots.size ≤ R.slots ∧ P a D fV fC b A z a₁ A₁.U) (fun A₁ _ v₁ B₁ => E a D fV fC A v₁ A₁.U B₁.U ∧ B₁.locs = A₁.locs ++ [⟨a, fC.slot⟩, ⟨a, fV.slot⟩] ∧ B₁.cells = A₁.cells + 1 ∧ B₁.slots = A₁.slots + A.slots.size) :=
  (law l a D fV fC b A z).pays htab hfr (by omega)
end New1
/-- the byte, read back as charAt reads it, is the char -/
theorem lo8_mask {x : Int32} (h0 : ¬ x < 0) (h1 : ¬ 255 < x) : lo8 x &&& 255 = x := by
  have t : ∀ k : Fin 256, lo8 (Int32.ofNat k.val) &&& 255 = Int32.ofNat k.val := by decide +kernel
  rw [Int32.lt_iff_toInt_lt] at h0 h1
  have e0 : (0 : Int32).toInt = 0 := rfl
  have e1 : (255 : Int32).toInt = 255 := rfl
  obtain ⟨k, hk⟩ : ∃ k : Nat, x.toInt = k := ⟨x.toInt.toNat, by omega⟩
  have hx : x = Int32.ofNat k := Int32.toInt_inj.mp (by rw [hk, Int32.toInt_ofNat_small (by omega)])
  rw [hx]
  exact t ⟨k, by omega⟩
end StrChars
namespace StrChars.Road
open Jvm Sem ClassFile Op Lib Jvm.Stand Jvm.Free Jvm.Free.XT
open Jvm.Lib.Cold (StaticIs)
abbrev ST : String := "java/lang/String"
/-- every table word that New1's law asks, flat -/
abbrev words : List Jvm.Cond := [.code New1.yN New1.yB 2 none, .initialized ST, .methodLink ST 27 New4.yN, .instanceMethod New4.yN,
  .code New4.yN New4.yB 6 none, .fieldLink ST 38 ST "COMPACT_STRINGS" "Z", .laysFinal ST ST "value" "[B", .fieldLink ST 9 ST "value" "[B", .laysFinal ST ST "coder" "B", .fieldLink ST 15 ST "coder" "B",
  .methodLink ST 1 Lib.objectInit, .instanceMethod Lib.objectInit, .code Lib.objectInit ⟨#[0xb1]⟩ 1 none, .methodLink ST 177 Cmp3.yN, .static Cmp3.yN, .methodLink ST 47 CodL.yN, .static CodL.yN,
  .code Cmp3.yN Cmp3.yB 6 (some (.array .byte)), .initialized U16, .arrayClass .byte, .methodLink U16 115 Cmp5.yN, .static Cmp5.yN, .code Cmp5.yN Cmp5.yB 7 (some .int), .code CodL.yN CodL.yB 2 (some .byte)]
theorem tab_of {a : Array Value} {s : State} (h : ∀ w ∈ words, w.before a s = true) : New1.tab.before a s = true := by
  have h5 : Cmp5.tab.before a s = true := unparts (wk h (.code Cmp5.yN Cmp5.yB 7 (some .int))) (wks h (.initialized Cmp5.yN.cls :: Cmp5.site))
  have hc : CodL.tab.before a s = true := unparts (wk h (.code CodL.yN CodL.yB 2 (some .byte))) (wks h (.initialized CodL.yN.cls :: CodL.site))
  have q5 : ∀ w ∈ Cmp5.tab :: words, w.before a s = true := fun w hw => (List.mem_cons.mp hw).elim (fun e => e ▸ h5) (h w)
  have h3 : Cmp3.tab.before a s = true := unparts (wk q5 (.code Cmp3.yN Cmp3.yB 6 (some (.array .byte)))) (wks q5 (.initialized Cmp3.yN.cls :: Cmp3.site))
  have q3 : ∀ w ∈ Cmp3.tab :: CodL.tab :: words, w.before a s = true := fun w hw => (List.mem_cons.mp hw).elim (fun e => e ▸ h3) fun hw => (List.mem_cons.mp hw).elim (fun e => e ▸ hc) (h w)
  have h4 : New4.tab.before a s = true := unparts (wk q3 (.code New4.yN New4.yB 6 none)) (wks q3 (.initialized New4.yN.cls :: New4.site))
  have q4 : ∀ w ∈ New4.tab :: words, w.before a s = true := fun w hw => (List.mem_cons.mp hw).elim (fun e => e ▸ h4) (h w)
  exact unparts (wk q4 (.code New1.yN New1.yB 2 none)) (wks q4 (.initialized New1.yN.cls :: New1.site))
/-- the words ride from the start Z to the walk's own state -/
theorem moved {Z s : State} {a0 args : Array Value} (hZ : Z.Warmed39 s.vm) (hw : ∀ d ∈ words, d.before a0 Z = true) : ∀ d ∈ words, d.before args s = true := fun d hd => by
  have q := hw d hd
  have t : ∀ d ∈ words, d = .arrayClass .byte ∨ (d.onTables && d.keepsFace) = true := by decide +kernel
  rcases t d hd with rfl | t
  · exact RoadKit.mvA hZ q
  · exact RoadKit.mv hZ q t
/-- WHAT COMES BACK, over the tables of the start Z: h the heap at the call, h' behind it -/
def Q (Z : State) (x : Addr) (A : Cell) (h : Heap) (v : Option Value) (h' : Heap) (L : List Loc) : Prop := v = none ∧ (∀ y ∈ L, y.base = x) ∧ RoadKit.Keep h h' [x] ∧ h'.size = h.size + 1 ∧ RoadKit.Exa Z h' x ST ∧ RoadKit.Fld Z h' x ST "value" "[B" (.ref h.size) ∧ RoadKit.Fld Z h' x ST "coder" "B" (.int 0) ∧
  (∃ V : Cell, RoadKit.Arr Z h' h.size V .byte ∧ V.vm = .none ∧ Z.vm.findClass "[B" = some V.cls ∧ V.slots.size = A.slots.size ∧ ∀ j, j < A.slots.size → V.slots[j]? = some (.int (lo8 (cv A j)))) ∧
  ∀ (O n d : String) (w : Value), RoadKit.Fld Z h x O n d w → RoadKit.slotOf Z O n d ≠ RoadKit.slotOf Z ST "value" "[B" → RoadKit.slotOf Z O n d ≠ RoadKit.slotOf Z ST "coder" "B" → RoadKit.Fld Z h' x O n d w
/-- **new String(chars) AT A CALL, IN THE ROAD'S FORM**: for specialBack behind newO: x the fresh String, b the char[] with the cell A -/
theorem back {p : Program} {l : Launch} {e : Env} {R : Room} {s : State} {args : Array Value} {below : List Frame} {len W : Nat} {Z : State} {a0 : Array Value} {h : Heap} (hZ : Z.Warmed39 s.vm) (hw : ∀ d ∈ words, d.before a0 Z = true) {kI : Nat} (wi : (Jvm.Cond.instantiable ST kI).before a0 Z = true)
    {x b : Addr} {A : Cell} {z : Int32} {v0 c0 : Value} (E : RoadKit.Exa Z h x ST) (V : RoadKit.Fld Z h x ST "value" "[B" v0) (C : RoadKit.Fld Z h x ST "coder" "B" c0) (K : RoadKit.Arr Z h b A .char) (hty : Typed .char A) (S : RoadKit.Sta Z h ST "COMPACT_STRINGS" "Z" (.int z)) (hz : ¬ z = 0)
    (l0 : 0 < A.slots.size) (l2 : A.slots.size ≤ 536870912) (hp : ∀ i, i < A.slots.size → ¬ 255 < cv A i) (hfr : 4 ≤ R.frames) (hlo : W + 65 ≤ R.locals) :
    Back l R p e below s args New1.yN len W (fun P a => a = #[.ref x, .ref b] ∧ P.U.heap = h ∧ P.cells + 1 ≤ R.cells ∧ P.slots + A.slots.size ≤ R.slots)
      (fun P _ v B => ∃ L, Q Z x A h v B.U.heap L ∧ B.locs = P.locs ++ L ∧ B.cells = P.cells + 1 ∧ B.slots = P.slots + A.slots.size) := by
  intro m meth c P g ig mk a X hg hsize hdg hW hn hp'
  obtain ⟨rfl, rfl, r1, r2⟩ := hp'
  have al : Z.vm.Alike P.U.vm := hZ.alike.trans X.warmed.alike
  obtain ⟨D, cfV, kV, iV, fV, hD, gV, stV, knV, obV, asV, slV⟩ := id V
  obtain ⟨D', cfC, kC, iC, fC, hD', gC, stC, -, -, asC, slC⟩ := id C
  cases hD.symm.trans hD'
  obtain ⟨D2, kD, e1, e2, e3, e4, e5⟩ := id E
  cases hD.symm.trans e1
  obtain ⟨c2, k2, i1, i2, i3, -⟩ := Cond.instantiable_spec wi
  cases e2.symm.trans i1
  cases e3.symm.trans i2
  obtain ⟨kU, u1, u2⟩ := al.2.2 _ _ e3
  have hB : Blank ST x D P.U := ⟨hD, ⟨knV, fun q hq => by rw [hq] at obV; cases obV⟩, by rw [al.findClass]; exact e2, kU, u1, by rw [u2]; exact i3, by rw [u2]; exact e5 i3⟩
  have F1 : Found ST "value" "[B" fV P.U := ⟨SBG.found_only al ⟨cfV, kV, iV, gV⟩, stV⟩
  have F2 : Found ST "coder" "B" fC P.U := ⟨SBG.found_only al ⟨cfC, kC, iC, gC⟩, stC⟩
  have hA : Ch b A P.U := ⟨⟨K.1, State.isArrayOf_alike al K.2.1, K.2.2, by omega⟩, hty⟩
  have hS : StaticIs P.U ST "COMPACT_STRINGS" "Z" (.int z) := by
    obtain ⟨cfS, iS, kS, fS, st, cS, t1, t2, t3, t4, t5, t6, t7⟩ := S
    exact StaticIs.there (s := { Z with heap := P.U.heap }) ⟨cfS, iS, kS, fS, st, cS, t1, t2, t3, t4, t5, (fun q => by rw [q] at t6; cases t6), t7⟩ al rfl
  obtain ⟨v, B, X', ⟨⟨hv, E', V', q1, q2, q3, q4, q5, q6, q7, q8, q9, q10, q11⟩, hl, hc, hs⟩, st⟩ := New1.pays x D fV fC b A z (tab_of (moved hZ hw)) hfr hlo m meth c P g ig mk _ X hg hsize hdg hW hn ⟨r1, r2, rfl, hB, F1, F2, hA, hS, hz, l0, l2, hp⟩
  have al' : Z.vm.Alike B.U.vm := hZ.alike.trans X'.warmed.alike
  have hsz : E'.slots.size = D.slots.size := by
    obtain ⟨-, -, -, kB, w1, w2, w3⟩ := q1
    obtain ⟨kB', y1, y2⟩ := al'.2.2 _ _ e3
    rw [q2.2.1] at w1
    cases w1.symm.trans y1
    rw [w3, e5 i3, y2]
  refine ⟨v, B, X', ⟨_, ⟨hv, ?_, ⟨by omega, fun y cy hy hn' => q10 y cy (by simpa using hn') hy, fun y cy hy => ?_⟩, q11, ⟨E', _, q1.1, by rw [q2.2.1]; exact e2, by rw [q2.2.1]; exact e3, by rw [q2.1]; exact obV, fun _ => by rw [hsz]; exact e5 i3⟩,
    ⟨E', cfV, kV, iV, fV, q1.1, gV, stV, by rw [q2.1]; exact knV, by rw [q2.1]; exact obV, by rw [q2.2.1]; exact asV, q3⟩, ⟨E', cfC, kC, iC, fC, q1.1, gC, stC, by rw [q2.1]; exact knV, by rw [q2.1]; exact obV, by rw [q2.2.1]; exact asC, q4⟩,
    ⟨V', ⟨q5.1, State.isArrayOf_alike al'.symm q5.2.1, q5.2.2.1⟩, q6, by rw [← al'.findClass]; exact q7, q8, fun j hj => by have := q9 j hj; rwa [Nat.zero_add] at this⟩, fun O n d w F n1 n2 => ?_⟩, hl, hc, hs⟩, st⟩
  · intro y hy
    simp only [List.mem_cons, List.not_mem_nil, or_false] at hy
    rcases hy with rfl | rfl <;> rfl
  · by_cases q : y = x
    · subst q
      cases hD.symm.trans hy
      exact ⟨E', q1.1, q2.2.1, q2.1, hsz⟩
    · exact ⟨cy, q10 y cy q hy, rfl, rfl, rfl⟩
  · obtain ⟨D3, cf, k, i, f, g1, g2, g3, g4, g5, g6, g7⟩ := F
    cases hD.symm.trans g1
    simp only [RoadKit.slotOf, g2, gV, gC, Option.map_some, Option.getD_some] at n1 n2
    exact ⟨E', cf, k, i, f, q1.1, g2, g3, by rw [q2.1]; exact g4, by rw [q2.1]; exact g5, by rw [q2.2.1]; exact g6, by rw [q2.2.2 f.slot (by simp [n1, n2])]; exact g7⟩
end StrChars.Road
namespace StrChars.Road
open Jvm Sem ClassFile Op Lib Jvm.Stand Jvm.Free Jvm.Free.XT
/-- WHAT COMES BACK, the byte[] as a list of values -/
def QA (Z : State) (x : Addr) (zn : Int32) (cs : List Int32) (h : Heap) (v : Option Value) (h' : Heap) (L : List Loc) : Prop := v = none ∧ (∀ y ∈ L, y.base = x) ∧ RoadKit.Keep h h' [x] ∧ h'.size = h.size + 1 ∧ RoadKit.Exa Z h' x ST ∧ RoadKit.Fld Z h' x ST "value" "[B" (.ref h.size) ∧ RoadKit.Fld Z h' x ST "coder" "B" (.int 0) ∧
  (∃ kb, Z.vm.findClass "[B" = some kb ∧ RoadKit.Arv Z h' h.size kb .byte zn (cs.map fun c => .int (lo8 c)) (.int 0)) ∧
  ∀ (O n d : String) (w : Value), RoadKit.Fld Z h x O n d w → RoadKit.slotOf Z O n d ≠ RoadKit.slotOf Z ST "value" "[B" → RoadKit.slotOf Z O n d ≠ RoadKit.slotOf Z ST "coder" "B" → RoadKit.Fld Z h' x O n d w
/-- **new String(chars) AT A CALL, THE ARRAYS AS LISTS**: the char[] at b holds cs, not empty, no char above 255 -/
theorem backArv {p : Program} {l : Launch} {e : Env} {R : Room} {s : State} {args : Array Value} {below : List Frame} {len W : Nat} {Z : State} {a0 : Array Value} {h : Heap} (hZ : Z.Warmed39 s.vm) (hw : ∀ d ∈ words, d.before a0 Z = true) {kI : Nat} (wi : (Jvm.Cond.instantiable ST kI).before a0 Z = true)
    {x b : Addr} {k : ClassId} {zn z : Int32} {cs : List Int32} {dv v0 c0 : Value} (E : RoadKit.Exa Z h x ST) (V : RoadKit.Fld Z h x ST "value" "[B" v0) (C : RoadKit.Fld Z h x ST "coder" "B" c0) (K : RoadKit.Arv Z h b k .char zn (cs.map Value.int) dv) (S : RoadKit.Sta Z h ST "COMPACT_STRINGS" "Z" (.int z)) (hz : ¬ z = 0)
    (hlen : zn.toNatClampNeg = cs.length) (h0 : 0 < cs.length) (hbig : cs.length ≤ 536870912) (hall : ∀ c ∈ cs, ¬ 255 < c) (hfr : 4 ≤ R.frames) (hlo : W + 65 ≤ R.locals) :
    Back l R p e below s args New1.yN len W (fun P a => a = #[.ref x, .ref b] ∧ P.U.heap = h ∧ P.cells + 1 ≤ R.cells ∧ P.slots + cs.length ≤ R.slots)
      (fun P _ v B => ∃ L, QA Z x zn cs h v B.U.heap L ∧ B.locs = P.locs ++ L ∧ B.cells = P.cells + 1 ∧ B.slots = P.slots + cs.length) := by
  obtain ⟨A, K1, K2, K3, K4, K5, K6⟩ := K
  have e : A.slots.size = cs.length := K3.trans hlen
  have hat : ∀ (i : Nat) (hi : i < cs.length), A.slots[i]? = some (.int cs[i]) := fun i hi => by rw [K5 i (by omega)]; simp [List.getD_eq_getElem?_getD, hi]
  have hcv : ∀ (i : Nat) (hi : i < cs.length), cv A i = cs[i] := fun i hi => by unfold cv; rw [hat i hi]
  have hty : Typed .char A := fun i v hv => by
    have hi : i < A.slots.size := (Array.getElem?_eq_some_iff.mp hv).1
    have q := K5 i hi
    rw [hv] at q
    rw [Option.some.inj q]
    exact K6 i hi
  refine Back.mono (back hZ hw wi E V C K1 hty S hz (by omega) (by omega) (fun i hi => by rw [hcv i (by omega)]; exact hall _ (List.getElem_mem _)) hfr hlo) (fun P a hp => ⟨hp.1, hp.2.1, hp.2.2.1, by rw [e]; exact hp.2.2.2⟩) (fun P a v B hp hq => ?_)
  obtain ⟨L, ⟨q1, q2, q3, q4, q5, q6, q7, ⟨V', v1, v2, v3, v4, v5⟩, q9⟩, hl, hc, hs⟩ := hq
  refine ⟨L, ⟨q1, q2, q3, q4, q5, q6, q7, ⟨V'.cls, v3, V', v1, rfl, by rw [v4, e, hlen], K4, fun i hi => ?_, fun i hi => ?_⟩, q9⟩, hl, hc, by rw [hs, e]⟩
  · have hi' : i < cs.length := by omega
    rw [v5 i (by omega), hcv i hi']; simp [List.getD_eq_getElem?_getD, hi']
  · have hi' : i < cs.length := by omega
    simp only [List.getD_eq_getElem?_getD, List.getElem?_map, List.getElem?_eq_getElem hi', Option.map_some, Option.getD_some]
    exact fits_lo8 _
end StrChars.Road
namespace StrChars.Road
open Jvm Sem ClassFile Op Lib Jvm.Stand Jvm.Free Jvm.Free.XT
/-- WHAT COMES BACK, in the writer's own shape -/
def QV (Z : State) (x : Addr) (N : Int32) (bs : List Int32) (h : Heap) (n0 : Nat) (v : Option Value) (h' : Heap) (L : List Loc) : Prop := v = none ∧ RoadKit.Fr n0 L ∧ RoadKit.Keep h h' [x] ∧ RoadKit.Exa Z h' x ST ∧ RoadKit.Fld Z h' x ST "coder" "B" (.int 0) ∧
  ∃ (t : Addr) (kb : ClassId), n0 ≤ t ∧ h.size ≤ t ∧ ¬ t = x ∧ RoadKit.Fld Z h' x ST "value" "[B" (.ref t) ∧ RoadKit.Arv Z h' t kb .byte N (bs.map Value.int) (.int 0)
/-- **new String(chars) AT A CALL, FOR THE WRITER**: a char[] of n known ints, each 0 to 255 -/
theorem backV {p : Program} {l : Launch} {e : Env} {R : Room} {s : State} {args : Array Value} {below : List Frame} {len W : Nat} {Z : State} {a0 : Array Value} {h : Heap} (hZ : Z.Warmed39 s.vm) (hw : ∀ d ∈ words, d.before a0 Z = true) {kI : Nat} (wi : (Jvm.Cond.instantiable ST kI).before a0 Z = true)
    {x b : Addr} {kC : ClassId} {cs bs : List Int32} {d v0 c0 : Value} {z N : Int32} {n n0 : Nat} (hx0 : n0 ≤ x) (hh0 : n0 ≤ h.size) (E : RoadKit.Exa Z h x ST) (V : RoadKit.Fld Z h x ST "value" "[B" v0) (C : RoadKit.Fld Z h x ST "coder" "B" c0) (K : RoadKit.Arv Z h b kC .char N (cs.map Value.int) d) (S : RoadKit.Sta Z h ST "COMPACT_STRINGS" "Z" (.int z)) (hz : ¬ z = 0)
    (hn : cs.length = n) (hN : N = Int32.ofNat n) (l0 : 0 < n) (l2 : n ≤ 4000) (hp : ∀ c ∈ cs, ¬ c < 0 ∧ ¬ (255 : Int32) < c) (hb : bs = cs.map (fun c => c.toInt8.toInt32)) (hfr : 4 ≤ R.frames) (hlo : W + 65 ≤ R.locals) :
    Back l R p e below s args (⟨"java/lang/String", "<init>", "([C)V"⟩ : MethodName) len W (fun P a => a = #[.ref x, .ref b] ∧ P.U.heap = h ∧ P.cells + 1 ≤ R.cells ∧ P.slots + n ≤ R.slots)
      (fun P _ v B => ∃ L, QV Z x N bs h n0 v B.U.heap L ∧ B.locs = P.locs ++ L ∧ B.cells = P.cells + 1 ∧ B.slots = P.slots + n) := by
  subst hn hN hb
  refine Back.mono (backArv hZ hw wi E V C K S hz (n32 (by omega)) l0 (by omega) (fun c hc => (hp c hc).2) hfr hlo) (fun P a hp => hp) (fun P a v B hp hq => ?_)
  obtain ⟨L, ⟨q1, q2, q3, q4, q5, q6, q7, ⟨kb, v1, v2⟩, q9⟩, hl, hc, hs⟩ := hq
  exact ⟨L, ⟨q1, fun y hy => by rw [q2 y hy]; exact hx0, q3, q5, q7, h.size, kb, hh0, Nat.le_refl _, Nat.ne_of_gt E.lt, q6, by rw [List.map_map]; exact v2⟩, hl, hc, hs⟩
end StrChars.Road
namespace StrChars
open Jvm Sem ClassFile Op Lib Jvm.Stand Jvm.Free.XT Jvm.Free.ALB Jvm.Free.JM Jvm.Free
open Jvm.Lib.Cold (StaticIs)
def hi8 (x : Int32) : Int32 := lo8 (x >>> ((8 : Int32) &&& 31))
/-- what StringUTF16.getChar makes of two bytes -/
def pairCh (u v : Int32) : Int32 := (((u &&& 255) <<< ((0 : Int32) &&& 31)) ||| ((v &&& 255) <<< ((8 : Int32) &&& 31))).toUInt32.toUInt16.toUInt32.toInt32
theorem lo8_and (x : Int32) : (lo8 x &&& 255).toBitVec.toNat = x.toBitVec.toNat % 256 := by
  have h : (lo8 x).toBitVec = (x.toBitVec.signExtend 8).signExtend 32 := by rw [lo8, Int8.toBitVec_toInt32, Int32.toBitVec_toInt8]
  rw [Int32.toBitVec_and, BitVec.toNat_and, h]
  have e : ((x.toBitVec.signExtend 8).signExtend 32).toNat % 256 = x.toBitVec.toNat % 256 := by
    rw [BitVec.toNat_signExtend]
    have hlt := x.toBitVec.isLt
    simp only [BitVec.toNat_setWidth, BitVec.toNat_signExtend]
    split <;> split <;> omega
  rw [← e]
  exact Nat.and_two_pow_sub_one_eq_mod _ 8
theorem pair_says {c : Int32} (h0 : ¬ c < 0) (h1 : ¬ 65535 < c) : pairCh (lo8 c) (hi8 c) = c := by
  rw [Int32.lt_iff_toInt_lt] at h0 h1
  have e0 : (0 : Int32).toInt = 0 := rfl
  have e1 : (65535 : Int32).toInt = 65535 := rfl
  have hc : c.toInt = c.toBitVec.toNat := by
    have := c.toBitVec.isLt
    have e : c.toInt = c.toBitVec.toInt := rfl
    rw [e] at h0 h1
    rw [e]
    rw [BitVec.toInt_eq_toNat_cond] at h0 h1 ⊢
    split at h0 <;> split <;> omega
  have hn : c.toBitVec.toNat < 65536 := by omega
  have a1 := lo8_and c
  have a2 : (hi8 c &&& 255).toBitVec.toNat = c.toBitVec.toNat / 256 := by
    rw [hi8, lo8_and]
    have e : ((8 : Int32) &&& 31) = 8 := by decide
    rw [e, Int32.toBitVec_shiftRight]
    have e2 : ((8 : Int32).toBitVec.smod 32) = 8#32 := by decide
    rw [e2, BitVec.sshiftRight_eq', BitVec.toNat_sshiftRight_of_msb_false (by rw [BitVec.msb_eq_false_iff_two_mul_lt]; omega)]
    show c.toBitVec.toNat >>> 8 % 256 = _
    rw [Nat.shiftRight_eq_div_pow]
    omega
  unfold pairCh
  apply Int32.toBitVec_inj.mp
  apply BitVec.eq_of_toNat_eq
  have f0 : ((0 : Int32) &&& 31) = 0 := by decide
  have f8 : ((8 : Int32) &&& 31) = 8 := by decide
  rw [f0, f8]
  have g : (((lo8 c &&& 255) <<< (0 : Int32)) ||| ((hi8 c &&& 255) <<< (8 : Int32))).toBitVec.toNat = c.toBitVec.toNat := by
    rw [Int32.toBitVec_or, Int32.toBitVec_shiftLeft, Int32.toBitVec_shiftLeft]
    have s0 : ((0 : Int32).toBitVec.smod 32) = 0#32 := by decide
    have s8 : ((8 : Int32).toBitVec.smod 32) = 8#32 := by decide
    rw [s0, s8, BitVec.toNat_or]
    simp only [BitVec.shiftLeft_eq', BitVec.toNat_shiftLeft, a1, a2]
    show (c.toBitVec.toNat % 256) <<< 0 % 2 ^ 32 ||| (c.toBitVec.toNat / 256) <<< 8 % 2 ^ 32 = _
    rw [Nat.shiftLeft_zero, Nat.mod_eq_of_lt (show c.toBitVec.toNat % 256 < 2 ^ 32 by omega), Nat.mod_eq_of_lt (show (c.toBitVec.toNat / 256) <<< 8 < 2 ^ 32 by rw [Nat.shiftLeft_eq]; omega), Nat.or_comm, ← Nat.shiftLeft_add_eq_or_of_lt (by omega), Nat.shiftLeft_eq]
    omega
  show BitVec.toNat (((((lo8 c &&& 255) <<< (0 : Int32)) ||| ((hi8 c &&& 255) <<< (8 : Int32))).toBitVec.setWidth 16).setWidth 32) = _
  rw [BitVec.toNat_setWidth, BitVec.toNat_setWidth, g]
  omega
end StrChars
namespace StrChars
open Jvm Sem ClassFile Op Lib Jvm.Stand Jvm.Free.XT Jvm.Free.ALB Jvm.Free.JM Jvm.Free
open Jvm.Lib.Cold (StaticIs)
/-- the array's cell V codes the n chars f 0 .. f (n - 1) by the coder cd, as the JDK does: coder 1 just where some char is above 255 -/
def Cod (cd : Int32) (n : Nat) (f : Nat → Int32) (V : Cell) : Prop := (cd = 0 ∧ V.slots.size = n ∧ ∀ j, j < n → V.slots[j]? = some (.int (lo8 (f j))) ∧ ¬ 255 < f j) ∨ (cd = 1 ∧ V.slots.size = 2 * n ∧ (∀ j, j < n → V.slots[2 * j]? = some (.int (lo8 (f j))) ∧ V.slots[2 * j + 1]? = some (.int (hi8 (f j)))) ∧ ∃ j, j < n ∧ 255 < f j)
/-- **x is a String of the n chars f 0 .. f (n - 1)**, Latin-1 or UTF-16; its array at t has the cell V -/
def Txt (x t : Addr) (V : Cell) (cd : Int32) (n : Nat) (f : Nat → Int32) (U : State) : Prop := Exact "java/lang/String" x U ∧ Has x "java/lang/String" "value" "[B" (.ref t) U ∧ Has x "java/lang/String" "coder" "B" (.int cd) U ∧ XT.Arr .byte t V U ∧ Cod cd n f V ∧ ∀ j, j < n → ¬ f j < 0 ∧ ¬ 65535 < f j
theorem Txt.mv {x t : Addr} {V : Cell} {cd : Int32} {n : Nat} {f : Nat → Int32} {U U' : State} (h : Txt x t V cd n f U) (hal : U.vm.Alike U'.vm) (hh : U'.heap = U.heap) : Txt x t V cd n f U' := ⟨h.1.mv hal hh, h.2.1.mv hal hh, h.2.2.1.mv hal hh, h.2.2.2.1.mv hal hh, h.2.2.2.2⟩
end StrChars
namespace StrChars.Road
open Jvm Sem ClassFile Op Lib Jvm.Stand Jvm.Free Jvm.Free.XT
open Jvm.Lib.Cold (StaticIs)
theorem consq {a : Array Value} {s : State} {c : Jvm.Cond} {L : List Jvm.Cond} (h0 : c.before a s = true) (h : ∀ w ∈ L, w.before a s = true) : ∀ w ∈ c :: L, w.before a s = true := fun w hw => (List.mem_cons.mp hw).elim (fun e => e ▸ h0) (h w)
/-- the bytes of the chars cs, low before high -/
def wideBytes : List Int32 → List Value
  | [] => []
  | c :: cs => .int (lo8 c) :: .int (hi8 c) :: wideBytes cs
theorem wide_lo (d : Value) : ∀ (cs : List Int32) (j : Nat), j < cs.length → (wideBytes cs).getD (2 * j) d = .int (lo8 (cs.getD j 0))
  | [], j, h => absurd h (Nat.not_lt_zero j)
  | c :: cs, 0, _ => rfl
  | c :: cs, j + 1, h => by
    have q := wide_lo d cs j (by simpa using h)
    rw [show 2 * (j + 1) = 2 * j + 1 + 1 from by omega]
    simpa [wideBytes] using q
theorem wide_hi (d : Value) : ∀ (cs : List Int32) (j : Nat), j < cs.length → (wideBytes cs).getD (2 * j + 1) d = .int (hi8 (cs.getD j 0))
  | [], j, h => absurd h (Nat.not_lt_zero j)
  | c :: cs, 0, _ => rfl
  | c :: cs, j + 1, h => by
    have q := wide_hi d cs j (by simpa using h)
    rw [show 2 * (j + 1) + 1 = 2 * j + 1 + 1 + 1 from by omega]
    simpa [wideBytes] using q
theorem low_at (d : Value) (cs : List Int32) (j : Nat) (h : j < cs.length) : (cs.map fun c => Value.int (lo8 c)).getD j d = .int (lo8 (cs.getD j 0)) := by
  simp [List.getD_eq_getElem?_getD, h]
/-- an array of N2 bytes vs codes the chars cs by the coder cd -/
def CodA (cs : List Int32) (cd N2 : Int32) (vs : List Value) : Prop := (cd = 0 ∧ N2 = Int32.ofNat cs.length ∧ vs = (cs.map fun c => Value.int (lo8 c)) ∧ ∀ c ∈ cs, ¬ 255 < c) ∨ (cd = 1 ∧ N2 = Int32.ofNat (2 * cs.length) ∧ vs = wideBytes cs ∧ ∃ c ∈ cs, 255 < c)
theorem CodA.cod {cs : List Int32} {cd N2 : Int32} {vs : List Value} {V : Cell} (h : CodA cs cd N2 vs) (hn : 2 * cs.length < 2 ^ 31) (hs : V.slots.size = N2.toNatClampNeg) (hv : RoadKit.Has V vs (.int 0)) : Cod cd cs.length (fun j => cs.getD j 0) V := by
  rcases h with ⟨rfl, rfl, rfl, h⟩ | ⟨rfl, rfl, rfl, c, hc, hw⟩
  · rw [n32 (by omega)] at hs
    exact Or.inl ⟨rfl, hs, fun j hj => ⟨by rw [hv j (by omega), low_at _ _ _ hj], by
      have e : cs.getD j 0 = cs[j] := by simp [List.getD_eq_getElem?_getD, hj]
      show ¬ 255 < cs.getD j 0
      rw [e]; exact h _ (List.getElem_mem _)⟩⟩
  · rw [n32 (by omega)] at hs
    obtain ⟨j, hj, rfl⟩ := List.getElem_of_mem hc
    exact Or.inr ⟨rfl, hs, fun j hj => ⟨by rw [hv _ (by omega), wide_lo _ _ _ hj], by rw [hv _ (by omega), wide_hi _ _ _ hj]⟩, j, hj, by
      have e : cs.getD j 0 = cs[j] := by simp [List.getD_eq_getElem?_getD, hj]
      show 255 < cs.getD j 0
      rw [e]; exact hw⟩
/-- an object of exactly java/lang/String, its two fields found: as the laws ask it -/
theorem strObj {Z U : State} {a0 : Array Value} {kI : Nat} (wi : (Jvm.Cond.instantiable ST kI).before a0 Z = true) (al : Z.vm.Alike U.vm) {x : Addr} {v0 c0 : Value} (E : RoadKit.Exa Z U.heap x ST) (V : RoadKit.Fld Z U.heap x ST "value" "[B" v0) (C : RoadKit.Fld Z U.heap x ST "coder" "B" c0) :
    ∃ (D : Cell) (fV fC : Field), Blank ST x D U ∧ Found ST "value" "[B" fV U ∧ Found ST "coder" "B" fC U ∧ D.slots[fV.slot]? = some v0 ∧ D.slots[fC.slot]? = some c0 ∧ RoadKit.slotOf Z ST "value" "[B" = fV.slot ∧ RoadKit.slotOf Z ST "coder" "B" = fC.slot := by
  obtain ⟨D, cfV, kV, iV, fV, hD, gV, stV, knV, obV, asV, slV⟩ := V
  obtain ⟨D', cfC, kC, iC, fC, hD', gC, stC, -, -, asC, slC⟩ := C
  cases hD.symm.trans hD'
  obtain ⟨D2, kD, e1, e2, e3, e4, e5⟩ := E
  cases hD.symm.trans e1
  obtain ⟨c2, k2, i1, i2, i3, -⟩ := Cond.instantiable_spec wi
  cases e2.symm.trans i1
  cases e3.symm.trans i2
  obtain ⟨kU, u1, u2⟩ := al.2.2 _ _ e3
  exact ⟨D, fV, fC, ⟨hD, ⟨knV, fun q hq => by rw [hq] at obV; cases obV⟩, by rw [al.findClass]; exact e2, kU, u1, by rw [u2]; exact i3, by rw [u2]; exact e5 i3⟩, ⟨SBG.found_only al ⟨cfV, kV, iV, gV⟩, stV⟩, ⟨SBG.found_only al ⟨cfC, kC, iC, gC⟩, stC⟩, slV, slC, by simp [RoadKit.slotOf, gV], by simp [RoadKit.slotOf, gC]⟩
theorem sta_is {Z U : State} (al : Z.vm.Alike U.vm) {C n d : String} {v : Value} (S : RoadKit.Sta Z U.heap C n d v) : StaticIs U C n d v := by
  obtain ⟨cfS, iS, kS, fS, st, cS, t1, t2, t3, t4, t5, t6, t7⟩ := S
  exact StaticIs.there (s := { Z with heap := U.heap }) ⟨cfS, iS, kS, fS, st, cS, t1, t2, t3, t4, t5, (fun q => by rw [q] at t6; cases t6), t7⟩ al rfl
end StrChars.Road
namespace StrChars
open Jvm Sem ClassFile Op Lib Jvm.Stand Jvm.Free.XT Jvm.Free.ALB Jvm.Free.JM Jvm.Free
open Jvm.Lib.Cold (StaticIs)
/-- what place i of a byte[]'s cell holds -/
def yv (A : Cell) (i : Nat) : Int32 := match A.slots[i]? with | some (.int x) => x | _ => 0
theorem yv_get {a : Addr} {A : Cell} {U : State} (h : XT.Arr .byte a A U) (ht : Typed .byte A) {i : Nat} (hi : i < A.slots.size) : A.slots[i]? = some (.int (yv A i)) := by
  have e := Array.getElem?_eq_getElem hi
  have f := ht i _ e
  unfold yv; rw [e]
  generalize A.slots[i] = v at f
  cases v <;> simp [fits] at f ⊢
/-- the two arrays are equal, place for place -/
def EqC (A B : Cell) : Prop := A.slots.size = B.slots.size ∧ ∀ i, i < A.slots.size → yv A i = yv B i
/-- a boolean that says whether p -/
def Says01 (q : Prop) (r : Option Value) (s u : State) : Prop := ∃ v : Int32, r = some (.int v) ∧ u.heap = s.heap ∧ ((v = 1 ∧ q) ∨ (v = 0 ∧ ¬ q))
theorem Says01.mv {q : Prop} : ∀ r (U U' V V' : State), U'.heap = U.heap → V.vm.Alike V'.vm → V'.heap = V.heap → Says01 q r U V → Says01 q r U' V' :=
  fun r U U' V V' h1 _ h2 ⟨v, a, b, c⟩ => ⟨v, a, by rw [h1, h2]; exact b, c⟩
namespace LEq
def yN : MethodName := ⟨"java/lang/StringLatin1", "equals", "([B[B)Z"⟩
abbrev yB : ByteArray := jdk_43_method_13_code
theorem d0 : decode yB 0 = .ok (.aload_n 0, 1) := by decide +kernel
theorem d1 : decode yB 1 = .ok (.arraylength, 1) := by decide +kernel
theorem d2 : decode yB 2 = .ok (.aload_n 1, 1) := by decide +kernel
theorem d3 : decode yB 3 = .ok (.arraylength, 1) := by decide +kernel
theorem d4 : decode yB 4 = .ok (.if_icmp (.ne) 30, 3) := by decide +kernel
theorem d7 : decode yB 7 = .ok (.iconst 0, 1) := by decide +kernel
theorem d8 : decode yB 8 = .ok (.istore_n 2, 1) := by decide +kernel
theorem d9 : decode yB 9 = .ok (.iload_n 2, 1) := by decide +kernel
theorem d10 : decode yB 10 = .ok (.aload_n 0, 1) := by decide +kernel
theorem d11 : decode yB 11 = .ok (.arraylength, 1) := by decide +kernel
theorem d12 : decode yB 12 = .ok (.if_icmp (.ge) 20, 3) := by decide +kernel
theorem d15 : decode yB 15 = .ok (.aload_n 0, 1) := by decide +kernel
theorem d16 : decode yB 16 = .ok (.iload_n 2, 1) := by decide +kernel
theorem d17 : decode yB 17 = .ok (.baload, 1) := by decide +kernel
theorem d18 : decode yB 18 = .ok (.aload_n 1, 1) := by decide +kernel
theorem d19 : decode yB 19 = .ok (.iload_n 2, 1) := by decide +kernel
theorem d20 : decode yB 20 = .ok (.baload, 1) := by decide +kernel
theorem d21 : decode yB 21 = .ok (.if_icmp (.eq) 5, 3) := by decide +kernel
theorem d24 : decode yB 24 = .ok (.iconst 0, 1) := by decide +kernel
theorem d25 : decode yB 25 = .ok (.ireturn, 1) := by decide +kernel
theorem d26 : decode yB 26 = .ok (.iinc 2 1, 3) := by decide +kernel
theorem d29 : decode yB 29 = .ok (.goto (-20), 3) := by decide +kernel
theorem d32 : decode yB 32 = .ok (.iconst 1, 1) := by decide +kernel
theorem d33 : decode yB 33 = .ok (.ireturn, 1) := by decide +kernel
theorem d34 : decode yB 34 = .ok (.iconst 0, 1) := by decide +kernel
theorem d35 : decode yB 35 = .ok (.ireturn, 1) := by decide +kernel
def site : List Cond := []
def tab : Cond := tabOf yN yB 3 (some .boolean) site
def P (a : Addr) (A : Cell) (b : Addr) (B : Cell) (args : Array Value) (s : State) : Prop := args = #[.ref a, .ref b] ∧ XT.Arr .byte a A s ∧ Typed .byte A ∧ XT.Arr .byte b B s ∧ Typed .byte B
/-- whether two byte[] are equal, place for place -/
theorem law (l : Launch) (a : Addr) (A : Cell) (b : Addr) (B : Cell) : Law l yN 2 2 0 0 yB 3 (some .boolean) site (P a A b B) (Says01 (EqC A B)) [] 0 0 := by
  refine Law.of_walk (plainFor_of_name (by decide +kernel)) (by decide +kernel) (by decide +kernel) (by decide) (fun _ _ h => by rw [h.1]; rfl) (fun _ U U' hal hh h => ⟨h.1, h.2.1.mv hal hh, h.2.2.1, h.2.2.2.1.mv hal hh, h.2.2.2.2⟩) (fun r U U' V V' h1 hal h2 h => Says01.mv r U U' V V' h1 hal h2 h) ?_
  intro p e s m args below meth c s₁ X0 hexec hbytes hml hret hlk hnm hown hh0 W hP
  obtain ⟨rfl, hA, tA, hB, tB⟩ := hP
  have a31 := hA.2.2.2
  have b31 := hB.2.2.2
  have hA0 := hA.mv X0.warmed.alike hh0
  have hB0 := hB.mv X0.warmed.alike hh0
  have c1 : Steps p.tables e below (s₁.setTop (entryFrame m #[.ref a, .ref b] 3)) (s₁.setTop (mkF m 0 #[.val (.ref a), .val (.ref b), .unset] [])) := entry rfl
  have c2 : Steps p.tables e below (s₁.setTop (entryFrame m #[.ref a, .ref b] 3)) (s₁.setTop (mkF m 4 #[.val (.ref a), .val (.ref b), .unset] [.int (Int32.ofNat B.slots.size), .int (Int32.ofNat A.slots.size)])) := c1.trans (by
    refine XS.aloadN X0.here hexec rfl (hb hbytes d0) rfl rfl ?_
    refine X0.alen hexec hA0 rfl rfl (hb hbytes d1) ?_
    refine XS.aloadN X0.here hexec rfl (hb hbytes d2) rfl rfl ?_
    refine X0.alen hexec hB0 rfl rfl (hb hbytes d3) ?_
    exact Steps.refl _)
  by_cases hs : A.slots.size = B.slots.size
  · have c3 : Steps p.tables e below (s₁.setTop (entryFrame m #[.ref a, .ref b] 3)) (s₁.setTop (mkF m 9 #[.val (.ref a), .val (.ref b), .val (.int 0)] [])) := c2.trans (by
      refine XS.icmpNo X0.here hexec rfl (hb hbytes d4) rfl (ii_ne_f (by rw [hs])) ?_
      refine iconstV X0.here hexec rfl 0 (hb hbytes d7) (by decide) ?_
      refine XS.istoreN X0.here hexec rfl (hb hbytes d8) rfl rfl ?_
      exact Steps.refl _)
    have loop : ∀ (r i : Nat), i + r = A.slots.size → (∀ j, j < i → yv A j = yv B j) → Steps p.tables e below (s₁.setTop (entryFrame m #[.ref a, .ref b] 3)) (s₁.setTop (mkF m 9 #[.val (.ref a), .val (.ref b), .val (.int (Int32.ofNat i))] [])) → ∃ (pc : Nat) (Ls : Array Slot) (v : Int32), (pc = 25 ∨ pc = 33) ∧ ((v = 1 ∧ EqC A B) ∨ (v = 0 ∧ ¬ EqC A B)) ∧ Steps p.tables e below (s₁.setTop (entryFrame m #[.ref a, .ref b] 3)) (s₁.setTop (mkF m pc Ls [.int v])) := by
      intro r
      induction r with
      | zero =>
        intro i hi he cl
        exact ⟨33, _, 1, Or.inr rfl, Or.inl ⟨rfl, hs, fun j hj => he j (by omega)⟩, cl.trans (by
          refine XS.iloadN X0.here hexec rfl (hb hbytes d9) rfl ?_
          refine XS.aloadN X0.here hexec rfl (hb hbytes d10) rfl rfl ?_
          refine X0.alen hexec hA0 rfl rfl (hb hbytes d11) ?_
          refine XS.icmpYes X0.here hexec rfl (pc0 := 12) rfl (hb hbytes d12) rfl (ii_ge_t (nlt32 (by omega) (by omega))) (by decide) rfl ?_
          refine iconstV X0.here hexec rfl 1 (hb hbytes d32) (by decide) ?_
          exact Steps.refl _)⟩
      | succ r ih =>
        intro i hi he cl
        have c4 : Steps p.tables e below (s₁.setTop (entryFrame m #[.ref a, .ref b] 3)) (s₁.setTop (mkF m 21 #[.val (.ref a), .val (.ref b), .val (.int (Int32.ofNat i))] [.int (yv B i), .int (yv A i)])) := cl.trans (by
          refine XS.iloadN X0.here hexec rfl (hb hbytes d9) rfl ?_
          refine XS.aloadN X0.here hexec rfl (hb hbytes d10) rfl rfl ?_
          refine X0.alen hexec hA0 rfl rfl (hb hbytes d11) ?_
          refine XS.icmpNo X0.here hexec rfl (hb hbytes d12) rfl (ii_ge_f (lt32 (by omega) (by omega))) ?_
          refine XS.aloadN X0.here hexec rfl (hb hbytes d15) rfl rfl ?_
          refine XS.iloadN X0.here hexec rfl (hb hbytes d16) rfl ?_
          refine X0.aget hexec hA0 rfl (yv_get hA tA (i := i) (by omega)) rfl rfl (hb hbytes d17) ?_
          refine XS.aloadN X0.here hexec rfl (hb hbytes d18) rfl rfl ?_
          refine XS.iloadN X0.here hexec rfl (hb hbytes d19) rfl ?_
          refine X0.aget hexec hB0 rfl (yv_get hB tB (i := i) (by omega)) rfl rfl (hb hbytes d20) ?_
          exact Steps.refl _)
        by_cases hv : yv A i = yv B i
        · have c5 : Steps p.tables e below (s₁.setTop (entryFrame m #[.ref a, .ref b] 3)) (s₁.setTop (mkF m 9 #[.val (.ref a), .val (.ref b), .val (.int (Int32.ofNat i + 1))] [])) := c4.trans (by
            refine XS.icmpYes X0.here hexec rfl (pc0 := 21) rfl (hb hbytes d21) rfl (ii_eq_t hv) (by decide) rfl ?_
            refine iincV X0.here hexec rfl 1 (hb hbytes d26) (by decide) rfl rfl ?_
            refine XS.goto X0.here hexec rfl (pc0 := 29) rfl (hb hbytes d29) (by decide) rfl ?_
            exact Steps.refl _)
          rw [succ32] at c5
          exact ih (i + 1) (by omega) (fun j hj => by
            by_cases e : j = i
            · rw [e]; exact hv
            · exact he j (by omega)) c5
        · exact ⟨25, _, 0, Or.inl rfl, Or.inr ⟨rfl, fun q => hv (q.2 i (by omega))⟩, c4.trans (by
            refine XS.icmpNo X0.here hexec rfl (hb hbytes d21) rfl (ii_eq_f hv) ?_
            refine iconstV X0.here hexec rfl 0 (hb hbytes d24) (by decide) ?_
            exact Steps.refl _)⟩
    obtain ⟨pc, Ls, v, hpc, hv, cz⟩ := loop A.slots.size 0 (by omega) (fun j hj => absurd hj (Nat.not_lt_zero j)) c3
    have nv : narrow .boolean (.int v) = .int v := by rcases hv with ⟨rfl, -⟩ | ⟨rfl, -⟩ <;> rfl
    rcases hpc with rfl | rfl
    · exact ⟨s₁, some (.int v), _, _, _, X0, rfl, rfl, rfl, (fun h => by cases h), ⟨v, rfl, hh0, hv⟩, fun fs hl => cz.trans (X0.ireturnOut hexec hret nv (Or.inr (Or.inl rfl)) (hb hbytes d25) hl)⟩
    · exact ⟨s₁, some (.int v), _, _, _, X0, rfl, rfl, rfl, (fun h => by cases h), ⟨v, rfl, hh0, hv⟩, fun fs hl => cz.trans (X0.ireturnOut hexec hret nv (Or.inr (Or.inl rfl)) (hb hbytes d33) hl)⟩
  · have c3 : Steps p.tables e below (s₁.setTop (entryFrame m #[.ref a, .ref b] 3)) (s₁.setTop (mkF m 35 #[.val (.ref a), .val (.ref b), .unset] [.int 0])) := c2.trans (by
      refine XS.icmpYes X0.here hexec rfl (pc0 := 4) rfl (hb hbytes d4) rfl (ii_ne_t (ne32 a31 b31 hs)) (by decide) rfl ?_
      refine iconstV X0.here hexec rfl 0 (hb hbytes d34) (by decide) ?_
      exact Steps.refl _)
    exact ⟨s₁, some (.int 0), _, _, _, X0, rfl, rfl, rfl, (fun h => by cases h), ⟨0, rfl, hh0, Or.inr ⟨rfl, fun q => hs q.1⟩⟩, fun fs hl => c3.trans (X0.ireturnOut hexec hret rfl (Or.inr (Or.inl rfl)) (hb hbytes d35) hl)⟩
end LEq
theorem Cod.ty {cd : Int32} {n : Nat} {f : Nat → Int32} {V : Cell} (h : Cod cd n f V) : Typed .byte V := fun i v hv => by
  have hi : i < V.slots.size := (Array.getElem?_eq_some_iff.mp hv).1
  rcases h with ⟨-, k1, k2⟩ | ⟨-, k1, k2, -⟩
  · rw [(k2 i (by omega)).1] at hv; cases hv; exact fits_lo8 _
  · rcases Nat.mod_two_eq_zero_or_one i with e | e
    · obtain ⟨j, rfl⟩ : ∃ j, i = 2 * j := ⟨i / 2, by omega⟩
      rw [(k2 j (by omega)).1] at hv; cases hv; exact fits_lo8 _
    · obtain ⟨j, rfl⟩ : ∃ j, i = 2 * j + 1 := ⟨i / 2, by omega⟩
      rw [(k2 j (by omega)).2] at hv; cases hv; exact fits_lo8 _
/-- the same text -/
def SameT (n : Nat) (f : Nat → Int32) (k : Nat) (g : Nat → Int32) : Prop := n = k ∧ ∀ j, j < n → f j = g j
theorem lo8_inj {x y : Int32} (h0 : ¬ x < 0) (h1 : ¬ 255 < x) (k0 : ¬ y < 0) (k1 : ¬ 255 < y) (h : lo8 x = lo8 y) : x = y := by
  rw [← lo8_mask h0 h1, ← lo8_mask k0 k1, h]
/-- arrays coded by one coder are equal just where the texts are -/
theorem Cod.eqv {cd : Int32} {n k : Nat} {f g : Nat → Int32} {V V' : Cell} (h : Cod cd n f V) (h' : Cod cd k g V') (hf : ∀ j, j < n → ¬ f j < 0 ∧ ¬ 65535 < f j) (hg : ∀ j, j < k → ¬ g j < 0 ∧ ¬ 65535 < g j) : EqC V V' ↔ SameT n f k g := by
  have yvv : ∀ {W : Cell} {i : Nat} {x : Int32}, W.slots[i]? = some (.int x) → yv W i = x := fun q => by unfold yv; rw [q]
  rcases h with ⟨rfl, k1, k2⟩ | ⟨rfl, k1, k2, -⟩
  · rcases h' with ⟨-, m1, m2⟩ | ⟨e, -⟩
    · constructor
      · rintro ⟨e1, e2⟩
        refine ⟨by omega, fun j hj => ?_⟩
        have q := e2 j (by omega)
        rw [yvv (k2 j hj).1, yvv (m2 j (by omega)).1] at q
        exact lo8_inj (hf j hj).1 (k2 j hj).2 (hg j (by omega)).1 (m2 j (by omega)).2 q
      · rintro ⟨rfl, e2⟩
        refine ⟨by omega, fun j hj => ?_⟩
        rw [yvv (k2 j (by omega)).1, yvv (m2 j (by omega)).1, e2 j (by omega)]
    · exact absurd e (by decide)
  · rcases h' with ⟨e, -⟩ | ⟨-, m1, m2, -⟩
    · exact absurd e (by decide)
    · constructor
      · rintro ⟨e1, e2⟩
        refine ⟨by omega, fun j hj => ?_⟩
        have q1 := e2 (2 * j) (by omega)
        have q2 := e2 (2 * j + 1) (by omega)
        rw [yvv (k2 j hj).1, yvv (m2 j (by omega)).1] at q1
        rw [yvv (k2 j hj).2, yvv (m2 j (by omega)).2] at q2
        rw [← pair_says (hf j hj).1 (hf j hj).2, ← pair_says (hg j (by omega)).1 (hg j (by omega)).2, q1, q2]
      · rintro ⟨rfl, e2⟩
        refine ⟨by omega, fun i hi => ?_⟩
        rcases Nat.mod_two_eq_zero_or_one i with e | e
        · obtain ⟨j, rfl⟩ : ∃ j, i = 2 * j := ⟨i / 2, by omega⟩
          rw [yvv (k2 j (by omega)).1, yvv (m2 j (by omega)).1, e2 j (by omega)]
        · obtain ⟨j, rfl⟩ : ∃ j, i = 2 * j + 1 := ⟨i / 2, by omega⟩
          rw [yvv (k2 j (by omega)).2, yvv (m2 j (by omega)).2, e2 j (by omega)]
/-- two codings differ: so do the texts -/
theorem Cod.dif {cd cd' : Int32} {n k : Nat} {f g : Nat → Int32} {V V' : Cell} (h : Cod cd n f V) (h' : Cod cd' k g V') (hne : ¬ cd = cd') : ¬ SameT n f k g := by
  rintro ⟨rfl, e⟩
  rcases h with ⟨rfl, -, k2⟩ | ⟨rfl, -, -, j, hj, hw⟩
  · rcases h' with ⟨rfl, -⟩ | ⟨-, -, -, j, hj, hw⟩
    · exact hne rfl
    · exact (k2 j hj).2 (by rw [e j hj]; exact hw)
  · rcases h' with ⟨-, -, m2⟩ | ⟨rfl, -⟩
    · exact (m2 j hj).2 (by rw [← e j hj]; exact hw)
    · exact hne rfl
/-- an object of exactly C is an instance of C -/
theorem cinst {p : Program} {l : Launch} {e : Env} {R : Room} {s : State} {m : MethodId} {args : Array Value} {below : List Frame} {meth : Method} {c : Code} {T : State} {locs : List Loc} {cells slots : Nat} (X : Stand p l e R s m args below meth c T locs cells slots) (hexec : p.tables.exec = Jvm.exec) {own C : String} {index : Nat} (hown : s.vm.findClass own = some m.cls) (hlink : (Cond.classLink own index C).before args s = true) {a : Addr} (hE : Exact C a T)
    {g : JFrame} (hg : g.method = m) {rest : List Value} (hstack : g.stack = .ref a :: rest) (hdg : decode c.code g.pc = .ok (.instanceof index, 3)) :
    ∃ T', Stand p l e R s m args below meth c T' locs cells slots ∧ T'.heap = T.heap ∧ ∀ target, Steps p.tables e below (T'.setTop { g with pc := g.pc + 3, stack := .int 1 :: rest }) target → Steps p.tables e below (T.setTop g) target := by
  obtain ⟨cB, h1, D, h2, h3, h4⟩ := hE
  have h1' : s.vm.findClass C = some cB := by rw [← X.warmed.alike.findClass]; exact h1
  obtain ⟨vm', X', st⟩ := X.instanceofYes hexec hown hlink h2 h4 h1' (by rw [h3]; exact Jvm.Free.SB.assignable_self _ _) hg hstack hdg
  exact ⟨_, X', rfl, st⟩
theorem cself {p : Program} {l : Launch} {e : Env} {R : Room} {s : State} {m : MethodId} {args : Array Value} {below : List Frame} {meth : Method} {c : Code} {T : State} {locs : List Loc} {cells slots : Nat} (X : Stand p l e R s m args below meth c T locs cells slots) (hexec : p.tables.exec = Jvm.exec) {own C : String} {index : Nat} (hown : s.vm.findClass own = some m.cls) (hlink : (Cond.classLink own index C).before args s = true) {a : Addr} (hE : Exact C a T)
    {g : JFrame} (hg : g.method = m) {rest : List Value} (hstack : g.stack = .ref a :: rest) (hdg : decode c.code g.pc = .ok (.checkcast index, 3)) :
    ∃ T', Stand p l e R s m args below meth c T' locs cells slots ∧ T'.heap = T.heap ∧ ∀ target, Steps p.tables e below (T'.setTop { g with pc := g.pc + 3, stack := .ref a :: rest }) target → Steps p.tables e below (T.setTop g) target := by
  obtain ⟨cB, h1, D, h2, h3, h4⟩ := hE
  have h1' : s.vm.findClass C = some cB := by rw [← X.warmed.alike.findClass]; exact h1
  obtain ⟨vm', X', st⟩ := X.checkcastYes hexec hown hlink h2 h4 h1' (by rw [h3]; exact Jvm.Free.SB.assignable_self _ _) hg hstack hdg
  exact ⟨_, X', rfl, fun t h => st t (by rw [← hstack] at h; exact h)⟩
namespace SEq
def yN : MethodName := ⟨"java/lang/String", "equals", "(Ljava/lang/Object;)Z"⟩
abbrev yB : ByteArray := jdk_42_method_66_code
theorem d0 : decode yB 0 = .ok (.aload_n 0, 1) := by decide +kernel
theorem d1 : decode yB 1 = .ok (.aload_n 1, 1) := by decide +kernel
theorem d2 : decode yB 2 = .ok (.if_acmp (.ne) 5, 3) := by decide +kernel
theorem d5 : decode yB 5 = .ok (.iconst 1, 1) := by decide +kernel
theorem d6 : decode yB 6 = .ok (.ireturn, 1) := by decide +kernel
theorem d7 : decode yB 7 = .ok (.aload_n 1, 1) := by decide +kernel
theorem d8 : decode yB 8 = .ok (.instanceof 10, 3) := by decide +kernel
theorem d11 : decode yB 11 = .ok (.ifCond (.eq) 43, 3) := by decide +kernel
theorem d14 : decode yB 14 = .ok (.aload_n 1, 1) := by decide +kernel
theorem d15 : decode yB 15 = .ok (.checkcast 10, 3) := by decide +kernel
theorem d18 : decode yB 18 = .ok (.astore_n 2, 1) := by decide +kernel
theorem d19 : decode yB 19 = .ok (.getstatic 38, 3) := by decide +kernel
theorem d22 : decode yB 22 = .ok (.ifCond (.eq) 14, 3) := by decide +kernel
theorem d25 : decode yB 25 = .ok (.aload_n 0, 1) := by decide +kernel
theorem d26 : decode yB 26 = .ok (.getfield 15, 3) := by decide +kernel
theorem d29 : decode yB 29 = .ok (.aload_n 2, 1) := by decide +kernel
theorem d30 : decode yB 30 = .ok (.getfield 15, 3) := by decide +kernel
theorem d33 : decode yB 33 = .ok (.if_icmp (.ne) 21, 3) := by decide +kernel
theorem d36 : decode yB 36 = .ok (.aload_n 0, 1) := by decide +kernel
theorem d37 : decode yB 37 = .ok (.getfield 9, 3) := by decide +kernel
theorem d40 : decode yB 40 = .ok (.aload_n 2, 1) := by decide +kernel
theorem d41 : decode yB 41 = .ok (.getfield 9, 3) := by decide +kernel
theorem d44 : decode yB 44 = .ok (.invokestatic 541, 3) := by decide +kernel
theorem d47 : decode yB 47 = .ok (.ifCond (.eq) 7, 3) := by decide +kernel
theorem d50 : decode yB 50 = .ok (.iconst 1, 1) := by decide +kernel
theorem d51 : decode yB 51 = .ok (.goto 4, 3) := by decide +kernel
theorem d54 : decode yB 54 = .ok (.iconst 0, 1) := by decide +kernel
theorem d55 : decode yB 55 = .ok (.ireturn, 1) := by decide +kernel
def site : List Cond := [.classLink "java/lang/String" 10 "java/lang/String", .fieldLink "java/lang/String" 38 "java/lang/String" "COMPACT_STRINGS" "Z", .fieldLink "java/lang/String" 15 "java/lang/String" "coder" "B", .fieldLink "java/lang/String" 9 "java/lang/String" "value" "[B", LEq.tab] ++ staticW "java/lang/String" 541 LEq.yN
def tab : Cond := tabOf yN yB 3 (some .boolean) site
def P (x t : Addr) (V : Cell) (cd : Int32) (n : Nat) (f : Nat → Int32) (y t' : Addr) (V' : Cell) (cd' : Int32) (k : Nat) (g : Nat → Int32) (z : Int32) (args : Array Value) (s : State) : Prop := args = #[.ref x, .ref y] ∧ Txt x t V cd n f s ∧ Txt y t' V' cd' k g s ∧ StaticIs s "java/lang/String" "COMPACT_STRINGS" "Z" (.int z) ∧ ¬ z = 0
/-- equals(Object) of two Strings: whether the texts are the same -/
theorem law (l : Launch) (x t : Addr) (V : Cell) (cd : Int32) (n : Nat) (f : Nat → Int32) (y t' : Addr) (V' : Cell) (cd' : Int32) (k : Nat) (g : Nat → Int32) (z : Int32) : Law l yN 2 1 1 14 yB 3 (some .boolean) site (P x t V cd n f y t' V' cd' k g z) (Says01 (SameT n f k g)) [] 0 0 := by
  refine Law.of_walk (plainFor_of_name (by decide +kernel)) (by decide +kernel) (by decide +kernel) (by decide) (fun _ _ h => by rw [h.1]; rfl) (fun _ U U' hal hh h => ⟨h.1, h.2.1.mv hal hh, h.2.2.1.mv hal hh, h.2.2.2.1.there hal hh, h.2.2.2.2⟩) (fun r U U' V V' h1 hal h2 h => Says01.mv r U U' V V' h1 hal h2 h) ?_
  intro p e s m args below meth c s₁ X0 hexec hbytes hml hret hlk hnm hown hh0 W hP
  obtain ⟨rfl, hx, hy, s1, hz⟩ := hP
  have c1 : Steps p.tables e below (s₁.setTop (entryFrame m #[.ref x, .ref y] 3)) (s₁.setTop (mkF m 2 #[.val (.ref x), .val (.ref y), .unset] [.ref y, .ref x])) := Steps.trans (entry rfl) (by
    show Steps p.tables e below (s₁.setTop (mkF m 0 #[.val (.ref x), .val (.ref y), .unset] [])) _
    refine XS.aloadN X0.here hexec rfl (hb hbytes d0) rfl rfl ?_
    refine XS.aloadN X0.here hexec rfl (hb hbytes d1) rfl rfl ?_
    exact Steps.refl _)
  by_cases hxy : x = y
  · have c2 : Steps p.tables e below (s₁.setTop (entryFrame m #[.ref x, .ref y] 3)) (s₁.setTop (mkF m 6 #[.val (.ref x), .val (.ref y), .unset] [.int 1])) := c1.trans (by
      refine acmpNo X0.here hexec rfl (hb hbytes d2) rfl rfl rfl (by simp [acmp, hxy]) ?_
      refine iconstV X0.here hexec rfl 1 (hb hbytes d5) (by decide) ?_
      exact Steps.refl _)
    subst hxy
    have ec : cd = cd' := by
      obtain ⟨D, fd, a1, a2, a3⟩ := hx.2.2.1
      obtain ⟨D', fd', b1, b2, b3⟩ := hy.2.2.1
      cases a1.symm.trans b1
      obtain ⟨q1, q2, q3, q4⟩ := a2.1
      obtain ⟨r1, r2, r3, r4⟩ := b2.1
      cases q4.symm.trans r4
      cases a3.symm.trans b3; rfl
    have et : t = t' := by
      obtain ⟨D, fd, a1, a2, a3⟩ := hx.2.1
      obtain ⟨D', fd', b1, b2, b3⟩ := hy.2.1
      cases a1.symm.trans b1
      obtain ⟨q1, q2, q3, q4⟩ := a2.1
      obtain ⟨r1, r2, r3, r4⟩ := b2.1
      cases q4.symm.trans r4
      cases a3.symm.trans b3; rfl
    subst ec et
    have ev : V = V' := by cases hx.2.2.2.1.1.symm.trans hy.2.2.2.1.1; rfl
    subst ev
    have hs : SameT n f k g := (Cod.eqv hx.2.2.2.2.1 hy.2.2.2.2.1 hx.2.2.2.2.2 hy.2.2.2.2.2).mp ⟨rfl, fun _ _ => rfl⟩
    exact ⟨s₁, some (.int 1), _, _, _, X0, rfl, rfl, rfl, (fun h => by cases h), ⟨1, rfl, hh0, Or.inl ⟨rfl, hs⟩⟩, fun fs hl => c2.trans (X0.ireturnOut hexec hret rfl (Or.inr (Or.inl rfl)) (hb hbytes d6) hl)⟩
  · have c2 : Steps p.tables e below (s₁.setTop (entryFrame m #[.ref x, .ref y] 3)) (s₁.setTop (mkF m 8 #[.val (.ref x), .val (.ref y), .unset] [.ref y])) := c1.trans (by
      refine acmpYes X0.here hexec rfl (pc0 := 2) rfl (hb hbytes d2) rfl rfl rfl (by simp [acmp, hxy]) (by decide) rfl ?_
      refine XS.aloadN X0.here hexec rfl (hb hbytes d7) rfl rfl ?_
      exact Steps.refl _)
    obtain ⟨T3, X3, q3, st3⟩ := cinst X0 hexec hown (wk W (.classLink "java/lang/String" 10 "java/lang/String")) (hy.mv X0.warmed.alike hh0).1 (g := (mkF m 8 #[.val (.ref x), .val (.ref y), .unset] [.ref y])) rfl (rest := []) rfl (hb hbytes d8)
    have hh3 := q3.trans hh0
    have c4 : Steps p.tables e below (s₁.setTop (entryFrame m #[.ref x, .ref y] 3)) (T3.setTop (mkF m 15 #[.val (.ref x), .val (.ref y), .unset] [.ref y])) := (c2.trans (st3 _ (Steps.refl _))).trans (by
      refine XS.ifNo X3.here hexec rfl (hb hbytes d11) rfl (i0_eq_f (by decide)) ?_
      refine XS.aloadN X3.here hexec rfl (hb hbytes d14) rfl rfl ?_
      exact Steps.refl _)
    obtain ⟨T5, X5, q5, st5⟩ := cself X3 hexec hown (wk W (.classLink "java/lang/String" 10 "java/lang/String")) (hy.mv X3.warmed.alike hh3).1 (g := (mkF m 15 #[.val (.ref x), .val (.ref y), .unset] [.ref y])) rfl (rest := []) rfl (hb hbytes d15)
    have hh5 := q5.trans hh3
    have c6 : Steps p.tables e below (s₁.setTop (entryFrame m #[.ref x, .ref y] 3)) (T5.setTop (mkF m 19 #[.val (.ref x), .val (.ref y), .val (.ref y)] [])) := (c4.trans (st5 _ (Steps.refl _))).trans (by
      refine XS.astoreN X5.here hexec rfl (hb hbytes d18) rfl rfl rfl ?_
      exact Steps.refl _)
    obtain ⟨T7, X7, q7, st7⟩ := X5.sget hexec hown (wk W (.fieldLink "java/lang/String" 38 "java/lang/String" "COMPACT_STRINGS" "Z")) s1 (fun _ _ h => by rw [hh5]; exact h) (g := (mkF m 19 #[.val (.ref x), .val (.ref y), .val (.ref y)] [])) rfl (hb hbytes d19)
    have hh7 := q7.trans hh5
    have c8 : Steps p.tables e below (s₁.setTop (entryFrame m #[.ref x, .ref y] 3)) (T7.setTop (mkF m 26 #[.val (.ref x), .val (.ref y), .val (.ref y)] [.ref x])) := (c6.trans (st7 _ (Steps.refl _))).trans (by
      refine XS.ifNo X7.here hexec rfl (hb hbytes d22) rfl (i0_eq_f hz) ?_
      refine XS.aloadN X7.here hexec rfl (hb hbytes d25) rfl rfl ?_
      exact Steps.refl _)
    obtain ⟨T9, X9, q9, st9⟩ := X7.hget hexec hown (wk W (.fieldLink "java/lang/String" 15 "java/lang/String" "coder" "B")) (hx.mv X7.warmed.alike hh7).2.2.1 (g := (mkF m 26 #[.val (.ref x), .val (.ref y), .val (.ref y)] [.ref x])) rfl (rest := []) rfl (hb hbytes d26)
    have hh9 := q9.trans hh7
    have c10 : Steps p.tables e below (s₁.setTop (entryFrame m #[.ref x, .ref y] 3)) (T9.setTop (mkF m 30 #[.val (.ref x), .val (.ref y), .val (.ref y)] [.ref y, .int cd])) := (c8.trans (st9 _ (Steps.refl _))).trans (by
      refine XS.aloadN X9.here hexec rfl (hb hbytes d29) rfl rfl ?_
      exact Steps.refl _)
    obtain ⟨T11, X11, q11, st11⟩ := X9.hget hexec hown (wk W (.fieldLink "java/lang/String" 15 "java/lang/String" "coder" "B")) (hy.mv X9.warmed.alike hh9).2.2.1 (g := (mkF m 30 #[.val (.ref x), .val (.ref y), .val (.ref y)] [.ref y, .int cd])) rfl (rest := [.int cd]) rfl (hb hbytes d30)
    have hh11 := q11.trans hh9
    have c12 : Steps p.tables e below (s₁.setTop (entryFrame m #[.ref x, .ref y] 3)) (T11.setTop (mkF m 33 #[.val (.ref x), .val (.ref y), .val (.ref y)] [.int cd', .int cd])) := c10.trans (st11 _ (Steps.refl _))
    by_cases hcd : cd = cd'
    · subst hcd
      have c13 : Steps p.tables e below (s₁.setTop (entryFrame m #[.ref x, .ref y] 3)) (T11.setTop (mkF m 37 #[.val (.ref x), .val (.ref y), .val (.ref y)] [.ref x])) := c12.trans (by
        refine XS.icmpNo X11.here hexec rfl (hb hbytes d33) rfl (ii_ne_f rfl) ?_
        refine XS.aloadN X11.here hexec rfl (hb hbytes d36) rfl rfl ?_
        exact Steps.refl _)
      obtain ⟨T14, X14, q14, st14⟩ := X11.hget hexec hown (wk W (.fieldLink "java/lang/String" 9 "java/lang/String" "value" "[B")) (hx.mv X11.warmed.alike hh11).2.1 (g := (mkF m 37 #[.val (.ref x), .val (.ref y), .val (.ref y)] [.ref x])) rfl (rest := []) rfl (hb hbytes d37)
      have hh14 := q14.trans hh11
      have c15 : Steps p.tables e below (s₁.setTop (entryFrame m #[.ref x, .ref y] 3)) (T14.setTop (mkF m 41 #[.val (.ref x), .val (.ref y), .val (.ref y)] [.ref y, .ref t])) := (c13.trans (st14 _ (Steps.refl _))).trans (by
        refine XS.aloadN X14.here hexec rfl (hb hbytes d40) rfl rfl ?_
        exact Steps.refl _)
      obtain ⟨T16, X16, q16, st16⟩ := X14.hget hexec hown (wk W (.fieldLink "java/lang/String" 9 "java/lang/String" "value" "[B")) (hy.mv X14.warmed.alike hh14).2.1 (g := (mkF m 41 #[.val (.ref x), .val (.ref y), .val (.ref y)] [.ref y, .ref t])) rfl (rest := [.ref t]) rfl (hb hbytes d41)
      have hh16 := q16.trans hh14
      have c17 : Steps p.tables e below (s₁.setTop (entryFrame m #[.ref x, .ref y] 3)) (T16.setTop (mkF m 44 #[.val (.ref x), .val (.ref y), .val (.ref y)] [.ref t', .ref t])) := c15.trans (st16 _ (Steps.refl _))
      obtain ⟨v18, T18, X18, E18, g18⟩ := X16.callS hexec (LEq.law l t V t' V') hown (wks W (staticW "java/lang/String" 541 LEq.yN)) (wk W LEq.tab) (W := 0) (Nat.le_of_ble_eq_true rfl) (Nat.le_of_ble_eq_true rfl) (Nat.le_refl _) (Nat.le_refl _) (g := (mkF m 44 #[.val (.ref x), .val (.ref y), .val (.ref y)] [.ref t', .ref t])) rfl (by rw [hml]; rfl) c17 (argsL := [.ref t, .ref t']) (rest := []) rfl rfl (by show 2 * 0 + 0 ≤ _; decide) (hb hbytes d44) (⟨rfl, hx.2.2.2.1.mv X16.warmed.alike hh16, hx.2.2.2.2.1.ty, hy.2.2.2.1.mv X16.warmed.alike hh16, hy.2.2.2.2.1.ty⟩)
      obtain ⟨v, rfl, q18, hv⟩ := E18
      have iff := Cod.eqv hx.2.2.2.2.1 hy.2.2.2.2.1 hx.2.2.2.2.2 hy.2.2.2.2.2
      rcases hv with ⟨rfl, he⟩ | ⟨rfl, he⟩
      · have c19 : Steps p.tables e below (s₁.setTop (entryFrame m #[.ref x, .ref y] 3)) (T18.setTop (mkF m 55 #[.val (.ref x), .val (.ref y), .val (.ref y)] [.int 1])) := Steps.trans g18 (by
          refine XS.ifNo X18.here hexec rfl (hb hbytes d47) rfl (i0_eq_f (by decide)) ?_
          refine iconstV X18.here hexec rfl 1 (hb hbytes d50) (by decide) ?_
          refine XS.goto X18.here hexec rfl (pc0 := 51) rfl (hb hbytes d51) (by decide) rfl ?_
          exact Steps.refl _)
        exact ⟨T18, some (.int 1), _, _, _, X18, rfl, rfl, rfl, (fun h => by cases h), ⟨1, rfl, q18.trans hh16, Or.inl ⟨rfl, iff.mp he⟩⟩, fun fs hl => c19.trans (X18.ireturnOut hexec hret rfl (Or.inr (Or.inl rfl)) (hb hbytes d55) hl)⟩
      · have c19 : Steps p.tables e below (s₁.setTop (entryFrame m #[.ref x, .ref y] 3)) (T18.setTop (mkF m 55 #[.val (.ref x), .val (.ref y), .val (.ref y)] [.int 0])) := Steps.trans g18 (by
          refine XS.ifYes X18.here hexec rfl (pc0 := 47) rfl (hb hbytes d47) rfl (i0_eq_t rfl) (by decide) rfl ?_
          refine iconstV X18.here hexec rfl 0 (hb hbytes d54) (by decide) ?_
          exact Steps.refl _)
        exact ⟨T18, some (.int 0), _, _, _, X18, rfl, rfl, rfl, (fun h => by cases h), ⟨0, rfl, q18.trans hh16, Or.inr ⟨rfl, fun q => he (iff.mpr q)⟩⟩, fun fs hl => c19.trans (X18.ireturnOut hexec hret rfl (Or.inr (Or.inl rfl)) (hb hbytes d55) hl)⟩
    · have c13 : Steps p.tables e below (s₁.setTop (entryFrame m #[.ref x, .ref y] 3)) (T11.setTop (mkF m 55 #[.val (.ref x), .val (.ref y), .val (.ref y)] [.int 0])) := c12.trans (by
        refine XS.icmpYes X11.here hexec rfl (pc0 := 33) rfl (hb hbytes d33) rfl (ii_ne_t hcd) (by decide) rfl ?_
        refine iconstV X11.here hexec rfl 0 (hb hbytes d54) (by decide) ?_
        exact Steps.refl _)
      exact ⟨T11, some (.int 0), _, _, _, X11, rfl, rfl, rfl, (fun h => by cases h), ⟨0, rfl, hh11, Or.inr ⟨rfl, Cod.dif hx.2.2.2.2.1 hy.2.2.2.2.1 hcd⟩⟩, fun fs hl => c13.trans (X11.ireturnOut hexec hret rfl (Or.inr (Or.inl rfl)) (hb hbytes d55) hl)⟩
theorem pays {l : Launch} {R : Room} {p : Program} {e : Env} {below : List Frame} {s : State} {sargs : Array Value} {len W : Nat} (x t : Addr) (V : Cell) (cd : Int32) (n : Nat) (f : Nat → Int32) (y t' : Addr) (V' : Cell) (cd' : Int32) (k : Nat) (g : Nat → Int32) (z : Int32) (htab : tab.before sargs s = true) (hfr : 2 ≤ R.frames) (hlo : W + 28 ≤ R.locals) :
    Back l R p e below s sargs yN len W (fun A₁ a₁ => A₁.cells + 0 ≤ R.cells ∧ A₁.slots + 0 ≤ R.slots ∧ P x t V cd n f y t' V' cd' k g z a₁ A₁.U) (fun A₁ _ v₁ B₁ => Says01 (SameT n f k g) v₁ A₁.U B₁.U ∧ B₁.locs = A₁.locs ++ [] ∧ B₁.cells = A₁.cells + 0 ∧ B₁.slots = A₁.slots + 0) :=
  (law l x t V cd n f y t' V' cd' k g z).pays htab hfr (by omega)
end SEq
end StrChars
namespace StrChars.Road
open Jvm Sem ClassFile Op Lib Jvm.Stand Jvm.Free Jvm.Free.XT
open Jvm.Lib.Cold (StaticIs)
/-- the words of String.equals(Object) -/
abbrev wordsEq : List Jvm.Cond := [.code SEq.yN SEq.yB 3 (some .boolean), .initialized ST, .classLink ST 10 ST, .fieldLink ST 38 ST "COMPACT_STRINGS" "Z", .fieldLink ST 15 ST "coder" "B", .fieldLink ST 9 ST "value" "[B", .methodLink ST 541 LEq.yN, .static LEq.yN, .code LEq.yN LEq.yB 3 (some .boolean), .initialized "java/lang/StringLatin1"]
theorem tabEq_of {a : Array Value} {s : State} (h : ∀ w ∈ wordsEq, w.before a s = true) : SEq.tab.before a s = true := by
  have hl : LEq.tab.before a s = true := unparts (wk h (.code LEq.yN LEq.yB 3 (some .boolean))) (wks h (.initialized LEq.yN.cls :: LEq.site))
  have q := consq hl h
  exact unparts (wk q (.code SEq.yN SEq.yB 3 (some .boolean))) (wks q (.initialized SEq.yN.cls :: SEq.site))
theorem movedEq {Z s : State} {a0 args : Array Value} (hZ : Z.Warmed39 s.vm) (hw : ∀ d ∈ wordsEq, d.before a0 Z = true) : ∀ d ∈ wordsEq, d.before args s = true := fun d hd => by
  have t : ∀ d ∈ wordsEq, (d.onTables && d.keepsFace) = true := by decide +kernel
  exact RoadKit.mv hZ (hw d hd) (t d hd)
/-- the road's facts of a String, as the laws ask it -/
theorem txt_of {Z U : State} {a0 : Array Value} {kI : Nat} (wi : (Jvm.Cond.instantiable ST kI).before a0 Z = true) (al : Z.vm.Alike U.vm) {x t : Addr} {kb : ClassId} {cs : List Int32} {cd N2 : Int32} {vs : List Value} (E : RoadKit.Exa Z U.heap x ST) (V : RoadKit.Fld Z U.heap x ST "value" "[B" (.ref t)) (C : RoadKit.Fld Z U.heap x ST "coder" "B" (.int cd)) (K : RoadKit.Arv Z U.heap t kb .byte N2 vs (.int 0)) (hc : CodA cs cd N2 vs) (hb : ∀ c ∈ cs, ¬ c < 0 ∧ ¬ (65535 : Int32) < c) (l2 : cs.length ≤ 4000) :
    ∃ A, Txt x t A cd cs.length (fun j => cs.getD j 0) U := by
  obtain ⟨A, K1, K2, K3, K4, K5, K6⟩ := K
  have hcod := hc.cod (by omega) K3 K5
  obtain ⟨D, fV, fC, hB, F1, F2, g1, g2, -, -⟩ := strObj wi al E V C
  exact ⟨A, ⟨_, hB.2.2.1, D, hB.1, rfl, by cases q : D.vm <;> first | rfl | exact absurd q (hB.2.1.2 _)⟩, Has.of hB F1 g1, Has.of hB F2 g2, ⟨K1.1, State.isArrayOf_alike al K1.2.1, K1.2.2, by rcases hcod with ⟨-, q, -⟩ | ⟨-, q, -⟩ <;> omega⟩, hcod, fun j hj => by
    have e : cs.getD j 0 = cs[j] := by simp [List.getD_eq_getElem?_getD, hj]
    show ¬ cs.getD j 0 < 0 ∧ ¬ 65535 < cs.getD j 0
    rw [e]; exact hb _ (List.getElem_mem _)⟩
theorem same_list (cs ds : List Int32) : SameT cs.length (fun j => cs.getD j 0) ds.length (fun j => ds.getD j 0) ↔ cs = ds := by
  constructor
  · rintro ⟨e, q⟩
    refine List.ext_getElem e fun j h1 h2 => ?_
    have := q j h1
    simpa [List.getD_eq_getElem?_getD, h1, h2] using this
  · rintro rfl
    exact ⟨rfl, fun _ _ => rfl⟩
/-- **equals(Object) OF TWO SUCH STRINGS**: 1 just where the chars are the same -/
theorem eqW {p : Program} {l : Launch} {e : Env} {R : Room} {s : State} {args : Array Value} {below : List Frame} {len W : Nat} {Z : State} {a0 : Array Value} {h : Heap} (hZ : Z.Warmed39 s.vm) (hw : ∀ d ∈ wordsEq, d.before a0 Z = true) {kI : Nat} (wi : (Jvm.Cond.instantiable ST kI).before a0 Z = true)
    {x t : Addr} {kb : ClassId} {cs : List Int32} {cd N2 : Int32} {vs : List Value} (E : RoadKit.Exa Z h x ST) (V : RoadKit.Fld Z h x ST "value" "[B" (.ref t)) (C : RoadKit.Fld Z h x ST "coder" "B" (.int cd)) (K : RoadKit.Arv Z h t kb .byte N2 vs (.int 0)) (hc : CodA cs cd N2 vs) (hb : ∀ c ∈ cs, ¬ c < 0 ∧ ¬ (65535 : Int32) < c) (l2 : cs.length ≤ 4000)
    {y t' : Addr} {kb' : ClassId} {ds : List Int32} {cd' N2' : Int32} {vs' : List Value} (E' : RoadKit.Exa Z h y ST) (V' : RoadKit.Fld Z h y ST "value" "[B" (.ref t')) (C' : RoadKit.Fld Z h y ST "coder" "B" (.int cd')) (K' : RoadKit.Arv Z h t' kb' .byte N2' vs' (.int 0)) (hc' : CodA ds cd' N2' vs') (hb' : ∀ c ∈ ds, ¬ c < 0 ∧ ¬ (65535 : Int32) < c) (l2' : ds.length ≤ 4000)
    {z : Int32} (S : RoadKit.Sta Z h ST "COMPACT_STRINGS" "Z" (.int z)) (hz : ¬ z = 0) (hfr : 2 ≤ R.frames) (hlo : W + 28 ≤ R.locals) :
    Back l R p e below s args (⟨"java/lang/String", "equals", "(Ljava/lang/Object;)Z"⟩ : MethodName) len W (fun P a => a = #[.ref x, .ref y] ∧ P.U.heap = h ∧ P.cells + 0 ≤ R.cells ∧ P.slots + 0 ≤ R.slots)
      (fun P _ v B => ∃ L, (((v = some (.int 1) ∧ cs = ds) ∨ (v = some (.int 0) ∧ ¬ cs = ds)) ∧ L = [] ∧ B.U.heap = h) ∧ B.locs = P.locs ++ L ∧ B.cells = P.cells + 0 ∧ B.slots = P.slots + 0) := by
  intro m meth c P g ig mk a X hg hsize hdg hW hn hp'
  obtain ⟨rfl, rfl, r1, r2⟩ := hp'
  have al : Z.vm.Alike P.U.vm := hZ.alike.trans X.warmed.alike
  obtain ⟨A, hx⟩ := txt_of wi al E V C K hc hb l2
  obtain ⟨A', hy⟩ := txt_of wi al E' V' C' K' hc' hb' l2'
  obtain ⟨v, B, X', ⟨⟨w, hv, hh, hq⟩, hl, hk, hs⟩, st⟩ := SEq.pays x t A cd cs.length (fun j => cs.getD j 0) y t' A' cd' ds.length (fun j => ds.getD j 0) z (tabEq_of (movedEq hZ hw)) hfr hlo m meth c P g ig mk _ X hg hsize hdg hW hn ⟨r1, r2, rfl, hx, hy, sta_is al S, hz⟩
  refine ⟨v, B, X', ⟨[], ⟨?_, rfl, hh⟩, hl, hk, hs⟩, st⟩
  rcases hq with ⟨rfl, q⟩ | ⟨rfl, q⟩
  · exact Or.inl ⟨hv, (same_list cs ds).mp q⟩
  · exact Or.inr ⟨hv, fun e => q ((same_list cs ds).mpr e)⟩
end StrChars.Road
end Jvm.Pilot.@@N@@
namespace Jvm.Pilot.@@N@@
open Jvm Jvm.ClassFile Sem Op Lib Jvm.Free Jvm.Stand Jvm.LawKit Jvm.RoadKit Bundle Jvm.Pilot.@@N@@.Jvm.D
abbrev own_y0 : MethodName := ⟨"java/lang/Record", "<init>", "()V"⟩
abbrev own_y1 : MethodName := ⟨"java/util/Objects", "requireNonNull", "(Ljava/lang/Object;Ljava/lang/String;)Ljava/lang/Object;"⟩
abbrev own_y2 : MethodName := ⟨"java/lang/Number", "<init>", "()V"⟩
abbrev own_y3 : MethodName := ⟨"java/lang/Long", "<init>", "(J)V"⟩
abbrev own_y4 : MethodName := ⟨"java/lang/Long", "valueOf", "(J)Ljava/lang/Long;"⟩
abbrev own_y5 : MethodName := ⟨"java/lang/String", "coder", "()B"⟩
abbrev own_y6 : MethodName := ⟨"java/lang/String", "isLatin1", "()Z"⟩
abbrev own_y7 : MethodName := ⟨"java/lang/String", "length", "()I"⟩
abbrev own_y8 : MethodName := ⟨"jdk/internal/util/Preconditions", "checkIndex", "(IILjava/util/function/BiFunction;)I"⟩
abbrev own_y9 : MethodName := ⟨"java/lang/String", "checkIndex", "(II)V"⟩
abbrev own_y10 : MethodName := ⟨"java/lang/StringLatin1", "charAt", "([BI)C"⟩
abbrev own_y11 : MethodName := ⟨"java/lang/String", "charAt", "(I)C"⟩
abbrev own_y12 : MethodName := ⟨"java/lang/StringLatin1", "canEncode", "(C)Z"⟩
abbrev own_y13 : MethodName := ⟨"java/lang/StringLatin1", "toBytes", "(C)[B"⟩
abbrev own_y14 : MethodName := ⟨"java/lang/String", "<init>", "([BB)V"⟩
abbrev own_y15 : MethodName := ⟨"java/lang/String", "valueOf", "(C)Ljava/lang/String;"⟩
abbrev own_y16 : MethodName := ⟨"java/lang/String", "<init>", "([CIILjava/lang/Void;)V"⟩
abbrev own_y17 : MethodName := ⟨"java/lang/String", "<init>", "([C)V"⟩
abbrev own_y18 : MethodName := ⟨"com/example/termflow/termflow/feed/Link", "<init>", "(Ljava/lang/String;Ljava/lang/String;Ljava/lang/String;Ljava/lang/Long;Ljava/lang/String;Ljava/lang/String;Z)V"⟩
abbrev own_y19 : MethodName := ⟨"com/example/termflow/termflow/feed/Link", "isArtefact", "()Z"⟩
abbrev own_y20 : MethodName := ⟨"java/lang/String", "equals", "(Ljava/lang/Object;)Z"⟩
abbrev own_y21 : MethodName := ⟨"java/lang/Math", "min", "(II)I"⟩
abbrev own_y22 : MethodName := ⟨"com/example/termflow/termflow/feed/LinkIsArtefactPinLaw", "g", "(Ljava/lang/String;IICI)C"⟩
abbrev own_y23 : MethodName := ⟨"com/example/termflow/termflow/feed/LinkIsArtefactPinLaw", "mk", "(Ljava/lang/String;IIC)Ljava/lang/String;"⟩
theorem own_hws : ∀ d ∈ StrChars.Road.words, d ∈ tables_1 := by
  intro d hd
  simp only [StrChars.Road.words, List.mem_cons, List.not_mem_nil, or_false] at hd
  rcases hd with rfl | rfl | rfl | rfl | rfl | rfl | rfl | rfl | rfl | rfl | rfl | rfl | rfl | rfl | rfl | rfl | rfl | rfl | rfl | rfl | rfl | rfl | rfl | rfl
  · exact List.mem_of_getElem? (i := 59) rfl
  · exact List.mem_of_getElem? (i := 1) rfl
  · exact List.mem_of_getElem? (i := 60) rfl
  · exact List.mem_of_getElem? (i := 61) rfl
  · exact List.mem_of_getElem? (i := 63) rfl
  · exact List.mem_of_getElem? (i := 19) rfl
  · exact List.mem_of_getElem? (i := 4) rfl
  · exact List.mem_of_getElem? (i := 13) rfl
  · exact List.mem_of_getElem? (i := 5) rfl
  · exact List.mem_of_getElem? (i := 20) rfl
  · exact List.mem_of_getElem? (i := 64) rfl
  · exact List.mem_of_getElem? (i := 65) rfl
  · exact List.mem_of_getElem? (i := 66) rfl
  · exact List.mem_of_getElem? (i := 67) rfl
  · exact List.mem_of_getElem? (i := 68) rfl
  · exact List.mem_of_getElem? (i := 74) rfl
  · exact List.mem_of_getElem? (i := 75) rfl
  · exact List.mem_of_getElem? (i := 70) rfl
  · exact List.mem_of_getElem? (i := 69) rfl
  · exact List.mem_of_getElem? (i := 3) rfl
  · exact List.mem_of_getElem? (i := 71) rfl
  · exact List.mem_of_getElem? (i := 72) rfl
  · exact List.mem_of_getElem? (i := 73) rfl
  · exact List.mem_of_getElem? (i := 76) rfl
theorem own_hwe : ∀ d ∈ StrChars.Road.wordsEq, d ∈ tables_1 := by
  intro d hd
  simp only [StrChars.Road.wordsEq, List.mem_cons, List.not_mem_nil, or_false] at hd
  rcases hd with rfl | rfl | rfl | rfl | rfl | rfl | rfl | rfl | rfl | rfl
  · exact List.mem_of_getElem? (i := 152) rfl
  · exact List.mem_of_getElem? (i := 1) rfl
  · exact List.mem_of_getElem? (i := 83) rfl
  · exact List.mem_of_getElem? (i := 19) rfl
  · exact List.mem_of_getElem? (i := 20) rfl
  · exact List.mem_of_getElem? (i := 13) rfl
  · exact List.mem_of_getElem? (i := 153) rfl
  · exact List.mem_of_getElem? (i := 154) rfl
  · exact List.mem_of_getElem? (i := 155) rfl
  · exact List.mem_of_getElem? (i := 38) rfl
theorem own_toInt {a b : Int32} (h : a.toInt = b.toInt) : a = b := Int32.toInt_inj.mp h
theorem own_shr0 (n : Int32) : (n >>> ((0 : Int32) &&& 31)) = n := by
  apply own_toInt
  rw [c_ishr n (0 : Int32) 0 (by decide)]
  simp
def own_emp (n : Int32) : Int32 := if n = (0 : Int32) then 1 else 0
def own_chr (b : Int32) : Int32 := (b &&& (255 : Int32)).toUInt32.toUInt16.toUInt32.toInt32
theorem own_nar_c (x : Int32) : nar .char (x.toUInt32.toUInt16.toUInt32.toInt32) = x.toUInt32.toUInt16.toUInt32.toInt32 := by
  show (x.toUInt32.toUInt16.toUInt32.toInt32).toUInt32.toUInt16.toUInt32.toInt32 = _
  simp only [UInt32.toUInt32_toInt32, UInt16.toUInt16_toUInt32]
theorem own_nar_b (x : Int32) : nar .byte (x.toInt8.toInt32) = x.toInt8.toInt32 := by
  show (x.toInt8.toInt32).toInt8.toInt32 = _
  apply own_toInt
  have a1 := c_i2b x
  have a2 := c_i2b x.toInt8.toInt32
  omega
theorem own_chr_of {x : Int32} (h1 : ¬ x < (0 : Int32)) (h2 : ¬ (255 : Int32) < x) : own_chr (x.toInt8.toInt32) = x := by
  simp only [Int32.lt_iff_toInt_lt] at h1 h2
  have e0 : (0 : Int32).toInt = 0 := by decide
  have e1 : (255 : Int32).toInt = 255 := by decide
  have a1 := c_i2b x
  have a2 := c_mask (x.toInt8.toInt32) (255 : Int32) 8 (by decide) (by decide)
  have a3 := c_i2c ((x.toInt8.toInt32) &&& (255 : Int32))
  apply own_toInt
  show (((x.toInt8.toInt32) &&& (255 : Int32)).toUInt32.toUInt16.toUInt32.toInt32).toInt = x.toInt
  omega
theorem own_len {args : Array Value} {s : State} {t : Term} {a : Addr} {cl : Cell} {n : Int32} (ht : t.eval args s none [] s = some (.ref a)) (ha : s.arrayAt? a = some cl) (h : (Term.length t).eval args s none [] s = some (.int n)) : cl.slots.size < 2 ^ 31 ∧ cl.slots.size.toInt32 = n := by
  by_cases q : cl.slots.size < 2147483648
  · simp [Term.eval, ht, ha, q] at h
    exact ⟨q, h⟩
  · simp [Term.eval, ht, ha, q] at h
theorem own_idx {args : Array Value} {s : State} {j : Int32} (hj : ¬ j < 0) : (Term.index 0).eval args s none [j.toNatClampNeg] s = some (.int j) := idx_at hj
theorem own_sub {args : Array Value} {s : State} {idx : List Nat} {a : Term} {x y : Int32} (ha : a.eval args s none idx s = some (.int x)) : (Term.sub a (.int y)).eval args s none idx s = some (.int (x - y)) := by simp [Term.eval, ha]
theorem own_box_in {i : Int32} {cc : Cell} (S : cc.slots.size = (256 : Int32).toNatClampNeg) (h1 : ¬ i < (-128 : Int32)) (h2 : ¬ (127 : Int32) < i) : ¬ ((i + (128 : Int32)) < 0 ∨ cc.slots.size ≤ (i + (128 : Int32)).toNatClampNeg) := by
  refine inb_of S ?_
  simp only [Int32.lt_iff_toInt_lt, Int32.toInt_add] at h1 h2 ⊢
  have e1 : (-128 : Int32).toInt = -128 := by decide
  have e2 : (127 : Int32).toInt = 127 := by decide
  have e3 : (128 : Int32).toInt = 128 := by decide
  have e4 : (256 : Int32).toInt = 256 := by decide
  have e5 : (0 : Int32).toInt = 0 := by decide
  rw [e1] at h1
  rw [e2] at h2
  rw [e3, e4, e5, bmod32 (by omega) (by omega)]
  omega
theorem own_lbox_in {j : Int64} {cc : Cell} (S : cc.slots.size = (256 : Int32).toNatClampNeg) (h1 : ¬ (lcmpW j (-128 : Int64)) < (0 : Int32)) (h2 : ¬ (0 : Int32) < (lcmpW j (127 : Int64))) : ¬ ((j.toInt32 + (128 : Int32)) < 0 ∨ cc.slots.size ≤ (j.toInt32 + (128 : Int32)).toNatClampNeg) := by
  refine inb_of S ?_
  rw [lw_lt] at h1
  rw [lw_gt] at h2
  simp only [Int32.lt_iff_toInt_lt, Int64.lt_iff_toInt_lt] at h1 h2 ⊢
  have a1 := c_l2i j
  have a2 := c_iadd j.toInt32 (128 : Int32)
  have a3 := rng32 j.toInt32
  have a4 := rng32 (j.toInt32 + (128 : Int32))
  have e1 : (-128 : Int64).toInt = -128 := by decide
  have e2 : (127 : Int64).toInt = 127 := by decide
  have e3 : (128 : Int32).toInt = 128 := by decide
  have e4 : (256 : Int32).toInt = 256 := by decide
  have e5 : (0 : Int32).toInt = 0 := by decide
  omega
theorem own_four (x : Int32) : (x &&& (3 : Int32)) = (0 : Int32) ∨ (x &&& (3 : Int32)) = (1 : Int32) ∨ (x &&& (3 : Int32)) = (2 : Int32) ∨ (x &&& (3 : Int32)) = (3 : Int32) := by
  have h1 := c_mask x (3 : Int32) 2 (by decide) (by decide)
  have h3 : (x &&& (3 : Int32)).toInt = 0 ∨ (x &&& (3 : Int32)).toInt = 1 ∨ (x &&& (3 : Int32)).toInt = 2 ∨ (x &&& (3 : Int32)).toInt = 3 := by omega
  rcases h3 with h | h | h | h
  · exact Or.inl (own_toInt h)
  · exact Or.inr (Or.inl (own_toInt h))
  · exact Or.inr (Or.inr (Or.inl (own_toInt h)))
  · exact Or.inr (Or.inr (Or.inr ((own_toInt h))))
def own_EL : List (String × Nat) := [("com/example/termflow/termflow/feed/LinkIsArtefactPinLaw", 26), ("com/example/termflow/termflow/feed/LinkIsArtefactPinLaw", 28), ("com/example/termflow/termflow/feed/Link", 41), ("com/example/termflow/termflow/feed/Link", 49), ("java/lang/String", 7)]
theorem own_EW (Z : State) (a0 : Array Value) (hw : ∀ d ∈ tables_1, d.before a0 Z = true) : EW Z a0 own_EL := by
  have W_ : ∀ {d : Jvm.Cond} (i : Nat), tables_1[i]? = some d → d.before a0 Z = true := fun i h => hw _ (List.mem_of_getElem? h)
  exact (EW.cons (text := "alternate") (W_ 0 rfl) (by decide +kernel) (EW.cons (text := "related") (W_ 158 rfl) (by decide +kernel) (EW.cons (text := "alternate") (W_ 147 rfl) (by decide +kernel) (EW.cons (text := "related") (W_ 157 rfl) (by decide +kernel) (EW.cons (text := "") (W_ 161 rfl) (by decide +kernel) EW.nil)))))
def own_min (x y : Int32) : Int32 := if y < x then y else x
def own_g0 (i q x b : Int32) : Int32 := if i = q then x else b
def own_g1 (i q b b1 : Int32) : Int32 := if i < q then b else b1
def own_g2 (i q x b b1 : Int32) : Int32 := if i < q then b else if i = q then x else b1
abbrev kA (i b q x : Int32) : Int32 := nar .char (nar .char (own_g0 i q x (own_chr b)))
abbrev kB (i b b1 q : Int32) : Int32 := nar .char (nar .char (own_g1 i q (own_chr b) (own_chr b1)))
abbrev kC (i b b1 q x : Int32) : Int32 := nar .char (nar .char (own_g2 i q x (own_chr b) (own_chr b1)))
theorem own_narI {x : Int32} (h : ¬ x < (0 : Int32) ∧ ¬ (255 : Int32) < x) : nar .char x = x := by
  show x.toUInt32.toUInt16.toUInt32.toInt32 = x
  obtain ⟨h1, h2⟩ := h
  simp only [Int32.lt_iff_toInt_lt] at h1 h2
  have e0 : (0 : Int32).toInt = 0 := by decide
  have e1 : (255 : Int32).toInt = 255 := by decide
  have a1 := c_i2c x
  apply own_toInt
  omega
theorem own_g0b {i q x b : Int32} (hx : ¬ x < (0 : Int32) ∧ ¬ (255 : Int32) < x) (hb : ¬ b < (0 : Int32) ∧ ¬ (255 : Int32) < b) : ¬ own_g0 i q x b < (0 : Int32) ∧ ¬ (255 : Int32) < own_g0 i q x b := by
  unfold own_g0
  split
  · exact hx
  · exact hb
theorem own_g1b {i q b b1 : Int32} (hx : ¬ b < (0 : Int32) ∧ ¬ (255 : Int32) < b) (hb : ¬ b1 < (0 : Int32) ∧ ¬ (255 : Int32) < b1) : ¬ own_g1 i q b b1 < (0 : Int32) ∧ ¬ (255 : Int32) < own_g1 i q b b1 := by
  unfold own_g1
  split
  · exact hx
  · exact hb
theorem own_g2b {i q x b b1 : Int32} (hx : ¬ x < (0 : Int32) ∧ ¬ (255 : Int32) < x) (hb : ¬ b < (0 : Int32) ∧ ¬ (255 : Int32) < b) (hc : ¬ b1 < (0 : Int32) ∧ ¬ (255 : Int32) < b1) : ¬ own_g2 i q x b b1 < (0 : Int32) ∧ ¬ (255 : Int32) < own_g2 i q x b b1 := by
  unfold own_g2
  split
  · exact hb
  · split
    · exact hx
    · exact hc
theorem d25_0 : decode jdk_30_method_1_code 0 = .ok (.aload_n 0, 1) := by decide +kernel
theorem d25_1 : decode jdk_30_method_1_code 1 = .ok (.invokespecial 1, 3) := by decide +kernel
theorem d25_4 : decode jdk_30_method_1_code 4 = .ok (.return_, 1) := by decide +kernel
theorem pn_java_2flang_2fRecord : plainName "java/lang/Record" = true := by first | (simp [plainName, overriddenIn]; done) | decide +kernel
theorem ef_recinit (m : MethodId) (a : Addr) : entryFrame m #[(.ref a)] 1 = mkF m 0 #[rv a] [] := by
  first | (simp [entryFrame, mkF, argsToLocals, Value.category]; done) | rfl
def Q_recinit (Z : State) (a : Addr) (h0 : Heap) (n0 : Nat) (v : Option Value) (h : Heap) (L : List Loc) : Prop := v = none ∧ Fr n0 L ∧ h = h0
set_option maxRecDepth 65536 in
set_option maxHeartbeats 40000000 in
theorem rm_recinit (l : Launch) (Z : State) (a0 : Array Value) (hw : ∀ d ∈ tables_1, d.before a0 Z = true) (ws : List Jvm.Cond) (a : Addr) (h0 : Heap) (n0 : Nat) (O0 : Old Z n0 h0) :
    MetFree l own_y0 (head1 (Jvm.Cond.code own_y0 jdk_30_method_1_code 1 none :: ws) ({ frames := 1, cells := 0, slots := 0, locals := 12 } : Room)) (fun aq_ Uq_ => aq_ = #[(.ref a)] ∧ Z.Warmed39 Uq_.vm ∧ Uq_.heap = h0) (fun _ _ _ _ _ => True) (fun _ Uq_ oq_ Ur_ => ∃ vq_ Lq_, oq_ = .returned vq_ ∧ Q_recinit Z a h0 n0 vq_ Ur_.heap Lq_ ∧ FrameEnd Uq_ oq_ Ur_ Lq_ ({ frames := 1, cells := 0, slots := 0, locals := 12 } : Room).cells ({ frames := 1, cells := 0, slots := 0, locals := 12 } : Room).slots) := by
  refine MetFree.of_bodySF (plainFor_of_name pn_java_2flang_2fRecord) hisR ?_
  intro p e s m args below meth c s₁ Bd hml0 hP hK
  obtain ⟨rfl, hZ, hh⟩ := hP
  have W_ : ∀ {d : Jvm.Cond} (i : Nat), tables_1[i]? = some d → d.before a0 Z = true := fun i h => hw _ (List.mem_of_getElem? h)
  have hx := Bd.exec
  have hby := Bd.bytes
  have hml : c.maxLocals = 1 := hml0
  have hown : s.vm.findClass "java/lang/Record" = some m.cls := findClass_of_methodNamed Bd.named
  have hnm := (name_of_methodNamed Bd.named Bd.method).1
  have X0 : Stand p l e ({ frames := 1, cells := 0, slots := 0, locals := 12 } : Room) s m #[(.ref a)] below meth c s₁ [] 0 0 := Stand.of_body Bd
  have e0 : s₁.heap = h0 := by rw [← hh, Bd.state]; rfl
  have N0 := Fr.nil n0
  have K0 := Keep.refl h0 []
  refine own_G.start (Q := Q_recinit Z a h0 n0) (ef_recinit m a) ?_
  refine own_G.sk 1 [(.ref a)] (fun _ kq => XS.aloadN X0.here hx rfl (hb hby d25_0) rfl rfl kq) ?_
  obtain ⟨T1, X1, e1, st1⟩ := initO X0 hx hZ hown (W_ 121 rfl) (W_ 65 rfl) (W_ 66 rfl) e0 (g := (mkF m 1 #[rv a] [(.ref a)])) rfl (by rw [hml]; rfl) rfl (hb hby d25_1) (by decide) (W := 0) (by show 2 * 0 + _ ≤ _; exact Nat.le_of_eq rfl) (by decide)
  refine own_G.st (T' := T1) 4 [] st1 ?_
  exact own_ret X1 e1 (v := none) (fun _ => rfl) Bd.notSynchronized ⟨rfl, N0, rfl⟩ (by decide) (by decide) (fun fs hr => X1.returnOut hx Bd.returns (hb hby d25_4) hr)
theorem d26_0 : decode jdk_31_method_11_code 0 = .ok (.aload_n 0, 1) := by decide +kernel
theorem d26_1 : decode jdk_31_method_11_code 1 = .ok (.ifnonnull 12, 3) := by decide +kernel
theorem d26_13 : decode jdk_31_method_11_code 13 = .ok (.aload_n 0, 1) := by decide +kernel
theorem d26_14 : decode jdk_31_method_11_code 14 = .ok (.areturn, 1) := by decide +kernel
theorem pn_java_2futil_2fObjects : plainName "java/util/Objects" = true := by first | (simp [plainName, overriddenIn]; done) | decide +kernel
theorem ef_rnn (m : MethodId) (o : Addr) (ms : Addr) : entryFrame m #[(.ref o), (.ref ms)] 2 = mkF m 0 #[rv o, rv ms] [] := by
  first | (simp [entryFrame, mkF, argsToLocals, Value.category]; done) | rfl
def Q_rnn (Z : State) (o : Addr) (ms : Addr) (h0 : Heap) (n0 : Nat) (v : Option Value) (h : Heap) (L : List Loc) : Prop := v = some (.ref o) ∧ Fr n0 L ∧ h = h0
set_option maxRecDepth 65536 in
set_option maxHeartbeats 40000000 in
theorem rm_rnn (l : Launch) (Z : State) (a0 : Array Value) (hw : ∀ d ∈ tables_1, d.before a0 Z = true) (ws : List Jvm.Cond) (o : Addr) (ms : Addr) (h0 : Heap) (n0 : Nat) (O0 : Old Z n0 h0) :
    MetFree l own_y1 (head1 (Jvm.Cond.code own_y1 jdk_31_method_11_code 2 (some (.object "java/lang/Object")) :: ws) ({ frames := 0, cells := 0, slots := 0, locals := 0 } : Room)) (fun aq_ Uq_ => aq_ = #[(.ref o), (.ref ms)] ∧ Z.Warmed39 Uq_.vm ∧ Uq_.heap = h0) (fun _ _ _ _ _ => True) (fun _ Uq_ oq_ Ur_ => ∃ vq_ Lq_, oq_ = .returned vq_ ∧ Q_rnn Z o ms h0 n0 vq_ Ur_.heap Lq_ ∧ FrameEnd Uq_ oq_ Ur_ Lq_ ({ frames := 0, cells := 0, slots := 0, locals := 0 } : Room).cells ({ frames := 0, cells := 0, slots := 0, locals := 0 } : Room).slots) := by
  refine MetFree.of_bodySF (plainFor_of_name pn_java_2futil_2fObjects) hisR ?_
  intro p e s m args below meth c s₁ Bd hml0 hP hK
  obtain ⟨rfl, hZ, hh⟩ := hP
  have W_ : ∀ {d : Jvm.Cond} (i : Nat), tables_1[i]? = some d → d.before a0 Z = true := fun i h => hw _ (List.mem_of_getElem? h)
  have hx := Bd.exec
  have hby := Bd.bytes
  have hml : c.maxLocals = 2 := hml0
  have hown : s.vm.findClass "java/util/Objects" = some m.cls := findClass_of_methodNamed Bd.named
  have hnm := (name_of_methodNamed Bd.named Bd.method).1
  have X0 : Stand p l e ({ frames := 0, cells := 0, slots := 0, locals := 0 } : Room) s m #[(.ref o), (.ref ms)] below meth c s₁ [] 0 0 := Stand.of_body Bd
  have e0 : s₁.heap = h0 := by rw [← hh, Bd.state]; rfl
  have N0 := Fr.nil n0
  have K0 := Keep.refl h0 []
  refine own_G.start (Q := Q_rnn Z o ms h0 n0) (ef_rnn m o ms) ?_
  refine own_G.sk 1 [(.ref o)] (fun _ kq => XS.aloadN X0.here hx rfl (hb hby d26_0) rfl rfl kq) ?_
  refine own_G.sk 13 [] (fun _ kq => XS.ifnonnullYes X0.here hx rfl (pc0 := 1) (pc' := 13) rfl (hb hby d26_1) rfl (by decide) (by decide) kq) ?_
  refine own_G.sk 14 [(.ref o)] (fun _ kq => XS.aloadN X0.here hx rfl (hb hby d26_13) rfl rfl kq) ?_
  exact own_ret X0 e0 (v := some (.ref o)) (fun h => by rw [Bd.returns] at h; cases h) Bd.notSynchronized ⟨rfl, N0, rfl⟩ (by decide) (by decide) (fun fs hr => own_retR X0 hx Bd.returns rfl rfl (hb hby d26_14) hr)
theorem d23_0 : decode jdk_18_method_1_code 0 = .ok (.aload_n 0, 1) := by decide +kernel
theorem d23_1 : decode jdk_18_method_1_code 1 = .ok (.invokespecial 1, 3) := by decide +kernel
theorem d23_4 : decode jdk_18_method_1_code 4 = .ok (.return_, 1) := by decide +kernel
theorem pn_java_2flang_2fNumber : plainName "java/lang/Number" = true := by first | (simp [plainName, overriddenIn]; done) | decide +kernel
theorem ef_numinit (m : MethodId) (a : Addr) : entryFrame m #[(.ref a)] 1 = mkF m 0 #[rv a] [] := by
  first | (simp [entryFrame, mkF, argsToLocals, Value.category]; done) | rfl
def Q_numinit (Z : State) (a : Addr) (h0 : Heap) (n0 : Nat) (v : Option Value) (h : Heap) (L : List Loc) : Prop := v = none ∧ Fr n0 L ∧ h = h0
set_option maxRecDepth 65536 in
set_option maxHeartbeats 40000000 in
theorem rm_numinit (l : Launch) (Z : State) (a0 : Array Value) (hw : ∀ d ∈ tables_1, d.before a0 Z = true) (ws : List Jvm.Cond) (a : Addr) (h0 : Heap) (n0 : Nat) (O0 : Old Z n0 h0) :
    MetFree l own_y2 (head1 (Jvm.Cond.code own_y2 jdk_18_method_1_code 1 none :: ws) ({ frames := 1, cells := 0, slots := 0, locals := 12 } : Room)) (fun aq_ Uq_ => aq_ = #[(.ref a)] ∧ Z.Warmed39 Uq_.vm ∧ Uq_.heap = h0) (fun _ _ _ _ _ => True) (fun _ Uq_ oq_ Ur_ => ∃ vq_ Lq_, oq_ = .returned vq_ ∧ Q_numinit Z a h0 n0 vq_ Ur_.heap Lq_ ∧ FrameEnd Uq_ oq_ Ur_ Lq_ ({ frames := 1, cells := 0, slots := 0, locals := 12 } : Room).cells ({ frames := 1, cells := 0, slots := 0, locals := 12 } : Room).slots) := by
  refine MetFree.of_bodySF (plainFor_of_name pn_java_2flang_2fNumber) hisR ?_
  intro p e s m args below meth c s₁ Bd hml0 hP hK
  obtain ⟨rfl, hZ, hh⟩ := hP
  have W_ : ∀ {d : Jvm.Cond} (i : Nat), tables_1[i]? = some d → d.before a0 Z = true := fun i h => hw _ (List.mem_of_getElem? h)
  have hx := Bd.exec
  have hby := Bd.bytes
  have hml : c.maxLocals = 1 := hml0
  have hown : s.vm.findClass "java/lang/Number" = some m.cls := findClass_of_methodNamed Bd.named
  have hnm := (name_of_methodNamed Bd.named Bd.method).1
  have X0 : Stand p l e ({ frames := 1, cells := 0, slots := 0, locals := 12 } : Room) s m #[(.ref a)] below meth c s₁ [] 0 0 := Stand.of_body Bd
  have e0 : s₁.heap = h0 := by rw [← hh, Bd.state]; rfl
  have N0 := Fr.nil n0
  have K0 := Keep.refl h0 []
  refine own_G.start (Q := Q_numinit Z a h0 n0) (ef_numinit m a) ?_
  refine own_G.sk 1 [(.ref a)] (fun _ kq => XS.aloadN X0.here hx rfl (hb hby d23_0) rfl rfl kq) ?_
  obtain ⟨T1, X1, e1, st1⟩ := initO X0 hx hZ hown (W_ 110 rfl) (W_ 65 rfl) (W_ 66 rfl) e0 (g := (mkF m 1 #[rv a] [(.ref a)])) rfl (by rw [hml]; rfl) rfl (hb hby d23_1) (by decide) (W := 0) (by show 2 * 0 + _ ≤ _; exact Nat.le_of_eq rfl) (by decide)
  refine own_G.st (T' := T1) 4 [] st1 ?_
  exact own_ret X1 e1 (v := none) (fun _ => rfl) Bd.notSynchronized ⟨rfl, N0, rfl⟩ (by decide) (by decide) (fun fs hr => X1.returnOut hx Bd.returns (hb hby d23_4) hr)
theorem pd__28_29V : parseMethodDescriptor "()V" = some ⟨[], none⟩ := by decide +kernel
theorem d22_0 : decode jdk_35_method_26_code 0 = .ok (.aload_n 0, 1) := by decide +kernel
theorem d22_1 : decode jdk_35_method_26_code 1 = .ok (.invokespecial 270, 3) := by decide +kernel
theorem d22_4 : decode jdk_35_method_26_code 4 = .ok (.aload_n 0, 1) := by decide +kernel
theorem d22_5 : decode jdk_35_method_26_code 5 = .ok (.lload_n 1, 1) := by decide +kernel
theorem d22_6 : decode jdk_35_method_26_code 6 = .ok (.putfield 273, 3) := by decide +kernel
theorem d22_9 : decode jdk_35_method_26_code 9 = .ok (.return_, 1) := by decide +kernel
theorem pn_java_2flang_2fLong : plainName "java/lang/Long" = true := by first | (simp [plainName, overriddenIn]; done) | decide +kernel
theorem ef_lnginit (m : MethodId) (a : Addr) (j : Int64) : entryFrame m #[(.ref a), (.long j)] 3 = mkF m 0 #[rv a, .val (.long j), .second] [] := by
  first | (simp [entryFrame, mkF, argsToLocals, Value.category]; done) | rfl
def Q_lnginit (Z : State) (a : Addr) (j : Int64) (h0 : Heap) (n0 : Nat) (v : Option Value) (h : Heap) (L : List Loc) : Prop := v = none ∧ Fr n0 L ∧ Keep h0 h [a] ∧ Exa Z h a "java/lang/Long"
set_option maxRecDepth 65536 in
set_option maxHeartbeats 40000000 in
theorem rm_lnginit (l : Launch) (Z : State) (a0 : Array Value) (hw : ∀ d ∈ tables_1, d.before a0 Z = true) (ws : List Jvm.Cond) (a : Addr) (j : Int64) (h0 : Heap) (n0 : Nat) (O0 : Old Z n0 h0) (F0 : Fld Z h0 a "java/lang/Long" "value" "J" (.long 0)) (E0 : Exa Z h0 a "java/lang/Long") (ga : n0 ≤ a) :
    MetFree l own_y3 (head1 (Jvm.Cond.code own_y3 jdk_35_method_26_code 3 none :: ws) ({ frames := 2, cells := 0, slots := 0, locals := 24 } : Room)) (fun aq_ Uq_ => aq_ = #[(.ref a), (.long j)] ∧ Z.Warmed39 Uq_.vm ∧ Uq_.heap = h0) (fun _ _ _ _ _ => True) (fun _ Uq_ oq_ Ur_ => ∃ vq_ Lq_, oq_ = .returned vq_ ∧ Q_lnginit Z a j h0 n0 vq_ Ur_.heap Lq_ ∧ FrameEnd Uq_ oq_ Ur_ Lq_ ({ frames := 2, cells := 0, slots := 0, locals := 24 } : Room).cells ({ frames := 2, cells := 0, slots := 0, locals := 24 } : Room).slots) := by
  refine MetFree.of_bodySF (plainFor_of_name pn_java_2flang_2fLong) hisR ?_
  intro p e s m args below meth c s₁ Bd hml0 hP hK
  obtain ⟨rfl, hZ, hh⟩ := hP
  have W_ : ∀ {d : Jvm.Cond} (i : Nat), tables_1[i]? = some d → d.before a0 Z = true := fun i h => hw _ (List.mem_of_getElem? h)
  have hx := Bd.exec
  have hby := Bd.bytes
  have hml : c.maxLocals = 3 := hml0
  have hown : s.vm.findClass "java/lang/Long" = some m.cls := findClass_of_methodNamed Bd.named
  have hnm := (name_of_methodNamed Bd.named Bd.method).1
  have X0 : Stand p l e ({ frames := 2, cells := 0, slots := 0, locals := 24 } : Room) s m #[(.ref a), (.long j)] below meth c s₁ [] 0 0 := Stand.of_body Bd
  have e0 : s₁.heap = h0 := by rw [← hh, Bd.state]; rfl
  have N0 := Fr.nil n0
  have K0 := Keep.refl h0 [a]
  refine own_G.start (Q := Q_lnginit Z a j h0 n0) (ef_lnginit m a j) ?_
  refine own_G.sk 1 [(.ref a)] (fun _ kq => XS.aloadN X0.here hx rfl (hb hby d22_0) rfl rfl kq) ?_
  obtain ⟨_, _, ⟨T1, L1, k1, n1⟩, -, X1, ⟨Lc1, hQ1, l1, y1, z1⟩, st1⟩ := X0.specialBack hx (y := own_y2) rfl hown (mvT hZ (W_ 104 rfl)) (mvT hZ (W_ 105 rfl)) (mvT hZ (W_ 109 rfl)) (by decide) (backOf (W := 0) (rm_numinit l Z a0 hw [] a h0 n0 O0 ) hZ (W_ 109 rfl) (W_ 108 rfl) (by decide) (by decide)) (g := (mkF m 1 #[rv a, .val (.long j), .second] [(.ref a)])) rfl (by rw [hml]; rfl) (Steps.refl _) (a := a) (argsL := []) (rest := []) (lenOf pd__28_29V rfl) rfl (by show 2 * 0 + _ ≤ _; exact Nat.le_of_eq rfl) (hb hby d22_1) (fun _ _ => ⟨rfl, e0, (by decide : 0 + 0 ≤ _), (by decide : 0 + 0 ≤ _)⟩)
  dsimp only [Pt.U, Pt.locs, Pt.cells, Pt.slots] at X1 l1 y1 z1 st1 hQ1
  subst l1 y1 z1
  obtain ⟨rfl, Nq1, P2⟩ := hQ1
  have N1 := Fr.app N0 Nq1
  refine own_G.st (T' := T1) 4 [] (fun _ kq => st1.trans kq) ?_
  refine own_G.sk 5 [(.ref a)] (fun _ kq => XS.aloadN X1.here hx rfl (hb hby d22_4) rfl rfl kq) ?_
  refine own_G.sk 6 [(.long j), (.ref a)] (fun _ kq => XS.lloadN X1.here hx rfl (hb hby d22_5) rfl kq) ?_
  obtain ⟨T3, h3, X3, e3, W3, st3⟩ := putF X1 hx hZ hown (host := "") (Or.inl (W_ 111 rfl)) Via.refl P2 F0 E0 (Or.inr ⟨(W_ 112 rfl), rfl, hnm⟩) (W_ 99 rfl) (ty := .long) (by decide) rfl rfl (g := (mkF m 6 #[rv a, .val (.long j), .second] [(.long j), (.ref a)])) rfl rfl (hb hby d22_6)
  have N3 := Fr.snoc X3 N1 ga
  have F4 := F0.same W3
  have F5 := E0.wr W3
  have O6 := O0.wr W3 ga
  have K7 := K0.wr W3 (Or.inl (List.mem_of_getElem? (i := 0) rfl))
  refine own_G.st (T' := T3) 9 [] st3 ?_
  exact own_ret X3 e3 (v := none) (fun _ => rfl) Bd.notSynchronized ⟨rfl, N3, K7, F5⟩ (by decide) (by decide) (fun fs hr => X3.returnOut hx Bd.returns (hb hby d22_9) hr)
theorem pd__28J_29V : parseMethodDescriptor "(J)V" = some ⟨[.long], none⟩ := by decide +kernel
theorem d21_0 : decode jdk_35_method_24_code 0 = .ok (.sipush 128, 3) := by decide +kernel
theorem d21_3 : decode jdk_35_method_24_code 3 = .ok (.istore_n 2, 1) := by decide +kernel
theorem d21_4 : decode jdk_35_method_24_code 4 = .ok (.lload_n 0, 1) := by decide +kernel
theorem d21_5 : decode jdk_35_method_24_code 5 = .ok (.ldc2_w 230, 3) := by decide +kernel
theorem d21_8 : decode jdk_35_method_24_code 8 = .ok (.lcmp, 1) := by decide +kernel
theorem d21_9 : decode jdk_35_method_24_code 9 = .ok (.ifCond .lt 22, 3) := by decide +kernel
theorem d21_12 : decode jdk_35_method_24_code 12 = .ok (.lload_n 0, 1) := by decide +kernel
theorem d21_13 : decode jdk_35_method_24_code 13 = .ok (.ldc2_w 232, 3) := by decide +kernel
theorem d21_16 : decode jdk_35_method_24_code 16 = .ok (.lcmp, 1) := by decide +kernel
theorem d21_17 : decode jdk_35_method_24_code 17 = .ok (.ifCond .gt 14, 3) := by decide +kernel
theorem d21_20 : decode jdk_35_method_24_code 20 = .ok (.getstatic 234, 3) := by decide +kernel
theorem d21_23 : decode jdk_35_method_24_code 23 = .ok (.lload_n 0, 1) := by decide +kernel
theorem d21_24 : decode jdk_35_method_24_code 24 = .ok (.l2i, 1) := by decide +kernel
theorem d21_25 : decode jdk_35_method_24_code 25 = .ok (.sipush 128, 3) := by decide +kernel
theorem d21_28 : decode jdk_35_method_24_code 28 = .ok (.iadd, 1) := by decide +kernel
theorem d21_29 : decode jdk_35_method_24_code 29 = .ok (.aaload, 1) := by decide +kernel
theorem d21_30 : decode jdk_35_method_24_code 30 = .ok (.areturn, 1) := by decide +kernel
theorem d21_31 : decode jdk_35_method_24_code 31 = .ok (.new 1, 3) := by decide +kernel
theorem d21_34 : decode jdk_35_method_24_code 34 = .ok (.dup, 1) := by decide +kernel
theorem d21_35 : decode jdk_35_method_24_code 35 = .ok (.lload_n 0, 1) := by decide +kernel
theorem d21_36 : decode jdk_35_method_24_code 36 = .ok (.invokespecial 240, 3) := by decide +kernel
theorem d21_39 : decode jdk_35_method_24_code 39 = .ok (.areturn, 1) := by decide +kernel
theorem ef_lvalueOf (m : MethodId) (j : Int64) : entryFrame m #[(.long j)] 3 = mkF m 0 #[.val (.long j), .second, .unset] [] := by
  first | (simp [entryFrame, mkF, argsToLocals, Value.category]; done) | rfl
def Q_lvalueOf (Z : State) (j : Int64) (la : Addr) (lc : Cell) (h0 : Heap) (n0 : Nat) (v : Option Value) (h : Heap) (L : List Loc) : Prop := ∃ (b : Addr), v = some (.ref b) ∧ Fr n0 L ∧ Keep h0 h [] ∧ Exa Z h b "java/lang/Long"
set_option maxRecDepth 65536 in
set_option maxHeartbeats 40000000 in
theorem rm_lvalueOf (l : Launch) (Z : State) (a0 : Array Value) (hw : ∀ d ∈ tables_1, d.before a0 Z = true) (ws : List Jvm.Cond) (j : Int64) (la : Addr) (lc : Cell) (h0 : Heap) (n0 : Nat) (O0 : Old Z n0 h0) (S_lcache : Sta Z Z.heap "java/lang/Long$LongCache" "cache" "[Ljava/lang/Long;" (.ref la)) (LX : Bxs Z la lc "java/lang/Long" "J" (256 : Int32) (fun j => .long (j - 128).toInt64)) :
    MetFree l own_y4 (head1 (Jvm.Cond.code own_y4 jdk_35_method_24_code 3 (some (.object "java/lang/Long")) :: ws) ({ frames := 3, cells := 1, slots := 1, locals := 39 } : Room)) (fun aq_ Uq_ => aq_ = #[(.long j)] ∧ Z.Warmed39 Uq_.vm ∧ Uq_.heap = h0) (fun _ _ _ _ _ => True) (fun _ Uq_ oq_ Ur_ => ∃ vq_ Lq_, oq_ = .returned vq_ ∧ Q_lvalueOf Z j la lc h0 n0 vq_ Ur_.heap Lq_ ∧ FrameEnd Uq_ oq_ Ur_ Lq_ ({ frames := 3, cells := 1, slots := 1, locals := 39 } : Room).cells ({ frames := 3, cells := 1, slots := 1, locals := 39 } : Room).slots) := by
  refine MetFree.of_bodySF (plainFor_of_name pn_java_2flang_2fLong) hisR ?_
  intro p e s m args below meth c s₁ Bd hml0 hP hK
  obtain ⟨rfl, hZ, hh⟩ := hP
  have W_ : ∀ {d : Jvm.Cond} (i : Nat), tables_1[i]? = some d → d.before a0 Z = true := fun i h => hw _ (List.mem_of_getElem? h)
  have hx := Bd.exec
  have hby := Bd.bytes
  have hml : c.maxLocals = 3 := hml0
  have hown : s.vm.findClass "java/lang/Long" = some m.cls := findClass_of_methodNamed Bd.named
  have hnm := (name_of_methodNamed Bd.named Bd.method).1
  have X0 : Stand p l e ({ frames := 3, cells := 1, slots := 1, locals := 39 } : Room) s m #[(.long j)] below meth c s₁ [] 0 0 := Stand.of_body Bd
  have e0 : s₁.heap = h0 := by rw [← hh, Bd.state]; rfl
  have N0 := Fr.nil n0
  have K0 := Keep.refl h0 []
  refine own_G.start (Q := Q_lvalueOf Z j la lc h0 n0) (ef_lvalueOf m j) ?_
  refine own_G.sk 3 [(.int 128)] (fun _ kq => XS.sipush X0.here hx rfl (hb hby d21_0) kq) ?_
  refine own_G.si 4 [] (fun _ kq => XS.istoreN X0.here hx rfl (hb hby d21_3) rfl (l' := #[.val (.long j), .second, iv 128]) rfl kq) ?_
  refine own_G.sk 5 [(.long j)] (fun _ kq => XS.lloadN X0.here hx rfl (hb hby d21_4) rfl kq) ?_
  refine own_G.sk 8 [(.long (-128 : Int64)), (.long j)] (fun _ kq => X0.ldc2Long hx hown (mvT hZ (W_ 97 rfl)) (g := (mkF m 5 #[.val (.long j), .second, iv 128] [(.long j)])) rfl (hb hby d21_5) _ kq) ?_
  refine own_G.sk 9 [(.int (lcmpW j (-128 : Int64)))] (fun _ kq => XS.lcmp X0.here hx rfl (hb hby d21_8) rfl kq) ?_
  rcases Classical.em ((lcmpW j (-128 : Int64)) < (0 : Int32)) with hc9 | hc9
  · refine own_G.sk 31 [] (fun _ kq => XS.ifYes X0.here hx rfl (pc0 := 9) (pc' := 31) rfl (hb hby d21_9) rfl ((if0 _ _).trans (tlt hc9).1) (by decide) (by decide) kq) ?_
    obtain ⟨T1, h1, X1, e1, E1, A1, D1, -, st1⟩ := newO X0 hx hZ hown (W_ 98 rfl) (W_ 99 rfl) (W_ 95 rfl) e0 (g := (mkF m 31 #[.val (.long j), .second, iv 128] [])) rfl (hb hby d21_31) (by decide) (by decide)
    obtain ⟨b1, g1⟩ : ∃ z, z = h0.size := ⟨_, rfl⟩
    rw [← g1] at A1 D1 st1
    have g2 : n0 ≤ b1 := Nat.le_trans O0.le (Nat.le_of_eq g1.symm)
    have z3 : h0.size ≤ b1 := Nat.le_trans K0.1 (Nat.le_of_eq g1.symm)
    have O4 := O0.ext E1
    have K5 := K0.ext E1
    have F6 : Fld Z h1 b1 "java/lang/Long" "value" "J" (.long 0) := D1 (Or.inr (W_ 112 rfl)) (ty := .long) (by decide)
    refine own_G.st (T' := T1) 34 [(.ref b1)] st1 ?_
    refine own_G.sk 35 [(.ref b1), (.ref b1)] (fun _ kq => XS.dup X1.here hx rfl (hb hby d21_34) rfl rfl kq) ?_
    refine own_G.sk 36 [(.long j), (.ref b1), (.ref b1)] (fun _ kq => XS.lloadN X1.here hx rfl (hb hby d21_35) rfl kq) ?_
    obtain ⟨_, _, ⟨T7, L7, k7, n7⟩, -, X7, ⟨Lc7, hQ7, l7, y7, z7⟩, st7⟩ := X1.specialBack hx (y := own_y3) rfl hown (mvT hZ (W_ 100 rfl)) (mvT hZ (W_ 101 rfl)) (mvT hZ (W_ 103 rfl)) (by decide) (backOf (W := 1) (rm_lnginit l Z a0 hw [] b1 j h1 n0 O4 F6 A1 g2) hZ (W_ 103 rfl) (W_ 95 rfl) (by decide) (by decide)) (g := (mkF m 36 #[.val (.long j), .second, iv 128] [(.long j), (.ref b1), (.ref b1)])) rfl (by rw [hml]; rfl) (Steps.refl _) (a := b1) (argsL := [(.long j)]) (rest := [(.ref b1)]) (lenOf pd__28J_29V rfl) rfl (by show 2 * 0 + _ ≤ _; exact Nat.le_of_eq rfl) (hb hby d21_36) (fun _ _ => ⟨rfl, e1, (by decide : 1 + 0 ≤ _), (by decide : 1 + 0 ≤ _)⟩)
    dsimp only [Pt.U, Pt.locs, Pt.cells, Pt.slots] at X7 l7 y7 z7 st7 hQ7
    subst l7 y7 z7
    obtain ⟨rfl, Nq7, P8, P9⟩ := hQ7
    have N7 := Fr.app N0 Nq7
    have F10 := A1.keep P8
    have O11 := O4.keep P8 (allS g2 all0)
    have K12 := K5.trans P8 (allS (Or.inr z3) all0)
    refine own_G.st (T' := T7) 39 [(.ref b1)] (fun _ kq => st7.trans kq) ?_
    exact own_ret X7 rfl (v := some (.ref b1)) (fun h => by rw [Bd.returns] at h; cases h) Bd.notSynchronized ⟨b1, rfl, N7, K12, P9⟩ (by decide) (by decide) (fun fs hr => own_retR X7 hx Bd.returns rfl rfl (hb hby d21_39) hr)
  · refine own_G.sk 12 [] (fun _ kq => XS.ifNo X0.here hx rfl (hb hby d21_9) rfl ((if0 _ _).trans (flt hc9).1) kq) ?_
    refine own_G.sk 13 [(.long j)] (fun _ kq => XS.lloadN X0.here hx rfl (hb hby d21_12) rfl kq) ?_
    refine own_G.sk 16 [(.long 127), (.long j)] (fun _ kq => X0.ldc2Long hx hown (mvT hZ (W_ 156 rfl)) (g := (mkF m 13 #[.val (.long j), .second, iv 128] [(.long j)])) rfl (hb hby d21_13) _ kq) ?_
    refine own_G.sk 17 [(.int (lcmpW j (127 : Int64)))] (fun _ kq => XS.lcmp X0.here hx rfl (hb hby d21_16) rfl kq) ?_
    rcases Classical.em ((0 : Int32) < (lcmpW j (127 : Int64))) with hc17 | hc17
    · refine own_G.sk 31 [] (fun _ kq => XS.ifYes X0.here hx rfl (pc0 := 17) (pc' := 31) rfl (hb hby d21_17) rfl ((if0 _ _).trans (tlt hc17).2.2.1) (by decide) (by decide) kq) ?_
      obtain ⟨T13, h13, X13, e13, E13, A13, D13, -, st13⟩ := newO X0 hx hZ hown (W_ 98 rfl) (W_ 99 rfl) (W_ 95 rfl) e0 (g := (mkF m 31 #[.val (.long j), .second, iv 128] [])) rfl (hb hby d21_31) (by decide) (by decide)
      obtain ⟨b13, g13⟩ : ∃ z, z = h0.size := ⟨_, rfl⟩
      rw [← g13] at A13 D13 st13
      have g14 : n0 ≤ b13 := Nat.le_trans O0.le (Nat.le_of_eq g13.symm)
      have z15 : h0.size ≤ b13 := Nat.le_trans K0.1 (Nat.le_of_eq g13.symm)
      have O16 := O0.ext E13
      have K17 := K0.ext E13
      have F18 : Fld Z h13 b13 "java/lang/Long" "value" "J" (.long 0) := D13 (Or.inr (W_ 112 rfl)) (ty := .long) (by decide)
      refine own_G.st (T' := T13) 34 [(.ref b13)] st13 ?_
      refine own_G.sk 35 [(.ref b13), (.ref b13)] (fun _ kq => XS.dup X13.here hx rfl (hb hby d21_34) rfl rfl kq) ?_
      refine own_G.sk 36 [(.long j), (.ref b13), (.ref b13)] (fun _ kq => XS.lloadN X13.here hx rfl (hb hby d21_35) rfl kq) ?_
      obtain ⟨_, _, ⟨T19, L19, k19, n19⟩, -, X19, ⟨Lc19, hQ19, l19, y19, z19⟩, st19⟩ := X13.specialBack hx (y := own_y3) rfl hown (mvT hZ (W_ 100 rfl)) (mvT hZ (W_ 101 rfl)) (mvT hZ (W_ 103 rfl)) (by decide) (backOf (W := 1) (rm_lnginit l Z a0 hw [] b13 j h13 n0 O16 F18 A13 g14) hZ (W_ 103 rfl) (W_ 95 rfl) (by decide) (by decide)) (g := (mkF m 36 #[.val (.long j), .second, iv 128] [(.long j), (.ref b13), (.ref b13)])) rfl (by rw [hml]; rfl) (Steps.refl _) (a := b13) (argsL := [(.long j)]) (rest := [(.ref b13)]) (lenOf pd__28J_29V rfl) rfl (by show 2 * 0 + _ ≤ _; exact Nat.le_of_eq rfl) (hb hby d21_36) (fun _ _ => ⟨rfl, e13, (by decide : 1 + 0 ≤ _), (by decide : 1 + 0 ≤ _)⟩)
      dsimp only [Pt.U, Pt.locs, Pt.cells, Pt.slots] at X19 l19 y19 z19 st19 hQ19
      subst l19 y19 z19
      obtain ⟨rfl, Nq19, P20, P21⟩ := hQ19
      have N19 := Fr.app N0 Nq19
      have F22 := A13.keep P20
      have O23 := O16.keep P20 (allS g14 all0)
      have K24 := K17.trans P20 (allS (Or.inr z15) all0)
      refine own_G.st (T' := T19) 39 [(.ref b13)] (fun _ kq => st19.trans kq) ?_
      exact own_ret X19 rfl (v := some (.ref b13)) (fun h => by rw [Bd.returns] at h; cases h) Bd.notSynchronized ⟨b13, rfl, N19, K24, P21⟩ (by decide) (by decide) (fun fs hr => own_retR X19 hx Bd.returns rfl rfl (hb hby d21_39) hr)
    · refine own_G.sk 20 [] (fun _ kq => XS.ifNo X0.here hx rfl (hb hby d21_17) rfl ((if0 _ _).trans (flt hc17).2.2.1) kq) ?_
      obtain ⟨T25, X25, e25, st25⟩ := getS2 X0 hx hZ hown (host := "") (Or.inl (W_ 159 rfl)) Via.refl e0 (Sta.ext O0.2 S_lcache) (g := (mkF m 20 #[.val (.long j), .second, iv 128] [])) rfl (hb hby d21_20)
      refine own_G.st (T' := T25) 23 [(.ref la)] st25 ?_
      refine own_G.sk 24 [(.long j), (.ref la)] (fun _ kq => XS.lloadN X25.here hx rfl (hb hby d21_23) rfl kq) ?_
      refine own_G.sk 25 [(.int (j.toInt32)), (.ref la)] (fun _ kq => XS.l2i X25.here hx rfl (hb hby d21_24) rfl kq) ?_
      refine own_G.sk 28 [(.int 128), (.int (j.toInt32)), (.ref la)] (fun _ kq => XS.sipush X25.here hx rfl (hb hby d21_25) kq) ?_
      refine own_G.sk 29 [(.int ((j.toInt32) + (128 : Int32))), (.ref la)] (fun _ kq => XS.iadd X25.here hx rfl (hb hby d21_28) rfl kq) ?_
      have hin26 := own_lbox_in LX.2.1 hc9 hc17
      obtain ⟨b26, hat26, Eb26, Fb26⟩ := LX.2.2.2 _ hin26
      have Ar26 := (LX.ext O0.2).1
      have Eb26' := Exa.ext O0.2 Eb26
      refine own_G.sk 30 [(.ref b26)] (fun _ kq => X25.aaload hx (j := ((j.toInt32) + (128 : Int32))) (v := (.ref b26)) (by rw [e25]; exact Ar26.1) (State.isArrayOf_alike hZ.alike Ar26.2.1) rfl Ar26.2.2 hin26 hat26 (g := (mkF m 29 #[.val (.long j), .second, iv 128] [(.int ((j.toInt32) + (128 : Int32))), (.ref la)])) rfl rfl (hb hby d21_29) _ kq) ?_
      exact own_ret X25 e25 (v := some (.ref b26)) (fun h => by rw [Bd.returns] at h; cases h) Bd.notSynchronized ⟨b26, rfl, N0, K0, Eb26'⟩ (by decide) (by decide) (fun fs hr => own_retR X25 hx Bd.returns rfl rfl (hb hby d21_30) hr)
theorem d2_0 : decode jdk_42_method_152_code 0 = .ok (.getstatic 38, 3) := by decide +kernel
theorem d2_3 : decode jdk_42_method_152_code 3 = .ok (.ifCond .eq 10, 3) := by decide +kernel
theorem d2_6 : decode jdk_42_method_152_code 6 = .ok (.aload_n 0, 1) := by decide +kernel
theorem d2_7 : decode jdk_42_method_152_code 7 = .ok (.getfield 15, 3) := by decide +kernel
theorem d2_10 : decode jdk_42_method_152_code 10 = .ok (.goto 4, 3) := by decide +kernel
theorem d2_14 : decode jdk_42_method_152_code 14 = .ok (.ireturn, 1) := by decide +kernel
theorem pn_java_2flang_2fString : plainName "java/lang/String" = true := by first | (simp [plainName, overriddenIn]; done) | decide +kernel
theorem ef_coder (m : MethodId) (a : Addr) : entryFrame m #[(.ref a)] 1 = mkF m 0 #[rv a] [] := by
  first | (simp [entryFrame, mkF, argsToLocals, Value.category]; done) | rfl
def Q_coder (Z : State) (a : Addr) (csz : Int32) (h0 : Heap) (n0 : Nat) (v : Option Value) (h : Heap) (L : List Loc) : Prop := v = some (.int 0) ∧ Fr n0 L ∧ h = h0
set_option maxRecDepth 65536 in
set_option maxHeartbeats 40000000 in
theorem rm_coder (l : Launch) (Z : State) (a0 : Array Value) (hw : ∀ d ∈ tables_1, d.before a0 Z = true) (ws : List Jvm.Cond) (a : Addr) (csz : Int32) (h0 : Heap) (n0 : Nat) (O0 : Old Z n0 h0) (S_CS : Sta Z Z.heap "java/lang/String" "COMPACT_STRINGS" "Z" (.int csz)) (hcs : ¬ csz = (0 : Int32)) (Fc : Fld Z h0 a "java/lang/String" "coder" "B" (.int 0)) :
    MetFree l own_y5 (head1 (Jvm.Cond.code own_y5 jdk_42_method_152_code 1 (some .byte) :: ws) ({ frames := 0, cells := 0, slots := 0, locals := 0 } : Room)) (fun aq_ Uq_ => aq_ = #[(.ref a)] ∧ Z.Warmed39 Uq_.vm ∧ Uq_.heap = h0) (fun _ _ _ _ _ => True) (fun _ Uq_ oq_ Ur_ => ∃ vq_ Lq_, oq_ = .returned vq_ ∧ Q_coder Z a csz h0 n0 vq_ Ur_.heap Lq_ ∧ FrameEnd Uq_ oq_ Ur_ Lq_ ({ frames := 0, cells := 0, slots := 0, locals := 0 } : Room).cells ({ frames := 0, cells := 0, slots := 0, locals := 0 } : Room).slots) := by
  refine MetFree.of_bodySF (plainFor_of_name pn_java_2flang_2fString) hisR ?_
  intro p e s m args below meth c s₁ Bd hml0 hP hK
  obtain ⟨rfl, hZ, hh⟩ := hP
  have W_ : ∀ {d : Jvm.Cond} (i : Nat), tables_1[i]? = some d → d.before a0 Z = true := fun i h => hw _ (List.mem_of_getElem? h)
  have hx := Bd.exec
  have hby := Bd.bytes
  have hml : c.maxLocals = 1 := hml0
  have hown : s.vm.findClass "java/lang/String" = some m.cls := findClass_of_methodNamed Bd.named
  have hnm := (name_of_methodNamed Bd.named Bd.method).1
  have X0 : Stand p l e ({ frames := 0, cells := 0, slots := 0, locals := 0 } : Room) s m #[(.ref a)] below meth c s₁ [] 0 0 := Stand.of_body Bd
  have e0 : s₁.heap = h0 := by rw [← hh, Bd.state]; rfl
  have N0 := Fr.nil n0
  have K0 := Keep.refl h0 []
  refine own_G.start (Q := Q_coder Z a csz h0 n0) (ef_coder m a) ?_
  obtain ⟨T1, X1, e1, st1⟩ := getS2 X0 hx hZ hown (host := "") (Or.inl (W_ 19 rfl)) Via.refl e0 (Sta.ext O0.2 S_CS) (g := (mkF m 0 #[rv a] [])) rfl (hb hby d2_0)
  refine own_G.st (T' := T1) 3 [(.int csz)] st1 ?_
  have hc3 : ¬ (csz = (0 : Int32)) := hcs
  refine own_G.sk 6 [] (fun _ kq => XS.ifNo X1.here hx rfl (hb hby d2_3) rfl ((if0 _ _).trans (feq hc3).1) kq) ?_
  refine own_G.sk 7 [(.ref a)] (fun _ kq => XS.aloadN X1.here hx rfl (hb hby d2_6) rfl rfl kq) ?_
  obtain ⟨T2, X2, e2, st2⟩ := getF X1 hx hZ hown (host := "") (Or.inl (W_ 20 rfl)) Via.refl e1 Fc (g := (mkF m 7 #[rv a] [(.ref a)])) rfl rfl (hb hby d2_7)
  refine own_G.st (T' := T2) 10 [(.int 0)] st2 ?_
  refine own_G.sk 14 [(.int 0)] (fun _ kq => XS.goto X2.here hx rfl (pc0 := 10) (pc' := 14) rfl (hb hby d2_10) (by decide) (by decide) kq) ?_
  exact own_ret X2 e2 (v := some (.int (nar .byte (0 : Int32)))) (fun h => by rw [Bd.returns] at h; cases h) Bd.notSynchronized ⟨rfl, N0, rfl⟩ (by decide) (by decide) (fun fs hr => retN X2 hx (t := .byte) Bd.returns (by simp) (hb hby d2_14) hr)
theorem d5_0 : decode jdk_42_method_154_code 0 = .ok (.getstatic 38, 3) := by decide +kernel
theorem d5_3 : decode jdk_42_method_154_code 3 = .ok (.ifCond .eq 14, 3) := by decide +kernel
theorem d5_6 : decode jdk_42_method_154_code 6 = .ok (.aload_n 0, 1) := by decide +kernel
theorem d5_7 : decode jdk_42_method_154_code 7 = .ok (.getfield 15, 3) := by decide +kernel
theorem d5_10 : decode jdk_42_method_154_code 10 = .ok (.ifCond .ne 7, 3) := by decide +kernel
theorem d5_13 : decode jdk_42_method_154_code 13 = .ok (.iconst 1, 1) := by decide +kernel
theorem d5_14 : decode jdk_42_method_154_code 14 = .ok (.goto 4, 3) := by decide +kernel
theorem d5_18 : decode jdk_42_method_154_code 18 = .ok (.ireturn, 1) := by decide +kernel
theorem ef_isLat (m : MethodId) (a : Addr) : entryFrame m #[(.ref a)] 1 = mkF m 0 #[rv a] [] := by
  first | (simp [entryFrame, mkF, argsToLocals, Value.category]; done) | rfl
def Q_isLat (Z : State) (a : Addr) (csz : Int32) (h0 : Heap) (n0 : Nat) (v : Option Value) (h : Heap) (L : List Loc) : Prop := v = some (.int 1) ∧ Fr n0 L ∧ h = h0
set_option maxRecDepth 65536 in
set_option maxHeartbeats 40000000 in
theorem rm_isLat (l : Launch) (Z : State) (a0 : Array Value) (hw : ∀ d ∈ tables_1, d.before a0 Z = true) (ws : List Jvm.Cond) (a : Addr) (csz : Int32) (h0 : Heap) (n0 : Nat) (O0 : Old Z n0 h0) (S_CS : Sta Z Z.heap "java/lang/String" "COMPACT_STRINGS" "Z" (.int csz)) (hcs : ¬ csz = (0 : Int32)) (Fc : Fld Z h0 a "java/lang/String" "coder" "B" (.int 0)) :
    MetFree l own_y6 (head1 (Jvm.Cond.code own_y6 jdk_42_method_154_code 1 (some .boolean) :: ws) ({ frames := 0, cells := 0, slots := 0, locals := 0 } : Room)) (fun aq_ Uq_ => aq_ = #[(.ref a)] ∧ Z.Warmed39 Uq_.vm ∧ Uq_.heap = h0) (fun _ _ _ _ _ => True) (fun _ Uq_ oq_ Ur_ => ∃ vq_ Lq_, oq_ = .returned vq_ ∧ Q_isLat Z a csz h0 n0 vq_ Ur_.heap Lq_ ∧ FrameEnd Uq_ oq_ Ur_ Lq_ ({ frames := 0, cells := 0, slots := 0, locals := 0 } : Room).cells ({ frames := 0, cells := 0, slots := 0, locals := 0 } : Room).slots) := by
  refine MetFree.of_bodySF (plainFor_of_name pn_java_2flang_2fString) hisR ?_
  intro p e s m args below meth c s₁ Bd hml0 hP hK
  obtain ⟨rfl, hZ, hh⟩ := hP
  have W_ : ∀ {d : Jvm.Cond} (i : Nat), tables_1[i]? = some d → d.before a0 Z = true := fun i h => hw _ (List.mem_of_getElem? h)
  have hx := Bd.exec
  have hby := Bd.bytes
  have hml : c.maxLocals = 1 := hml0
  have hown : s.vm.findClass "java/lang/String" = some m.cls := findClass_of_methodNamed Bd.named
  have hnm := (name_of_methodNamed Bd.named Bd.method).1
  have X0 : Stand p l e ({ frames := 0, cells := 0, slots := 0, locals := 0 } : Room) s m #[(.ref a)] below meth c s₁ [] 0 0 := Stand.of_body Bd
  have e0 : s₁.heap = h0 := by rw [← hh, Bd.state]; rfl
  have N0 := Fr.nil n0
  have K0 := Keep.refl h0 []
  refine own_G.start (Q := Q_isLat Z a csz h0 n0) (ef_isLat m a) ?_
  obtain ⟨T1, X1, e1, st1⟩ := getS2 X0 hx hZ hown (host := "") (Or.inl (W_ 19 rfl)) Via.refl e0 (Sta.ext O0.2 S_CS) (g := (mkF m 0 #[rv a] [])) rfl (hb hby d5_0)
  refine own_G.st (T' := T1) 3 [(.int csz)] st1 ?_
  have hc3 : ¬ (csz = (0 : Int32)) := hcs
  refine own_G.sk 6 [] (fun _ kq => XS.ifNo X1.here hx rfl (hb hby d5_3) rfl ((if0 _ _).trans (feq hc3).1) kq) ?_
  refine own_G.sk 7 [(.ref a)] (fun _ kq => XS.aloadN X1.here hx rfl (hb hby d5_6) rfl rfl kq) ?_
  obtain ⟨T2, X2, e2, st2⟩ := getF X1 hx hZ hown (host := "") (Or.inl (W_ 20 rfl)) Via.refl e1 Fc (g := (mkF m 7 #[rv a] [(.ref a)])) rfl rfl (hb hby d5_7)
  refine own_G.st (T' := T2) 10 [(.int 0)] st2 ?_
  have hc10 : (0 : Int32) = (0 : Int32) := rfl
  refine own_G.sk 13 [] (fun _ kq => XS.ifNo X2.here hx rfl (hb hby d5_10) rfl ((if0 _ _).trans (teq hc10).2) kq) ?_
  refine own_G.sk 14 [(.int 1)] (fun _ kq => XS.iconst X2.here hx rfl (hb hby d5_13) kq) ?_
  refine own_G.sk 18 [(.int 1)] (fun _ kq => XS.goto X2.here hx rfl (pc0 := 14) (pc' := 18) rfl (hb hby d5_14) (by decide) (by decide) kq) ?_
  exact own_ret X2 e2 (v := some (.int 1)) (fun h => by rw [Bd.returns] at h; cases h) Bd.notSynchronized ⟨rfl, N0, rfl⟩ (by decide) (by decide) (fun fs hr => retN X2 hx (t := .boolean) Bd.returns (by simp) (hb hby d5_18) hr)
theorem pd__28_29B : parseMethodDescriptor "()B" = some ⟨[], some .byte⟩ := by decide +kernel
theorem d1_0 : decode jdk_42_method_54_code 0 = .ok (.aload_n 0, 1) := by decide +kernel
theorem d1_1 : decode jdk_42_method_54_code 1 = .ok (.getfield 9, 3) := by decide +kernel
theorem d1_4 : decode jdk_42_method_54_code 4 = .ok (.arraylength, 1) := by decide +kernel
theorem d1_5 : decode jdk_42_method_54_code 5 = .ok (.aload_n 0, 1) := by decide +kernel
theorem d1_6 : decode jdk_42_method_54_code 6 = .ok (.invokevirtual 335, 3) := by decide +kernel
theorem d1_9 : decode jdk_42_method_54_code 9 = .ok (.ishr, 1) := by decide +kernel
theorem d1_10 : decode jdk_42_method_54_code 10 = .ok (.ireturn, 1) := by decide +kernel
theorem ef_strlen (m : MethodId) (a : Addr) : entryFrame m #[(.ref a)] 1 = mkF m 0 #[rv a] [] := by
  first | (simp [entryFrame, mkF, argsToLocals, Value.category]; done) | rfl
def Q_strlen (Z : State) (a : Addr) (csz : Int32) (t : Addr) (n : Int32) (h0 : Heap) (n0 : Nat) (v : Option Value) (h : Heap) (L : List Loc) : Prop := v = some (.int n) ∧ Fr n0 L ∧ h = h0
set_option maxRecDepth 65536 in
set_option maxHeartbeats 40000000 in
theorem rm_strlen (l : Launch) (Z : State) (a0 : Array Value) (hw : ∀ d ∈ tables_1, d.before a0 Z = true) (ws : List Jvm.Cond) (a : Addr) (csz : Int32) (t : Addr) (n : Int32) (h0 : Heap) (n0 : Nat) (O0 : Old Z n0 h0) (S_CS : Sta Z Z.heap "java/lang/String" "COMPACT_STRINGS" "Z" (.int csz)) (hcs : ¬ csz = (0 : Int32)) (Fc : Fld Z h0 a "java/lang/String" "coder" "B" (.int 0)) (Fv : Fld Z h0 a "java/lang/String" "value" "[B" (.ref t)) (LN : own_Len Z h0 t n) (Ea : Exa Z h0 a "java/lang/String") :
    MetFree l own_y7 (head1 (Jvm.Cond.code own_y7 jdk_42_method_54_code 1 (some .int) :: ws) ({ frames := 1, cells := 0, slots := 0, locals := 13 } : Room)) (fun aq_ Uq_ => aq_ = #[(.ref a)] ∧ Z.Warmed39 Uq_.vm ∧ Uq_.heap = h0) (fun _ _ _ _ _ => True) (fun _ Uq_ oq_ Ur_ => ∃ vq_ Lq_, oq_ = .returned vq_ ∧ Q_strlen Z a csz t n h0 n0 vq_ Ur_.heap Lq_ ∧ FrameEnd Uq_ oq_ Ur_ Lq_ ({ frames := 1, cells := 0, slots := 0, locals := 13 } : Room).cells ({ frames := 1, cells := 0, slots := 0, locals := 13 } : Room).slots) := by
  refine MetFree.of_bodySF (plainFor_of_name pn_java_2flang_2fString) hisR ?_
  intro p e s m args below meth c s₁ Bd hml0 hP hK
  obtain ⟨rfl, hZ, hh⟩ := hP
  have W_ : ∀ {d : Jvm.Cond} (i : Nat), tables_1[i]? = some d → d.before a0 Z = true := fun i h => hw _ (List.mem_of_getElem? h)
  have hx := Bd.exec
  have hby := Bd.bytes
  have hml : c.maxLocals = 1 := hml0
  have hown : s.vm.findClass "java/lang/String" = some m.cls := findClass_of_methodNamed Bd.named
  have hnm := (name_of_methodNamed Bd.named Bd.method).1
  have X0 : Stand p l e ({ frames := 1, cells := 0, slots := 0, locals := 13 } : Room) s m #[(.ref a)] below meth c s₁ [] 0 0 := Stand.of_body Bd
  have e0 : s₁.heap = h0 := by rw [← hh, Bd.state]; rfl
  have N0 := Fr.nil n0
  have K0 := Keep.refl h0 []
  refine own_G.start (Q := Q_strlen Z a csz t n h0 n0) (ef_strlen m a) ?_
  refine own_G.sk 1 [(.ref a)] (fun _ kq => XS.aloadN X0.here hx rfl (hb hby d1_0) rfl rfl kq) ?_
  obtain ⟨T1, X1, e1, st1⟩ := getF X0 hx hZ hown (host := "") (Or.inl (W_ 13 rfl)) Via.refl e0 Fv (g := (mkF m 1 #[rv a] [(.ref a)])) rfl rfl (hb hby d1_1)
  refine own_G.st (T' := T1) 4 [(.ref t)] st1 ?_
  obtain ⟨cl2, ty2, Ar2, Sz2, Nz2⟩ := id LN
  refine own_G.step (g' := (mkF m 5 #[rv a] [(.int n)])) (fun tq_ kq_ => X1.arraylength hx (by rw [e1]; exact Ar2.1) (State.isArrayOf_alike hZ.alike Ar2.2.1) (g := (mkF m 4 #[rv a] [(.ref t)])) rfl rfl (hb hby d1_4) _ (by rw [len_of Sz2 Nz2]; exact kq_)) ?_
  refine own_G.sk 6 [(.ref a), (.int n)] (fun _ kq => XS.aloadN X1.here hx rfl (hb hby d1_5) rfl rfl kq) ?_
  obtain ⟨cq3, kq3, q3a, q3b, q3c⟩ := isOf hZ e1 Ea
  obtain ⟨_, _, ⟨T3, L3, k3, n3⟩, -, X3, ⟨Lc3, hQ3, l3, y3, z3⟩, st3⟩ := X1.virtualBack hx (y := own_y5) (z := own_y5) hown (mvT hZ (W_ 14 rfl)) (mvT hZ (W_ 15 rfl)) (notFace_of_selects (args := #[]) (mvT hZ (W_ 17 rfl))) (mvT hZ (W_ 17 rfl)) (mvT hZ (W_ 16 rfl)) (by decide) (backOf (W := 1) (rm_coder l Z a0 hw [] a csz h0 n0 O0 S_CS hcs Fc) hZ (W_ 18 rfl) (W_ 1 rfl) (by decide) (by decide)) q3a q3c (g := (mkF m 6 #[rv a] [(.ref a), (.int n)])) rfl (by rw [hml]; rfl) (Steps.refl _) (argsL := []) (rest := [(.int n)]) (lenOf pd__28_29B rfl) rfl (by show 2 * 0 + _ ≤ _; exact Nat.le_of_eq rfl) (hb hby d1_6) (fun _ _ => ⟨rfl, e1, (by decide : 0 + 0 ≤ _), (by decide : 0 + 0 ≤ _)⟩)
  dsimp only [Pt.U, Pt.locs, Pt.cells, Pt.slots] at X3 l3 y3 z3 st3 hQ3
  subst l3 y3 z3
  obtain ⟨rfl, Nq3, P4⟩ := hQ3
  have N3 := Fr.app N0 Nq3
  refine own_G.st (T' := T3) 9 [(.int 0), (.int n)] (fun _ kq => st3.trans kq) ?_
  refine own_G.sk 10 [(.int (n >>> ((0 : Int32) &&& 31)))] (fun _ kq => XS.ishr X3.here hx rfl (hb hby d1_9) rfl kq) ?_
  exact own_ret X3 P4 (v := some (.int (n >>> ((0 : Int32) &&& 31)))) (fun h => by rw [Bd.returns] at h; cases h) Bd.notSynchronized ⟨(by rw [own_shr0]), N3, rfl⟩ (by decide) (by decide) (fun fs hr => retI X3 hx Bd.returns (hb hby d1_10) hr)
theorem d8_0 : decode jdk_41_method_11_code 0 = .ok (.iload_n 0, 1) := by decide +kernel
theorem d8_1 : decode jdk_41_method_11_code 1 = .ok (.ifCond .lt 8, 3) := by decide +kernel
theorem d8_4 : decode jdk_41_method_11_code 4 = .ok (.iload_n 0, 1) := by decide +kernel
theorem d8_5 : decode jdk_41_method_11_code 5 = .ok (.iload_n 1, 1) := by decide +kernel
theorem d8_6 : decode jdk_41_method_11_code 6 = .ok (.if_icmp .lt 10, 3) := by decide +kernel
theorem d8_16 : decode jdk_41_method_11_code 16 = .ok (.iload_n 0, 1) := by decide +kernel
theorem d8_17 : decode jdk_41_method_11_code 17 = .ok (.ireturn, 1) := by decide +kernel
theorem pn_jdk_2finternal_2futil_2fPreconditions : plainName "jdk/internal/util/Preconditions" = true := by first | (simp [plainName, overriddenIn]; done) | decide +kernel
theorem ef_pchk (m : MethodId) (i : Int32) (n : Int32) (f : Value) (rf : f.isRef = true) : entryFrame m #[(.int i), (.int n), f] 3 = mkF m 0 #[iv i, iv n, .val f] [] := by
  rcases ref_cases rf with rfl | ⟨z, rfl⟩ <;> first | (simp [entryFrame, mkF, argsToLocals, Value.category]; done) | rfl
def Q_pchk (Z : State) (i : Int32) (n : Int32) (f : Value) (h0 : Heap) (n0 : Nat) (v : Option Value) (h : Heap) (L : List Loc) : Prop := v = some (.int i) ∧ Fr n0 L ∧ h = h0
set_option maxRecDepth 65536 in
set_option maxHeartbeats 40000000 in
theorem rm_pchk (l : Launch) (Z : State) (a0 : Array Value) (hw : ∀ d ∈ tables_1, d.before a0 Z = true) (ws : List Jvm.Cond) (i : Int32) (n : Int32) (f : Value) (h0 : Heap) (n0 : Nat) (O0 : Old Z n0 h0) (rf : f.isRef = true) (h1 : ¬ i < (0 : Int32)) (h2 : i < n) :
    MetFree l own_y8 (head1 (Jvm.Cond.code own_y8 jdk_41_method_11_code 3 (some .int) :: ws) ({ frames := 0, cells := 0, slots := 0, locals := 0 } : Room)) (fun aq_ Uq_ => aq_ = #[(.int i), (.int n), f] ∧ Z.Warmed39 Uq_.vm ∧ Uq_.heap = h0) (fun _ _ _ _ _ => True) (fun _ Uq_ oq_ Ur_ => ∃ vq_ Lq_, oq_ = .returned vq_ ∧ Q_pchk Z i n f h0 n0 vq_ Ur_.heap Lq_ ∧ FrameEnd Uq_ oq_ Ur_ Lq_ ({ frames := 0, cells := 0, slots := 0, locals := 0 } : Room).cells ({ frames := 0, cells := 0, slots := 0, locals := 0 } : Room).slots) := by
  refine MetFree.of_bodySF (plainFor_of_name pn_jdk_2finternal_2futil_2fPreconditions) hisR ?_
  intro p e s m args below meth c s₁ Bd hml0 hP hK
  obtain ⟨rfl, hZ, hh⟩ := hP
  have W_ : ∀ {d : Jvm.Cond} (i : Nat), tables_1[i]? = some d → d.before a0 Z = true := fun i h => hw _ (List.mem_of_getElem? h)
  have hx := Bd.exec
  have hby := Bd.bytes
  have hml : c.maxLocals = 3 := hml0
  have hown : s.vm.findClass "jdk/internal/util/Preconditions" = some m.cls := findClass_of_methodNamed Bd.named
  have hnm := (name_of_methodNamed Bd.named Bd.method).1
  have X0 : Stand p l e ({ frames := 0, cells := 0, slots := 0, locals := 0 } : Room) s m #[(.int i), (.int n), f] below meth c s₁ [] 0 0 := Stand.of_body Bd
  have e0 : s₁.heap = h0 := by rw [← hh, Bd.state]; rfl
  have N0 := Fr.nil n0
  have K0 := Keep.refl h0 []
  refine own_G.start (Q := Q_pchk Z i n f h0 n0) (ef_pchk m i n f rf) ?_
  refine own_G.sk 1 [(.int i)] (fun _ kq => XS.iloadN X0.here hx rfl (hb hby d8_0) rfl kq) ?_
  have hc1 : ¬ (i < (0 : Int32)) := h1
  refine own_G.sk 4 [] (fun _ kq => XS.ifNo X0.here hx rfl (hb hby d8_1) rfl ((if0 _ _).trans (flt hc1).1) kq) ?_
  refine own_G.sk 5 [(.int i)] (fun _ kq => XS.iloadN X0.here hx rfl (hb hby d8_4) rfl kq) ?_
  refine own_G.sk 6 [(.int n), (.int i)] (fun _ kq => XS.iloadN X0.here hx rfl (hb hby d8_5) rfl kq) ?_
  have hc6 : i < n := h2
  refine own_G.sk 16 [] (fun _ kq => XS.icmpYes X0.here hx rfl (pc0 := 6) (pc' := 16) rfl (hb hby d8_6) rfl (tlt hc6).1 (by decide) (by decide) kq) ?_
  refine own_G.sk 17 [(.int i)] (fun _ kq => XS.iloadN X0.here hx rfl (hb hby d8_16) rfl kq) ?_
  exact own_ret X0 e0 (v := some (.int i)) (fun h => by rw [Bd.returns] at h; cases h) Bd.notSynchronized ⟨rfl, N0, rfl⟩ (by decide) (by decide) (fun fs hr => retI X0 hx Bd.returns (hb hby d8_17) hr)
theorem pd__28IILjava_2futil_2ffunction_2fBiFunction_3b_29I : parseMethodDescriptor "(IILjava/util/function/BiFunction;)I" = some ⟨[.int, .int, (.object "java/util/function/BiFunction")], some .int⟩ := by decide +kernel
theorem d7_0 : decode jdk_42_method_155_code 0 = .ok (.iload_n 0, 1) := by decide +kernel
theorem d7_1 : decode jdk_42_method_155_code 1 = .ok (.iload_n 1, 1) := by decide +kernel
theorem d7_2 : decode jdk_42_method_155_code 2 = .ok (.getstatic 1053, 3) := by decide +kernel
theorem d7_5 : decode jdk_42_method_155_code 5 = .ok (.invokestatic 1059, 3) := by decide +kernel
theorem d7_8 : decode jdk_42_method_155_code 8 = .ok (.pop, 1) := by decide +kernel
theorem d7_9 : decode jdk_42_method_155_code 9 = .ok (.return_, 1) := by decide +kernel
theorem ef_schk (m : MethodId) (i : Int32) (n : Int32) : entryFrame m #[(.int i), (.int n)] 2 = mkF m 0 #[iv i, iv n] [] := by
  first | (simp [entryFrame, mkF, argsToLocals, Value.category]; done) | rfl
def Q_schk (Z : State) (i : Int32) (n : Int32) (fm : Value) (h0 : Heap) (n0 : Nat) (v : Option Value) (h : Heap) (L : List Loc) : Prop := v = none ∧ Fr n0 L ∧ h = h0
set_option maxRecDepth 65536 in
set_option maxHeartbeats 40000000 in
theorem rm_schk (l : Launch) (Z : State) (a0 : Array Value) (hw : ∀ d ∈ tables_1, d.before a0 Z = true) (ws : List Jvm.Cond) (i : Int32) (n : Int32) (fm : Value) (h0 : Heap) (n0 : Nat) (O0 : Old Z n0 h0) (S_IO : Sta Z Z.heap "jdk/internal/util/Preconditions" "SIOOBE_FORMATTER" "Ljava/util/function/BiFunction;" fm) (hio : fm.isRef = true) (h1 : ¬ i < (0 : Int32)) (h2 : i < n) :
    MetFree l own_y9 (head1 (Jvm.Cond.code own_y9 jdk_42_method_155_code 2 none :: ws) ({ frames := 1, cells := 0, slots := 0, locals := 14 } : Room)) (fun aq_ Uq_ => aq_ = #[(.int i), (.int n)] ∧ Z.Warmed39 Uq_.vm ∧ Uq_.heap = h0) (fun _ _ _ _ _ => True) (fun _ Uq_ oq_ Ur_ => ∃ vq_ Lq_, oq_ = .returned vq_ ∧ Q_schk Z i n fm h0 n0 vq_ Ur_.heap Lq_ ∧ FrameEnd Uq_ oq_ Ur_ Lq_ ({ frames := 1, cells := 0, slots := 0, locals := 14 } : Room).cells ({ frames := 1, cells := 0, slots := 0, locals := 14 } : Room).slots) := by
  refine MetFree.of_bodySF (plainFor_of_name pn_java_2flang_2fString) hisR ?_
  intro p e s m args below meth c s₁ Bd hml0 hP hK
  obtain ⟨rfl, hZ, hh⟩ := hP
  have W_ : ∀ {d : Jvm.Cond} (i : Nat), tables_1[i]? = some d → d.before a0 Z = true := fun i h => hw _ (List.mem_of_getElem? h)
  have hx := Bd.exec
  have hby := Bd.bytes
  have hml : c.maxLocals = 2 := hml0
  have hown : s.vm.findClass "java/lang/String" = some m.cls := findClass_of_methodNamed Bd.named
  have hnm := (name_of_methodNamed Bd.named Bd.method).1
  have X0 : Stand p l e ({ frames := 1, cells := 0, slots := 0, locals := 14 } : Room) s m #[(.int i), (.int n)] below meth c s₁ [] 0 0 := Stand.of_body Bd
  have e0 : s₁.heap = h0 := by rw [← hh, Bd.state]; rfl
  have N0 := Fr.nil n0
  have K0 := Keep.refl h0 []
  refine own_G.start (Q := Q_schk Z i n fm h0 n0) (ef_schk m i n) ?_
  refine own_G.sk 1 [(.int i)] (fun _ kq => XS.iloadN X0.here hx rfl (hb hby d7_0) rfl kq) ?_
  refine own_G.sk 2 [(.int n), (.int i)] (fun _ kq => XS.iloadN X0.here hx rfl (hb hby d7_1) rfl kq) ?_
  obtain ⟨T1, X1, e1, st1⟩ := getS2 X0 hx hZ hown (host := "") (Or.inl (W_ 43 rfl)) Via.refl e0 (Sta.ext O0.2 S_IO) (g := (mkF m 2 #[iv i, iv n] [(.int n), (.int i)])) rfl (hb hby d7_2)
  refine own_G.st (T' := T1) 5 [fm, (.int n), (.int i)] st1 ?_
  obtain ⟨_, _, ⟨T2, L2, k2, n2⟩, -, X2, ⟨Lc2, hQ2, l2, y2, z2⟩, st2⟩ := Jvm.LawKit.callS X1 hx (y := own_y8) hown (mvT hZ (W_ 45 rfl)) (mvT hZ (W_ 46 rfl)) (mvT hZ (W_ 44 rfl)) (mvT hZ (W_ 47 rfl)) (by decide) (backOf (W := 0) (rm_pchk l Z a0 hw [] i n fm h0 n0 O0 hio h1 h2) hZ (W_ 47 rfl) (W_ 44 rfl) (by decide) (by decide)) (g := (mkF m 5 #[iv i, iv n] [fm, (.int n), (.int i)])) rfl (by rw [hml]; rfl) (argsL := [(.int i), (.int n), fm]) (rest := []) (lenOf pd__28IILjava_2futil_2ffunction_2fBiFunction_3b_29I rfl) rfl (by show 2 * 0 + _ ≤ _; exact Nat.le_of_eq rfl) (hb hby d7_5) (fun _ _ => ⟨rfl, e1, (by decide : 0 + 0 ≤ _), (by decide : 0 + 0 ≤ _)⟩)
  dsimp only [Pt.U, Pt.locs, Pt.cells, Pt.slots] at X2 l2 y2 z2 st2 hQ2
  subst l2 y2 z2
  obtain ⟨rfl, Nq2, P3⟩ := hQ2
  have N2 := Fr.app N0 Nq2
  refine own_G.st (T' := T2) 8 [(.int i)] (fun _ kq => st2 _ kq) ?_
  refine own_G.sk 9 [] (fun _ kq => XS.pop X2.here hx rfl (hb hby d7_8) rfl rfl kq) ?_
  exact own_ret X2 P3 (v := none) (fun _ => rfl) Bd.notSynchronized ⟨rfl, N2, rfl⟩ (by decide) (by decide) (fun fs hr => X2.returnOut hx Bd.returns (hb hby d7_9) hr)
theorem pd__28II_29V : parseMethodDescriptor "(II)V" = some ⟨[.int, .int], none⟩ := by decide +kernel
theorem d6_0 : decode jdk_43_method_2_code 0 = .ok (.iload_n 1, 1) := by decide +kernel
theorem d6_1 : decode jdk_43_method_2_code 1 = .ok (.aload_n 0, 1) := by decide +kernel
theorem d6_2 : decode jdk_43_method_2_code 2 = .ok (.arraylength, 1) := by decide +kernel
theorem d6_3 : decode jdk_43_method_2_code 3 = .ok (.invokestatic 9, 3) := by decide +kernel
theorem d6_6 : decode jdk_43_method_2_code 6 = .ok (.aload_n 0, 1) := by decide +kernel
theorem d6_7 : decode jdk_43_method_2_code 7 = .ok (.iload_n 1, 1) := by decide +kernel
theorem d6_8 : decode jdk_43_method_2_code 8 = .ok (.baload, 1) := by decide +kernel
theorem d6_9 : decode jdk_43_method_2_code 9 = .ok (.sipush 255, 3) := by decide +kernel
theorem d6_12 : decode jdk_43_method_2_code 12 = .ok (.iand, 1) := by decide +kernel
theorem d6_13 : decode jdk_43_method_2_code 13 = .ok (.i2c, 1) := by decide +kernel
theorem d6_14 : decode jdk_43_method_2_code 14 = .ok (.ireturn, 1) := by decide +kernel
theorem pn_java_2flang_2fStringLatin1 : plainName "java/lang/StringLatin1" = true := by first | (simp [plainName, overriddenIn]; done) | decide +kernel
theorem ef_lchar (m : MethodId) (t : Addr) (i : Int32) : entryFrame m #[(.ref t), (.int i)] 2 = mkF m 0 #[rv t, iv i] [] := by
  first | (simp [entryFrame, mkF, argsToLocals, Value.category]; done) | rfl
def Q_lchar (Z : State) (t : Addr) (i : Int32) (fm : Value) (n : Int32) (b : Int32) (h0 : Heap) (n0 : Nat) (v : Option Value) (h : Heap) (L : List Loc) : Prop := v = some (.int (own_chr b)) ∧ Fr n0 L ∧ h = h0
set_option maxRecDepth 65536 in
set_option maxHeartbeats 40000000 in
theorem rm_lchar (l : Launch) (Z : State) (a0 : Array Value) (hw : ∀ d ∈ tables_1, d.before a0 Z = true) (ws : List Jvm.Cond) (t : Addr) (i : Int32) (fm : Value) (n : Int32) (b : Int32) (h0 : Heap) (n0 : Nat) (O0 : Old Z n0 h0) (S_IO : Sta Z Z.heap "jdk/internal/util/Preconditions" "SIOOBE_FORMATTER" "Ljava/util/function/BiFunction;" fm) (hio : fm.isRef = true) (LN : own_Len Z h0 t n) (AT : own_At Z h0 t i b) (h1 : ¬ i < (0 : Int32)) (h2 : i < n) :
    MetFree l own_y10 (head1 (Jvm.Cond.code own_y10 jdk_43_method_2_code 2 (some .char) :: ws) ({ frames := 2, cells := 0, slots := 0, locals := 27 } : Room)) (fun aq_ Uq_ => aq_ = #[(.ref t), (.int i)] ∧ Z.Warmed39 Uq_.vm ∧ Uq_.heap = h0) (fun _ _ _ _ _ => True) (fun _ Uq_ oq_ Ur_ => ∃ vq_ Lq_, oq_ = .returned vq_ ∧ Q_lchar Z t i fm n b h0 n0 vq_ Ur_.heap Lq_ ∧ FrameEnd Uq_ oq_ Ur_ Lq_ ({ frames := 2, cells := 0, slots := 0, locals := 27 } : Room).cells ({ frames := 2, cells := 0, slots := 0, locals := 27 } : Room).slots) := by
  refine MetFree.of_bodySF (plainFor_of_name pn_java_2flang_2fStringLatin1) hisR ?_
  intro p e s m args below meth c s₁ Bd hml0 hP hK
  obtain ⟨rfl, hZ, hh⟩ := hP
  have W_ : ∀ {d : Jvm.Cond} (i : Nat), tables_1[i]? = some d → d.before a0 Z = true := fun i h => hw _ (List.mem_of_getElem? h)
  have hx := Bd.exec
  have hby := Bd.bytes
  have hml : c.maxLocals = 2 := hml0
  have hown : s.vm.findClass "java/lang/StringLatin1" = some m.cls := findClass_of_methodNamed Bd.named
  have hnm := (name_of_methodNamed Bd.named Bd.method).1
  have X0 : Stand p l e ({ frames := 2, cells := 0, slots := 0, locals := 27 } : Room) s m #[(.ref t), (.int i)] below meth c s₁ [] 0 0 := Stand.of_body Bd
  have e0 : s₁.heap = h0 := by rw [← hh, Bd.state]; rfl
  have N0 := Fr.nil n0
  have K0 := Keep.refl h0 []
  refine own_G.start (Q := Q_lchar Z t i fm n b h0 n0) (ef_lchar m t i) ?_
  refine own_G.sk 1 [(.int i)] (fun _ kq => XS.iloadN X0.here hx rfl (hb hby d6_0) rfl kq) ?_
  refine own_G.sk 2 [(.ref t), (.int i)] (fun _ kq => XS.aloadN X0.here hx rfl (hb hby d6_1) rfl rfl kq) ?_
  obtain ⟨cl1, ty1, Ar1, Sz1, Nz1⟩ := id LN
  refine own_G.step (g' := (mkF m 3 #[rv t, iv i] [(.int n), (.int i)])) (fun tq_ kq_ => X0.arraylength hx (by rw [e0]; exact Ar1.1) (State.isArrayOf_alike hZ.alike Ar1.2.1) (g := (mkF m 2 #[rv t, iv i] [(.ref t), (.int i)])) rfl rfl (hb hby d6_2) _ (by rw [len_of Sz1 Nz1]; exact kq_)) ?_
  obtain ⟨_, _, ⟨T2, L2, k2, n2⟩, -, X2, ⟨Lc2, hQ2, l2, y2, z2⟩, st2⟩ := Jvm.LawKit.callS X0 hx (y := own_y9) hown (mvT hZ (W_ 40 rfl)) (mvT hZ (W_ 41 rfl)) (mvT hZ (W_ 1 rfl)) (mvT hZ (W_ 42 rfl)) (by decide) (backOf (W := 0) (rm_schk l Z a0 hw [] i n fm h0 n0 O0 S_IO hio h1 h2) hZ (W_ 42 rfl) (W_ 1 rfl) (by decide) (by decide)) (g := (mkF m 3 #[rv t, iv i] [(.int n), (.int i)])) rfl (by rw [hml]; rfl) (argsL := [(.int i), (.int n)]) (rest := []) (lenOf pd__28II_29V rfl) rfl (by show 2 * 0 + _ ≤ _; exact Nat.le_of_eq rfl) (hb hby d6_3) (fun _ _ => ⟨rfl, e0, (by decide : 0 + 0 ≤ _), (by decide : 0 + 0 ≤ _)⟩)
  dsimp only [Pt.U, Pt.locs, Pt.cells, Pt.slots] at X2 l2 y2 z2 st2 hQ2
  subst l2 y2 z2
  obtain ⟨rfl, Nq2, P3⟩ := hQ2
  have N2 := Fr.app N0 Nq2
  refine own_G.st (T' := T2) 6 [] (fun _ kq => st2 _ kq) ?_
  refine own_G.sk 7 [(.ref t)] (fun _ kq => XS.aloadN X2.here hx rfl (hb hby d6_6) rfl rfl kq) ?_
  refine own_G.sk 8 [(.int i), (.ref t)] (fun _ kq => XS.iloadN X2.here hx rfl (hb hby d6_7) rfl kq) ?_
  obtain ⟨cl4, Ar4, hin4, hat4⟩ := id AT
  refine own_G.sk 9 [(.int b)] (fun _ kq => X2.baloadBytes hx (j := i) (v := (.int b)) (by rw [P3]; exact Ar4.1) (State.isArrayOf_alike hZ.alike Ar4.2.1) Ar4.2.2 hin4 hat4 (g := (mkF m 8 #[rv t, iv i] [(.int i), (.ref t)])) rfl rfl (hb hby d6_8) _ kq) ?_
  refine own_G.sk 12 [(.int 255), (.int b)] (fun _ kq => XS.sipush X2.here hx rfl (hb hby d6_9) kq) ?_
  refine own_G.sk 13 [(.int (b &&& (255 : Int32)))] (fun _ kq => XS.iand X2.here hx rfl (hb hby d6_12) rfl kq) ?_
  refine own_G.sk 14 [(.int ((b &&& (255 : Int32)).toUInt32.toUInt16.toUInt32.toInt32))] (fun _ kq => XS.i2c X2.here hx rfl (hb hby d6_13) rfl kq) ?_
  exact own_ret X2 P3 (v := some (.int (nar .char ((b &&& (255 : Int32)).toUInt32.toUInt16.toUInt32.toInt32)))) (fun h => by rw [Bd.returns] at h; cases h) Bd.notSynchronized ⟨(by rw [own_nar_c]; rfl), N2, rfl⟩ (by decide) (by decide) (fun fs hr => retN X2 hx (t := .char) Bd.returns (by simp) (hb hby d6_14) hr)
theorem pd__28_29Z : parseMethodDescriptor "()Z" = some ⟨[], some .boolean⟩ := by decide +kernel
theorem pd__28_5bBI_29C : parseMethodDescriptor "([BI)C" = some ⟨[(.array .byte), .int], some .char⟩ := by decide +kernel
theorem d4_0 : decode jdk_42_method_56_code 0 = .ok (.aload_n 0, 1) := by decide +kernel
theorem d4_1 : decode jdk_42_method_56_code 1 = .ok (.invokevirtual 492, 3) := by decide +kernel
theorem d4_4 : decode jdk_42_method_56_code 4 = .ok (.ifCond .eq 12, 3) := by decide +kernel
theorem d4_7 : decode jdk_42_method_56_code 7 = .ok (.aload_n 0, 1) := by decide +kernel
theorem d4_8 : decode jdk_42_method_56_code 8 = .ok (.getfield 9, 3) := by decide +kernel
theorem d4_11 : decode jdk_42_method_56_code 11 = .ok (.iload_n 1, 1) := by decide +kernel
theorem d4_12 : decode jdk_42_method_56_code 12 = .ok (.invokestatic 495, 3) := by decide +kernel
theorem d4_15 : decode jdk_42_method_56_code 15 = .ok (.ireturn, 1) := by decide +kernel
theorem ef_charAt (m : MethodId) (a : Addr) (i : Int32) : entryFrame m #[(.ref a), (.int i)] 2 = mkF m 0 #[rv a, iv i] [] := by
  first | (simp [entryFrame, mkF, argsToLocals, Value.category]; done) | rfl
def Q_charAt (Z : State) (a : Addr) (i : Int32) (csz : Int32) (fm : Value) (t : Addr) (n : Int32) (b : Int32) (h0 : Heap) (n0 : Nat) (v : Option Value) (h : Heap) (L : List Loc) : Prop := v = some (.int (own_chr b)) ∧ Fr n0 L ∧ h = h0
set_option maxRecDepth 65536 in
set_option maxHeartbeats 40000000 in
theorem rm_charAt (l : Launch) (Z : State) (a0 : Array Value) (hw : ∀ d ∈ tables_1, d.before a0 Z = true) (ws : List Jvm.Cond) (a : Addr) (i : Int32) (csz : Int32) (fm : Value) (t : Addr) (n : Int32) (b : Int32) (h0 : Heap) (n0 : Nat) (O0 : Old Z n0 h0) (S_CS : Sta Z Z.heap "java/lang/String" "COMPACT_STRINGS" "Z" (.int csz)) (hcs : ¬ csz = (0 : Int32)) (S_IO : Sta Z Z.heap "jdk/internal/util/Preconditions" "SIOOBE_FORMATTER" "Ljava/util/function/BiFunction;" fm) (hio : fm.isRef = true) (Ea : Exa Z h0 a "java/lang/String") (Fv : Fld Z h0 a "java/lang/String" "value" "[B" (.ref t)) (Fc : Fld Z h0 a "java/lang/String" "coder" "B" (.int 0)) (LN : own_Len Z h0 t n) (AT : own_At Z h0 t i b) (h1 : ¬ i < (0 : Int32)) (h2 : i < n) :
    MetFree l own_y11 (head1 (Jvm.Cond.code own_y11 jdk_42_method_56_code 2 (some .char) :: ws) ({ frames := 3, cells := 0, slots := 0, locals := 40 } : Room)) (fun aq_ Uq_ => aq_ = #[(.ref a), (.int i)] ∧ Z.Warmed39 Uq_.vm ∧ Uq_.heap = h0) (fun _ _ _ _ _ => True) (fun _ Uq_ oq_ Ur_ => ∃ vq_ Lq_, oq_ = .returned vq_ ∧ Q_charAt Z a i csz fm t n b h0 n0 vq_ Ur_.heap Lq_ ∧ FrameEnd Uq_ oq_ Ur_ Lq_ ({ frames := 3, cells := 0, slots := 0, locals := 40 } : Room).cells ({ frames := 3, cells := 0, slots := 0, locals := 40 } : Room).slots) := by
  refine MetFree.of_bodySF (plainFor_of_name pn_java_2flang_2fString) hisR ?_
  intro p e s m args below meth c s₁ Bd hml0 hP hK
  obtain ⟨rfl, hZ, hh⟩ := hP
  have W_ : ∀ {d : Jvm.Cond} (i : Nat), tables_1[i]? = some d → d.before a0 Z = true := fun i h => hw _ (List.mem_of_getElem? h)
  have hx := Bd.exec
  have hby := Bd.bytes
  have hml : c.maxLocals = 2 := hml0
  have hown : s.vm.findClass "java/lang/String" = some m.cls := findClass_of_methodNamed Bd.named
  have hnm := (name_of_methodNamed Bd.named Bd.method).1
  have X0 : Stand p l e ({ frames := 3, cells := 0, slots := 0, locals := 40 } : Room) s m #[(.ref a), (.int i)] below meth c s₁ [] 0 0 := Stand.of_body Bd
  have e0 : s₁.heap = h0 := by rw [← hh, Bd.state]; rfl
  have N0 := Fr.nil n0
  have K0 := Keep.refl h0 []
  refine own_G.start (Q := Q_charAt Z a i csz fm t n b h0 n0) (ef_charAt m a i) ?_
  refine own_G.sk 1 [(.ref a)] (fun _ kq => XS.aloadN X0.here hx rfl (hb hby d4_0) rfl rfl kq) ?_
  obtain ⟨cq1, kq1, q1a, q1b, q1c⟩ := isOf hZ e0 Ea
  obtain ⟨_, _, ⟨T1, L1, k1, n1⟩, -, X1, ⟨Lc1, hQ1, l1, y1, z1⟩, st1⟩ := X0.virtualBack hx (y := own_y6) (z := own_y6) hown (mvT hZ (W_ 31 rfl)) (mvT hZ (W_ 32 rfl)) (notFace_of_selects (args := #[]) (mvT hZ (W_ 34 rfl))) (mvT hZ (W_ 34 rfl)) (mvT hZ (W_ 33 rfl)) (by decide) (backOf (W := 0) (rm_isLat l Z a0 hw [] a csz h0 n0 O0 S_CS hcs Fc) hZ (W_ 35 rfl) (W_ 1 rfl) (by decide) (by decide)) q1a q1c (g := (mkF m 1 #[rv a, iv i] [(.ref a)])) rfl (by rw [hml]; rfl) (Steps.refl _) (argsL := []) (rest := []) (lenOf pd__28_29Z rfl) rfl (by show 2 * 0 + _ ≤ _; exact Nat.le_of_eq rfl) (hb hby d4_1) (fun _ _ => ⟨rfl, e0, (by decide : 0 + 0 ≤ _), (by decide : 0 + 0 ≤ _)⟩)
  dsimp only [Pt.U, Pt.locs, Pt.cells, Pt.slots] at X1 l1 y1 z1 st1 hQ1
  subst l1 y1 z1
  obtain ⟨rfl, Nq1, P2⟩ := hQ1
  have N1 := Fr.app N0 Nq1
  refine own_G.st (T' := T1) 4 [(.int 1)] (fun _ kq => st1.trans kq) ?_
  have hc4 : ¬ ((1 : Int32) = (0 : Int32)) := by decide
  refine own_G.sk 7 [] (fun _ kq => XS.ifNo X1.here hx rfl (hb hby d4_4) rfl ((if0 _ _).trans (feq hc4).1) kq) ?_
  refine own_G.sk 8 [(.ref a)] (fun _ kq => XS.aloadN X1.here hx rfl (hb hby d4_7) rfl rfl kq) ?_
  obtain ⟨T3, X3, e3, st3⟩ := getF X1 hx hZ hown (host := "") (Or.inl (W_ 13 rfl)) Via.refl P2 Fv (g := (mkF m 8 #[rv a, iv i] [(.ref a)])) rfl rfl (hb hby d4_8)
  refine own_G.st (T' := T3) 11 [(.ref t)] st3 ?_
  refine own_G.sk 12 [(.int i), (.ref t)] (fun _ kq => XS.iloadN X3.here hx rfl (hb hby d4_11) rfl kq) ?_
  obtain ⟨_, _, ⟨T4, L4, k4, n4⟩, -, X4, ⟨Lc4, hQ4, l4, y4, z4⟩, st4⟩ := Jvm.LawKit.callS X3 hx (y := own_y10) hown (mvT hZ (W_ 36 rfl)) (mvT hZ (W_ 37 rfl)) (mvT hZ (W_ 38 rfl)) (mvT hZ (W_ 39 rfl)) (by decide) (backOf (W := 0) (rm_lchar l Z a0 hw [] t i fm n b h0 n0 O0 S_IO hio LN AT h1 h2) hZ (W_ 39 rfl) (W_ 38 rfl) (by decide) (by decide)) (g := (mkF m 12 #[rv a, iv i] [(.int i), (.ref t)])) rfl (by rw [hml]; rfl) (argsL := [(.ref t), (.int i)]) (rest := []) (lenOf pd__28_5bBI_29C rfl) rfl (by show 2 * 0 + _ ≤ _; exact Nat.le_of_eq rfl) (hb hby d4_12) (fun _ _ => ⟨rfl, e3, (by decide : 0 + 0 ≤ _), (by decide : 0 + 0 ≤ _)⟩)
  dsimp only [Pt.U, Pt.locs, Pt.cells, Pt.slots] at X4 l4 y4 z4 st4 hQ4
  subst l4 y4 z4
  obtain ⟨rfl, Nq4, P5⟩ := hQ4
  have N4 := Fr.app N1 Nq4
  refine own_G.st (T' := T4) 15 [(.int (own_chr b))] (fun _ kq => st4 _ kq) ?_
  exact own_ret X4 P5 (v := some (.int (nar .char (own_chr b)))) (fun h => by rw [Bd.returns] at h; cases h) Bd.notSynchronized ⟨(by rw [own_chr, own_nar_c]), N4, rfl⟩ (by decide) (by decide) (fun fs hr => retN X4 hx (t := .char) Bd.returns (by simp) (hb hby d4_15) hr)
theorem d18_0 : decode jdk_43_method_3_code 0 = .ok (.iload_n 0, 1) := by decide +kernel
theorem d18_1 : decode jdk_43_method_3_code 1 = .ok (.sipush 255, 3) := by decide +kernel
theorem d18_4 : decode jdk_43_method_3_code 4 = .ok (.if_icmp .gt 7, 3) := by decide +kernel
theorem d18_7 : decode jdk_43_method_3_code 7 = .ok (.iconst 1, 1) := by decide +kernel
theorem d18_8 : decode jdk_43_method_3_code 8 = .ok (.goto 4, 3) := by decide +kernel
theorem d18_12 : decode jdk_43_method_3_code 12 = .ok (.ireturn, 1) := by decide +kernel
theorem ef_canEnc (m : MethodId) (i : Int32) : entryFrame m #[(.int i)] 1 = mkF m 0 #[iv i] [] := by
  first | (simp [entryFrame, mkF, argsToLocals, Value.category]; done) | rfl
def Q_canEnc (Z : State) (i : Int32) (h0 : Heap) (n0 : Nat) (v : Option Value) (h : Heap) (L : List Loc) : Prop := v = some (.int 1) ∧ Fr n0 L ∧ h = h0
set_option maxRecDepth 65536 in
set_option maxHeartbeats 40000000 in
theorem rm_canEnc (l : Launch) (Z : State) (a0 : Array Value) (hw : ∀ d ∈ tables_1, d.before a0 Z = true) (ws : List Jvm.Cond) (i : Int32) (h0 : Heap) (n0 : Nat) (O0 : Old Z n0 h0) (h2 : ¬ (255 : Int32) < i) :
    MetFree l own_y12 (head1 (Jvm.Cond.code own_y12 jdk_43_method_3_code 1 (some .boolean) :: ws) ({ frames := 0, cells := 0, slots := 0, locals := 0 } : Room)) (fun aq_ Uq_ => aq_ = #[(.int i)] ∧ Z.Warmed39 Uq_.vm ∧ Uq_.heap = h0) (fun _ _ _ _ _ => True) (fun _ Uq_ oq_ Ur_ => ∃ vq_ Lq_, oq_ = .returned vq_ ∧ Q_canEnc Z i h0 n0 vq_ Ur_.heap Lq_ ∧ FrameEnd Uq_ oq_ Ur_ Lq_ ({ frames := 0, cells := 0, slots := 0, locals := 0 } : Room).cells ({ frames := 0, cells := 0, slots := 0, locals := 0 } : Room).slots) := by
  refine MetFree.of_bodySF (plainFor_of_name pn_java_2flang_2fStringLatin1) hisR ?_
  intro p e s m args below meth c s₁ Bd hml0 hP hK
  obtain ⟨rfl, hZ, hh⟩ := hP
  have W_ : ∀ {d : Jvm.Cond} (i : Nat), tables_1[i]? = some d → d.before a0 Z = true := fun i h => hw _ (List.mem_of_getElem? h)
  have hx := Bd.exec
  have hby := Bd.bytes
  have hml : c.maxLocals = 1 := hml0
  have hown : s.vm.findClass "java/lang/StringLatin1" = some m.cls := findClass_of_methodNamed Bd.named
  have hnm := (name_of_methodNamed Bd.named Bd.method).1
  have X0 : Stand p l e ({ frames := 0, cells := 0, slots := 0, locals := 0 } : Room) s m #[(.int i)] below meth c s₁ [] 0 0 := Stand.of_body Bd
  have e0 : s₁.heap = h0 := by rw [← hh, Bd.state]; rfl
  have N0 := Fr.nil n0
  have K0 := Keep.refl h0 []
  refine own_G.start (Q := Q_canEnc Z i h0 n0) (ef_canEnc m i) ?_
  refine own_G.sk 1 [(.int i)] (fun _ kq => XS.iloadN X0.here hx rfl (hb hby d18_0) rfl kq) ?_
  refine own_G.sk 4 [(.int 255), (.int i)] (fun _ kq => XS.sipush X0.here hx rfl (hb hby d18_1) kq) ?_
  have hc4 : ¬ ((255 : Int32) < i) := h2
  refine own_G.sk 7 [] (fun _ kq => XS.icmpNo X0.here hx rfl (hb hby d18_4) rfl (flt hc4).2.2.1 kq) ?_
  refine own_G.sk 8 [(.int 1)] (fun _ kq => XS.iconst X0.here hx rfl (hb hby d18_7) kq) ?_
  refine own_G.sk 12 [(.int 1)] (fun _ kq => XS.goto X0.here hx rfl (pc0 := 8) (pc' := 12) rfl (hb hby d18_8) (by decide) (by decide) kq) ?_
  exact own_ret X0 e0 (v := some (.int 1)) (fun h => by rw [Bd.returns] at h; cases h) Bd.notSynchronized ⟨rfl, N0, rfl⟩ (by decide) (by decide) (fun fs hr => retN X0 hx (t := .boolean) Bd.returns (by simp) (hb hby d18_12) hr)
theorem d19_0 : decode jdk_43_method_46_code 0 = .ok (.iconst 1, 1) := by decide +kernel
theorem d19_1 : decode jdk_43_method_46_code 1 = .ok (.newarray .byte, 2) := by decide +kernel
theorem d19_3 : decode jdk_43_method_46_code 3 = .ok (.dup, 1) := by decide +kernel
theorem d19_4 : decode jdk_43_method_46_code 4 = .ok (.iconst 0, 1) := by decide +kernel
theorem d19_5 : decode jdk_43_method_46_code 5 = .ok (.iload_n 0, 1) := by decide +kernel
theorem d19_6 : decode jdk_43_method_46_code 6 = .ok (.i2b, 1) := by decide +kernel
theorem d19_7 : decode jdk_43_method_46_code 7 = .ok (.bastore, 1) := by decide +kernel
theorem d19_8 : decode jdk_43_method_46_code 8 = .ok (.areturn, 1) := by decide +kernel
theorem ef_toB (m : MethodId) (i : Int32) : entryFrame m #[(.int i)] 1 = mkF m 0 #[iv i] [] := by
  first | (simp [entryFrame, mkF, argsToLocals, Value.category]; done) | rfl
def Q_toB (Z : State) (i : Int32) (h0 : Heap) (n0 : Nat) (v : Option Value) (h : Heap) (L : List Loc) : Prop := ∃ (t : Addr), ∃ (kb : ClassId), v = some (.ref t) ∧ Fr n0 L ∧ Keep h0 h [] ∧ h0.size ≤ t ∧ Arv Z h t kb .byte (1 : Int32) [(.int (i.toInt8.toInt32))] (.int 0)
set_option maxRecDepth 65536 in
set_option maxHeartbeats 40000000 in
theorem rm_toB (l : Launch) (Z : State) (a0 : Array Value) (hw : ∀ d ∈ tables_1, d.before a0 Z = true) (ws : List Jvm.Cond) (i : Int32) (h0 : Heap) (n0 : Nat) (O0 : Old Z n0 h0) :
    MetFree l own_y13 (head1 (Jvm.Cond.code own_y13 jdk_43_method_46_code 1 (some (.array .byte)) :: ws) ({ frames := 0, cells := 1, slots := 1, locals := 0 } : Room)) (fun aq_ Uq_ => aq_ = #[(.int i)] ∧ Z.Warmed39 Uq_.vm ∧ Uq_.heap = h0) (fun _ _ _ _ _ => True) (fun _ Uq_ oq_ Ur_ => ∃ vq_ Lq_, oq_ = .returned vq_ ∧ Q_toB Z i h0 n0 vq_ Ur_.heap Lq_ ∧ FrameEnd Uq_ oq_ Ur_ Lq_ ({ frames := 0, cells := 1, slots := 1, locals := 0 } : Room).cells ({ frames := 0, cells := 1, slots := 1, locals := 0 } : Room).slots) := by
  refine MetFree.of_bodySF (plainFor_of_name pn_java_2flang_2fStringLatin1) hisR ?_
  intro p e s m args below meth c s₁ Bd hml0 hP hK
  obtain ⟨rfl, hZ, hh⟩ := hP
  have W_ : ∀ {d : Jvm.Cond} (i : Nat), tables_1[i]? = some d → d.before a0 Z = true := fun i h => hw _ (List.mem_of_getElem? h)
  have hx := Bd.exec
  have hby := Bd.bytes
  have hml : c.maxLocals = 1 := hml0
  have hown : s.vm.findClass "java/lang/StringLatin1" = some m.cls := findClass_of_methodNamed Bd.named
  have hnm := (name_of_methodNamed Bd.named Bd.method).1
  have X0 : Stand p l e ({ frames := 0, cells := 1, slots := 1, locals := 0 } : Room) s m #[(.int i)] below meth c s₁ [] 0 0 := Stand.of_body Bd
  have e0 : s₁.heap = h0 := by rw [← hh, Bd.state]; rfl
  have N0 := Fr.nil n0
  have K0 := Keep.refl h0 []
  refine own_G.start (Q := Q_toB Z i h0 n0) (ef_toB m i) ?_
  refine own_G.sk 1 [(.int 1)] (fun _ kq => XS.iconst X0.here hx rfl (hb hby d19_0) kq) ?_
  obtain ⟨T1, h1, k1, X1, e1, E1, A1, st1⟩ := newP X0 hx hZ (W_ 3 rfl) e0 (g := (mkF m 1 #[iv i] [(.int 1)])) rfl (hb hby d19_1) rfl (by decide) (cap := 1) (by decide) (by decide) (by decide) (by decide)
  obtain ⟨b1, g1⟩ : ∃ z, z = h0.size := ⟨_, rfl⟩
  rw [← g1] at A1 st1
  have g2 : n0 ≤ b1 := Nat.le_trans O0.le (Nat.le_of_eq g1.symm)
  have z3 : h0.size ≤ b1 := Nat.le_trans K0.1 (Nat.le_of_eq g1.symm)
  have O4 := O0.ext E1
  have K5 := K0.ext E1
  have F6 : Arv Z h1 b1 k1 .byte (1 : Int32) [(.int 0)] (.int 0) := (Arv.new A1 (by decide)).pad (pad_rep [] (.int 0) 1)
  refine own_G.st (T' := T1) 3 [(.ref b1)] st1 ?_
  refine own_G.sk 4 [(.ref b1), (.ref b1)] (fun _ kq => XS.dup X1.here hx rfl (hb hby d19_3) rfl rfl kq) ?_
  refine own_G.sk 5 [(.int 0), (.ref b1), (.ref b1)] (fun _ kq => XS.iconst X1.here hx rfl (hb hby d19_4) kq) ?_
  refine own_G.sk 6 [(.int i), (.int 0), (.ref b1), (.ref b1)] (fun _ kq => XS.iloadN X1.here hx rfl (hb hby d19_5) rfl kq) ?_
  refine own_G.sk 7 [(.int (i.toInt8.toInt32)), (.int 0), (.ref b1), (.ref b1)] (fun _ kq => XS.i2b X1.here hx rfl (hb hby d19_6) rfl kq) ?_
  obtain ⟨cl7, Ar7, q17, Sz7, Nz7, Hh7, Gg7⟩ := id F6
  obtain ⟨T7, h7, X7, e7, W7, st7⟩ := stB X1 hx hZ e1 Ar7 (j := (0 : Int32)) (inb_of Sz7 ⟨by decide, by decide⟩) (g := (mkF m 7 #[iv i] [(.int (i.toInt8.toInt32)), (.int 0), (.ref b1), (.ref b1)])) rfl rfl (hb hby d19_7)
  have F8 : Arv Z h7 b1 k1 .byte (1 : Int32) [(.int (nar .byte (i.toInt8.toInt32)))] (.int 0) := Arv.set Ar7 q17 Sz7 Nz7 Hh7 Gg7 (fits_nar_byte _) W7 0 rfl (Nat.le_of_ble_eq_true rfl)
  have N7 := Fr.snoc X7 N0 g2
  have O10 := O4.wr W7 g2
  have K11 := K5.wr W7 (Or.inr z3)
  refine own_G.st (T' := T7) 8 [(.ref b1)] st7 ?_
  exact own_ret X7 e7 (v := some (.ref b1)) (fun h => by rw [Bd.returns] at h; cases h) Bd.notSynchronized ⟨b1, k1, rfl, N7, K11, z3, (by have q := F8; rw [own_nar_b] at q; exact q)⟩ (by decide) (by decide) (fun fs hr => own_retR X7 hx Bd.returns rfl rfl (hb hby d19_8) hr)
theorem d20_0 : decode jdk_42_method_151_code 0 = .ok (.aload_n 0, 1) := by decide +kernel
theorem d20_1 : decode jdk_42_method_151_code 1 = .ok (.invokespecial 1, 3) := by decide +kernel
theorem d20_4 : decode jdk_42_method_151_code 4 = .ok (.aload_n 0, 1) := by decide +kernel
theorem d20_5 : decode jdk_42_method_151_code 5 = .ok (.aload_n 1, 1) := by decide +kernel
theorem d20_6 : decode jdk_42_method_151_code 6 = .ok (.putfield 9, 3) := by decide +kernel
theorem d20_9 : decode jdk_42_method_151_code 9 = .ok (.aload_n 0, 1) := by decide +kernel
theorem d20_10 : decode jdk_42_method_151_code 10 = .ok (.iload_n 2, 1) := by decide +kernel
theorem d20_11 : decode jdk_42_method_151_code 11 = .ok (.putfield 15, 3) := by decide +kernel
theorem d20_14 : decode jdk_42_method_151_code 14 = .ok (.return_, 1) := by decide +kernel
theorem ef_sinit (m : MethodId) (a : Addr) (t : Addr) : entryFrame m #[(.ref a), (.ref t), (.int 0)] 3 = mkF m 0 #[rv a, rv t, iv 0] [] := by
  first | (simp [entryFrame, mkF, argsToLocals, Value.category]; done) | rfl
def Q_sinit (Z : State) (a : Addr) (t : Addr) (h0 : Heap) (n0 : Nat) (v : Option Value) (h : Heap) (L : List Loc) : Prop := v = none ∧ Fr n0 L ∧ Keep h0 h [a] ∧ Exa Z h a "java/lang/String" ∧ Fld Z h a "java/lang/String" "value" "[B" (.ref t) ∧ Fld Z h a "java/lang/String" "coder" "B" (.int 0)
set_option maxRecDepth 65536 in
set_option maxHeartbeats 40000000 in
theorem rm_sinit (l : Launch) (Z : State) (a0 : Array Value) (hw : ∀ d ∈ tables_1, d.before a0 Z = true) (ws : List Jvm.Cond) (a : Addr) (t : Addr) (h0 : Heap) (n0 : Nat) (O0 : Old Z n0 h0) (F1 : Fld Z h0 a "java/lang/String" "value" "[B" .null) (F2 : Fld Z h0 a "java/lang/String" "coder" "B" (.int 0)) (E0 : Exa Z h0 a "java/lang/String") (ga : n0 ≤ a) :
    MetFree l own_y14 (head1 (Jvm.Cond.code own_y14 jdk_42_method_151_code 3 none :: ws) ({ frames := 1, cells := 0, slots := 0, locals := 12 } : Room)) (fun aq_ Uq_ => aq_ = #[(.ref a), (.ref t), (.int 0)] ∧ Z.Warmed39 Uq_.vm ∧ Uq_.heap = h0) (fun _ _ _ _ _ => True) (fun _ Uq_ oq_ Ur_ => ∃ vq_ Lq_, oq_ = .returned vq_ ∧ Q_sinit Z a t h0 n0 vq_ Ur_.heap Lq_ ∧ FrameEnd Uq_ oq_ Ur_ Lq_ ({ frames := 1, cells := 0, slots := 0, locals := 12 } : Room).cells ({ frames := 1, cells := 0, slots := 0, locals := 12 } : Room).slots) := by
  refine MetFree.of_bodySF (plainFor_of_name pn_java_2flang_2fString) hisR ?_
  intro p e s m args below meth c s₁ Bd hml0 hP hK
  obtain ⟨rfl, hZ, hh⟩ := hP
  have W_ : ∀ {d : Jvm.Cond} (i : Nat), tables_1[i]? = some d → d.before a0 Z = true := fun i h => hw _ (List.mem_of_getElem? h)
  have hx := Bd.exec
  have hby := Bd.bytes
  have hml : c.maxLocals = 3 := hml0
  have hown : s.vm.findClass "java/lang/String" = some m.cls := findClass_of_methodNamed Bd.named
  have hnm := (name_of_methodNamed Bd.named Bd.method).1
  have X0 : Stand p l e ({ frames := 1, cells := 0, slots := 0, locals := 12 } : Room) s m #[(.ref a), (.ref t), (.int 0)] below meth c s₁ [] 0 0 := Stand.of_body Bd
  have e0 : s₁.heap = h0 := by rw [← hh, Bd.state]; rfl
  have N0 := Fr.nil n0
  have K0 := Keep.refl h0 [a]
  refine own_G.start (Q := Q_sinit Z a t h0 n0) (ef_sinit m a t) ?_
  refine own_G.sk 1 [(.ref a)] (fun _ kq => XS.aloadN X0.here hx rfl (hb hby d20_0) rfl rfl kq) ?_
  obtain ⟨T1, X1, e1, st1⟩ := initO X0 hx hZ hown (W_ 64 rfl) (W_ 65 rfl) (W_ 66 rfl) e0 (g := (mkF m 1 #[rv a, rv t, iv 0] [(.ref a)])) rfl (by rw [hml]; rfl) rfl (hb hby d20_1) (by decide) (W := 0) (by show 2 * 0 + _ ≤ _; exact Nat.le_of_eq rfl) (by decide)
  refine own_G.st (T' := T1) 4 [] st1 ?_
  refine own_G.sk 5 [(.ref a)] (fun _ kq => XS.aloadN X1.here hx rfl (hb hby d20_4) rfl rfl kq) ?_
  refine own_G.sk 6 [(.ref t), (.ref a)] (fun _ kq => XS.aloadN X1.here hx rfl (hb hby d20_5) rfl rfl kq) ?_
  obtain ⟨T2, h2, X2, e2, W2, st2⟩ := putF X1 hx hZ hown (host := "") (Or.inl (W_ 13 rfl)) Via.refl e1 F1 E0 (Or.inr ⟨(W_ 4 rfl), rfl, hnm⟩) (W_ 2 rfl) (ty := (.array .byte)) (by decide) rfl rfl (g := (mkF m 6 #[rv a, rv t, iv 0] [(.ref t), (.ref a)])) rfl rfl (hb hby d20_6)
  have N2 := Fr.snoc X2 N0 ga
  have F3 := F1.same W2
  have F4 := F2.other W2 (Or.inr (slot_ne (Or.inr (W_ 5 rfl)) (Or.inr (W_ 4 rfl)) (by decide) (t := .byte) (t' := (.array .byte)) (by decide) (by decide)))
  have F5 := E0.wr W2
  have O6 := O0.wr W2 ga
  have K7 := K0.wr W2 (Or.inl (List.mem_of_getElem? (i := 0) rfl))
  refine own_G.st (T' := T2) 9 [] st2 ?_
  refine own_G.sk 10 [(.ref a)] (fun _ kq => XS.aloadN X2.here hx rfl (hb hby d20_9) rfl rfl kq) ?_
  refine own_G.sk 11 [(.int 0), (.ref a)] (fun _ kq => XS.iloadN X2.here hx rfl (hb hby d20_10) rfl kq) ?_
  obtain ⟨T8, h8, X8, e8, W8, st8⟩ := putFN X2 hx hZ hown (W_ 20 rfl) Via.refl e2 F4 F5 (Or.inr ⟨(W_ 5 rfl), rfl, hnm⟩) (W_ 2 rfl) (ty := .byte) (v' := (.int (nar .byte (0 : Int32)))) (by decide) rfl (fits_nar_byte _) (g := (mkF m 11 #[rv a, rv t, iv 0] [(.int 0), (.ref a)])) rfl rfl (hb hby d20_11)
  have N8 := Fr.snoc X8 N2 ga
  have F9 := F3.other W8 (Or.inr (slot_ne (Or.inr (W_ 4 rfl)) (Or.inr (W_ 5 rfl)) (by decide) (t := (.array .byte)) (t' := .byte) (by decide) (by decide)))
  have F10 := F4.same W8
  have F11 := F5.wr W8
  have O12 := O6.wr W8 ga
  have K13 := K7.wr W8 (Or.inl (List.mem_of_getElem? (i := 0) rfl))
  refine own_G.st (T' := T8) 14 [] st8 ?_
  exact own_ret X8 e8 (v := none) (fun _ => rfl) Bd.notSynchronized ⟨rfl, N8, K13, F11, F9, F10⟩ (by decide) (by decide) (fun fs hr => X8.returnOut hx Bd.returns (hb hby d20_14) hr)
theorem pd__28C_29Z : parseMethodDescriptor "(C)Z" = some ⟨[.char], some .boolean⟩ := by decide +kernel
theorem pd__28C_29_5bB : parseMethodDescriptor "(C)[B" = some ⟨[.char], some (.array .byte)⟩ := by decide +kernel
theorem pd__28_5bBB_29V : parseMethodDescriptor "([BB)V" = some ⟨[(.array .byte), .byte], none⟩ := by decide +kernel
theorem d17_0 : decode jdk_42_method_139_code 0 = .ok (.getstatic 38, 3) := by decide +kernel
theorem d17_3 : decode jdk_42_method_139_code 3 = .ok (.ifCond .eq 23, 3) := by decide +kernel
theorem d17_6 : decode jdk_42_method_139_code 6 = .ok (.iload_n 0, 1) := by decide +kernel
theorem d17_7 : decode jdk_42_method_139_code 7 = .ok (.invokestatic 1015, 3) := by decide +kernel
theorem d17_10 : decode jdk_42_method_139_code 10 = .ok (.ifCond .eq 16, 3) := by decide +kernel
theorem d17_13 : decode jdk_42_method_139_code 13 = .ok (.new 10, 3) := by decide +kernel
theorem d17_16 : decode jdk_42_method_139_code 16 = .ok (.dup, 1) := by decide +kernel
theorem d17_17 : decode jdk_42_method_139_code 17 = .ok (.iload_n 0, 1) := by decide +kernel
theorem d17_18 : decode jdk_42_method_139_code 18 = .ok (.invokestatic 1018, 3) := by decide +kernel
theorem d17_21 : decode jdk_42_method_139_code 21 = .ok (.iconst 0, 1) := by decide +kernel
theorem d17_22 : decode jdk_42_method_139_code 22 = .ok (.invokespecial 209, 3) := by decide +kernel
theorem d17_25 : decode jdk_42_method_139_code 25 = .ok (.areturn, 1) := by decide +kernel
theorem ef_vofc (m : MethodId) (i : Int32) : entryFrame m #[(.int i)] 1 = mkF m 0 #[iv i] [] := by
  first | (simp [entryFrame, mkF, argsToLocals, Value.category]; done) | rfl
def Q_vofc (Z : State) (i : Int32) (csz : Int32) (h0 : Heap) (n0 : Nat) (v : Option Value) (h : Heap) (L : List Loc) : Prop := ∃ (r : Addr), ∃ (t : Addr), ∃ (kb : ClassId), v = some (.ref r) ∧ Fr n0 L ∧ Keep h0 h [] ∧ h0.size ≤ r ∧ h0.size ≤ t ∧ Exa Z h r "java/lang/String" ∧ Fld Z h r "java/lang/String" "value" "[B" (.ref t) ∧ Fld Z h r "java/lang/String" "coder" "B" (.int 0) ∧ Arv Z h t kb .byte (1 : Int32) [(.int (i.toInt8.toInt32))] (.int 0)
set_option maxRecDepth 65536 in
set_option maxHeartbeats 40000000 in
theorem rm_vofc (l : Launch) (Z : State) (a0 : Array Value) (hw : ∀ d ∈ tables_1, d.before a0 Z = true) (ws : List Jvm.Cond) (i : Int32) (csz : Int32) (h0 : Heap) (n0 : Nat) (O0 : Old Z n0 h0) (S_CS : Sta Z Z.heap "java/lang/String" "COMPACT_STRINGS" "Z" (.int csz)) (hcs : ¬ csz = (0 : Int32)) (h2 : ¬ (255 : Int32) < i) :
    MetFree l own_y15 (head1 (Jvm.Cond.code own_y15 jdk_42_method_139_code 1 (some (.object "java/lang/String")) :: ws) ({ frames := 2, cells := 2, slots := 5, locals := 27 } : Room)) (fun aq_ Uq_ => aq_ = #[(.int i)] ∧ Z.Warmed39 Uq_.vm ∧ Uq_.heap = h0) (fun _ _ _ _ _ => True) (fun _ Uq_ oq_ Ur_ => ∃ vq_ Lq_, oq_ = .returned vq_ ∧ Q_vofc Z i csz h0 n0 vq_ Ur_.heap Lq_ ∧ FrameEnd Uq_ oq_ Ur_ Lq_ ({ frames := 2, cells := 2, slots := 5, locals := 27 } : Room).cells ({ frames := 2, cells := 2, slots := 5, locals := 27 } : Room).slots) := by
  refine MetFree.of_bodySF (plainFor_of_name pn_java_2flang_2fString) hisR ?_
  intro p e s m args below meth c s₁ Bd hml0 hP hK
  obtain ⟨rfl, hZ, hh⟩ := hP
  have W_ : ∀ {d : Jvm.Cond} (i : Nat), tables_1[i]? = some d → d.before a0 Z = true := fun i h => hw _ (List.mem_of_getElem? h)
  have hx := Bd.exec
  have hby := Bd.bytes
  have hml : c.maxLocals = 1 := hml0
  have hown : s.vm.findClass "java/lang/String" = some m.cls := findClass_of_methodNamed Bd.named
  have hnm := (name_of_methodNamed Bd.named Bd.method).1
  have X0 : Stand p l e ({ frames := 2, cells := 2, slots := 5, locals := 27 } : Room) s m #[(.int i)] below meth c s₁ [] 0 0 := Stand.of_body Bd
  have e0 : s₁.heap = h0 := by rw [← hh, Bd.state]; rfl
  have N0 := Fr.nil n0
  have K0 := Keep.refl h0 []
  refine own_G.start (Q := Q_vofc Z i csz h0 n0) (ef_vofc m i) ?_
  obtain ⟨T1, X1, e1, st1⟩ := getS2 X0 hx hZ hown (host := "") (Or.inl (W_ 19 rfl)) Via.refl e0 (Sta.ext O0.2 S_CS) (g := (mkF m 0 #[iv i] [])) rfl (hb hby d17_0)
  refine own_G.st (T' := T1) 3 [(.int csz)] st1 ?_
  have hc3 : ¬ (csz = (0 : Int32)) := hcs
  refine own_G.sk 6 [] (fun _ kq => XS.ifNo X1.here hx rfl (hb hby d17_3) rfl ((if0 _ _).trans (feq hc3).1) kq) ?_
  refine own_G.sk 7 [(.int i)] (fun _ kq => XS.iloadN X1.here hx rfl (hb hby d17_6) rfl kq) ?_
  obtain ⟨_, _, ⟨T2, L2, k2, n2⟩, -, X2, ⟨Lc2, hQ2, l2, y2, z2⟩, st2⟩ := Jvm.LawKit.callS X1 hx (y := own_y12) hown (mvT hZ (W_ 80 rfl)) (mvT hZ (W_ 81 rfl)) (mvT hZ (W_ 38 rfl)) (mvT hZ (W_ 82 rfl)) (by decide) (backOf (W := 0) (rm_canEnc l Z a0 hw [] i h0 n0 O0 h2) hZ (W_ 82 rfl) (W_ 38 rfl) (by decide) (by decide)) (g := (mkF m 7 #[iv i] [(.int i)])) rfl (by rw [hml]; rfl) (argsL := [(.int i)]) (rest := []) (lenOf pd__28C_29Z rfl) rfl (by show 2 * 0 + _ ≤ _; exact Nat.le_of_eq rfl) (hb hby d17_7) (fun _ _ => ⟨rfl, e1, (by decide : 0 + 0 ≤ _), (by decide : 0 + 0 ≤ _)⟩)
  dsimp only [Pt.U, Pt.locs, Pt.cells, Pt.slots] at X2 l2 y2 z2 st2 hQ2
  subst l2 y2 z2
  obtain ⟨rfl, Nq2, P3⟩ := hQ2
  have N2 := Fr.app N0 Nq2
  refine own_G.st (T' := T2) 10 [(.int 1)] (fun _ kq => st2 _ kq) ?_
  have hc10 : ¬ ((1 : Int32) = (0 : Int32)) := by decide
  refine own_G.sk 13 [] (fun _ kq => XS.ifNo X2.here hx rfl (hb hby d17_10) rfl ((if0 _ _).trans (feq hc10).1) kq) ?_
  obtain ⟨T4, h4, X4, e4, E4, A4, D4, -, st4⟩ := newO X2 hx hZ hown (W_ 83 rfl) (W_ 2 rfl) (W_ 1 rfl) P3 (g := (mkF m 13 #[iv i] [])) rfl (hb hby d17_13) (by decide) (by decide)
  obtain ⟨b4, g4⟩ : ∃ z, z = h0.size := ⟨_, rfl⟩
  rw [← g4] at A4 D4 st4
  have g5 : n0 ≤ b4 := Nat.le_trans O0.le (Nat.le_of_eq g4.symm)
  have z6 : h0.size ≤ b4 := Nat.le_trans K0.1 (Nat.le_of_eq g4.symm)
  have O7 := O0.ext E4
  have K8 := K0.ext E4
  have F9 : Fld Z h4 b4 "java/lang/String" "value" "[B" .null := D4 (Or.inr (W_ 4 rfl)) (ty := (.array .byte)) (by decide)
  have F10 : Fld Z h4 b4 "java/lang/String" "coder" "B" (.int 0) := D4 (Or.inr (W_ 5 rfl)) (ty := .byte) (by decide)
  refine own_G.st (T' := T4) 16 [(.ref b4)] st4 ?_
  refine own_G.sk 17 [(.ref b4), (.ref b4)] (fun _ kq => XS.dup X4.here hx rfl (hb hby d17_16) rfl rfl kq) ?_
  refine own_G.sk 18 [(.int i), (.ref b4), (.ref b4)] (fun _ kq => XS.iloadN X4.here hx rfl (hb hby d17_17) rfl kq) ?_
  obtain ⟨_, _, ⟨T11, L11, k11, n11⟩, -, X11, ⟨Lc11, hQ11, l11, y11, z11⟩, st11⟩ := Jvm.LawKit.callS X4 hx (y := own_y13) hown (mvT hZ (W_ 84 rfl)) (mvT hZ (W_ 85 rfl)) (mvT hZ (W_ 38 rfl)) (mvT hZ (W_ 86 rfl)) (by decide) (backOf (W := 2) (rm_toB l Z a0 hw [] i h4 n0 O7 ) hZ (W_ 86 rfl) (W_ 38 rfl) (by decide) (by decide)) (g := (mkF m 18 #[iv i] [(.int i), (.ref b4), (.ref b4)])) rfl (by rw [hml]; rfl) (argsL := [(.int i)]) (rest := [(.ref b4), (.ref b4)]) (lenOf pd__28C_29_5bB rfl) rfl (by show 2 * 0 + _ ≤ _; exact Nat.le_of_eq rfl) (hb hby d17_18) (fun _ _ => ⟨rfl, e4, (by decide : 1 + 1 ≤ _), (by decide : 4 + 1 ≤ _)⟩)
  dsimp only [Pt.U, Pt.locs, Pt.cells, Pt.slots] at X11 l11 y11 z11 st11 hQ11
  subst l11 y11 z11
  obtain ⟨b12, x13, rfl, Nq11, P14, P15, P16⟩ := hQ11
  have N11 := Fr.app N2 Nq11
  have ne17 : b4 ≠ b12 := Nat.ne_of_lt (Nat.lt_of_lt_of_le A4.lt P15)
  have g18 : n0 ≤ b12 := Nat.le_trans O7.le P15
  have z19 : h0.size ≤ b12 := Nat.le_trans K8.1 P15
  have F20 := A4.keep P14
  have F21 := F9.keep P14 nin0
  have F22 := F10.keep P14 nin0
  have O23 := O7.keep P14 all0
  have K24 := K8.trans P14 all0
  refine own_G.st (T' := T11) 21 [(.ref b12), (.ref b4), (.ref b4)] (fun _ kq => st11 _ kq) ?_
  refine own_G.sk 22 [(.int 0), (.ref b12), (.ref b4), (.ref b4)] (fun _ kq => XS.iconst X11.here hx rfl (hb hby d17_21) kq) ?_
  obtain ⟨_, _, ⟨T25, L25, k25, n25⟩, -, X25, ⟨Lc25, hQ25, l25, y25, z25⟩, st25⟩ := X11.specialBack hx (y := own_y14) rfl hown (mvT hZ (W_ 87 rfl)) (mvT hZ (W_ 88 rfl)) (mvT hZ (W_ 89 rfl)) (by decide) (backOf (W := 1) (rm_sinit l Z a0 hw [] b4 b12 T11.heap n0 O23 F21 F22 F20 g5) hZ (W_ 89 rfl) (W_ 1 rfl) (by decide) (by decide)) (g := (mkF m 22 #[iv i] [(.int 0), (.ref b12), (.ref b4), (.ref b4)])) rfl (by rw [hml]; rfl) (Steps.refl _) (a := b4) (argsL := [(.ref b12), (.int 0)]) (rest := [(.ref b4)]) (lenOf pd__28_5bBB_29V rfl) rfl (by show 2 * 0 + _ ≤ _; exact Nat.le_of_eq rfl) (hb hby d17_22) (fun _ _ => ⟨rfl, rfl, (by decide : 2 + 0 ≤ _), (by decide : 5 + 0 ≤ _)⟩)
  dsimp only [Pt.U, Pt.locs, Pt.cells, Pt.slots] at X25 l25 y25 z25 st25 hQ25
  subst l25 y25 z25
  obtain ⟨rfl, Nq25, P26, P27, P28, P29⟩ := hQ25
  have N25 := Fr.app N11 Nq25
  have F30 := F20.keep P26
  have F31 := P16.keep P26 (ninS (Ne.symm ne17) nin0)
  have O32 := O23.keep P26 (allS g5 all0)
  have K33 := K24.trans P26 (allS (Or.inr z6) all0)
  refine own_G.st (T' := T25) 25 [(.ref b4)] (fun _ kq => st25.trans kq) ?_
  exact own_ret X25 rfl (v := some (.ref b4)) (fun h => by rw [Bd.returns] at h; cases h) Bd.notSynchronized ⟨b4, b12, x13, rfl, N25, K33, z6, z19, P27, P28, P29, F31⟩ (by decide) (by decide) (fun fs hr => own_retR X25 hx Bd.returns rfl rfl (hb hby d17_25) hr)
theorem own_safe_null {Z : State} {EL : List (String × Nat)} {vm : Vm} {h : Heap} {x : Addr} (hal : Z.vm.Alike vm) (E : Exa Z h x "java/lang/String") (F : Fld Z h x "java/lang/String" "value" "[B" .null) : Safe Z EL vm h x := fun B => by
  obtain ⟨cell, k, e1, e2, e3, -, -⟩ := E
  have nm : ∀ {n : String} {c : ClassId}, vm.findClass n = some c → c = cell.cls → n = "java/lang/String" := fun {n c} f e => by
    subst e
    rw [hal.findClass] at f
    obtain ⟨k1, q1, q2⟩ := Vm.findClass_spec f
    obtain ⟨k2, q3, q4⟩ := Vm.findClass_spec e2
    cases q1.symm.trans q3
    exact q2.symm.trans q4
  obtain ⟨cell', cv, kv, iv, f, f1, f2, f3, f4, f5, f6, f7⟩ := F
  obtain ⟨p, -, u, a, -, q, -, G, rfl | rfl⟩ := B
  · obtain ⟨cS, ⟨⟨s1, s2, s3, ⟨cv', kv', iv', s4, s4'⟩, -, s6, s7, s8, s9, -⟩, -⟩, -⟩ := G
    have s1 : h[q.sa]? = some q.sC := s1
    cases s1.symm.trans f1
    obtain ⟨kv2, z4⟩ := ff_back (U := Wst Z vm h) hal s4
    have e4 := z4.symm.trans f2
    simp only [Option.some.injEq, Prod.mk.injEq] at e4
    rw [← e4.2.2.2, s8] at f7
    cases f7
  · cases (show h[q.sd]? = some q.SA from G.hd).symm.trans e1
    obtain ⟨cS, -, -, f, -⟩ := G
    exact absurd (nm f rfl) (by decide)
def own_alt : List Int32 := [97, 108, 116, 101, 114, 110, 97, 116, 101]
def own_rel : List Int32 := [114, 101, 108, 97, 116, 101, 100]
def own_eqv (cs ds : List Int32) : Int32 := if cs = ds then 1 else 0
def own_art (cs : List Int32) : Int32 := if own_alt = cs then 1 else if own_rel = cs then 1 else 0
theorem own_art_a {cs : List Int32} (h : ¬ own_eqv own_alt cs = (0 : Int32)) : own_art cs = 1 := by
  unfold own_eqv at h
  unfold own_art
  split at h
  · rw [if_pos ‹_›]
  · exact absurd rfl h
theorem own_art_b {cs : List Int32} (h : own_eqv own_alt cs = (0 : Int32)) (h2 : ¬ own_eqv own_rel cs = (0 : Int32)) : own_art cs = 1 := by
  unfold own_eqv at h h2
  unfold own_art
  split at h
  · exact absurd h (by decide)
  · rw [if_neg ‹_›]
    split at h2
    · rw [if_pos ‹_›]
    · exact absurd rfl h2
theorem own_art_c {cs : List Int32} (h : own_eqv own_alt cs = (0 : Int32)) (h2 : own_eqv own_rel cs = (0 : Int32)) : own_art cs = 0 := by
  unfold own_eqv at h h2
  unfold own_art
  split at h
  · exact absurd h (by decide)
  · rw [if_neg ‹_›]
    split at h2
    · exact absurd h2 (by decide)
    · rw [if_neg ‹_›]
theorem own_eqB {p : Program} {l : Launch} {e : Env} {R : Room} {s : State} {args : Array Value} {below : List Frame} {len W : Nat} {h : Heap} {y : MethodName} {cs ds : List Int32} {pre : Pt → Array Value → Prop}
    (K : Back l R p e below s args y len W pre (fun P _ v B => ∃ L, (((v = some (.int 1) ∧ cs = ds) ∨ (v = some (.int 0) ∧ ¬ cs = ds)) ∧ L = [] ∧ B.U.heap = h) ∧ B.locs = P.locs ++ L ∧ B.cells = P.cells + 0 ∧ B.slots = P.slots + 0)) :
    Back l R p e below s args y len W pre (fun P _ v B => ∃ L, (v = some (.int (own_eqv cs ds)) ∧ L = [] ∧ B.U.heap = h) ∧ B.locs = P.locs ++ L ∧ B.cells = P.cells + 0 ∧ B.slots = P.slots + 0) := by
  intro m meth c P g ig mk a X hg hsize hdg hW hn hp'
  obtain ⟨v, B, X', ⟨L, ⟨hv, hL, hh⟩, r⟩, st⟩ := K m meth c P g ig mk a X hg hsize hdg hW hn hp'
  refine ⟨v, B, X', ⟨L, ⟨?_, hL, hh⟩, r⟩, st⟩
  unfold own_eqv
  rcases hv with ⟨rfl, q⟩ | ⟨rfl, q⟩
  · rw [if_pos q]
  · rw [if_neg q]
theorem own_alt_cod : StrChars.Road.CodA own_alt 0 (9 : Int32) [(.int 97), (.int 108), (.int 116), (.int 101), (.int 114), (.int 110), (.int 97), (.int 116), (.int 101)] := Or.inl ⟨rfl, by decide, by decide +kernel, by decide⟩
theorem own_alt_b : ∀ c ∈ own_alt, ¬ c < 0 ∧ ¬ (65535 : Int32) < c := by decide
theorem own_rel_cod : StrChars.Road.CodA own_rel 0 (7 : Int32) [(.int 114), (.int 101), (.int 108), (.int 97), (.int 116), (.int 101), (.int 100)] := Or.inl ⟨rfl, by decide, by decide +kernel, by decide⟩
theorem own_rel_b : ∀ c ∈ own_rel, ¬ c < 0 ∧ ¬ (65535 : Int32) < c := by decide
theorem d12_0 : decode jdk_42_method_149_code 0 = .ok (.aload_n 0, 1) := by decide +kernel
theorem d12_1 : decode jdk_42_method_149_code 1 = .ok (.invokespecial 1, 3) := by decide +kernel
theorem d12_4 : decode jdk_42_method_149_code 4 = .ok (.iload_n 3, 1) := by decide +kernel
theorem d12_5 : decode jdk_42_method_149_code 5 = .ok (.ifCond .ne 22, 3) := by decide +kernel
theorem d12_8 : decode jdk_42_method_149_code 8 = .ok (.aload_n 0, 1) := by decide +kernel
theorem d12_9 : decode jdk_42_method_149_code 9 = .ok (.ldc 7, 2) := by decide +kernel
theorem d12_11 : decode jdk_42_method_149_code 11 = .ok (.getfield 9, 3) := by decide +kernel
theorem d12_14 : decode jdk_42_method_149_code 14 = .ok (.putfield 9, 3) := by decide +kernel
theorem d12_17 : decode jdk_42_method_149_code 17 = .ok (.aload_n 0, 1) := by decide +kernel
theorem d12_18 : decode jdk_42_method_149_code 18 = .ok (.ldc 7, 2) := by decide +kernel
theorem d12_20 : decode jdk_42_method_149_code 20 = .ok (.getfield 15, 3) := by decide +kernel
theorem d12_23 : decode jdk_42_method_149_code 23 = .ok (.putfield 15, 3) := by decide +kernel
theorem d12_26 : decode jdk_42_method_149_code 26 = .ok (.return_, 1) := by decide +kernel
theorem own_wSm : ∀ d ∈ Bundle.stringAtoms, d ∈ tables_1 := by
  intro d hd
  have hd : d ∈ ([.initialized "java/lang/String", .instantiable "java/lang/String" 4, .arrayClass .byte, .laysFinal "java/lang/String" "java/lang/String" "value" "[B", .laysFinal "java/lang/String" "java/lang/String" "coder" "B", .soleField "java/lang/String" "value", .soleField "java/lang/String" "coder"] : List Jvm.Cond) := hd
  simp only [List.mem_cons, List.not_mem_nil, or_false] at hd
  rcases hd with rfl | rfl | rfl | rfl | rfl | rfl | rfl
  · exact List.mem_of_getElem? (i := 1) rfl
  · exact List.mem_of_getElem? (i := 2) rfl
  · exact List.mem_of_getElem? (i := 3) rfl
  · exact List.mem_of_getElem? (i := 4) rfl
  · exact List.mem_of_getElem? (i := 5) rfl
  · exact List.mem_of_getElem? (i := 6) rfl
  · exact List.mem_of_getElem? (i := 7) rfl
theorem ef_str0v (m : MethodId) (a : Addr) (ar : Addr) : entryFrame m #[(.ref a), (.ref ar), (.int 0), (.int 0), .null] 6 = mkF m 0 #[rv a, rv ar, iv 0, iv 0, .val .null, .unset] [] := by
  first | (simp [entryFrame, mkF, argsToLocals, Value.category]; done) | rfl
def Q_str0v (Z : State) (a : Addr) (ar : Addr) (h0 : Heap) (n0 : Nat) (v : Option Value) (h : Heap) (L : List Loc) : Prop := ∃ (t : Addr), ∃ (kb : ClassId), v = none ∧ Fr n0 L ∧ Keep h0 h [a] ∧ Exa Z h a "java/lang/String" ∧ Fld Z h a "java/lang/String" "value" "[B" (.ref t) ∧ Fld Z h a "java/lang/String" "coder" "B" (.int 0) ∧ Arv Z h t kb .byte (0 : Int32) [] (.int 0)
set_option maxRecDepth 65536 in
set_option maxHeartbeats 40000000 in
theorem rm_str0v (l : Launch) (Z : State) (a0 : Array Value) (hw : ∀ d ∈ tables_1, d.before a0 Z = true) (ws : List Jvm.Cond) (a : Addr) (ar : Addr) (h0 : Heap) (n0 : Nat) (O0 : Old Z n0 h0) (Ea : Exa Z h0 a "java/lang/String") (Fv : Fld Z h0 a "java/lang/String" "value" "[B" .null) (Fc : Fld Z h0 a "java/lang/String" "coder" "B" (.int 0)) (ga : n0 ≤ a) :
    MetFree l own_y16 (head1 (Jvm.Cond.code own_y16 jdk_42_method_149_code 6 none :: ws) ({ frames := 1, cells := 4, slots := 8, locals := 12 } : Room)) (fun aq_ Uq_ => aq_ = #[(.ref a), (.ref ar), (.int 0), (.int 0), .null] ∧ Z.Warmed39 Uq_.vm ∧ Uq_.heap = h0 ∧ CHv Z own_EL Uq_.vm h0) (fun _ _ _ _ _ => True) (fun _ Uq_ oq_ Ur_ => ∃ vq_ Lq_, oq_ = .returned vq_ ∧ Q_str0v Z a ar h0 n0 vq_ Ur_.heap Lq_ ∧ CHr Z own_EL Uq_.vm Uq_.heap Ur_.vm Ur_.heap ∧ ReturnedEndW Uq_ oq_ Ur_ Lq_ ({ frames := 1, cells := 4, slots := 8, locals := 12 } : Room).cells ({ frames := 1, cells := 4, slots := 8, locals := 12 } : Room).slots) := by
  refine MetFree.of_bodySF (plainFor_of_name pn_java_2flang_2fString) hisR ?_
  intro p e s m args below meth c s₁ Bd hml0 hP hK
  obtain ⟨rfl, hZ, hh, hH⟩ := hP
  have W_ : ∀ {d : Jvm.Cond} (i : Nat), tables_1[i]? = some d → d.before a0 Z = true := fun i h => hw _ (List.mem_of_getElem? h)
  have hx := Bd.exec
  have hby := Bd.bytes
  have hml : c.maxLocals = 6 := hml0
  have hown : s.vm.findClass "java/lang/String" = some m.cls := findClass_of_methodNamed Bd.named
  have hnm := (name_of_methodNamed Bd.named Bd.method).1
  have X0 : Stand p l e ({ frames := 1, cells := 4, slots := 8, locals := 12 } : Room) (s.setVm s.vm) m #[(.ref a), (.ref ar), (.int 0), (.int 0), .null] below meth c s₁ [] 0 0 := Stand.of_body Bd
  have e0 : s₁.heap = h0 := by rw [← hh, Bd.state]; rfl
  have N0 := Fr.nil n0
  have K0 := Keep.refl h0 [a]
  have hS : s.Since s.vm s.heap.size := (State.WarmedH.refl s).since _
  have hkS : s.heap.size ≤ h0.size := by rw [hh]; exact Nat.le_refl _
  have hZ : Z.Warmed39 (s.setVm s.vm).vm := hZ
  have hown : (s.setVm s.vm).vm.findClass "java/lang/String" = some m.cls := hown
  have own_wS : ∀ a ∈ Bundle.stringAtoms, a.before a0 Z = true := fun d hd => hw d (own_wSm d hd)
  have ew := own_EW Z a0 hw
  have hR := CHr.refl hH
  refine own_GH.start (Q := Q_str0v Z a ar h0 n0) (ef_str0v m a ar) ?_
  have sfa : Safe Z own_EL s.vm h0 a := own_safe_null hZ.alike Ea Fv
  refine own_GH.sk 1 [(.ref a)] (fun _ kq => XS.aloadN X0.here hx rfl (hb hby d12_0) rfl rfl kq) ?_
  obtain ⟨T1, X1, e1, st1⟩ := initO X0 hx hZ hown (W_ 64 rfl) (W_ 65 rfl) (W_ 66 rfl) e0 (g := (mkF m 1 #[rv a, rv ar, iv 0, iv 0, .val .null, .unset] [(.ref a)])) rfl (by rw [hml]; rfl) rfl (hb hby d12_1) (by decide) (W := 0) (by show 2 * 0 + _ ≤ _; exact Nat.le_of_eq rfl) (by decide)
  refine own_GH.st (T' := T1) 4 [] st1 ?_
  refine own_GH.sk 5 [(.int 0)] (fun _ kq => XS.iloadN X1.here hx rfl (hb hby d12_4) rfl kq) ?_
  have hc5 : (0 : Int32) = (0 : Int32) := (by decide)
  refine own_GH.sk 8 [] (fun _ kq => XS.ifNo X1.here hx rfl (hb hby d12_5) rfl ((if0 _ _).trans (teq hc5).2) kq) ?_
  refine own_GH.sk 9 [(.ref a)] (fun _ kq => XS.aloadN X1.here hx rfl (hb hby d12_8) rfl rfl kq) ?_
  obtain ⟨a2, T2, h2, k2, b2, kb2, X2, e2, E2, hS, hkS, hZ, hown, Es2, Fc2, Fv2, Av2, lta2, ltb2, ch2, Li2, nq2, st2⟩ := ldcCH (vm0 := s.vm) X1 hx hZ hown (W_ 161 rfl) own_wS e1 hS hkS ew (by decide) hH (vs := []) (z := (0 : Int32)) (by decide +kernel) (by decide) (by decide) (g := (mkF m 9 #[rv a, rv ar, iv 0, iv 0, .val .null, .unset] [(.ref a)])) rfl (hb hby d12_9) (n := 0) (by decide +kernel) (by decide) (by decide) (by decide)
  have sf3 := ch2.safe Ea.lt sfa
  have hR := hR.trans ch2
  have hH := ch2.1
  have F4 := Ea.ext E2
  have F5 := Fv.ext E2
  have F6 := Fc.ext E2
  have O7 := O0.ext E2
  have K8 := K0.ext E2
  refine own_GH.st (T' := T2) 11 [(.ref a2), (.ref a)] st2 ?_
  obtain ⟨T9, X9, e9, st9⟩ := getF X2 hx hZ hown (host := "") (Or.inl (W_ 13 rfl)) Via.refl e2 Fv2 (g := (mkF m 11 #[rv a, rv ar, iv 0, iv 0, .val .null, .unset] [(.ref a2), (.ref a)])) rfl rfl (hb hby d12_11)
  refine own_GH.st (T' := T9) 14 [(.ref b2), (.ref a)] st9 ?_
  obtain ⟨T10, h10, X10, e10, W10, st10⟩ := putF X9 hx hZ hown (host := "") (Or.inl (W_ 13 rfl)) Via.refl e9 F5 F4 (Or.inr ⟨(W_ 4 rfl), rfl, hnm⟩) (W_ 2 rfl) (ty := (.array .byte)) (by decide) rfl rfl (g := (mkF m 14 #[rv a, rv ar, iv 0, iv 0, .val .null, .unset] [(.ref b2), (.ref a)])) rfl rfl (hb hby d12_14)
  have N10 := Fr.snoc X10 N0 ga
  have hkS := Nat.le_trans hkS (Keep.of_wr W10).1
  have sf11 := Safe.wr W10 sf3 hH sf3
  have hR := hR.trans (CHr.wr W10 sf3 hH)
  have hH := CHv.wr W10 sf3 hH
  have F12 := F4.wr W10
  have F13 := F5.same W10
  have F14 := F6.other W10 (Or.inr (slot_ne (Or.inr (W_ 5 rfl)) (Or.inr (W_ 4 rfl)) (by decide) (t := .byte) (t' := (.array .byte)) (by decide) (by decide)))
  have F15 := Es2.wr W10
  have F16 := Fc2.other W10 (Or.inl (Ne.symm (nq2 _ sf3).1))
  have F17 := Fv2.other W10 (Or.inl (Ne.symm (nq2 _ sf3).1))
  have F18 := Av2.other W10 (Ne.symm (nq2 _ sf3).2)
  have O19 := O7.wr W10 ga
  have K20 := K8.wr W10 (Or.inl (List.mem_of_getElem? (i := 0) rfl))
  refine own_GH.st (T' := T10) 17 [] st10 ?_
  refine own_GH.sk 18 [(.ref a)] (fun _ kq => XS.aloadN X10.here hx rfl (hb hby d12_17) rfl rfl kq) ?_
  obtain ⟨a21, T21, h21, k21, b21, kb21, X21, e21, E21, hS, hkS, hZ, hown, Es21, Fc21, Fv21, Av21, lta21, ltb21, ch21, Li21, nq21, st21⟩ := ldcCH (vm0 := T2.vm) X10 hx hZ hown (W_ 161 rfl) own_wS e10 hS hkS ew (by decide) hH (vs := []) (z := (0 : Int32)) (by decide +kernel) (by decide) (by decide) (g := (mkF m 18 #[rv a, rv ar, iv 0, iv 0, .val .null, .unset] [(.ref a)])) rfl (hb hby d12_18) (n := 0) (by decide +kernel) (by decide) (by decide) (by decide)
  have sf22 := ch21.safe F12.lt sf11
  have hR := hR.trans ch21
  have hH := ch21.1
  have F23 := F12.ext E21
  have F24 := F13.ext E21
  have F25 := F14.ext E21
  have F26 := F15.ext E21
  have F27 := F16.ext E21
  have F28 := F17.ext E21
  have F29 := F18.ext E21
  have O30 := O19.ext E21
  have K31 := K20.ext E21
  refine own_GH.st (T' := T21) 20 [(.ref a21), (.ref a)] st21 ?_
  obtain ⟨T36, X36, e36, st36⟩ := getF X21 hx hZ hown (host := "") (Or.inl (W_ 20 rfl)) Via.refl e21 Fc21 (g := (mkF m 20 #[rv a, rv ar, iv 0, iv 0, .val .null, .unset] [(.ref a21), (.ref a)])) rfl rfl (hb hby d12_20)
  refine own_GH.st (T' := T36) 23 [(.int 0), (.ref a)] st36 ?_
  obtain ⟨T37, h37, X37, e37, W37, st37⟩ := putFN X36 hx hZ hown (W_ 20 rfl) Via.refl e36 F25 F23 (Or.inr ⟨(W_ 5 rfl), rfl, hnm⟩) (W_ 2 rfl) (ty := .byte) (v' := (.int (nar .byte (0 : Int32)))) (by decide) rfl (fits_nar_byte _) (g := (mkF m 23 #[rv a, rv ar, iv 0, iv 0, .val .null, .unset] [(.int 0), (.ref a)])) rfl rfl (hb hby d12_23)
  have N37 := Fr.snoc X37 N10 ga
  have hkS := Nat.le_trans hkS (Keep.of_wr W37).1
  have sf38 := Safe.wr W37 sf22 hH sf22
  have hR := hR.trans (CHr.wr W37 sf22 hH)
  have hH := CHv.wr W37 sf22 hH
  have F39 := F23.wr W37
  have F40 := F24.other W37 (Or.inr (slot_ne (Or.inr (W_ 4 rfl)) (Or.inr (W_ 5 rfl)) (by decide) (t := (.array .byte)) (t' := .byte) (by decide) (by decide)))
  have F41 := F25.same W37
  have F42 := F26.wr W37
  have F43 := F27.other W37 (Or.inl (Ne.symm (nq2 _ sf3).1))
  have F44 := F28.other W37 (Or.inl (Ne.symm (nq2 _ sf3).1))
  have F45 := F29.other W37 (Ne.symm (nq2 _ sf3).2)
  have F46 := Es21.wr W37
  have F47 := Fc21.other W37 (Or.inl (Ne.symm (nq21 _ sf22).1))
  have F48 := Fv21.other W37 (Or.inl (Ne.symm (nq21 _ sf22).1))
  have F49 := Av21.other W37 (Ne.symm (nq21 _ sf22).2)
  have O50 := O30.wr W37 ga
  have K51 := K31.wr W37 (Or.inl (List.mem_of_getElem? (i := 0) rfl))
  refine own_GH.st (T' := T37) 26 [] st37 ?_
  exact own_retH X37 hS e37 hkS hZ ew hH hh hR (v := none) (fun _ => rfl) Bd.notSynchronized ⟨b2, kb2, rfl, N37, K51, F39, F40, F41, F45⟩ (by decide) (by decide) (fun fs hr => X37.returnOut hx Bd.returns (hb hby d12_26) hr)
theorem pd__28_5bCIILjava_2flang_2fVoid_3b_29V : parseMethodDescriptor "([CIILjava/lang/Void;)V" = some ⟨[(.array .char), .int, .int, (.object "java/lang/Void")], none⟩ := by decide +kernel
theorem d11_0 : decode jdk_42_method_3_code 0 = .ok (.aload_n 0, 1) := by decide +kernel
theorem d11_1 : decode jdk_42_method_3_code 1 = .ok (.aload_n 1, 1) := by decide +kernel
theorem d11_2 : decode jdk_42_method_3_code 2 = .ok (.iconst 0, 1) := by decide +kernel
theorem d11_3 : decode jdk_42_method_3_code 3 = .ok (.aload_n 1, 1) := by decide +kernel
theorem d11_4 : decode jdk_42_method_3_code 4 = .ok (.arraylength, 1) := by decide +kernel
theorem d11_5 : decode jdk_42_method_3_code 5 = .ok (.aconst_null, 1) := by decide +kernel
theorem d11_6 : decode jdk_42_method_3_code 6 = .ok (.invokespecial 27, 3) := by decide +kernel
theorem d11_9 : decode jdk_42_method_3_code 9 = .ok (.return_, 1) := by decide +kernel
theorem ef_str0 (m : MethodId) (a : Addr) (ar : Addr) : entryFrame m #[(.ref a), (.ref ar)] 2 = mkF m 0 #[rv a, rv ar] [] := by
  first | (simp [entryFrame, mkF, argsToLocals, Value.category]; done) | rfl
def Q_str0 (Z : State) (a : Addr) (ar : Addr) (h0 : Heap) (n0 : Nat) (v : Option Value) (h : Heap) (L : List Loc) : Prop := ∃ (t : Addr), ∃ (kb : ClassId), v = none ∧ Fr n0 L ∧ Keep h0 h [a] ∧ Exa Z h a "java/lang/String" ∧ Fld Z h a "java/lang/String" "value" "[B" (.ref t) ∧ Fld Z h a "java/lang/String" "coder" "B" (.int 0) ∧ Arv Z h t kb .byte (0 : Int32) [] (.int 0)
set_option maxRecDepth 65536 in
set_option maxHeartbeats 40000000 in
theorem rm_str0 (l : Launch) (Z : State) (a0 : Array Value) (hw : ∀ d ∈ tables_1, d.before a0 Z = true) (ws : List Jvm.Cond) (a : Addr) (ar : Addr) (h0 : Heap) (n0 : Nat) (O0 : Old Z n0 h0) (Ea : Exa Z h0 a "java/lang/String") (Fv : Fld Z h0 a "java/lang/String" "value" "[B" .null) (Fc : Fld Z h0 a "java/lang/String" "coder" "B" (.int 0)) (ga : n0 ≤ a) (LN : own_Len Z h0 ar (0 : Int32)) :
    MetFree l own_y17 (head1 (Jvm.Cond.code own_y17 jdk_42_method_3_code 2 none :: ws) ({ frames := 2, cells := 4, slots := 8, locals := 29 } : Room)) (fun aq_ Uq_ => aq_ = #[(.ref a), (.ref ar)] ∧ Z.Warmed39 Uq_.vm ∧ Uq_.heap = h0 ∧ CHv Z own_EL Uq_.vm h0) (fun _ _ _ _ _ => True) (fun _ Uq_ oq_ Ur_ => ∃ vq_ Lq_, oq_ = .returned vq_ ∧ Q_str0 Z a ar h0 n0 vq_ Ur_.heap Lq_ ∧ CHr Z own_EL Uq_.vm Uq_.heap Ur_.vm Ur_.heap ∧ ReturnedEndW Uq_ oq_ Ur_ Lq_ ({ frames := 2, cells := 4, slots := 8, locals := 29 } : Room).cells ({ frames := 2, cells := 4, slots := 8, locals := 29 } : Room).slots) := by
  refine MetFree.of_bodySF (plainFor_of_name pn_java_2flang_2fString) hisR ?_
  intro p e s m args below meth c s₁ Bd hml0 hP hK
  obtain ⟨rfl, hZ, hh, hH⟩ := hP
  have W_ : ∀ {d : Jvm.Cond} (i : Nat), tables_1[i]? = some d → d.before a0 Z = true := fun i h => hw _ (List.mem_of_getElem? h)
  have hx := Bd.exec
  have hby := Bd.bytes
  have hml : c.maxLocals = 2 := hml0
  have hown : s.vm.findClass "java/lang/String" = some m.cls := findClass_of_methodNamed Bd.named
  have hnm := (name_of_methodNamed Bd.named Bd.method).1
  have X0 : Stand p l e ({ frames := 2, cells := 4, slots := 8, locals := 29 } : Room) (s.setVm s.vm) m #[(.ref a), (.ref ar)] below meth c s₁ [] 0 0 := Stand.of_body Bd
  have e0 : s₁.heap = h0 := by rw [← hh, Bd.state]; rfl
  have N0 := Fr.nil n0
  have K0 := Keep.refl h0 [a]
  have hS : s.Since s.vm s.heap.size := (State.WarmedH.refl s).since _
  have hkS : s.heap.size ≤ h0.size := by rw [hh]; exact Nat.le_refl _
  have hZ : Z.Warmed39 (s.setVm s.vm).vm := hZ
  have hown : (s.setVm s.vm).vm.findClass "java/lang/String" = some m.cls := hown
  have ew := own_EW Z a0 hw
  have hR := CHr.refl hH
  refine own_GH.start (Q := Q_str0 Z a ar h0 n0) (ef_str0 m a ar) ?_
  have sfa : Safe Z own_EL s.vm h0 a := own_safe_null hZ.alike Ea Fv
  refine own_GH.sk 1 [(.ref a)] (fun _ kq => XS.aloadN X0.here hx rfl (hb hby d11_0) rfl rfl kq) ?_
  refine own_GH.sk 2 [(.ref ar), (.ref a)] (fun _ kq => XS.aloadN X0.here hx rfl (hb hby d11_1) rfl rfl kq) ?_
  refine own_GH.sk 3 [(.int 0), (.ref ar), (.ref a)] (fun _ kq => XS.iconst X0.here hx rfl (hb hby d11_2) kq) ?_
  refine own_GH.sk 4 [(.ref ar), (.int 0), (.ref ar), (.ref a)] (fun _ kq => XS.aloadN X0.here hx rfl (hb hby d11_3) rfl rfl kq) ?_
  obtain ⟨cl1, ty1, Ar1, Sz1, Nz1⟩ := id LN
  refine own_GH.step (g' := (mkF m 5 #[rv a, rv ar] [(.int 0), (.int 0), (.ref ar), (.ref a)])) (fun tq_ kq_ => X0.arraylength hx (by rw [e0]; exact Ar1.1) (State.isArrayOf_alike hZ.alike Ar1.2.1) (g := (mkF m 4 #[rv a, rv ar] [(.ref ar), (.int 0), (.ref ar), (.ref a)])) rfl rfl (hb hby d11_4) _ (by rw [len_of Sz1 Nz1]; exact kq_)) ?_
  refine own_GH.sk 6 [.null, (.int 0), (.int 0), (.ref ar), (.ref a)] (fun _ kq => XS.aconstNull X0.here hx rfl (hb hby d11_5) kq) ?_
  obtain ⟨_, _, ⟨T2, L2, k2, n2⟩, -, X2, sS2, gS2, ⟨Lc2, hQ2, l2, y2, z2, ch2⟩, st2⟩ := X0.specialBackS hx (y := own_y16) rfl hown (mvT hZ (W_ 60 rfl)) (mvT hZ (W_ 61 rfl)) (mvT hZ (W_ 63 rfl)) (by decide) (backOfSH (vm0 := s.vm) (W := 0) (rm_str0v l Z a0 hw [] a ar h0 n0 O0 Ea Fv Fc ga) hZ (W_ 63 rfl) (W_ 1 rfl) (by decide) (by decide) ew hH) (g := (mkF m 6 #[rv a, rv ar] [.null, (.int 0), (.int 0), (.ref ar), (.ref a)])) rfl (by rw [hml]; rfl) (Steps.refl _) (a := a) (argsL := [(.ref ar), (.int 0), (.int 0), .null]) (rest := []) (lenOf pd__28_5bCIILjava_2flang_2fVoid_3b_29V rfl) rfl (by show 2 * 0 + _ ≤ _; exact Nat.le_of_eq rfl) (hb hby d11_6) (fun _ _ => ⟨rfl, e0, (by decide : 0 + 4 ≤ _), (by decide : 0 + 8 ≤ _)⟩)
  dsimp only [Pt.U, Pt.locs, Pt.cells, Pt.slots] at X2 l2 y2 z2 st2 hQ2 sS2 gS2 ch2
  subst l2 y2 z2
  obtain ⟨X2, hS, hZ, hown⟩ := rebS (vm0 := s.vm) hS (by rw [e0]; exact hkS) X2 sS2 gS2 hZ hown
  have sf3 := ch2.safe Ea.lt sfa
  have hR := hR.trans ch2
  have hH := ch2.1
  obtain ⟨b4, x5, rfl, Nq2, P6, P7, P8, P9, P10⟩ := hQ2
  have N2 := Fr.app N0 Nq2
  have hkS := Nat.le_trans hkS P6.1
  have F11 := Ea.keep P6
  have O12 := O0.keep P6 (allS ga all0)
  have K13 := K0.trans P6 (allS (Or.inl (List.mem_of_getElem? (i := 0) rfl)) all0)
  have hkS : T2.heap.size ≤ T2.heap.size := Nat.le_refl _
  refine own_GH.st (T' := T2) 9 [] (fun _ kq => st2.trans kq) ?_
  exact own_retH X2 hS rfl hkS hZ ew hH hh hR (v := none) (fun _ => rfl) Bd.notSynchronized ⟨b4, x5, rfl, N2, K13, P7, P8, P9, P10⟩ (by decide) (by decide) (fun fs hr => X2.returnOut hx Bd.returns (hb hby d11_9) hr)
theorem pd__28Ljava_2flang_2fObject_3bLjava_2flang_2fString_3b_29Ljava_2flang_2fObject_3b : parseMethodDescriptor "(Ljava/lang/Object;Ljava/lang/String;)Ljava/lang/Object;" = some ⟨[(.object "java/lang/Object"), (.object "java/lang/String")], some (.object "java/lang/Object")⟩ := by decide +kernel
theorem d24_0 : decode prog_24_method_1_code 0 = .ok (.aload_n 0, 1) := by decide +kernel
theorem d24_1 : decode prog_24_method_1_code 1 = .ok (.invokespecial 1, 3) := by decide +kernel
theorem d24_4 : decode prog_24_method_1_code 4 = .ok (.aload_n 1, 1) := by decide +kernel
theorem d24_5 : decode prog_24_method_1_code 5 = .ok (.ldc 7, 2) := by decide +kernel
theorem d24_7 : decode prog_24_method_1_code 7 = .ok (.invokestatic 9, 3) := by decide +kernel
theorem d24_10 : decode prog_24_method_1_code 10 = .ok (.pop, 1) := by decide +kernel
theorem d24_11 : decode prog_24_method_1_code 11 = .ok (.aload_n 2, 1) := by decide +kernel
theorem d24_12 : decode prog_24_method_1_code 12 = .ok (.ldc 15, 2) := by decide +kernel
theorem d24_14 : decode prog_24_method_1_code 14 = .ok (.invokestatic 9, 3) := by decide +kernel
theorem d24_17 : decode prog_24_method_1_code 17 = .ok (.pop, 1) := by decide +kernel
theorem d24_18 : decode prog_24_method_1_code 18 = .ok (.aload_n 0, 1) := by decide +kernel
theorem d24_19 : decode prog_24_method_1_code 19 = .ok (.aload_n 1, 1) := by decide +kernel
theorem d24_20 : decode prog_24_method_1_code 20 = .ok (.putfield 17, 3) := by decide +kernel
theorem d24_23 : decode prog_24_method_1_code 23 = .ok (.aload_n 0, 1) := by decide +kernel
theorem d24_24 : decode prog_24_method_1_code 24 = .ok (.aload_n 2, 1) := by decide +kernel
theorem d24_25 : decode prog_24_method_1_code 25 = .ok (.putfield 22, 3) := by decide +kernel
theorem d24_28 : decode prog_24_method_1_code 28 = .ok (.aload_n 0, 1) := by decide +kernel
theorem d24_29 : decode prog_24_method_1_code 29 = .ok (.aload_n 3, 1) := by decide +kernel
theorem d24_30 : decode prog_24_method_1_code 30 = .ok (.putfield 24, 3) := by decide +kernel
theorem d24_33 : decode prog_24_method_1_code 33 = .ok (.aload_n 0, 1) := by decide +kernel
theorem d24_34 : decode prog_24_method_1_code 34 = .ok (.aload 4, 2) := by decide +kernel
theorem d24_36 : decode prog_24_method_1_code 36 = .ok (.putfield 27, 3) := by decide +kernel
theorem d24_39 : decode prog_24_method_1_code 39 = .ok (.aload_n 0, 1) := by decide +kernel
theorem d24_40 : decode prog_24_method_1_code 40 = .ok (.aload 5, 2) := by decide +kernel
theorem d24_42 : decode prog_24_method_1_code 42 = .ok (.putfield 31, 3) := by decide +kernel
theorem d24_45 : decode prog_24_method_1_code 45 = .ok (.aload_n 0, 1) := by decide +kernel
theorem d24_46 : decode prog_24_method_1_code 46 = .ok (.aload 6, 2) := by decide +kernel
theorem d24_48 : decode prog_24_method_1_code 48 = .ok (.putfield 34, 3) := by decide +kernel
theorem d24_51 : decode prog_24_method_1_code 51 = .ok (.aload_n 0, 1) := by decide +kernel
theorem d24_52 : decode prog_24_method_1_code 52 = .ok (.iload 7, 2) := by decide +kernel
theorem d24_54 : decode prog_24_method_1_code 54 = .ok (.putfield 37, 3) := by decide +kernel
theorem d24_57 : decode prog_24_method_1_code 57 = .ok (.return_, 1) := by decide +kernel
theorem pn_com_2fexample_2ftermflow_2ftermflow_2ffeed_2fLink : plainName "com/example/termflow/termflow/feed/Link" = true := by first | (simp [plainName, overriddenIn]; done) | decide +kernel
theorem ef_linkinit (m : MethodId) (a : Addr) (xr : Addr) (xh : Addr) (xo : Value) (xl : Addr) (xo2 : Value) (xo3 : Value) (xv : Int32) (rxo : xo.isRef = true) (rxo2 : xo2.isRef = true) (rxo3 : xo3.isRef = true) : entryFrame m #[(.ref a), (.ref xr), (.ref xh), xo, (.ref xl), xo2, xo3, (.int xv)] 8 = mkF m 0 #[rv a, rv xr, rv xh, .val xo, rv xl, .val xo2, .val xo3, iv xv] [] := by
  rcases ref_cases rxo with rfl | ⟨z, rfl⟩ <;> rcases ref_cases rxo2 with rfl | ⟨z, rfl⟩ <;> rcases ref_cases rxo3 with rfl | ⟨z, rfl⟩ <;> first | (simp [entryFrame, mkF, argsToLocals, Value.category]; done) | rfl
def Q_linkinit (Z : State) (a : Addr) (xr : Addr) (xh : Addr) (xo : Value) (xl : Addr) (xo2 : Value) (xo3 : Value) (xv : Int32) (h0 : Heap) (n0 : Nat) (v : Option Value) (h : Heap) (L : List Loc) : Prop := v = none ∧ Fr n0 L ∧ Keep h0 h [a] ∧ Exa Z h a "com/example/termflow/termflow/feed/Link" ∧ Fld Z h a "com/example/termflow/termflow/feed/Link" "rel" "Ljava/lang/String;" (.ref xr)
set_option maxRecDepth 65536 in
set_option maxHeartbeats 40000000 in
theorem rm_linkinit (l : Launch) (Z : State) (a0 : Array Value) (hw : ∀ d ∈ tables_1, d.before a0 Z = true) (ws : List Jvm.Cond) (a : Addr) (xr : Addr) (xh : Addr) (xo : Value) (xl : Addr) (xo2 : Value) (xo3 : Value) (xv : Int32) (h0 : Heap) (n0 : Nat) (O0 : Old Z n0 h0) (rxo : xo.isRef = true) (rxo2 : xo2.isRef = true) (rxo3 : xo3.isRef = true) (Ea : Exa Z h0 a "com/example/termflow/termflow/feed/Link") (F_rel : Fld Z h0 a "com/example/termflow/termflow/feed/Link" "rel" "Ljava/lang/String;" .null) (F_href : Fld Z h0 a "com/example/termflow/termflow/feed/Link" "href" "Ljava/lang/String;" .null) (F_type : Fld Z h0 a "com/example/termflow/termflow/feed/Link" "type" "Ljava/lang/String;" .null) (F_length : Fld Z h0 a "com/example/termflow/termflow/feed/Link" "length" "Ljava/lang/Long;" .null) (F_sha256 : Fld Z h0 a "com/example/termflow/termflow/feed/Link" "sha256" "Ljava/lang/String;" .null) (F_md5 : Fld Z h0 a "com/example/termflow/termflow/feed/Link" "md5" "Ljava/lang/String;" .null) (F_validated : Fld Z h0 a "com/example/termflow/termflow/feed/Link" "validated" "Z" (.int 0)) (ga : n0 ≤ a) :
    MetFree l own_y18 (head1 (Jvm.Cond.code own_y18 prog_24_method_1_code 8 none :: ws) ({ frames := 2, cells := 4, slots := 36, locals := 24 } : Room)) (fun aq_ Uq_ => aq_ = #[(.ref a), (.ref xr), (.ref xh), xo, (.ref xl), xo2, xo3, (.int xv)] ∧ Z.Warmed39 Uq_.vm ∧ Uq_.heap = h0 ∧ CHv Z own_EL Uq_.vm h0) (fun _ _ _ _ _ => True) (fun _ Uq_ oq_ Ur_ => ∃ vq_ Lq_, oq_ = .returned vq_ ∧ Q_linkinit Z a xr xh xo xl xo2 xo3 xv h0 n0 vq_ Ur_.heap Lq_ ∧ CHr Z own_EL Uq_.vm Uq_.heap Ur_.vm Ur_.heap ∧ ReturnedEndW Uq_ oq_ Ur_ Lq_ ({ frames := 2, cells := 4, slots := 36, locals := 24 } : Room).cells ({ frames := 2, cells := 4, slots := 36, locals := 24 } : Room).slots) := by
  refine MetFree.of_bodySF (plainFor_of_name pn_com_2fexample_2ftermflow_2ftermflow_2ffeed_2fLink) hisR ?_
  intro p e s m args below meth c s₁ Bd hml0 hP hK
  obtain ⟨rfl, hZ, hh, hH⟩ := hP
  have W_ : ∀ {d : Jvm.Cond} (i : Nat), tables_1[i]? = some d → d.before a0 Z = true := fun i h => hw _ (List.mem_of_getElem? h)
  have hx := Bd.exec
  have hby := Bd.bytes
  have hml : c.maxLocals = 8 := hml0
  have hown : s.vm.findClass "com/example/termflow/termflow/feed/Link" = some m.cls := findClass_of_methodNamed Bd.named
  have hnm := (name_of_methodNamed Bd.named Bd.method).1
  have X0 : Stand p l e ({ frames := 2, cells := 4, slots := 36, locals := 24 } : Room) (s.setVm s.vm) m #[(.ref a), (.ref xr), (.ref xh), xo, (.ref xl), xo2, xo3, (.int xv)] below meth c s₁ [] 0 0 := Stand.of_body Bd
  have e0 : s₁.heap = h0 := by rw [← hh, Bd.state]; rfl
  have N0 := Fr.nil n0
  have K0 := Keep.refl h0 [a]
  have hS : s.Since s.vm s.heap.size := (State.WarmedH.refl s).since _
  have hkS : s.heap.size ≤ h0.size := by rw [hh]; exact Nat.le_refl _
  have hZ : Z.Warmed39 (s.setVm s.vm).vm := hZ
  have hown : (s.setVm s.vm).vm.findClass "com/example/termflow/termflow/feed/Link" = some m.cls := hown
  have own_wS : ∀ a ∈ Bundle.stringAtoms, a.before a0 Z = true := fun d hd => hw d (own_wSm d hd)
  have ew := own_EW Z a0 hw
  have hR := CHr.refl hH
  refine own_GH.start (Q := Q_linkinit Z a xr xh xo xl xo2 xo3 xv h0 n0) (ef_linkinit m a xr xh xo xl xo2 xo3 xv rxo rxo2 rxo3) ?_
  refine own_GH.sk 1 [(.ref a)] (fun _ kq => XS.aloadN X0.here hx rfl (hb hby d24_0) rfl rfl kq) ?_
  obtain ⟨_, _, ⟨T1, L1, k1, n1⟩, -, X1, ⟨Lc1, hQ1, l1, y1, z1⟩, st1⟩ := X0.specialBack hx (y := own_y0) rfl hown (mvT hZ (W_ 116 rfl)) (mvT hZ (W_ 117 rfl)) (mvT hZ (W_ 120 rfl)) (by decide) (backOf (W := 0) (rm_recinit l Z a0 hw [] a h0 n0 O0 ) hZ (W_ 120 rfl) (W_ 119 rfl) (by decide) (by decide)) (g := (mkF m 1 #[rv a, rv xr, rv xh, .val xo, rv xl, .val xo2, .val xo3, iv xv] [(.ref a)])) rfl (by rw [hml]; rfl) (Steps.refl _) (a := a) (argsL := []) (rest := []) (lenOf pd__28_29V rfl) rfl (by show 2 * 0 + _ ≤ _; exact Nat.le_of_eq rfl) (hb hby d24_1) (fun _ _ => ⟨rfl, e0, (by decide : 0 + 0 ≤ _), (by decide : 0 + 0 ≤ _)⟩)
  dsimp only [Pt.U, Pt.locs, Pt.cells, Pt.slots] at X1 l1 y1 z1 st1 hQ1
  subst l1 y1 z1
  obtain ⟨rfl, Nq1, P2⟩ := hQ1
  have N1 := Fr.app N0 Nq1
  refine own_GH.st (T' := T1) 4 [] (fun _ kq => st1.trans kq) ?_
  refine own_GH.sk 5 [(.ref xr)] (fun _ kq => XS.aloadN X1.here hx rfl (hb hby d24_4) rfl rfl kq) ?_
  obtain ⟨a3, T3, h3, k3, X3, e3, E3, hS, hkS, hZ, hown, ch3, Li3, st3⟩ := ldcOH (vm0 := s.vm) X1 hx hZ hown (W_ 122 rfl) own_wS P2 hS hkS ew hH (g := (mkF m 5 #[rv a, rv xr, rv xh, .val xo, rv xl, .val xo2, .val xo3, iv xv] [(.ref xr)])) rfl (hb hby d24_5) (n := 12) (by decide +kernel) (by decide) (by decide) (by decide)
  have hR := hR.trans ch3
  have hH := ch3.1
  have F4 := Ea.ext E3
  have F5 := F_rel.ext E3
  have F6 := F_href.ext E3
  have F7 := F_type.ext E3
  have F8 := F_length.ext E3
  have F9 := F_sha256.ext E3
  have F10 := F_md5.ext E3
  have F11 := F_validated.ext E3
  have O12 := O0.ext E3
  have K13 := K0.ext E3
  refine own_GH.st (T' := T3) 7 [(.ref a3), (.ref xr)] st3 ?_
  obtain ⟨_, _, ⟨T14, L14, k14, n14⟩, -, X14, ⟨Lc14, hQ14, l14, y14, z14⟩, st14⟩ := Jvm.LawKit.callS X3 hx (y := own_y1) hown (mvT hZ (W_ 123 rfl)) (mvT hZ (W_ 124 rfl)) (mvT hZ (W_ 125 rfl)) (mvT hZ (W_ 126 rfl)) (by decide) (backOf (W := 0) (rm_rnn l Z a0 hw [] xr a3 h3 n0 O12 ) hZ (W_ 126 rfl) (W_ 125 rfl) (by decide) (by decide)) (g := (mkF m 7 #[rv a, rv xr, rv xh, .val xo, rv xl, .val xo2, .val xo3, iv xv] [(.ref a3), (.ref xr)])) rfl (by rw [hml]; rfl) (argsL := [(.ref xr), (.ref a3)]) (rest := []) (lenOf pd__28Ljava_2flang_2fObject_3bLjava_2flang_2fString_3b_29Ljava_2flang_2fObject_3b rfl) rfl (by show 2 * 0 + _ ≤ _; exact Nat.le_of_eq rfl) (hb hby d24_7) (fun _ _ => ⟨rfl, e3, (by decide : 2 + 0 ≤ _), (by decide : 16 + 0 ≤ _)⟩)
  dsimp only [Pt.U, Pt.locs, Pt.cells, Pt.slots] at X14 l14 y14 z14 st14 hQ14
  subst l14 y14 z14
  obtain ⟨rfl, Nq14, P15⟩ := hQ14
  have N14 := Fr.app N1 Nq14
  refine own_GH.st (T' := T14) 10 [(.ref xr)] (fun _ kq => st14 _ kq) ?_
  refine own_GH.sk 11 [] (fun _ kq => XS.pop X14.here hx rfl (hb hby d24_10) rfl rfl kq) ?_
  refine own_GH.sk 12 [(.ref xh)] (fun _ kq => XS.aloadN X14.here hx rfl (hb hby d24_11) rfl rfl kq) ?_
  obtain ⟨a16, T16, h16, k16, X16, e16, E16, hS, hkS, hZ, hown, ch16, Li16, st16⟩ := ldcOH (vm0 := T3.vm) X14 hx hZ hown (W_ 127 rfl) own_wS P15 hS hkS ew hH (g := (mkF m 12 #[rv a, rv xr, rv xh, .val xo, rv xl, .val xo2, .val xo3, iv xv] [(.ref xh)])) rfl (hb hby d24_12) (n := 16) (by decide +kernel) (by decide) (by decide) (by decide)
  have hR := hR.trans ch16
  have hH := ch16.1
  have F17 := F4.ext E16
  have F18 := F5.ext E16
  have F19 := F6.ext E16
  have F20 := F7.ext E16
  have F21 := F8.ext E16
  have F22 := F9.ext E16
  have F23 := F10.ext E16
  have F24 := F11.ext E16
  have O25 := O12.ext E16
  have K26 := K13.ext E16
  refine own_GH.st (T' := T16) 14 [(.ref a16), (.ref xh)] st16 ?_
  obtain ⟨_, _, ⟨T27, L27, k27, n27⟩, -, X27, ⟨Lc27, hQ27, l27, y27, z27⟩, st27⟩ := Jvm.LawKit.callS X16 hx (y := own_y1) hown (mvT hZ (W_ 123 rfl)) (mvT hZ (W_ 124 rfl)) (mvT hZ (W_ 125 rfl)) (mvT hZ (W_ 126 rfl)) (by decide) (backOf (W := 0) (rm_rnn l Z a0 hw [] xh a16 h16 n0 O25 ) hZ (W_ 126 rfl) (W_ 125 rfl) (by decide) (by decide)) (g := (mkF m 14 #[rv a, rv xr, rv xh, .val xo, rv xl, .val xo2, .val xo3, iv xv] [(.ref a16), (.ref xh)])) rfl (by rw [hml]; rfl) (argsL := [(.ref xh), (.ref a16)]) (rest := []) (lenOf pd__28Ljava_2flang_2fObject_3bLjava_2flang_2fString_3b_29Ljava_2flang_2fObject_3b rfl) rfl (by show 2 * 0 + _ ≤ _; exact Nat.le_of_eq rfl) (hb hby d24_14) (fun _ _ => ⟨rfl, e16, (by decide : 4 + 0 ≤ _), (by decide : 36 + 0 ≤ _)⟩)
  dsimp only [Pt.U, Pt.locs, Pt.cells, Pt.slots] at X27 l27 y27 z27 st27 hQ27
  subst l27 y27 z27
  obtain ⟨rfl, Nq27, P28⟩ := hQ27
  have N27 := Fr.app N14 Nq27
  refine own_GH.st (T' := T27) 17 [(.ref xh)] (fun _ kq => st27 _ kq) ?_
  refine own_GH.sk 18 [] (fun _ kq => XS.pop X27.here hx rfl (hb hby d24_17) rfl rfl kq) ?_
  refine own_GH.sk 19 [(.ref a)] (fun _ kq => XS.aloadN X27.here hx rfl (hb hby d24_18) rfl rfl kq) ?_
  refine own_GH.sk 20 [(.ref xr), (.ref a)] (fun _ kq => XS.aloadN X27.here hx rfl (hb hby d24_19) rfl rfl kq) ?_
  obtain ⟨T29, h29, X29, e29, W29, st29⟩ := putF X27 hx hZ hown (host := "") (Or.inl (W_ 128 rfl)) Via.refl P28 F18 F17 (Or.inr ⟨(W_ 129 rfl), rfl, hnm⟩) (W_ 91 rfl) (ty := (.object "java/lang/String")) (by decide) rfl rfl (g := (mkF m 20 #[rv a, rv xr, rv xh, .val xo, rv xl, .val xo2, .val xo3, iv xv] [(.ref xr), (.ref a)])) rfl rfl (hb hby d24_20)
  have N29 := Fr.snoc X29 N27 ga
  have hkS := Nat.le_trans hkS (Keep.of_wr W29).1
  have hR := hR.trans (CHr.wr W29 (Safe.exa hZ.alike F17 (by decide) (by decide)) hH)
  have hH := CHv.wr W29 (Safe.exa hZ.alike F17 (by decide) (by decide)) hH
  have F30 := F17.wr W29
  have F31 := F18.same W29
  have F32 := F19.other W29 (Or.inr (slot_ne (Or.inr (W_ 131 rfl)) (Or.inr (W_ 129 rfl)) (by decide) (t := (.object "java/lang/String")) (t' := (.object "java/lang/String")) (by decide) (by decide)))
  have F33 := F20.other W29 (Or.inr (slot_ne (Or.inr (W_ 133 rfl)) (Or.inr (W_ 129 rfl)) (by decide) (t := (.object "java/lang/String")) (t' := (.object "java/lang/String")) (by decide) (by decide)))
  have F34 := F21.other W29 (Or.inr (slot_ne (Or.inr (W_ 135 rfl)) (Or.inr (W_ 129 rfl)) (by decide) (t := (.object "java/lang/Long")) (t' := (.object "java/lang/String")) (by decide) (by decide)))
  have F35 := F22.other W29 (Or.inr (slot_ne (Or.inr (W_ 137 rfl)) (Or.inr (W_ 129 rfl)) (by decide) (t := (.object "java/lang/String")) (t' := (.object "java/lang/String")) (by decide) (by decide)))
  have F36 := F23.other W29 (Or.inr (slot_ne (Or.inr (W_ 139 rfl)) (Or.inr (W_ 129 rfl)) (by decide) (t := (.object "java/lang/String")) (t' := (.object "java/lang/String")) (by decide) (by decide)))
  have F37 := F24.other W29 (Or.inr (slot_ne (Or.inr (W_ 141 rfl)) (Or.inr (W_ 129 rfl)) (by decide) (t := .boolean) (t' := (.object "java/lang/String")) (by decide) (by decide)))
  have O38 := O25.wr W29 ga
  have K39 := K26.wr W29 (Or.inl (List.mem_of_getElem? (i := 0) rfl))
  refine own_GH.st (T' := T29) 23 [] st29 ?_
  refine own_GH.sk 24 [(.ref a)] (fun _ kq => XS.aloadN X29.here hx rfl (hb hby d24_23) rfl rfl kq) ?_
  refine own_GH.sk 25 [(.ref xh), (.ref a)] (fun _ kq => XS.aloadN X29.here hx rfl (hb hby d24_24) rfl rfl kq) ?_
  obtain ⟨T40, h40, X40, e40, W40, st40⟩ := putF X29 hx hZ hown (host := "") (Or.inl (W_ 130 rfl)) Via.refl e29 F32 F30 (Or.inr ⟨(W_ 131 rfl), rfl, hnm⟩) (W_ 91 rfl) (ty := (.object "java/lang/String")) (by decide) rfl rfl (g := (mkF m 25 #[rv a, rv xr, rv xh, .val xo, rv xl, .val xo2, .val xo3, iv xv] [(.ref xh), (.ref a)])) rfl rfl (hb hby d24_25)
  have N40 := Fr.snoc X40 N29 ga
  have hkS := Nat.le_trans hkS (Keep.of_wr W40).1
  have hR := hR.trans (CHr.wr W40 (Safe.exa hZ.alike F30 (by decide) (by decide)) hH)
  have hH := CHv.wr W40 (Safe.exa hZ.alike F30 (by decide) (by decide)) hH
  have F41 := F30.wr W40
  have F42 := F31.other W40 (Or.inr (slot_ne (Or.inr (W_ 129 rfl)) (Or.inr (W_ 131 rfl)) (by decide) (t := (.object "java/lang/String")) (t' := (.object "java/lang/String")) (by decide) (by decide)))
  have F43 := F32.same W40
  have F44 := F33.other W40 (Or.inr (slot_ne (Or.inr (W_ 133 rfl)) (Or.inr (W_ 131 rfl)) (by decide) (t := (.object "java/lang/String")) (t' := (.object "java/lang/String")) (by decide) (by decide)))
  have F45 := F34.other W40 (Or.inr (slot_ne (Or.inr (W_ 135 rfl)) (Or.inr (W_ 131 rfl)) (by decide) (t := (.object "java/lang/Long")) (t' := (.object "java/lang/String")) (by decide) (by decide)))
  have F46 := F35.other W40 (Or.inr (slot_ne (Or.inr (W_ 137 rfl)) (Or.inr (W_ 131 rfl)) (by decide) (t := (.object "java/lang/String")) (t' := (.object "java/lang/String")) (by decide) (by decide)))
  have F47 := F36.other W40 (Or.inr (slot_ne (Or.inr (W_ 139 rfl)) (Or.inr (W_ 131 rfl)) (by decide) (t := (.object "java/lang/String")) (t' := (.object "java/lang/String")) (by decide) (by decide)))
  have F48 := F37.other W40 (Or.inr (slot_ne (Or.inr (W_ 141 rfl)) (Or.inr (W_ 131 rfl)) (by decide) (t := .boolean) (t' := (.object "java/lang/String")) (by decide) (by decide)))
  have O49 := O38.wr W40 ga
  have K50 := K39.wr W40 (Or.inl (List.mem_of_getElem? (i := 0) rfl))
  refine own_GH.st (T' := T40) 28 [] st40 ?_
  refine own_GH.sk 29 [(.ref a)] (fun _ kq => XS.aloadN X40.here hx rfl (hb hby d24_28) rfl rfl kq) ?_
  refine own_GH.sk 30 [xo, (.ref a)] (fun _ kq => XS.aloadN X40.here hx rfl (hb hby d24_29) rfl rxo kq) ?_
  obtain ⟨T51, h51, X51, e51, W51, st51⟩ := putF X40 hx hZ hown (host := "") (Or.inl (W_ 132 rfl)) Via.refl e40 F44 F41 (Or.inr ⟨(W_ 133 rfl), rfl, hnm⟩) (W_ 91 rfl) (ty := (.object "java/lang/String")) (by decide) (own_narrow rxo rfl) (own_fits rxo rfl) (g := (mkF m 30 #[rv a, rv xr, rv xh, .val xo, rv xl, .val xo2, .val xo3, iv xv] [xo, (.ref a)])) rfl rfl (hb hby d24_30)
  have N51 := Fr.snoc X51 N40 ga
  have hkS := Nat.le_trans hkS (Keep.of_wr W51).1
  have hR := hR.trans (CHr.wr W51 (Safe.exa hZ.alike F41 (by decide) (by decide)) hH)
  have hH := CHv.wr W51 (Safe.exa hZ.alike F41 (by decide) (by decide)) hH
  have F52 := F41.wr W51
  have F53 := F42.other W51 (Or.inr (slot_ne (Or.inr (W_ 129 rfl)) (Or.inr (W_ 133 rfl)) (by decide) (t := (.object "java/lang/String")) (t' := (.object "java/lang/String")) (by decide) (by decide)))
  have F54 := F43.other W51 (Or.inr (slot_ne (Or.inr (W_ 131 rfl)) (Or.inr (W_ 133 rfl)) (by decide) (t := (.object "java/lang/String")) (t' := (.object "java/lang/String")) (by decide) (by decide)))
  have F55 := F44.same W51
  have F56 := F45.other W51 (Or.inr (slot_ne (Or.inr (W_ 135 rfl)) (Or.inr (W_ 133 rfl)) (by decide) (t := (.object "java/lang/Long")) (t' := (.object "java/lang/String")) (by decide) (by decide)))
  have F57 := F46.other W51 (Or.inr (slot_ne (Or.inr (W_ 137 rfl)) (Or.inr (W_ 133 rfl)) (by decide) (t := (.object "java/lang/String")) (t' := (.object "java/lang/String")) (by decide) (by decide)))
  have F58 := F47.other W51 (Or.inr (slot_ne (Or.inr (W_ 139 rfl)) (Or.inr (W_ 133 rfl)) (by decide) (t := (.object "java/lang/String")) (t' := (.object "java/lang/String")) (by decide) (by decide)))
  have F59 := F48.other W51 (Or.inr (slot_ne (Or.inr (W_ 141 rfl)) (Or.inr (W_ 133 rfl)) (by decide) (t := .boolean) (t' := (.object "java/lang/String")) (by decide) (by decide)))
  have O60 := O49.wr W51 ga
  have K61 := K50.wr W51 (Or.inl (List.mem_of_getElem? (i := 0) rfl))
  refine own_GH.st (T' := T51) 33 [] st51 ?_
  refine own_GH.sk 34 [(.ref a)] (fun _ kq => XS.aloadN X51.here hx rfl (hb hby d24_33) rfl rfl kq) ?_
  refine own_GH.sk 36 [(.ref xl), (.ref a)] (fun _ kq => XS.aload X51.here hx rfl (hb hby d24_34) rfl rfl kq) ?_
  obtain ⟨T62, h62, X62, e62, W62, st62⟩ := putF X51 hx hZ hown (host := "") (Or.inl (W_ 134 rfl)) Via.refl e51 F56 F52 (Or.inr ⟨(W_ 135 rfl), rfl, hnm⟩) (W_ 91 rfl) (ty := (.object "java/lang/Long")) (by decide) rfl rfl (g := (mkF m 36 #[rv a, rv xr, rv xh, .val xo, rv xl, .val xo2, .val xo3, iv xv] [(.ref xl), (.ref a)])) rfl rfl (hb hby d24_36)
  have N62 := Fr.snoc X62 N51 ga
  have hkS := Nat.le_trans hkS (Keep.of_wr W62).1
  have hR := hR.trans (CHr.wr W62 (Safe.exa hZ.alike F52 (by decide) (by decide)) hH)
  have hH := CHv.wr W62 (Safe.exa hZ.alike F52 (by decide) (by decide)) hH
  have F63 := F52.wr W62
  have F64 := F53.other W62 (Or.inr (slot_ne (Or.inr (W_ 129 rfl)) (Or.inr (W_ 135 rfl)) (by decide) (t := (.object "java/lang/String")) (t' := (.object "java/lang/Long")) (by decide) (by decide)))
  have F65 := F54.other W62 (Or.inr (slot_ne (Or.inr (W_ 131 rfl)) (Or.inr (W_ 135 rfl)) (by decide) (t := (.object "java/lang/String")) (t' := (.object "java/lang/Long")) (by decide) (by decide)))
  have F66 := F55.other W62 (Or.inr (slot_ne (Or.inr (W_ 133 rfl)) (Or.inr (W_ 135 rfl)) (by decide) (t := (.object "java/lang/String")) (t' := (.object "java/lang/Long")) (by decide) (by decide)))
  have F67 := F56.same W62
  have F68 := F57.other W62 (Or.inr (slot_ne (Or.inr (W_ 137 rfl)) (Or.inr (W_ 135 rfl)) (by decide) (t := (.object "java/lang/String")) (t' := (.object "java/lang/Long")) (by decide) (by decide)))
  have F69 := F58.other W62 (Or.inr (slot_ne (Or.inr (W_ 139 rfl)) (Or.inr (W_ 135 rfl)) (by decide) (t := (.object "java/lang/String")) (t' := (.object "java/lang/Long")) (by decide) (by decide)))
  have F70 := F59.other W62 (Or.inr (slot_ne (Or.inr (W_ 141 rfl)) (Or.inr (W_ 135 rfl)) (by decide) (t := .boolean) (t' := (.object "java/lang/Long")) (by decide) (by decide)))
  have O71 := O60.wr W62 ga
  have K72 := K61.wr W62 (Or.inl (List.mem_of_getElem? (i := 0) rfl))
  refine own_GH.st (T' := T62) 39 [] st62 ?_
  refine own_GH.sk 40 [(.ref a)] (fun _ kq => XS.aloadN X62.here hx rfl (hb hby d24_39) rfl rfl kq) ?_
  refine own_GH.sk 42 [xo2, (.ref a)] (fun _ kq => XS.aload X62.here hx rfl (hb hby d24_40) rfl rxo2 kq) ?_
  obtain ⟨T73, h73, X73, e73, W73, st73⟩ := putF X62 hx hZ hown (host := "") (Or.inl (W_ 136 rfl)) Via.refl e62 F68 F63 (Or.inr ⟨(W_ 137 rfl), rfl, hnm⟩) (W_ 91 rfl) (ty := (.object "java/lang/String")) (by decide) (own_narrow rxo2 rfl) (own_fits rxo2 rfl) (g := (mkF m 42 #[rv a, rv xr, rv xh, .val xo, rv xl, .val xo2, .val xo3, iv xv] [xo2, (.ref a)])) rfl rfl (hb hby d24_42)
  have N73 := Fr.snoc X73 N62 ga
  have hkS := Nat.le_trans hkS (Keep.of_wr W73).1
  have hR := hR.trans (CHr.wr W73 (Safe.exa hZ.alike F63 (by decide) (by decide)) hH)
  have hH := CHv.wr W73 (Safe.exa hZ.alike F63 (by decide) (by decide)) hH
  have F74 := F63.wr W73
  have F75 := F64.other W73 (Or.inr (slot_ne (Or.inr (W_ 129 rfl)) (Or.inr (W_ 137 rfl)) (by decide) (t := (.object "java/lang/String")) (t' := (.object "java/lang/String")) (by decide) (by decide)))
  have F76 := F65.other W73 (Or.inr (slot_ne (Or.inr (W_ 131 rfl)) (Or.inr (W_ 137 rfl)) (by decide) (t := (.object "java/lang/String")) (t' := (.object "java/lang/String")) (by decide) (by decide)))
  have F77 := F66.other W73 (Or.inr (slot_ne (Or.inr (W_ 133 rfl)) (Or.inr (W_ 137 rfl)) (by decide) (t := (.object "java/lang/String")) (t' := (.object "java/lang/String")) (by decide) (by decide)))
  have F78 := F67.other W73 (Or.inr (slot_ne (Or.inr (W_ 135 rfl)) (Or.inr (W_ 137 rfl)) (by decide) (t := (.object "java/lang/Long")) (t' := (.object "java/lang/String")) (by decide) (by decide)))
  have F79 := F68.same W73
  have F80 := F69.other W73 (Or.inr (slot_ne (Or.inr (W_ 139 rfl)) (Or.inr (W_ 137 rfl)) (by decide) (t := (.object "java/lang/String")) (t' := (.object "java/lang/String")) (by decide) (by decide)))
  have F81 := F70.other W73 (Or.inr (slot_ne (Or.inr (W_ 141 rfl)) (Or.inr (W_ 137 rfl)) (by decide) (t := .boolean) (t' := (.object "java/lang/String")) (by decide) (by decide)))
  have O82 := O71.wr W73 ga
  have K83 := K72.wr W73 (Or.inl (List.mem_of_getElem? (i := 0) rfl))
  refine own_GH.st (T' := T73) 45 [] st73 ?_
  refine own_GH.sk 46 [(.ref a)] (fun _ kq => XS.aloadN X73.here hx rfl (hb hby d24_45) rfl rfl kq) ?_
  refine own_GH.sk 48 [xo3, (.ref a)] (fun _ kq => XS.aload X73.here hx rfl (hb hby d24_46) rfl rxo3 kq) ?_
  obtain ⟨T84, h84, X84, e84, W84, st84⟩ := putF X73 hx hZ hown (host := "") (Or.inl (W_ 138 rfl)) Via.refl e73 F80 F74 (Or.inr ⟨(W_ 139 rfl), rfl, hnm⟩) (W_ 91 rfl) (ty := (.object "java/lang/String")) (by decide) (own_narrow rxo3 rfl) (own_fits rxo3 rfl) (g := (mkF m 48 #[rv a, rv xr, rv xh, .val xo, rv xl, .val xo2, .val xo3, iv xv] [xo3, (.ref a)])) rfl rfl (hb hby d24_48)
  have N84 := Fr.snoc X84 N73 ga
  have hkS := Nat.le_trans hkS (Keep.of_wr W84).1
  have hR := hR.trans (CHr.wr W84 (Safe.exa hZ.alike F74 (by decide) (by decide)) hH)
  have hH := CHv.wr W84 (Safe.exa hZ.alike F74 (by decide) (by decide)) hH
  have F85 := F74.wr W84
  have F86 := F75.other W84 (Or.inr (slot_ne (Or.inr (W_ 129 rfl)) (Or.inr (W_ 139 rfl)) (by decide) (t := (.object "java/lang/String")) (t' := (.object "java/lang/String")) (by decide) (by decide)))
  have F87 := F76.other W84 (Or.inr (slot_ne (Or.inr (W_ 131 rfl)) (Or.inr (W_ 139 rfl)) (by decide) (t := (.object "java/lang/String")) (t' := (.object "java/lang/String")) (by decide) (by decide)))
  have F88 := F77.other W84 (Or.inr (slot_ne (Or.inr (W_ 133 rfl)) (Or.inr (W_ 139 rfl)) (by decide) (t := (.object "java/lang/String")) (t' := (.object "java/lang/String")) (by decide) (by decide)))
  have F89 := F78.other W84 (Or.inr (slot_ne (Or.inr (W_ 135 rfl)) (Or.inr (W_ 139 rfl)) (by decide) (t := (.object "java/lang/Long")) (t' := (.object "java/lang/String")) (by decide) (by decide)))
  have F90 := F79.other W84 (Or.inr (slot_ne (Or.inr (W_ 137 rfl)) (Or.inr (W_ 139 rfl)) (by decide) (t := (.object "java/lang/String")) (t' := (.object "java/lang/String")) (by decide) (by decide)))
  have F91 := F80.same W84
  have F92 := F81.other W84 (Or.inr (slot_ne (Or.inr (W_ 141 rfl)) (Or.inr (W_ 139 rfl)) (by decide) (t := .boolean) (t' := (.object "java/lang/String")) (by decide) (by decide)))
  have O93 := O82.wr W84 ga
  have K94 := K83.wr W84 (Or.inl (List.mem_of_getElem? (i := 0) rfl))
  refine own_GH.st (T' := T84) 51 [] st84 ?_
  refine own_GH.sk 52 [(.ref a)] (fun _ kq => XS.aloadN X84.here hx rfl (hb hby d24_51) rfl rfl kq) ?_
  refine own_GH.sk 54 [(.int xv), (.ref a)] (fun _ kq => XS.iload X84.here hx rfl (hb hby d24_52) rfl kq) ?_
  obtain ⟨T95, h95, X95, e95, W95, st95⟩ := putFN X84 hx hZ hown (W_ 140 rfl) Via.refl e84 F92 F85 (Or.inr ⟨(W_ 141 rfl), rfl, hnm⟩) (W_ 91 rfl) (ty := .boolean) (v' := (.int (nar .boolean xv))) (by decide) rfl (fits_nar_bool _) (g := (mkF m 54 #[rv a, rv xr, rv xh, .val xo, rv xl, .val xo2, .val xo3, iv xv] [(.int xv), (.ref a)])) rfl rfl (hb hby d24_54)
  have N95 := Fr.snoc X95 N84 ga
  have hkS := Nat.le_trans hkS (Keep.of_wr W95).1
  have hR := hR.trans (CHr.wr W95 (Safe.exa hZ.alike F85 (by decide) (by decide)) hH)
  have hH := CHv.wr W95 (Safe.exa hZ.alike F85 (by decide) (by decide)) hH
  have F96 := F85.wr W95
  have F97 := F86.other W95 (Or.inr (slot_ne (Or.inr (W_ 129 rfl)) (Or.inr (W_ 141 rfl)) (by decide) (t := (.object "java/lang/String")) (t' := .boolean) (by decide) (by decide)))
  have F98 := F87.other W95 (Or.inr (slot_ne (Or.inr (W_ 131 rfl)) (Or.inr (W_ 141 rfl)) (by decide) (t := (.object "java/lang/String")) (t' := .boolean) (by decide) (by decide)))
  have F99 := F88.other W95 (Or.inr (slot_ne (Or.inr (W_ 133 rfl)) (Or.inr (W_ 141 rfl)) (by decide) (t := (.object "java/lang/String")) (t' := .boolean) (by decide) (by decide)))
  have F100 := F89.other W95 (Or.inr (slot_ne (Or.inr (W_ 135 rfl)) (Or.inr (W_ 141 rfl)) (by decide) (t := (.object "java/lang/Long")) (t' := .boolean) (by decide) (by decide)))
  have F101 := F90.other W95 (Or.inr (slot_ne (Or.inr (W_ 137 rfl)) (Or.inr (W_ 141 rfl)) (by decide) (t := (.object "java/lang/String")) (t' := .boolean) (by decide) (by decide)))
  have F102 := F91.other W95 (Or.inr (slot_ne (Or.inr (W_ 139 rfl)) (Or.inr (W_ 141 rfl)) (by decide) (t := (.object "java/lang/String")) (t' := .boolean) (by decide) (by decide)))
  have F103 := F92.same W95
  have O104 := O93.wr W95 ga
  have K105 := K94.wr W95 (Or.inl (List.mem_of_getElem? (i := 0) rfl))
  refine own_GH.st (T' := T95) 57 [] st95 ?_
  exact own_retH X95 hS e95 hkS hZ ew hH hh hR (v := none) (fun _ => rfl) Bd.notSynchronized ⟨rfl, N95, K105, F96, F97⟩ (by decide) (by decide) (fun fs hr => X95.returnOut hx Bd.returns (hb hby d24_57) hr)
theorem pd__28Ljava_2flang_2fObject_3b_29Z : parseMethodDescriptor "(Ljava/lang/Object;)Z" = some ⟨[(.object "java/lang/Object")], some .boolean⟩ := by decide +kernel
theorem d27_0 : decode prog_24_method_2_code 0 = .ok (.ldc 41, 2) := by decide +kernel
theorem d27_2 : decode prog_24_method_2_code 2 = .ok (.aload_n 0, 1) := by decide +kernel
theorem d27_3 : decode prog_24_method_2_code 3 = .ok (.getfield 17, 3) := by decide +kernel
theorem d27_6 : decode prog_24_method_2_code 6 = .ok (.invokevirtual 43, 3) := by decide +kernel
theorem d27_9 : decode prog_24_method_2_code 9 = .ok (.ifCond .ne 15, 3) := by decide +kernel
theorem d27_12 : decode prog_24_method_2_code 12 = .ok (.ldc 49, 2) := by decide +kernel
theorem d27_14 : decode prog_24_method_2_code 14 = .ok (.aload_n 0, 1) := by decide +kernel
theorem d27_15 : decode prog_24_method_2_code 15 = .ok (.getfield 17, 3) := by decide +kernel
theorem d27_18 : decode prog_24_method_2_code 18 = .ok (.invokevirtual 43, 3) := by decide +kernel
theorem d27_21 : decode prog_24_method_2_code 21 = .ok (.ifCond .eq 7, 3) := by decide +kernel
theorem d27_24 : decode prog_24_method_2_code 24 = .ok (.iconst 1, 1) := by decide +kernel
theorem d27_25 : decode prog_24_method_2_code 25 = .ok (.goto 4, 3) := by decide +kernel
theorem d27_28 : decode prog_24_method_2_code 28 = .ok (.iconst 0, 1) := by decide +kernel
theorem d27_29 : decode prog_24_method_2_code 29 = .ok (.ireturn, 1) := by decide +kernel
theorem ef_isart (m : MethodId) (a : Addr) : entryFrame m #[(.ref a)] 1 = mkF m 0 #[rv a] [] := by
  first | (simp [entryFrame, mkF, argsToLocals, Value.category]; done) | rfl
def Q_isart (Z : State) (a : Addr) (csz : Int32) (r : Addr) (t : Addr) (kb : ClassId) (n : Int32) (vs : List Value) (cs : List Int32) (h0 : Heap) (n0 : Nat) (v : Option Value) (h : Heap) (L : List Loc) : Prop := v = some (.int (own_art cs)) ∧ Fr n0 L ∧ Keep h0 h []
set_option maxRecDepth 65536 in
set_option maxHeartbeats 40000000 in
theorem rm_isart (l : Launch) (Z : State) (a0 : Array Value) (hw : ∀ d ∈ tables_1, d.before a0 Z = true) (ws : List Jvm.Cond) (a : Addr) (csz : Int32) (r : Addr) (t : Addr) (kb : ClassId) (n : Int32) (vs : List Value) (cs : List Int32) (h0 : Heap) (n0 : Nat) (O0 : Old Z n0 h0) (S_CS : Sta Z Z.heap "java/lang/String" "COMPACT_STRINGS" "Z" (.int csz)) (hcs : ¬ csz = (0 : Int32)) (Ea : Exa Z h0 a "com/example/termflow/termflow/feed/Link") (Frl : Fld Z h0 a "com/example/termflow/termflow/feed/Link" "rel" "Ljava/lang/String;" (.ref r)) (Er : Exa Z h0 r "java/lang/String") (Fv : Fld Z h0 r "java/lang/String" "value" "[B" (.ref t)) (Fc : Fld Z h0 r "java/lang/String" "coder" "B" (.int 0)) (At : Arv Z h0 t kb .byte n vs (.int 0)) (hcod : StrChars.Road.CodA cs 0 n vs) (hbd : ∀ c ∈ cs, ¬ c < 0 ∧ ¬ (65535 : Int32) < c) (hl2 : cs.length ≤ 4000) :
    MetFree l own_y19 (head1 (Jvm.Cond.code own_y19 prog_24_method_2_code 1 (some .boolean) :: ws) ({ frames := 2, cells := 4, slots := 72, locals := 28 } : Room)) (fun aq_ Uq_ => aq_ = #[(.ref a)] ∧ Z.Warmed39 Uq_.vm ∧ Uq_.heap = h0 ∧ CHv Z own_EL Uq_.vm h0) (fun _ _ _ _ _ => True) (fun _ Uq_ oq_ Ur_ => ∃ vq_ Lq_, oq_ = .returned vq_ ∧ Q_isart Z a csz r t kb n vs cs h0 n0 vq_ Ur_.heap Lq_ ∧ CHr Z own_EL Uq_.vm Uq_.heap Ur_.vm Ur_.heap ∧ ReturnedEndW Uq_ oq_ Ur_ Lq_ ({ frames := 2, cells := 4, slots := 72, locals := 28 } : Room).cells ({ frames := 2, cells := 4, slots := 72, locals := 28 } : Room).slots) := by
  refine MetFree.of_bodySF (plainFor_of_name pn_com_2fexample_2ftermflow_2ftermflow_2ffeed_2fLink) hisR ?_
  intro p e s m args below meth c s₁ Bd hml0 hP hK
  obtain ⟨rfl, hZ, hh, hH⟩ := hP
  have W_ : ∀ {d : Jvm.Cond} (i : Nat), tables_1[i]? = some d → d.before a0 Z = true := fun i h => hw _ (List.mem_of_getElem? h)
  have hx := Bd.exec
  have hby := Bd.bytes
  have hml : c.maxLocals = 1 := hml0
  have hown : s.vm.findClass "com/example/termflow/termflow/feed/Link" = some m.cls := findClass_of_methodNamed Bd.named
  have hnm := (name_of_methodNamed Bd.named Bd.method).1
  have X0 : Stand p l e ({ frames := 2, cells := 4, slots := 72, locals := 28 } : Room) (s.setVm s.vm) m #[(.ref a)] below meth c s₁ [] 0 0 := Stand.of_body Bd
  have e0 : s₁.heap = h0 := by rw [← hh, Bd.state]; rfl
  have N0 := Fr.nil n0
  have K0 := Keep.refl h0 []
  have hS : s.Since s.vm s.heap.size := (State.WarmedH.refl s).since _
  have hkS : s.heap.size ≤ h0.size := by rw [hh]; exact Nat.le_refl _
  have hZ : Z.Warmed39 (s.setVm s.vm).vm := hZ
  have hown : (s.setVm s.vm).vm.findClass "com/example/termflow/termflow/feed/Link" = some m.cls := hown
  have own_wS : ∀ a ∈ Bundle.stringAtoms, a.before a0 Z = true := fun d hd => hw d (own_wSm d hd)
  have ew := own_EW Z a0 hw
  have hR := CHr.refl hH
  refine own_GH.start (Q := Q_isart Z a csz r t kb n vs cs h0 n0) (ef_isart m a) ?_
  have hwe : ∀ d ∈ StrChars.Road.wordsEq, d.before a0 Z = true := fun d hd => hw d (own_hwe d hd)
  obtain ⟨a1, T1, h1, k1, b1, kb1, X1, e1, E1, hS, hkS, hZ, hown, Es1, Fc1, Fv1, Av1, lta1, ltb1, ch1, Li1, nq1, st1⟩ := ldcCH (vm0 := s.vm) X0 hx hZ hown (W_ 147 rfl) own_wS e0 hS hkS ew (by decide) hH (vs := [(.int 97), (.int 108), (.int 116), (.int 101), (.int 114), (.int 110), (.int 97), (.int 116), (.int 101)]) (z := (9 : Int32)) (by decide +kernel) (by decide) (by decide) (g := (mkF m 0 #[rv a] [])) rfl (hb hby d27_0) (n := 36) (by decide +kernel) (by decide) (by decide) (by decide)
  have hR := hR.trans ch1
  have hH := ch1.1
  have F2 := Ea.ext E1
  have F3 := Frl.ext E1
  have F4 := Er.ext E1
  have F5 := Fv.ext E1
  have F6 := Fc.ext E1
  have F7 := At.ext E1
  have O8 := O0.ext E1
  have K9 := K0.ext E1
  have ne10 : a ≠ a1 := (nq1 _ (Safe.exa hZ.alike F2 (by decide) (by decide))).1
  have ne11 : a ≠ b1 := (nq1 _ (Safe.exa hZ.alike F2 (by decide) (by decide))).2
  refine own_GH.st (T' := T1) 2 [(.ref a1)] st1 ?_
  refine own_GH.sk 3 [(.ref a), (.ref a1)] (fun _ kq => XS.aloadN X1.here hx rfl (hb hby d27_2) rfl rfl kq) ?_
  obtain ⟨T16, X16, e16, st16⟩ := getF X1 hx hZ hown (host := "") (Or.inl (W_ 128 rfl)) Via.refl e1 F3 (g := (mkF m 3 #[rv a] [(.ref a), (.ref a1)])) rfl rfl (hb hby d27_3)
  refine own_GH.st (T' := T16) 6 [(.ref r), (.ref a1)] st16 ?_
  obtain ⟨cq17, kq17, q17a, q17b, q17c⟩ := isOf hZ e16 Es1
  obtain ⟨_, _, ⟨T17, L17, k17, n17⟩, -, X17, ⟨Lc17, hQ17, l17, y17, z17⟩, st17⟩ := X16.virtualBack hx (y := own_y20) (z := own_y20) hown (mvT hZ (W_ 148 rfl)) (mvT hZ (W_ 149 rfl)) (notFace_of_selects (args := #[]) (mvT hZ (W_ 151 rfl))) (mvT hZ (W_ 151 rfl)) (mvT hZ (W_ 150 rfl)) (by decide) (own_eqB (StrChars.Road.eqW (W := 0) hZ hwe (kI := 4) (W_ 2 rfl) (cs := own_alt) Es1 Fv1 Fc1 Av1 own_alt_cod own_alt_b (by decide) (ds := cs) F4 F5 F6 F7 hcod hbd hl2 (Sta.ext O8.2 S_CS) hcs (by decide) (by decide))) q17a q17c (g := (mkF m 6 #[rv a] [(.ref r), (.ref a1)])) rfl (by rw [hml]; rfl) (Steps.refl _) (argsL := [(.ref r)]) (rest := []) (lenOf pd__28Ljava_2flang_2fObject_3b_29Z rfl) rfl (by show 2 * 0 + _ ≤ _; exact Nat.le_of_eq rfl) (hb hby d27_6) (fun _ _ => ⟨rfl, e16, (by decide : 2 + 0 ≤ _), (by decide : 40 + 0 ≤ _)⟩)
  dsimp only [Pt.U, Pt.locs, Pt.cells, Pt.slots] at X17 l17 y17 z17 st17 hQ17
  subst l17 y17 z17
  obtain ⟨rfl, rfl, P18⟩ := hQ17
  have N17 := Fr.app N0 (Fr.nil n0)
  refine own_GH.st (T' := T17) 9 [(.int (own_eqv own_alt cs))] (fun _ kq => st17.trans kq) ?_
  rcases Classical.em ((own_eqv own_alt cs) = (0 : Int32)) with hc9 | hc9
  · refine own_GH.sk 12 [] (fun _ kq => XS.ifNo X17.here hx rfl (hb hby d27_9) rfl ((if0 _ _).trans (teq hc9).2) kq) ?_
    obtain ⟨a19, T19, h19, k19, b19, kb19, X19, e19, E19, hS, hkS, hZ, hown, Es19, Fc19, Fv19, Av19, lta19, ltb19, ch19, Li19, nq19, st19⟩ := ldcCH (vm0 := T1.vm) X17 hx hZ hown (W_ 157 rfl) own_wS P18 hS hkS ew (by decide) hH (vs := [(.int 114), (.int 101), (.int 108), (.int 97), (.int 116), (.int 101), (.int 100)]) (z := (7 : Int32)) (by decide +kernel) (by decide) (by decide) (g := (mkF m 12 #[rv a] [])) rfl (hb hby d27_12) (n := 28) (by decide +kernel) (by decide) (by decide) (by decide)
    have hR := hR.trans ch19
    have hH := ch19.1
    have F20 := F2.ext E19
    have F21 := F3.ext E19
    have F22 := F4.ext E19
    have F23 := F5.ext E19
    have F24 := F6.ext E19
    have F25 := F7.ext E19
    have F26 := Es1.ext E19
    have F27 := Fc1.ext E19
    have F28 := Fv1.ext E19
    have F29 := Av1.ext E19
    have O30 := O8.ext E19
    have K31 := K9.ext E19
    have ne32 : a ≠ a19 := (nq19 _ (Safe.exa hZ.alike F20 (by decide) (by decide))).1
    have ne33 : a ≠ b19 := (nq19 _ (Safe.exa hZ.alike F20 (by decide) (by decide))).2
    refine own_GH.st (T' := T19) 14 [(.ref a19)] st19 ?_
    refine own_GH.sk 15 [(.ref a), (.ref a19)] (fun _ kq => XS.aloadN X19.here hx rfl (hb hby d27_14) rfl rfl kq) ?_
    obtain ⟨T42, X42, e42, st42⟩ := getF X19 hx hZ hown (host := "") (Or.inl (W_ 128 rfl)) Via.refl e19 F21 (g := (mkF m 15 #[rv a] [(.ref a), (.ref a19)])) rfl rfl (hb hby d27_15)
    refine own_GH.st (T' := T42) 18 [(.ref r), (.ref a19)] st42 ?_
    obtain ⟨cq43, kq43, q43a, q43b, q43c⟩ := isOf hZ e42 Es19
    obtain ⟨_, _, ⟨T43, L43, k43, n43⟩, -, X43, ⟨Lc43, hQ43, l43, y43, z43⟩, st43⟩ := X42.virtualBack hx (y := own_y20) (z := own_y20) hown (mvT hZ (W_ 148 rfl)) (mvT hZ (W_ 149 rfl)) (notFace_of_selects (args := #[]) (mvT hZ (W_ 151 rfl))) (mvT hZ (W_ 151 rfl)) (mvT hZ (W_ 150 rfl)) (by decide) (own_eqB (StrChars.Road.eqW (W := 0) hZ hwe (kI := 4) (W_ 2 rfl) (cs := own_rel) Es19 Fv19 Fc19 Av19 own_rel_cod own_rel_b (by decide) (ds := cs) F22 F23 F24 F25 hcod hbd hl2 (Sta.ext O30.2 S_CS) hcs (by decide) (by decide))) q43a q43c (g := (mkF m 18 #[rv a] [(.ref r), (.ref a19)])) rfl (by rw [hml]; rfl) (Steps.refl _) (argsL := [(.ref r)]) (rest := []) (lenOf pd__28Ljava_2flang_2fObject_3b_29Z rfl) rfl (by show 2 * 0 + _ ≤ _; exact Nat.le_of_eq rfl) (hb hby d27_18) (fun _ _ => ⟨rfl, e42, (by decide : 4 + 0 ≤ _), (by decide : 72 + 0 ≤ _)⟩)
    dsimp only [Pt.U, Pt.locs, Pt.cells, Pt.slots] at X43 l43 y43 z43 st43 hQ43
    subst l43 y43 z43
    obtain ⟨rfl, rfl, P44⟩ := hQ43
    have N43 := Fr.app N17 (Fr.nil n0)
    refine own_GH.st (T' := T43) 21 [(.int (own_eqv own_rel cs))] (fun _ kq => st43.trans kq) ?_
    rcases Classical.em ((own_eqv own_rel cs) = (0 : Int32)) with hc21 | hc21
    · refine own_GH.sk 28 [] (fun _ kq => XS.ifYes X43.here hx rfl (pc0 := 21) (pc' := 28) rfl (hb hby d27_21) rfl ((if0 _ _).trans (teq hc21).1) (by decide) (by decide) kq) ?_
      refine own_GH.sk 29 [(.int 0)] (fun _ kq => XS.iconst X43.here hx rfl (hb hby d27_28) kq) ?_
      exact own_retH X43 hS P44 hkS hZ ew hH hh hR (v := some (.int 0)) (fun h => by rw [Bd.returns] at h; cases h) Bd.notSynchronized ⟨(by rw [own_art_c hc9 hc21]), N43, K31⟩ (by decide) (by decide) (fun fs hr => retN X43 hx (t := .boolean) Bd.returns (by simp) (hb hby d27_29) hr)
    · refine own_GH.sk 24 [] (fun _ kq => XS.ifNo X43.here hx rfl (hb hby d27_21) rfl ((if0 _ _).trans (feq hc21).1) kq) ?_
      refine own_GH.sk 25 [(.int 1)] (fun _ kq => XS.iconst X43.here hx rfl (hb hby d27_24) kq) ?_
      refine own_GH.sk 29 [(.int 1)] (fun _ kq => XS.goto X43.here hx rfl (pc0 := 25) (pc' := 29) rfl (hb hby d27_25) (by decide) (by decide) kq) ?_
      exact own_retH X43 hS P44 hkS hZ ew hH hh hR (v := some (.int 1)) (fun h => by rw [Bd.returns] at h; cases h) Bd.notSynchronized ⟨(by rw [own_art_b hc9 hc21]), N43, K31⟩ (by decide) (by decide) (fun fs hr => retN X43 hx (t := .boolean) Bd.returns (by simp) (hb hby d27_29) hr)
  · refine own_GH.sk 24 [] (fun _ kq => XS.ifYes X17.here hx rfl (pc0 := 9) (pc' := 24) rfl (hb hby d27_9) rfl ((if0 _ _).trans (feq hc9).2) (by decide) (by decide) kq) ?_
    refine own_GH.sk 25 [(.int 1)] (fun _ kq => XS.iconst X17.here hx rfl (hb hby d27_24) kq) ?_
    refine own_GH.sk 29 [(.int 1)] (fun _ kq => XS.goto X17.here hx rfl (pc0 := 25) (pc' := 29) rfl (hb hby d27_25) (by decide) (by decide) kq) ?_
    exact own_retH X17 hS P18 hkS hZ ew hH hh hR (v := some (.int 1)) (fun h => by rw [Bd.returns] at h; cases h) Bd.notSynchronized ⟨(by rw [own_art_a hc9]), N17, K9⟩ (by decide) (by decide) (fun fs hr => retN X17 hx (t := .boolean) Bd.returns (by simp) (hb hby d27_29) hr)
theorem d3_0 : decode jdk_29_method_69_code 0 = .ok (.iload_n 0, 1) := by decide +kernel
theorem d3_1 : decode jdk_29_method_69_code 1 = .ok (.iload_n 1, 1) := by decide +kernel
theorem d3_2 : decode jdk_29_method_69_code 2 = .ok (.if_icmp .gt 7, 3) := by decide +kernel
theorem d3_5 : decode jdk_29_method_69_code 5 = .ok (.iload_n 0, 1) := by decide +kernel
theorem d3_6 : decode jdk_29_method_69_code 6 = .ok (.goto 4, 3) := by decide +kernel
theorem d3_9 : decode jdk_29_method_69_code 9 = .ok (.iload_n 1, 1) := by decide +kernel
theorem d3_10 : decode jdk_29_method_69_code 10 = .ok (.ireturn, 1) := by decide +kernel
theorem ef_min (m : MethodId) (x : Int32) (y : Int32) : entryFrame m #[(.int x), (.int y)] 2 = mkF m 0 #[iv x, iv y] [] := by
  first | (simp [entryFrame, mkF, argsToLocals, Value.category]; done) | rfl
def Q_min (Z : State) (x : Int32) (y : Int32) (h0 : Heap) (n0 : Nat) (v : Option Value) (h : Heap) (L : List Loc) : Prop := v = some (.int (own_min x y)) ∧ Fr n0 L ∧ h = h0
set_option maxRecDepth 65536 in
set_option maxHeartbeats 40000000 in
theorem rm_min (l : Launch) (Z : State) (a0 : Array Value) (hw : ∀ d ∈ tables_1, d.before a0 Z = true) (ws : List Jvm.Cond) (x : Int32) (y : Int32) (h0 : Heap) (n0 : Nat) (O0 : Old Z n0 h0) :
    MetFree l own_y21 (head1 (Jvm.Cond.code own_y21 jdk_29_method_69_code 2 (some .int) :: ws) ({ frames := 0, cells := 0, slots := 0, locals := 0 } : Room)) (fun aq_ Uq_ => aq_ = #[(.int x), (.int y)] ∧ Z.Warmed39 Uq_.vm ∧ Uq_.heap = h0) (fun _ _ _ _ _ => True) (fun _ Uq_ oq_ Ur_ => ∃ vq_ Lq_, oq_ = .returned vq_ ∧ Q_min Z x y h0 n0 vq_ Ur_.heap Lq_ ∧ FrameEnd Uq_ oq_ Ur_ Lq_ ({ frames := 0, cells := 0, slots := 0, locals := 0 } : Room).cells ({ frames := 0, cells := 0, slots := 0, locals := 0 } : Room).slots) := by
  refine MetFree.of_bodySF (Jvm.Free.JP.mathPlain rfl (by decide +kernel)) hisR ?_
  intro p e s m args below meth c s₁ Bd hml0 hP hK
  obtain ⟨rfl, hZ, hh⟩ := hP
  have W_ : ∀ {d : Jvm.Cond} (i : Nat), tables_1[i]? = some d → d.before a0 Z = true := fun i h => hw _ (List.mem_of_getElem? h)
  have hx := Bd.exec
  have hby := Bd.bytes
  have hml : c.maxLocals = 2 := hml0
  have hown : s.vm.findClass "java/lang/Math" = some m.cls := findClass_of_methodNamed Bd.named
  have hnm := (name_of_methodNamed Bd.named Bd.method).1
  have X0 : Stand p l e ({ frames := 0, cells := 0, slots := 0, locals := 0 } : Room) s m #[(.int x), (.int y)] below meth c s₁ [] 0 0 := Stand.of_body Bd
  have e0 : s₁.heap = h0 := by rw [← hh, Bd.state]; rfl
  have N0 := Fr.nil n0
  have K0 := Keep.refl h0 []
  refine own_G.start (Q := Q_min Z x y h0 n0) (ef_min m x y) ?_
  refine own_G.sk 1 [(.int x)] (fun _ kq => XS.iloadN X0.here hx rfl (hb hby d3_0) rfl kq) ?_
  refine own_G.sk 2 [(.int y), (.int x)] (fun _ kq => XS.iloadN X0.here hx rfl (hb hby d3_1) rfl kq) ?_
  rcases Classical.em (y < x) with hc2 | hc2
  · refine own_G.sk 9 [] (fun _ kq => XS.icmpYes X0.here hx rfl (pc0 := 2) (pc' := 9) rfl (hb hby d3_2) rfl (tlt hc2).2.2.1 (by decide) (by decide) kq) ?_
    refine own_G.sk 10 [(.int y)] (fun _ kq => XS.iloadN X0.here hx rfl (hb hby d3_9) rfl kq) ?_
    exact own_ret X0 e0 (v := some (.int y)) (fun h => by rw [Bd.returns] at h; cases h) Bd.notSynchronized ⟨(by simp [own_min, hc2]), N0, rfl⟩ (by decide) (by decide) (fun fs hr => retI X0 hx Bd.returns (hb hby d3_10) hr)
  · refine own_G.sk 5 [] (fun _ kq => XS.icmpNo X0.here hx rfl (hb hby d3_2) rfl (flt hc2).2.2.1 kq) ?_
    refine own_G.sk 6 [(.int x)] (fun _ kq => XS.iloadN X0.here hx rfl (hb hby d3_5) rfl kq) ?_
    refine own_G.sk 10 [(.int x)] (fun _ kq => XS.goto X0.here hx rfl (pc0 := 6) (pc' := 10) rfl (hb hby d3_6) (by decide) (by decide) kq) ?_
    exact own_ret X0 e0 (v := some (.int x)) (fun h => by rw [Bd.returns] at h; cases h) Bd.notSynchronized ⟨(by simp [own_min, hc2]), N0, rfl⟩ (by decide) (by decide) (fun fs hr => retI X0 hx Bd.returns (hb hby d3_10) hr)
theorem pd__28I_29C : parseMethodDescriptor "(I)C" = some ⟨[.int], some .char⟩ := by decide +kernel
theorem d10_0 : decode method_2_code 0 = .ok (.iload_n 1, 1) := by decide +kernel
theorem d10_1 : decode method_2_code 1 = .ok (.ifCond .ne 20, 3) := by decide +kernel
theorem d10_4 : decode method_2_code 4 = .ok (.iload 4, 2) := by decide +kernel
theorem d10_6 : decode method_2_code 6 = .ok (.iload_n 2, 1) := by decide +kernel
theorem d10_7 : decode method_2_code 7 = .ok (.if_icmp .ne 7, 3) := by decide +kernel
theorem d10_10 : decode method_2_code 10 = .ok (.iload_n 3, 1) := by decide +kernel
theorem d10_11 : decode method_2_code 11 = .ok (.goto 9, 3) := by decide +kernel
theorem d10_14 : decode method_2_code 14 = .ok (.aload_n 0, 1) := by decide +kernel
theorem d10_15 : decode method_2_code 15 = .ok (.iload 4, 2) := by decide +kernel
theorem d10_17 : decode method_2_code 17 = .ok (.invokevirtual 7, 3) := by decide +kernel
theorem d10_20 : decode method_2_code 20 = .ok (.ireturn, 1) := by decide +kernel
theorem pn_com_2fexample_2ftermflow_2ftermflow_2ffeed_2fLinkIsArtefactPinLaw : plainName "com/example/termflow/termflow/feed/LinkIsArtefactPinLaw" = true := by first | (simp [plainName, overriddenIn]; done) | decide +kernel
theorem ef_g0 (m : MethodId) (a : Addr) (q : Int32) (x : Int32) (i : Int32) : entryFrame m #[(.ref a), (.int 0), (.int q), (.int x), (.int i)] 5 = mkF m 0 #[rv a, iv 0, iv q, iv x, iv i] [] := by
  first | (simp [entryFrame, mkF, argsToLocals, Value.category]; done) | rfl
def Q_g0 (Z : State) (a : Addr) (q : Int32) (x : Int32) (i : Int32) (csz : Int32) (fm : Value) (t : Addr) (n : Int32) (b : Int32) (h0 : Heap) (n0 : Nat) (v : Option Value) (h : Heap) (L : List Loc) : Prop := v = some (.int (nar .char (own_g0 i q x (own_chr b)))) ∧ Fr n0 L ∧ h = h0
set_option maxRecDepth 65536 in
set_option maxHeartbeats 40000000 in
theorem rm_g0 (l : Launch) (Z : State) (a0 : Array Value) (hw : ∀ d ∈ tables_1, d.before a0 Z = true) (ws : List Jvm.Cond) (a : Addr) (q : Int32) (x : Int32) (i : Int32) (csz : Int32) (fm : Value) (t : Addr) (n : Int32) (b : Int32) (h0 : Heap) (n0 : Nat) (O0 : Old Z n0 h0) (S_CS : Sta Z Z.heap "java/lang/String" "COMPACT_STRINGS" "Z" (.int csz)) (hcs : ¬ csz = (0 : Int32)) (S_IO : Sta Z Z.heap "jdk/internal/util/Preconditions" "SIOOBE_FORMATTER" "Ljava/util/function/BiFunction;" fm) (hio : fm.isRef = true) (Ea : Exa Z h0 a "java/lang/String") (Fv : Fld Z h0 a "java/lang/String" "value" "[B" (.ref t)) (Fc : Fld Z h0 a "java/lang/String" "coder" "B" (.int 0)) (LN : own_Len Z h0 t n) (AT : own_At Z h0 t i b) (h1 : ¬ i < (0 : Int32)) (h2 : i < n) :
    MetFree l own_y22 (head1 (Jvm.Cond.code own_y22 method_2_code 5 (some .char) :: ws) ({ frames := 4, cells := 0, slots := 0, locals := 53 } : Room)) (fun aq_ Uq_ => aq_ = #[(.ref a), (.int 0), (.int q), (.int x), (.int i)] ∧ Z.Warmed39 Uq_.vm ∧ Uq_.heap = h0) (fun _ _ _ _ _ => True) (fun _ Uq_ oq_ Ur_ => ∃ vq_ Lq_, oq_ = .returned vq_ ∧ Q_g0 Z a q x i csz fm t n b h0 n0 vq_ Ur_.heap Lq_ ∧ FrameEnd Uq_ oq_ Ur_ Lq_ ({ frames := 4, cells := 0, slots := 0, locals := 53 } : Room).cells ({ frames := 4, cells := 0, slots := 0, locals := 53 } : Room).slots) := by
  refine MetFree.of_bodySF (plainFor_of_name pn_com_2fexample_2ftermflow_2ftermflow_2ffeed_2fLinkIsArtefactPinLaw) hisR ?_
  intro p e s m args below meth c s₁ Bd hml0 hP hK
  obtain ⟨rfl, hZ, hh⟩ := hP
  have W_ : ∀ {d : Jvm.Cond} (i : Nat), tables_1[i]? = some d → d.before a0 Z = true := fun i h => hw _ (List.mem_of_getElem? h)
  have hx := Bd.exec
  have hby := Bd.bytes
  have hml : c.maxLocals = 5 := hml0
  have hown : s.vm.findClass "com/example/termflow/termflow/feed/LinkIsArtefactPinLaw" = some m.cls := findClass_of_methodNamed Bd.named
  have hnm := (name_of_methodNamed Bd.named Bd.method).1
  have X0 : Stand p l e ({ frames := 4, cells := 0, slots := 0, locals := 53 } : Room) s m #[(.ref a), (.int 0), (.int q), (.int x), (.int i)] below meth c s₁ [] 0 0 := Stand.of_body Bd
  have e0 : s₁.heap = h0 := by rw [← hh, Bd.state]; rfl
  have N0 := Fr.nil n0
  have K0 := Keep.refl h0 []
  refine own_G.start (Q := Q_g0 Z a q x i csz fm t n b h0 n0) (ef_g0 m a q x i) ?_
  refine own_G.sk 1 [(.int 0)] (fun _ kq => XS.iloadN X0.here hx rfl (hb hby d10_0) rfl kq) ?_
  have hc1 : (0 : Int32) = (0 : Int32) := (by decide)
  refine own_G.sk 4 [] (fun _ kq => XS.ifNo X0.here hx rfl (hb hby d10_1) rfl ((if0 _ _).trans (teq hc1).2) kq) ?_
  refine own_G.sk 6 [(.int i)] (fun _ kq => XS.iload X0.here hx rfl (hb hby d10_4) rfl kq) ?_
  refine own_G.sk 7 [(.int q), (.int i)] (fun _ kq => XS.iloadN X0.here hx rfl (hb hby d10_6) rfl kq) ?_
  rcases Classical.em (i = q) with hc7 | hc7
  · refine own_G.sk 10 [] (fun _ kq => XS.icmpNo X0.here hx rfl (hb hby d10_7) rfl (teq hc7).2 kq) ?_
    refine own_G.sk 11 [(.int x)] (fun _ kq => XS.iloadN X0.here hx rfl (hb hby d10_10) rfl kq) ?_
    refine own_G.sk 20 [(.int x)] (fun _ kq => XS.goto X0.here hx rfl (pc0 := 11) (pc' := 20) rfl (hb hby d10_11) (by decide) (by decide) kq) ?_
    exact own_ret X0 e0 (v := some (.int (nar .char x))) (fun h => by rw [Bd.returns] at h; cases h) Bd.notSynchronized ⟨(by simp [own_g0, hc1, hc7]), N0, rfl⟩ (by decide) (by decide) (fun fs hr => retN X0 hx (t := .char) Bd.returns (by simp) (hb hby d10_20) hr)
  · refine own_G.sk 14 [] (fun _ kq => XS.icmpYes X0.here hx rfl (pc0 := 7) (pc' := 14) rfl (hb hby d10_7) rfl (feq hc7).2 (by decide) (by decide) kq) ?_
    refine own_G.sk 15 [(.ref a)] (fun _ kq => XS.aloadN X0.here hx rfl (hb hby d10_14) rfl rfl kq) ?_
    refine own_G.sk 17 [(.int i), (.ref a)] (fun _ kq => XS.iload X0.here hx rfl (hb hby d10_15) rfl kq) ?_
    obtain ⟨cq1, kq1, q1a, q1b, q1c⟩ := isOf hZ e0 Ea
    obtain ⟨_, _, ⟨T1, L1, k1, n1⟩, -, X1, ⟨Lc1, hQ1, l1, y1, z1⟩, st1⟩ := X0.virtualBack hx (y := own_y11) (z := own_y11) hown (mvT hZ (W_ 26 rfl)) (mvT hZ (W_ 27 rfl)) (notFace_of_selects (args := #[]) (mvT hZ (W_ 29 rfl))) (mvT hZ (W_ 29 rfl)) (mvT hZ (W_ 28 rfl)) (by decide) (backOf (W := 0) (rm_charAt l Z a0 hw [] a i csz fm t n b h0 n0 O0 S_CS hcs S_IO hio Ea Fv Fc LN AT h1 h2) hZ (W_ 30 rfl) (W_ 1 rfl) (by decide) (by decide)) q1a q1c (g := (mkF m 17 #[rv a, iv 0, iv q, iv x, iv i] [(.int i), (.ref a)])) rfl (by rw [hml]; rfl) (Steps.refl _) (argsL := [(.int i)]) (rest := []) (lenOf pd__28I_29C rfl) rfl (by show 2 * 0 + _ ≤ _; exact Nat.le_of_eq rfl) (hb hby d10_17) (fun _ _ => ⟨rfl, e0, (by decide : 0 + 0 ≤ _), (by decide : 0 + 0 ≤ _)⟩)
    dsimp only [Pt.U, Pt.locs, Pt.cells, Pt.slots] at X1 l1 y1 z1 st1 hQ1
    subst l1 y1 z1
    obtain ⟨rfl, Nq1, P2⟩ := hQ1
    have N1 := Fr.app N0 Nq1
    refine own_G.st (T' := T1) 20 [(.int (own_chr b))] (fun _ kq => st1.trans kq) ?_
    exact own_ret X1 P2 (v := some (.int (nar .char (own_chr b)))) (fun h => by rw [Bd.returns] at h; cases h) Bd.notSynchronized ⟨(by simp [own_g0, hc1, hc7]), N1, rfl⟩ (by decide) (by decide) (fun fs hr => retN X1 hx (t := .char) Bd.returns (by simp) (hb hby d10_20) hr)
theorem d10_21 : decode method_2_code 21 = .ok (.iload_n 1, 1) := by decide +kernel
theorem d10_22 : decode method_2_code 22 = .ok (.iconst 1, 1) := by decide +kernel
theorem d10_23 : decode method_2_code 23 = .ok (.if_icmp .ne 27, 3) := by decide +kernel
theorem d10_26 : decode method_2_code 26 = .ok (.iload 4, 2) := by decide +kernel
theorem d10_28 : decode method_2_code 28 = .ok (.iload_n 2, 1) := by decide +kernel
theorem d10_29 : decode method_2_code 29 = .ok (.if_icmp .ge 12, 3) := by decide +kernel
theorem d10_32 : decode method_2_code 32 = .ok (.aload_n 0, 1) := by decide +kernel
theorem d10_33 : decode method_2_code 33 = .ok (.iload 4, 2) := by decide +kernel
theorem d10_35 : decode method_2_code 35 = .ok (.invokevirtual 7, 3) := by decide +kernel
theorem d10_38 : decode method_2_code 38 = .ok (.goto 11, 3) := by decide +kernel
theorem d10_41 : decode method_2_code 41 = .ok (.aload_n 0, 1) := by decide +kernel
theorem d10_42 : decode method_2_code 42 = .ok (.iload 4, 2) := by decide +kernel
theorem d10_44 : decode method_2_code 44 = .ok (.iconst 1, 1) := by decide +kernel
theorem d10_45 : decode method_2_code 45 = .ok (.iadd, 1) := by decide +kernel
theorem d10_46 : decode method_2_code 46 = .ok (.invokevirtual 7, 3) := by decide +kernel
theorem d10_49 : decode method_2_code 49 = .ok (.ireturn, 1) := by decide +kernel
theorem ef_g1 (m : MethodId) (a : Addr) (q : Int32) (x : Int32) (i : Int32) : entryFrame m #[(.ref a), (.int 1), (.int q), (.int x), (.int i)] 5 = mkF m 0 #[rv a, iv 1, iv q, iv x, iv i] [] := by
  first | (simp [entryFrame, mkF, argsToLocals, Value.category]; done) | rfl
def Q_g1 (Z : State) (a : Addr) (q : Int32) (x : Int32) (i : Int32) (csz : Int32) (fm : Value) (t : Addr) (n : Int32) (b : Int32) (b1 : Int32) (h0 : Heap) (n0 : Nat) (v : Option Value) (h : Heap) (L : List Loc) : Prop := v = some (.int (nar .char (own_g1 i q (own_chr b) (own_chr b1)))) ∧ Fr n0 L ∧ h = h0
set_option maxRecDepth 65536 in
set_option maxHeartbeats 40000000 in
theorem rm_g1 (l : Launch) (Z : State) (a0 : Array Value) (hw : ∀ d ∈ tables_1, d.before a0 Z = true) (ws : List Jvm.Cond) (a : Addr) (q : Int32) (x : Int32) (i : Int32) (csz : Int32) (fm : Value) (t : Addr) (n : Int32) (b : Int32) (b1 : Int32) (h0 : Heap) (n0 : Nat) (O0 : Old Z n0 h0) (S_CS : Sta Z Z.heap "java/lang/String" "COMPACT_STRINGS" "Z" (.int csz)) (hcs : ¬ csz = (0 : Int32)) (S_IO : Sta Z Z.heap "jdk/internal/util/Preconditions" "SIOOBE_FORMATTER" "Ljava/util/function/BiFunction;" fm) (hio : fm.isRef = true) (Ea : Exa Z h0 a "java/lang/String") (Fv : Fld Z h0 a "java/lang/String" "value" "[B" (.ref t)) (Fc : Fld Z h0 a "java/lang/String" "coder" "B" (.int 0)) (LN : own_Len Z h0 t n) (AT : own_At Z h0 t i b) (h1 : ¬ i < (0 : Int32)) (h2 : i < n) (AT1 : own_At Z h0 t (i + (1 : Int32)) b1) (h3 : ¬ (i + (1 : Int32)) < (0 : Int32)) (h4 : (i + (1 : Int32)) < n) :
    MetFree l own_y22 (head1 (Jvm.Cond.code own_y22 method_2_code 5 (some .char) :: ws) ({ frames := 4, cells := 0, slots := 0, locals := 53 } : Room)) (fun aq_ Uq_ => aq_ = #[(.ref a), (.int 1), (.int q), (.int x), (.int i)] ∧ Z.Warmed39 Uq_.vm ∧ Uq_.heap = h0) (fun _ _ _ _ _ => True) (fun _ Uq_ oq_ Ur_ => ∃ vq_ Lq_, oq_ = .returned vq_ ∧ Q_g1 Z a q x i csz fm t n b b1 h0 n0 vq_ Ur_.heap Lq_ ∧ FrameEnd Uq_ oq_ Ur_ Lq_ ({ frames := 4, cells := 0, slots := 0, locals := 53 } : Room).cells ({ frames := 4, cells := 0, slots := 0, locals := 53 } : Room).slots) := by
  refine MetFree.of_bodySF (plainFor_of_name pn_com_2fexample_2ftermflow_2ftermflow_2ffeed_2fLinkIsArtefactPinLaw) hisR ?_
  intro p e s m args below meth c s₁ Bd hml0 hP hK
  obtain ⟨rfl, hZ, hh⟩ := hP
  have W_ : ∀ {d : Jvm.Cond} (i : Nat), tables_1[i]? = some d → d.before a0 Z = true := fun i h => hw _ (List.mem_of_getElem? h)
  have hx := Bd.exec
  have hby := Bd.bytes
  have hml : c.maxLocals = 5 := hml0
  have hown : s.vm.findClass "com/example/termflow/termflow/feed/LinkIsArtefactPinLaw" = some m.cls := findClass_of_methodNamed Bd.named
  have hnm := (name_of_methodNamed Bd.named Bd.method).1
  have X0 : Stand p l e ({ frames := 4, cells := 0, slots := 0, locals := 53 } : Room) s m #[(.ref a), (.int 1), (.int q), (.int x), (.int i)] below meth c s₁ [] 0 0 := Stand.of_body Bd
  have e0 : s₁.heap = h0 := by rw [← hh, Bd.state]; rfl
  have N0 := Fr.nil n0
  have K0 := Keep.refl h0 []
  refine own_G.start (Q := Q_g1 Z a q x i csz fm t n b b1 h0 n0) (ef_g1 m a q x i) ?_
  refine own_G.sk 1 [(.int 1)] (fun _ kq => XS.iloadN X0.here hx rfl (hb hby d10_0) rfl kq) ?_
  have hc1 : ¬ ((1 : Int32) = (0 : Int32)) := (by decide)
  refine own_G.sk 21 [] (fun _ kq => XS.ifYes X0.here hx rfl (pc0 := 1) (pc' := 21) rfl (hb hby d10_1) rfl ((if0 _ _).trans (feq hc1).2) (by decide) (by decide) kq) ?_
  refine own_G.sk 22 [(.int 1)] (fun _ kq => XS.iloadN X0.here hx rfl (hb hby d10_21) rfl kq) ?_
  refine own_G.sk 23 [(.int 1), (.int 1)] (fun _ kq => XS.iconst X0.here hx rfl (hb hby d10_22) kq) ?_
  have hc23 : (1 : Int32) = (1 : Int32) := (by decide)
  refine own_G.sk 26 [] (fun _ kq => XS.icmpNo X0.here hx rfl (hb hby d10_23) rfl (teq hc23).2 kq) ?_
  refine own_G.sk 28 [(.int i)] (fun _ kq => XS.iload X0.here hx rfl (hb hby d10_26) rfl kq) ?_
  refine own_G.sk 29 [(.int q), (.int i)] (fun _ kq => XS.iloadN X0.here hx rfl (hb hby d10_28) rfl kq) ?_
  rcases Classical.em (i < q) with hc29 | hc29
  · refine own_G.sk 32 [] (fun _ kq => XS.icmpNo X0.here hx rfl (hb hby d10_29) rfl (tlt hc29).2.1 kq) ?_
    refine own_G.sk 33 [(.ref a)] (fun _ kq => XS.aloadN X0.here hx rfl (hb hby d10_32) rfl rfl kq) ?_
    refine own_G.sk 35 [(.int i), (.ref a)] (fun _ kq => XS.iload X0.here hx rfl (hb hby d10_33) rfl kq) ?_
    obtain ⟨cq1, kq1, q1a, q1b, q1c⟩ := isOf hZ e0 Ea
    obtain ⟨_, _, ⟨T1, L1, k1, n1⟩, -, X1, ⟨Lc1, hQ1, l1, y1, z1⟩, st1⟩ := X0.virtualBack hx (y := own_y11) (z := own_y11) hown (mvT hZ (W_ 26 rfl)) (mvT hZ (W_ 27 rfl)) (notFace_of_selects (args := #[]) (mvT hZ (W_ 29 rfl))) (mvT hZ (W_ 29 rfl)) (mvT hZ (W_ 28 rfl)) (by decide) (backOf (W := 0) (rm_charAt l Z a0 hw [] a i csz fm t n b h0 n0 O0 S_CS hcs S_IO hio Ea Fv Fc LN AT h1 h2) hZ (W_ 30 rfl) (W_ 1 rfl) (by decide) (by decide)) q1a q1c (g := (mkF m 35 #[rv a, iv 1, iv q, iv x, iv i] [(.int i), (.ref a)])) rfl (by rw [hml]; rfl) (Steps.refl _) (argsL := [(.int i)]) (rest := []) (lenOf pd__28I_29C rfl) rfl (by show 2 * 0 + _ ≤ _; exact Nat.le_of_eq rfl) (hb hby d10_35) (fun _ _ => ⟨rfl, e0, (by decide : 0 + 0 ≤ _), (by decide : 0 + 0 ≤ _)⟩)
    dsimp only [Pt.U, Pt.locs, Pt.cells, Pt.slots] at X1 l1 y1 z1 st1 hQ1
    subst l1 y1 z1
    obtain ⟨rfl, Nq1, P2⟩ := hQ1
    have N1 := Fr.app N0 Nq1
    refine own_G.st (T' := T1) 38 [(.int (own_chr b))] (fun _ kq => st1.trans kq) ?_
    refine own_G.sk 49 [(.int (own_chr b))] (fun _ kq => XS.goto X1.here hx rfl (pc0 := 38) (pc' := 49) rfl (hb hby d10_38) (by decide) (by decide) kq) ?_
    exact own_ret X1 P2 (v := some (.int (nar .char (own_chr b)))) (fun h => by rw [Bd.returns] at h; cases h) Bd.notSynchronized ⟨(by simp [own_g1, hc1, hc23, hc29]), N1, rfl⟩ (by decide) (by decide) (fun fs hr => retN X1 hx (t := .char) Bd.returns (by simp) (hb hby d10_49) hr)
  · refine own_G.sk 41 [] (fun _ kq => XS.icmpYes X0.here hx rfl (pc0 := 29) (pc' := 41) rfl (hb hby d10_29) rfl (flt hc29).2.1 (by decide) (by decide) kq) ?_
    refine own_G.sk 42 [(.ref a)] (fun _ kq => XS.aloadN X0.here hx rfl (hb hby d10_41) rfl rfl kq) ?_
    refine own_G.sk 44 [(.int i), (.ref a)] (fun _ kq => XS.iload X0.here hx rfl (hb hby d10_42) rfl kq) ?_
    refine own_G.sk 45 [(.int 1), (.int i), (.ref a)] (fun _ kq => XS.iconst X0.here hx rfl (hb hby d10_44) kq) ?_
    refine own_G.sk 46 [(.int (i + (1 : Int32))), (.ref a)] (fun _ kq => XS.iadd X0.here hx rfl (hb hby d10_45) rfl kq) ?_
    obtain ⟨cq3, kq3, q3a, q3b, q3c⟩ := isOf hZ e0 Ea
    obtain ⟨_, _, ⟨T3, L3, k3, n3⟩, -, X3, ⟨Lc3, hQ3, l3, y3, z3⟩, st3⟩ := X0.virtualBack hx (y := own_y11) (z := own_y11) hown (mvT hZ (W_ 26 rfl)) (mvT hZ (W_ 27 rfl)) (notFace_of_selects (args := #[]) (mvT hZ (W_ 29 rfl))) (mvT hZ (W_ 29 rfl)) (mvT hZ (W_ 28 rfl)) (by decide) (backOf (W := 0) (rm_charAt l Z a0 hw [] a (i + (1 : Int32)) csz fm t n b1 h0 n0 O0 S_CS hcs S_IO hio Ea Fv Fc LN AT1 h3 h4) hZ (W_ 30 rfl) (W_ 1 rfl) (by decide) (by decide)) q3a q3c (g := (mkF m 46 #[rv a, iv 1, iv q, iv x, iv i] [(.int (i + (1 : Int32))), (.ref a)])) rfl (by rw [hml]; rfl) (Steps.refl _) (argsL := [(.int (i + (1 : Int32)))]) (rest := []) (lenOf pd__28I_29C rfl) rfl (by show 2 * 0 + _ ≤ _; exact Nat.le_of_eq rfl) (hb hby d10_46) (fun _ _ => ⟨rfl, e0, (by decide : 0 + 0 ≤ _), (by decide : 0 + 0 ≤ _)⟩)
    dsimp only [Pt.U, Pt.locs, Pt.cells, Pt.slots] at X3 l3 y3 z3 st3 hQ3
    subst l3 y3 z3
    obtain ⟨rfl, Nq3, P4⟩ := hQ3
    have N3 := Fr.app N0 Nq3
    refine own_G.st (T' := T3) 49 [(.int (own_chr b1))] (fun _ kq => st3.trans kq) ?_
    exact own_ret X3 P4 (v := some (.int (nar .char (own_chr b1)))) (fun h => by rw [Bd.returns] at h; cases h) Bd.notSynchronized ⟨(by simp [own_g1, hc1, hc23, hc29]), N3, rfl⟩ (by decide) (by decide) (fun fs hr => retN X3 hx (t := .char) Bd.returns (by simp) (hb hby d10_49) hr)
theorem d10_50 : decode method_2_code 50 = .ok (.iload 4, 2) := by decide +kernel
theorem d10_52 : decode method_2_code 52 = .ok (.iload_n 2, 1) := by decide +kernel
theorem d10_53 : decode method_2_code 53 = .ok (.if_icmp .ge 10, 3) := by decide +kernel
theorem d10_56 : decode method_2_code 56 = .ok (.aload_n 0, 1) := by decide +kernel
theorem d10_57 : decode method_2_code 57 = .ok (.iload 4, 2) := by decide +kernel
theorem d10_59 : decode method_2_code 59 = .ok (.invokevirtual 7, 3) := by decide +kernel
theorem d10_62 : decode method_2_code 62 = .ok (.ireturn, 1) := by decide +kernel
theorem d10_63 : decode method_2_code 63 = .ok (.iload 4, 2) := by decide +kernel
theorem d10_65 : decode method_2_code 65 = .ok (.iload_n 2, 1) := by decide +kernel
theorem d10_66 : decode method_2_code 66 = .ok (.if_icmp .ne 5, 3) := by decide +kernel
theorem d10_69 : decode method_2_code 69 = .ok (.iload_n 3, 1) := by decide +kernel
theorem d10_70 : decode method_2_code 70 = .ok (.ireturn, 1) := by decide +kernel
theorem d10_71 : decode method_2_code 71 = .ok (.aload_n 0, 1) := by decide +kernel
theorem d10_72 : decode method_2_code 72 = .ok (.iload 4, 2) := by decide +kernel
theorem d10_74 : decode method_2_code 74 = .ok (.iconst 1, 1) := by decide +kernel
theorem d10_75 : decode method_2_code 75 = .ok (.isub, 1) := by decide +kernel
theorem d10_76 : decode method_2_code 76 = .ok (.invokevirtual 7, 3) := by decide +kernel
theorem d10_79 : decode method_2_code 79 = .ok (.ireturn, 1) := by decide +kernel
theorem ef_g2 (m : MethodId) (a : Addr) (q : Int32) (x : Int32) (i : Int32) : entryFrame m #[(.ref a), (.int 2), (.int q), (.int x), (.int i)] 5 = mkF m 0 #[rv a, iv 2, iv q, iv x, iv i] [] := by
  first | (simp [entryFrame, mkF, argsToLocals, Value.category]; done) | rfl
def Q_g2 (Z : State) (a : Addr) (q : Int32) (x : Int32) (i : Int32) (csz : Int32) (fm : Value) (t : Addr) (n : Int32) (b : Int32) (b1 : Int32) (h0 : Heap) (n0 : Nat) (v : Option Value) (h : Heap) (L : List Loc) : Prop := v = some (.int (nar .char (own_g2 i q x (own_chr b) (own_chr b1)))) ∧ Fr n0 L ∧ h = h0
set_option maxRecDepth 65536 in
set_option maxHeartbeats 40000000 in
theorem rm_g2 (l : Launch) (Z : State) (a0 : Array Value) (hw : ∀ d ∈ tables_1, d.before a0 Z = true) (ws : List Jvm.Cond) (a : Addr) (q : Int32) (x : Int32) (i : Int32) (csz : Int32) (fm : Value) (t : Addr) (n : Int32) (b : Int32) (b1 : Int32) (h0 : Heap) (n0 : Nat) (O0 : Old Z n0 h0) (S_CS : Sta Z Z.heap "java/lang/String" "COMPACT_STRINGS" "Z" (.int csz)) (hcs : ¬ csz = (0 : Int32)) (S_IO : Sta Z Z.heap "jdk/internal/util/Preconditions" "SIOOBE_FORMATTER" "Ljava/util/function/BiFunction;" fm) (hio : fm.isRef = true) (Ea : Exa Z h0 a "java/lang/String") (Fv : Fld Z h0 a "java/lang/String" "value" "[B" (.ref t)) (Fc : Fld Z h0 a "java/lang/String" "coder" "B" (.int 0)) (LN : own_Len Z h0 t n) (AT : i < q → own_At Z h0 t i b ∧ ¬ i < (0 : Int32) ∧ i < n) (AT1 : ¬ i < q → ¬ i = q → own_At Z h0 t (i - (1 : Int32)) b1 ∧ ¬ (i - (1 : Int32)) < (0 : Int32) ∧ (i - (1 : Int32)) < n) :
    MetFree l own_y22 (head1 (Jvm.Cond.code own_y22 method_2_code 5 (some .char) :: ws) ({ frames := 4, cells := 0, slots := 0, locals := 53 } : Room)) (fun aq_ Uq_ => aq_ = #[(.ref a), (.int 2), (.int q), (.int x), (.int i)] ∧ Z.Warmed39 Uq_.vm ∧ Uq_.heap = h0) (fun _ _ _ _ _ => True) (fun _ Uq_ oq_ Ur_ => ∃ vq_ Lq_, oq_ = .returned vq_ ∧ Q_g2 Z a q x i csz fm t n b b1 h0 n0 vq_ Ur_.heap Lq_ ∧ FrameEnd Uq_ oq_ Ur_ Lq_ ({ frames := 4, cells := 0, slots := 0, locals := 53 } : Room).cells ({ frames := 4, cells := 0, slots := 0, locals := 53 } : Room).slots) := by
  refine MetFree.of_bodySF (plainFor_of_name pn_com_2fexample_2ftermflow_2ftermflow_2ffeed_2fLinkIsArtefactPinLaw) hisR ?_
  intro p e s m args below meth c s₁ Bd hml0 hP hK
  obtain ⟨rfl, hZ, hh⟩ := hP
  have W_ : ∀ {d : Jvm.Cond} (i : Nat), tables_1[i]? = some d → d.before a0 Z = true := fun i h => hw _ (List.mem_of_getElem? h)
  have hx := Bd.exec
  have hby := Bd.bytes
  have hml : c.maxLocals = 5 := hml0
  have hown : s.vm.findClass "com/example/termflow/termflow/feed/LinkIsArtefactPinLaw" = some m.cls := findClass_of_methodNamed Bd.named
  have hnm := (name_of_methodNamed Bd.named Bd.method).1
  have X0 : Stand p l e ({ frames := 4, cells := 0, slots := 0, locals := 53 } : Room) s m #[(.ref a), (.int 2), (.int q), (.int x), (.int i)] below meth c s₁ [] 0 0 := Stand.of_body Bd
  have e0 : s₁.heap = h0 := by rw [← hh, Bd.state]; rfl
  have N0 := Fr.nil n0
  have K0 := Keep.refl h0 []
  refine own_G.start (Q := Q_g2 Z a q x i csz fm t n b b1 h0 n0) (ef_g2 m a q x i) ?_
  refine own_G.sk 1 [(.int 2)] (fun _ kq => XS.iloadN X0.here hx rfl (hb hby d10_0) rfl kq) ?_
  have hc1 : ¬ ((2 : Int32) = (0 : Int32)) := (by decide)
  refine own_G.sk 21 [] (fun _ kq => XS.ifYes X0.here hx rfl (pc0 := 1) (pc' := 21) rfl (hb hby d10_1) rfl ((if0 _ _).trans (feq hc1).2) (by decide) (by decide) kq) ?_
  refine own_G.sk 22 [(.int 2)] (fun _ kq => XS.iloadN X0.here hx rfl (hb hby d10_21) rfl kq) ?_
  refine own_G.sk 23 [(.int 1), (.int 2)] (fun _ kq => XS.iconst X0.here hx rfl (hb hby d10_22) kq) ?_
  have hc23 : ¬ ((2 : Int32) = (1 : Int32)) := (by decide)
  refine own_G.sk 50 [] (fun _ kq => XS.icmpYes X0.here hx rfl (pc0 := 23) (pc' := 50) rfl (hb hby d10_23) rfl (feq hc23).2 (by decide) (by decide) kq) ?_
  refine own_G.sk 52 [(.int i)] (fun _ kq => XS.iload X0.here hx rfl (hb hby d10_50) rfl kq) ?_
  refine own_G.sk 53 [(.int q), (.int i)] (fun _ kq => XS.iloadN X0.here hx rfl (hb hby d10_52) rfl kq) ?_
  rcases Classical.em (i < q) with hc53 | hc53
  · refine own_G.sk 56 [] (fun _ kq => XS.icmpNo X0.here hx rfl (hb hby d10_53) rfl (tlt hc53).2.1 kq) ?_
    refine own_G.sk 57 [(.ref a)] (fun _ kq => XS.aloadN X0.here hx rfl (hb hby d10_56) rfl rfl kq) ?_
    refine own_G.sk 59 [(.int i), (.ref a)] (fun _ kq => XS.iload X0.here hx rfl (hb hby d10_57) rfl kq) ?_
    obtain ⟨cq1, kq1, q1a, q1b, q1c⟩ := isOf hZ e0 Ea
    obtain ⟨_, _, ⟨T1, L1, k1, n1⟩, -, X1, ⟨Lc1, hQ1, l1, y1, z1⟩, st1⟩ := X0.virtualBack hx (y := own_y11) (z := own_y11) hown (mvT hZ (W_ 26 rfl)) (mvT hZ (W_ 27 rfl)) (notFace_of_selects (args := #[]) (mvT hZ (W_ 29 rfl))) (mvT hZ (W_ 29 rfl)) (mvT hZ (W_ 28 rfl)) (by decide) (backOf (W := 0) (rm_charAt l Z a0 hw [] a i csz fm t n b h0 n0 O0 S_CS hcs S_IO hio Ea Fv Fc LN (AT hc53).1 (AT hc53).2.1 (AT hc53).2.2) hZ (W_ 30 rfl) (W_ 1 rfl) (by decide) (by decide)) q1a q1c (g := (mkF m 59 #[rv a, iv 2, iv q, iv x, iv i] [(.int i), (.ref a)])) rfl (by rw [hml]; rfl) (Steps.refl _) (argsL := [(.int i)]) (rest := []) (lenOf pd__28I_29C rfl) rfl (by show 2 * 0 + _ ≤ _; exact Nat.le_of_eq rfl) (hb hby d10_59) (fun _ _ => ⟨rfl, e0, (by decide : 0 + 0 ≤ _), (by decide : 0 + 0 ≤ _)⟩)
    dsimp only [Pt.U, Pt.locs, Pt.cells, Pt.slots] at X1 l1 y1 z1 st1 hQ1
    subst l1 y1 z1
    obtain ⟨rfl, Nq1, P2⟩ := hQ1
    have N1 := Fr.app N0 Nq1
    refine own_G.st (T' := T1) 62 [(.int (own_chr b))] (fun _ kq => st1.trans kq) ?_
    exact own_ret X1 P2 (v := some (.int (nar .char (own_chr b)))) (fun h => by rw [Bd.returns] at h; cases h) Bd.notSynchronized ⟨(by simp [own_g2, hc1, hc23, hc53]), N1, rfl⟩ (by decide) (by decide) (fun fs hr => retN X1 hx (t := .char) Bd.returns (by simp) (hb hby d10_62) hr)
  · refine own_G.sk 63 [] (fun _ kq => XS.icmpYes X0.here hx rfl (pc0 := 53) (pc' := 63) rfl (hb hby d10_53) rfl (flt hc53).2.1 (by decide) (by decide) kq) ?_
    refine own_G.sk 65 [(.int i)] (fun _ kq => XS.iload X0.here hx rfl (hb hby d10_63) rfl kq) ?_
    refine own_G.sk 66 [(.int q), (.int i)] (fun _ kq => XS.iloadN X0.here hx rfl (hb hby d10_65) rfl kq) ?_
    rcases Classical.em (i = q) with hc66 | hc66
    · refine own_G.sk 69 [] (fun _ kq => XS.icmpNo X0.here hx rfl (hb hby d10_66) rfl (teq hc66).2 kq) ?_
      refine own_G.sk 70 [(.int x)] (fun _ kq => XS.iloadN X0.here hx rfl (hb hby d10_69) rfl kq) ?_
      exact own_ret X0 e0 (v := some (.int (nar .char x))) (fun h => by rw [Bd.returns] at h; cases h) Bd.notSynchronized ⟨(by simp [own_g2, hc1, hc23, hc53, hc66]), N0, rfl⟩ (by decide) (by decide) (fun fs hr => retN X0 hx (t := .char) Bd.returns (by simp) (hb hby d10_70) hr)
    · refine own_G.sk 71 [] (fun _ kq => XS.icmpYes X0.here hx rfl (pc0 := 66) (pc' := 71) rfl (hb hby d10_66) rfl (feq hc66).2 (by decide) (by decide) kq) ?_
      refine own_G.sk 72 [(.ref a)] (fun _ kq => XS.aloadN X0.here hx rfl (hb hby d10_71) rfl rfl kq) ?_
      refine own_G.sk 74 [(.int i), (.ref a)] (fun _ kq => XS.iload X0.here hx rfl (hb hby d10_72) rfl kq) ?_
      refine own_G.sk 75 [(.int 1), (.int i), (.ref a)] (fun _ kq => XS.iconst X0.here hx rfl (hb hby d10_74) kq) ?_
      refine own_G.sk 76 [(.int (i - (1 : Int32))), (.ref a)] (fun _ kq => XS.isub X0.here hx rfl (hb hby d10_75) rfl kq) ?_
      obtain ⟨cq3, kq3, q3a, q3b, q3c⟩ := isOf hZ e0 Ea
      obtain ⟨_, _, ⟨T3, L3, k3, n3⟩, -, X3, ⟨Lc3, hQ3, l3, y3, z3⟩, st3⟩ := X0.virtualBack hx (y := own_y11) (z := own_y11) hown (mvT hZ (W_ 26 rfl)) (mvT hZ (W_ 27 rfl)) (notFace_of_selects (args := #[]) (mvT hZ (W_ 29 rfl))) (mvT hZ (W_ 29 rfl)) (mvT hZ (W_ 28 rfl)) (by decide) (backOf (W := 0) (rm_charAt l Z a0 hw [] a (i - (1 : Int32)) csz fm t n b1 h0 n0 O0 S_CS hcs S_IO hio Ea Fv Fc LN (AT1 hc53 hc66).1 (AT1 hc53 hc66).2.1 (AT1 hc53 hc66).2.2) hZ (W_ 30 rfl) (W_ 1 rfl) (by decide) (by decide)) q3a q3c (g := (mkF m 76 #[rv a, iv 2, iv q, iv x, iv i] [(.int (i - (1 : Int32))), (.ref a)])) rfl (by rw [hml]; rfl) (Steps.refl _) (argsL := [(.int (i - (1 : Int32)))]) (rest := []) (lenOf pd__28I_29C rfl) rfl (by show 2 * 0 + _ ≤ _; exact Nat.le_of_eq rfl) (hb hby d10_76) (fun _ _ => ⟨rfl, e0, (by decide : 0 + 0 ≤ _), (by decide : 0 + 0 ≤ _)⟩)
      dsimp only [Pt.U, Pt.locs, Pt.cells, Pt.slots] at X3 l3 y3 z3 st3 hQ3
      subst l3 y3 z3
      obtain ⟨rfl, Nq3, P4⟩ := hQ3
      have N3 := Fr.app N0 Nq3
      refine own_G.st (T' := T3) 79 [(.int (own_chr b1))] (fun _ kq => st3.trans kq) ?_
      exact own_ret X3 P4 (v := some (.int (nar .char (own_chr b1)))) (fun h => by rw [Bd.returns] at h; cases h) Bd.notSynchronized ⟨(by simp [own_g2, hc1, hc23, hc53, hc66]), N3, rfl⟩ (by decide) (by decide) (fun fs hr => retN X3 hx (t := .char) Bd.returns (by simp) (hb hby d10_79) hr)
theorem own_cb {b : Int32} (h : ¬ b < (0 : Int32) ∧ ¬ (127 : Int32) < b) : ¬ own_chr b < (0 : Int32) ∧ ¬ (255 : Int32) < own_chr b := by
  have a2 := c_mask b (255 : Int32) 8 (by decide) (by decide)
  have a3 := c_i2c (b &&& (255 : Int32))
  have e : own_chr b = (b &&& (255 : Int32)).toUInt32.toUInt16.toUInt32.toInt32 := rfl
  rw [e]
  simp only [Int32.lt_iff_toInt_lt]
  have e0 : (0 : Int32).toInt = 0 := by decide
  have e1 : (255 : Int32).toInt = 255 := by decide
  omega
theorem own_nn {x : Int32} (h : ¬ x < (0 : Int32) ∧ ¬ (255 : Int32) < x) : ¬ nar .char (nar .char x) < 0 ∧ ¬ (255 : Int32) < nar .char (nar .char x) := by
  rw [own_narI h, own_narI h]
  exact h
theorem pd__28_29I : parseMethodDescriptor "()I" = some ⟨[], some .int⟩ := by decide +kernel
theorem pd__28Ljava_2flang_2fString_3bIICI_29C : parseMethodDescriptor "(Ljava/lang/String;IICI)C" = some ⟨[(.object "java/lang/String"), .int, .int, .char, .int], some .char⟩ := by decide +kernel
theorem pd__28_5bC_29V : parseMethodDescriptor "([C)V" = some ⟨[(.array .char)], none⟩ := by decide +kernel
theorem d9_0 : decode method_3_code 0 = .ok (.aload_n 0, 1) := by decide +kernel
theorem d9_1 : decode method_3_code 1 = .ok (.invokevirtual 13, 3) := by decide +kernel
theorem d9_4 : decode method_3_code 4 = .ok (.istore 4, 2) := by decide +kernel
theorem d9_6 : decode method_3_code 6 = .ok (.iload_n 1, 1) := by decide +kernel
theorem d9_7 : decode method_3_code 7 = .ok (.ifCond .ne 8, 3) := by decide +kernel
theorem d9_10 : decode method_3_code 10 = .ok (.iload 4, 2) := by decide +kernel
theorem d9_12 : decode method_3_code 12 = .ok (.goto 19, 3) := by decide +kernel
theorem d9_31 : decode method_3_code 31 = .ok (.istore 5, 2) := by decide +kernel
theorem d9_33 : decode method_3_code 33 = .ok (.iload 5, 2) := by decide +kernel
theorem d9_35 : decode method_3_code 35 = .ok (.bipush 6, 2) := by decide +kernel
theorem d9_37 : decode method_3_code 37 = .ok (.if_icmp .ne 81, 3) := by decide +kernel
theorem d9_118 : decode method_3_code 118 = .ok (.iload 5, 2) := by decide +kernel
theorem d9_120 : decode method_3_code 120 = .ok (.bipush 7, 2) := by decide +kernel
theorem d9_122 : decode method_3_code 122 = .ok (.if_icmp .ne 94, 3) := by decide +kernel
theorem d9_216 : decode method_3_code 216 = .ok (.iload 5, 2) := by decide +kernel
theorem d9_218 : decode method_3_code 218 = .ok (.bipush 8, 2) := by decide +kernel
theorem d9_220 : decode method_3_code 220 = .ok (.if_icmp .ne 107, 3) := by decide +kernel
theorem d9_327 : decode method_3_code 327 = .ok (.iload 5, 2) := by decide +kernel
theorem d9_329 : decode method_3_code 329 = .ok (.bipush 9, 2) := by decide +kernel
theorem d9_331 : decode method_3_code 331 = .ok (.if_icmp .ne 120, 3) := by decide +kernel
theorem d9_334 : decode method_3_code 334 = .ok (.new 8, 3) := by decide +kernel
theorem d9_337 : decode method_3_code 337 = .ok (.dup, 1) := by decide +kernel
theorem d9_338 : decode method_3_code 338 = .ok (.bipush 9, 2) := by decide +kernel
theorem d9_340 : decode method_3_code 340 = .ok (.newarray .char, 2) := by decide +kernel
theorem d9_342 : decode method_3_code 342 = .ok (.dup, 1) := by decide +kernel
theorem d9_343 : decode method_3_code 343 = .ok (.iconst 0, 1) := by decide +kernel
theorem d9_344 : decode method_3_code 344 = .ok (.aload_n 0, 1) := by decide +kernel
theorem d9_345 : decode method_3_code 345 = .ok (.iload_n 1, 1) := by decide +kernel
theorem d9_346 : decode method_3_code 346 = .ok (.iload_n 2, 1) := by decide +kernel
theorem d9_347 : decode method_3_code 347 = .ok (.iload_n 3, 1) := by decide +kernel
theorem d9_348 : decode method_3_code 348 = .ok (.iconst 0, 1) := by decide +kernel
theorem d9_349 : decode method_3_code 349 = .ok (.invokestatic 17, 3) := by decide +kernel
theorem d9_352 : decode method_3_code 352 = .ok (.castore, 1) := by decide +kernel
theorem d9_353 : decode method_3_code 353 = .ok (.dup, 1) := by decide +kernel
theorem d9_354 : decode method_3_code 354 = .ok (.iconst 1, 1) := by decide +kernel
theorem d9_355 : decode method_3_code 355 = .ok (.aload_n 0, 1) := by decide +kernel
theorem d9_356 : decode method_3_code 356 = .ok (.iload_n 1, 1) := by decide +kernel
theorem d9_357 : decode method_3_code 357 = .ok (.iload_n 2, 1) := by decide +kernel
theorem d9_358 : decode method_3_code 358 = .ok (.iload_n 3, 1) := by decide +kernel
theorem d9_359 : decode method_3_code 359 = .ok (.iconst 1, 1) := by decide +kernel
theorem d9_360 : decode method_3_code 360 = .ok (.invokestatic 17, 3) := by decide +kernel
theorem d9_363 : decode method_3_code 363 = .ok (.castore, 1) := by decide +kernel
theorem d9_364 : decode method_3_code 364 = .ok (.dup, 1) := by decide +kernel
theorem d9_365 : decode method_3_code 365 = .ok (.iconst 2, 1) := by decide +kernel
theorem d9_366 : decode method_3_code 366 = .ok (.aload_n 0, 1) := by decide +kernel
theorem d9_367 : decode method_3_code 367 = .ok (.iload_n 1, 1) := by decide +kernel
theorem d9_368 : decode method_3_code 368 = .ok (.iload_n 2, 1) := by decide +kernel
theorem d9_369 : decode method_3_code 369 = .ok (.iload_n 3, 1) := by decide +kernel
theorem d9_370 : decode method_3_code 370 = .ok (.iconst 2, 1) := by decide +kernel
theorem d9_371 : decode method_3_code 371 = .ok (.invokestatic 17, 3) := by decide +kernel
theorem d9_374 : decode method_3_code 374 = .ok (.castore, 1) := by decide +kernel
theorem d9_375 : decode method_3_code 375 = .ok (.dup, 1) := by decide +kernel
theorem d9_376 : decode method_3_code 376 = .ok (.iconst 3, 1) := by decide +kernel
theorem d9_377 : decode method_3_code 377 = .ok (.aload_n 0, 1) := by decide +kernel
theorem d9_378 : decode method_3_code 378 = .ok (.iload_n 1, 1) := by decide +kernel
theorem d9_379 : decode method_3_code 379 = .ok (.iload_n 2, 1) := by decide +kernel
theorem d9_380 : decode method_3_code 380 = .ok (.iload_n 3, 1) := by decide +kernel
theorem d9_381 : decode method_3_code 381 = .ok (.iconst 3, 1) := by decide +kernel
theorem d9_382 : decode method_3_code 382 = .ok (.invokestatic 17, 3) := by decide +kernel
theorem d9_385 : decode method_3_code 385 = .ok (.castore, 1) := by decide +kernel
theorem d9_386 : decode method_3_code 386 = .ok (.dup, 1) := by decide +kernel
theorem d9_387 : decode method_3_code 387 = .ok (.iconst 4, 1) := by decide +kernel
theorem d9_388 : decode method_3_code 388 = .ok (.aload_n 0, 1) := by decide +kernel
theorem d9_389 : decode method_3_code 389 = .ok (.iload_n 1, 1) := by decide +kernel
theorem d9_390 : decode method_3_code 390 = .ok (.iload_n 2, 1) := by decide +kernel
theorem d9_391 : decode method_3_code 391 = .ok (.iload_n 3, 1) := by decide +kernel
theorem d9_392 : decode method_3_code 392 = .ok (.iconst 4, 1) := by decide +kernel
theorem d9_393 : decode method_3_code 393 = .ok (.invokestatic 17, 3) := by decide +kernel
theorem d9_396 : decode method_3_code 396 = .ok (.castore, 1) := by decide +kernel
theorem d9_397 : decode method_3_code 397 = .ok (.dup, 1) := by decide +kernel
theorem d9_398 : decode method_3_code 398 = .ok (.iconst 5, 1) := by decide +kernel
theorem d9_399 : decode method_3_code 399 = .ok (.aload_n 0, 1) := by decide +kernel
theorem d9_400 : decode method_3_code 400 = .ok (.iload_n 1, 1) := by decide +kernel
theorem d9_401 : decode method_3_code 401 = .ok (.iload_n 2, 1) := by decide +kernel
theorem d9_402 : decode method_3_code 402 = .ok (.iload_n 3, 1) := by decide +kernel
theorem d9_403 : decode method_3_code 403 = .ok (.iconst 5, 1) := by decide +kernel
theorem d9_404 : decode method_3_code 404 = .ok (.invokestatic 17, 3) := by decide +kernel
theorem d9_407 : decode method_3_code 407 = .ok (.castore, 1) := by decide +kernel
theorem d9_408 : decode method_3_code 408 = .ok (.dup, 1) := by decide +kernel
theorem d9_409 : decode method_3_code 409 = .ok (.bipush 6, 2) := by decide +kernel
theorem d9_411 : decode method_3_code 411 = .ok (.aload_n 0, 1) := by decide +kernel
theorem d9_412 : decode method_3_code 412 = .ok (.iload_n 1, 1) := by decide +kernel
theorem d9_413 : decode method_3_code 413 = .ok (.iload_n 2, 1) := by decide +kernel
theorem d9_414 : decode method_3_code 414 = .ok (.iload_n 3, 1) := by decide +kernel
theorem d9_415 : decode method_3_code 415 = .ok (.bipush 6, 2) := by decide +kernel
theorem d9_417 : decode method_3_code 417 = .ok (.invokestatic 17, 3) := by decide +kernel
theorem d9_420 : decode method_3_code 420 = .ok (.castore, 1) := by decide +kernel
theorem d9_421 : decode method_3_code 421 = .ok (.dup, 1) := by decide +kernel
theorem d9_422 : decode method_3_code 422 = .ok (.bipush 7, 2) := by decide +kernel
theorem d9_424 : decode method_3_code 424 = .ok (.aload_n 0, 1) := by decide +kernel
theorem d9_425 : decode method_3_code 425 = .ok (.iload_n 1, 1) := by decide +kernel
theorem d9_426 : decode method_3_code 426 = .ok (.iload_n 2, 1) := by decide +kernel
theorem d9_427 : decode method_3_code 427 = .ok (.iload_n 3, 1) := by decide +kernel
theorem d9_428 : decode method_3_code 428 = .ok (.bipush 7, 2) := by decide +kernel
theorem d9_430 : decode method_3_code 430 = .ok (.invokestatic 17, 3) := by decide +kernel
theorem d9_433 : decode method_3_code 433 = .ok (.castore, 1) := by decide +kernel
theorem d9_434 : decode method_3_code 434 = .ok (.dup, 1) := by decide +kernel
theorem d9_435 : decode method_3_code 435 = .ok (.bipush 8, 2) := by decide +kernel
theorem d9_437 : decode method_3_code 437 = .ok (.aload_n 0, 1) := by decide +kernel
theorem d9_438 : decode method_3_code 438 = .ok (.iload_n 1, 1) := by decide +kernel
theorem d9_439 : decode method_3_code 439 = .ok (.iload_n 2, 1) := by decide +kernel
theorem d9_440 : decode method_3_code 440 = .ok (.iload_n 3, 1) := by decide +kernel
theorem d9_441 : decode method_3_code 441 = .ok (.bipush 8, 2) := by decide +kernel
theorem d9_443 : decode method_3_code 443 = .ok (.invokestatic 17, 3) := by decide +kernel
theorem d9_446 : decode method_3_code 446 = .ok (.castore, 1) := by decide +kernel
theorem d9_447 : decode method_3_code 447 = .ok (.invokespecial 23, 3) := by decide +kernel
theorem d9_450 : decode method_3_code 450 = .ok (.areturn, 1) := by decide +kernel
theorem ef_mka0 (m : MethodId) (a : Addr) (q : Int32) (x : Int32) : entryFrame m #[(.ref a), (.int 0), (.int q), (.int x)] 6 = mkF m 0 #[rv a, iv 0, iv q, iv x, .unset, .unset] [] := by
  first | (simp [entryFrame, mkF, argsToLocals, Value.category]; done) | rfl
def Q_mka0 (Z : State) (a : Addr) (q : Int32) (x : Int32) (csz : Int32) (fm : Value) (t : Addr) (kb : ClassId) (h0 : Heap) (n0 : Nat) (v : Option Value) (h : Heap) (L : List Loc) : Prop := ∃ (r : Addr), ∃ (t2 : Addr), ∃ (kb2 : ClassId), v = some (.ref r) ∧ Fr n0 L ∧ Keep h0 h [] ∧ h0.size ≤ r ∧ h0.size ≤ t2 ∧ Exa Z h r "java/lang/String" ∧ Fld Z h r "java/lang/String" "coder" "B" (.int 0) ∧ Fld Z h r "java/lang/String" "value" "[B" (.ref t2) ∧ (∀ c ∈ ([(kA 0 97 q x), (kA 1 108 q x), (kA 2 116 q x), (kA 3 101 q x), (kA 4 114 q x), (kA 5 110 q x), (kA 6 97 q x), (kA 7 116 q x), (kA 8 101 q x)] : List Int32), ¬ c < 0 ∧ ¬ (255 : Int32) < c) ∧ Arv Z h t2 kb2 .byte (9 : Int32) ((([(kA 0 97 q x), (kA 1 108 q x), (kA 2 116 q x), (kA 3 101 q x), (kA 4 114 q x), (kA 5 110 q x), (kA 6 97 q x), (kA 7 116 q x), (kA 8 101 q x)] : List Int32).map (fun c => c.toInt8.toInt32)).map Value.int) (.int 0)
set_option maxRecDepth 65536 in
set_option maxHeartbeats 40000000 in
theorem rm_mka0 (l : Launch) (Z : State) (a0 : Array Value) (hw : ∀ d ∈ tables_1, d.before a0 Z = true) (ws : List Jvm.Cond) (a : Addr) (q : Int32) (x : Int32) (csz : Int32) (fm : Value) (t : Addr) (kb : ClassId) (h0 : Heap) (n0 : Nat) (O0 : Old Z n0 h0) (S_CS : Sta Z Z.heap "java/lang/String" "COMPACT_STRINGS" "Z" (.int csz)) (hcs : ¬ csz = (0 : Int32)) (S_IO : Sta Z Z.heap "jdk/internal/util/Preconditions" "SIOOBE_FORMATTER" "Ljava/util/function/BiFunction;" fm) (hio : fm.isRef = true) (Ea : Exa Z h0 a "java/lang/String") (Fv : Fld Z h0 a "java/lang/String" "value" "[B" (.ref t)) (Fc : Fld Z h0 a "java/lang/String" "coder" "B" (.int 0)) (AR : Arv Z h0 t kb .byte (9 : Int32) [(.int 97), (.int 108), (.int 116), (.int 101), (.int 114), (.int 110), (.int 97), (.int 116), (.int 101)] (.int 0)) (hxr : ¬ x < (0 : Int32) ∧ ¬ (255 : Int32) < x) :
    MetFree l own_y23 (head1 (Jvm.Cond.code own_y23 method_3_code 6 (some (.object "java/lang/String")) :: ws) ({ frames := 5, cells := 3, slots := 22, locals := 74 } : Room)) (fun aq_ Uq_ => aq_ = #[(.ref a), (.int 0), (.int q), (.int x)] ∧ Z.Warmed39 Uq_.vm ∧ Uq_.heap = h0) (fun _ _ _ _ _ => True) (fun _ Uq_ oq_ Ur_ => ∃ vq_ Lq_, oq_ = .returned vq_ ∧ Q_mka0 Z a q x csz fm t kb h0 n0 vq_ Ur_.heap Lq_ ∧ FrameEnd Uq_ oq_ Ur_ Lq_ ({ frames := 5, cells := 3, slots := 22, locals := 74 } : Room).cells ({ frames := 5, cells := 3, slots := 22, locals := 74 } : Room).slots) := by
  refine MetFree.of_bodySF (plainFor_of_name pn_com_2fexample_2ftermflow_2ftermflow_2ffeed_2fLinkIsArtefactPinLaw) hisR ?_
  intro p e s m args below meth c s₁ Bd hml0 hP hK
  obtain ⟨rfl, hZ, hh⟩ := hP
  have W_ : ∀ {d : Jvm.Cond} (i : Nat), tables_1[i]? = some d → d.before a0 Z = true := fun i h => hw _ (List.mem_of_getElem? h)
  have hx := Bd.exec
  have hby := Bd.bytes
  have hml : c.maxLocals = 6 := hml0
  have hown : s.vm.findClass "com/example/termflow/termflow/feed/LinkIsArtefactPinLaw" = some m.cls := findClass_of_methodNamed Bd.named
  have hnm := (name_of_methodNamed Bd.named Bd.method).1
  have X0 : Stand p l e ({ frames := 5, cells := 3, slots := 22, locals := 74 } : Room) s m #[(.ref a), (.int 0), (.int q), (.int x)] below meth c s₁ [] 0 0 := Stand.of_body Bd
  have e0 : s₁.heap = h0 := by rw [← hh, Bd.state]; rfl
  have N0 := Fr.nil n0
  have K0 := Keep.refl h0 []
  refine own_G.start (Q := Q_mka0 Z a q x csz fm t kb h0 n0) (ef_mka0 m a q x) ?_
  have hws : ∀ d ∈ StrChars.Road.words, d.before a0 Z = true := fun d hd => hw d (own_hws d hd)
  refine own_G.sk 1 [(.ref a)] (fun _ kq => XS.aloadN X0.here hx rfl (hb hby d9_0) rfl rfl kq) ?_
  obtain ⟨cq1, kq1, q1a, q1b, q1c⟩ := isOf hZ e0 Ea
  obtain ⟨_, _, ⟨T1, L1, k1, n1⟩, -, X1, ⟨Lc1, hQ1, l1, y1, z1⟩, st1⟩ := X0.virtualBack hx (y := own_y7) (z := own_y7) hown (mvT hZ (W_ 8 rfl)) (mvT hZ (W_ 9 rfl)) (notFace_of_selects (args := #[]) (mvT hZ (W_ 11 rfl))) (mvT hZ (W_ 11 rfl)) (mvT hZ (W_ 10 rfl)) (by decide) (backOf (W := 0) (rm_strlen l Z a0 hw [] a csz t (9 : Int32) h0 n0 O0 S_CS hcs Fc Fv (own_Len.arv AR) Ea) hZ (W_ 12 rfl) (W_ 1 rfl) (by decide) (by decide)) q1a q1c (g := (mkF m 1 #[rv a, iv 0, iv q, iv x, .unset, .unset] [(.ref a)])) rfl (by rw [hml]; rfl) (Steps.refl _) (argsL := []) (rest := []) (lenOf pd__28_29I rfl) rfl (by show 2 * 0 + _ ≤ _; exact Nat.le_of_eq rfl) (hb hby d9_1) (fun _ _ => ⟨rfl, e0, (by decide : 0 + 0 ≤ _), (by decide : 0 + 0 ≤ _)⟩)
  dsimp only [Pt.U, Pt.locs, Pt.cells, Pt.slots] at X1 l1 y1 z1 st1 hQ1
  subst l1 y1 z1
  obtain ⟨rfl, Nq1, P2⟩ := hQ1
  have N1 := Fr.app N0 Nq1
  refine own_G.st (T' := T1) 4 [(.int 9)] (fun _ kq => st1.trans kq) ?_
  refine own_G.si 6 [] (fun _ kq => XS.istore X1.here hx rfl (hb hby d9_4) rfl (l' := #[rv a, iv 0, iv q, iv x, iv 9, .unset]) rfl kq) ?_
  refine own_G.sk 7 [(.int 0)] (fun _ kq => XS.iloadN X1.here hx rfl (hb hby d9_6) rfl kq) ?_
  have hc7 : (0 : Int32) = (0 : Int32) := (by decide)
  refine own_G.sk 10 [] (fun _ kq => XS.ifNo X1.here hx rfl (hb hby d9_7) rfl ((if0 _ _).trans (teq hc7).2) kq) ?_
  refine own_G.sk 12 [(.int 9)] (fun _ kq => XS.iload X1.here hx rfl (hb hby d9_10) rfl kq) ?_
  refine own_G.sk 31 [(.int 9)] (fun _ kq => XS.goto X1.here hx rfl (pc0 := 12) (pc' := 31) rfl (hb hby d9_12) (by decide) (by decide) kq) ?_
  refine own_G.si 33 [] (fun _ kq => XS.istore X1.here hx rfl (hb hby d9_31) rfl (l' := #[rv a, iv 0, iv q, iv x, iv 9, iv 9]) rfl kq) ?_
  refine own_G.sk 35 [(.int 9)] (fun _ kq => XS.iload X1.here hx rfl (hb hby d9_33) rfl kq) ?_
  refine own_G.sk 37 [(.int 6), (.int 9)] (fun _ kq => XS.bipush X1.here hx rfl (hb hby d9_35) kq) ?_
  have hc37 : ¬ ((9 : Int32) = (6 : Int32)) := (by decide)
  refine own_G.sk 118 [] (fun _ kq => XS.icmpYes X1.here hx rfl (pc0 := 37) (pc' := 118) rfl (hb hby d9_37) rfl (feq hc37).2 (by decide) (by decide) kq) ?_
  refine own_G.sk 120 [(.int 9)] (fun _ kq => XS.iload X1.here hx rfl (hb hby d9_118) rfl kq) ?_
  refine own_G.sk 122 [(.int 7), (.int 9)] (fun _ kq => XS.bipush X1.here hx rfl (hb hby d9_120) kq) ?_
  have hc122 : ¬ ((9 : Int32) = (7 : Int32)) := (by decide)
  refine own_G.sk 216 [] (fun _ kq => XS.icmpYes X1.here hx rfl (pc0 := 122) (pc' := 216) rfl (hb hby d9_122) rfl (feq hc122).2 (by decide) (by decide) kq) ?_
  refine own_G.sk 218 [(.int 9)] (fun _ kq => XS.iload X1.here hx rfl (hb hby d9_216) rfl kq) ?_
  refine own_G.sk 220 [(.int 8), (.int 9)] (fun _ kq => XS.bipush X1.here hx rfl (hb hby d9_218) kq) ?_
  have hc220 : ¬ ((9 : Int32) = (8 : Int32)) := (by decide)
  refine own_G.sk 327 [] (fun _ kq => XS.icmpYes X1.here hx rfl (pc0 := 220) (pc' := 327) rfl (hb hby d9_220) rfl (feq hc220).2 (by decide) (by decide) kq) ?_
  refine own_G.sk 329 [(.int 9)] (fun _ kq => XS.iload X1.here hx rfl (hb hby d9_327) rfl kq) ?_
  refine own_G.sk 331 [(.int 9), (.int 9)] (fun _ kq => XS.bipush X1.here hx rfl (hb hby d9_329) kq) ?_
  have hc331 : (9 : Int32) = (9 : Int32) := (by decide)
  refine own_G.sk 334 [] (fun _ kq => XS.icmpNo X1.here hx rfl (hb hby d9_331) rfl (teq hc331).2 kq) ?_
  obtain ⟨T3, h3, X3, e3, E3, A3, D3, -, st3⟩ := newO X1 hx hZ hown (W_ 52 rfl) (W_ 2 rfl) (W_ 1 rfl) P2 (g := (mkF m 334 #[rv a, iv 0, iv q, iv x, iv 9, iv 9] [])) rfl (hb hby d9_334) (by decide) (by decide)
  obtain ⟨b3, g3⟩ : ∃ z, z = h0.size := ⟨_, rfl⟩
  rw [← g3] at A3 D3 st3
  have ne4 : a ≠ b3 := Nat.ne_of_lt (Nat.lt_of_lt_of_le Ea.lt (Nat.le_of_eq g3.symm))
  have ne5 : t ≠ b3 := Nat.ne_of_lt (Nat.lt_of_lt_of_le AR.lt (Nat.le_of_eq g3.symm))
  have g6 : n0 ≤ b3 := Nat.le_trans O0.le (Nat.le_of_eq g3.symm)
  have z7 : h0.size ≤ b3 := Nat.le_trans K0.1 (Nat.le_of_eq g3.symm)
  have F8 := Ea.ext E3
  have F9 := Fv.ext E3
  have F10 := Fc.ext E3
  have F11 := AR.ext E3
  have O12 := O0.ext E3
  have K13 := K0.ext E3
  have F14 : Fld Z h3 b3 "java/lang/String" "value" "[B" .null := D3 (Or.inr (W_ 4 rfl)) (ty := (.array .byte)) (by decide)
  have F15 : Fld Z h3 b3 "java/lang/String" "coder" "B" (.int 0) := D3 (Or.inr (W_ 5 rfl)) (ty := .byte) (by decide)
  refine own_G.st (T' := T3) 337 [(.ref b3)] st3 ?_
  refine own_G.sk 338 [(.ref b3), (.ref b3)] (fun _ kq => XS.dup X3.here hx rfl (hb hby d9_337) rfl rfl kq) ?_
  refine own_G.sk 340 [(.int 9), (.ref b3), (.ref b3)] (fun _ kq => XS.bipush X3.here hx rfl (hb hby d9_338) kq) ?_
  obtain ⟨T16, h16, k16, X16, e16, E16, A16, st16⟩ := newP X3 hx hZ (W_ 53 rfl) e3 (g := (mkF m 340 #[rv a, iv 0, iv q, iv x, iv 9, iv 9] [(.int 9), (.ref b3), (.ref b3)])) rfl (hb hby d9_340) rfl (by decide) (cap := 9) (by decide) (by decide) (by decide) (by decide)
  obtain ⟨b16, g16⟩ : ∃ z, z = h3.size := ⟨_, rfl⟩
  rw [← g16] at A16 st16
  have ne17 : a ≠ b16 := Nat.ne_of_lt (Nat.lt_of_lt_of_le F8.lt (Nat.le_of_eq g16.symm))
  have ne18 : t ≠ b16 := Nat.ne_of_lt (Nat.lt_of_lt_of_le F11.lt (Nat.le_of_eq g16.symm))
  have ne19 : b3 ≠ b16 := Nat.ne_of_lt (Nat.lt_of_lt_of_le A3.lt (Nat.le_of_eq g16.symm))
  have g20 : n0 ≤ b16 := Nat.le_trans O12.le (Nat.le_of_eq g16.symm)
  have z21 : h0.size ≤ b16 := Nat.le_trans K13.1 (Nat.le_of_eq g16.symm)
  have F22 := F8.ext E16
  have F23 := F9.ext E16
  have F24 := F10.ext E16
  have F25 := F11.ext E16
  have F26 := A3.ext E16
  have F27 := F14.ext E16
  have F28 := F15.ext E16
  have O29 := O12.ext E16
  have K30 := K13.ext E16
  have F31 : Arv Z h16 b16 k16 .char (9 : Int32) [(.int 0), (.int 0), (.int 0), (.int 0), (.int 0), (.int 0), (.int 0), (.int 0), (.int 0)] (.int 0) := (Arv.new A16 (by decide)).pad (pad_rep [] (.int 0) 9)
  refine own_G.st (T' := T16) 342 [(.ref b16), (.ref b3), (.ref b3)] st16 ?_
  refine own_G.sk 343 [(.ref b16), (.ref b16), (.ref b3), (.ref b3)] (fun _ kq => XS.dup X16.here hx rfl (hb hby d9_342) rfl rfl kq) ?_
  refine own_G.sk 344 [(.int 0), (.ref b16), (.ref b16), (.ref b3), (.ref b3)] (fun _ kq => XS.iconst X16.here hx rfl (hb hby d9_343) kq) ?_
  refine own_G.sk 345 [(.ref a), (.int 0), (.ref b16), (.ref b16), (.ref b3), (.ref b3)] (fun _ kq => XS.aloadN X16.here hx rfl (hb hby d9_344) rfl rfl kq) ?_
  refine own_G.sk 346 [(.int 0), (.ref a), (.int 0), (.ref b16), (.ref b16), (.ref b3), (.ref b3)] (fun _ kq => XS.iloadN X16.here hx rfl (hb hby d9_345) rfl kq) ?_
  refine own_G.sk 347 [(.int q), (.int 0), (.ref a), (.int 0), (.ref b16), (.ref b16), (.ref b3), (.ref b3)] (fun _ kq => XS.iloadN X16.here hx rfl (hb hby d9_346) rfl kq) ?_
  refine own_G.sk 348 [(.int x), (.int q), (.int 0), (.ref a), (.int 0), (.ref b16), (.ref b16), (.ref b3), (.ref b3)] (fun _ kq => XS.iloadN X16.here hx rfl (hb hby d9_347) rfl kq) ?_
  refine own_G.sk 349 [(.int 0), (.int x), (.int q), (.int 0), (.ref a), (.int 0), (.ref b16), (.ref b16), (.ref b3), (.ref b3)] (fun _ kq => XS.iconst X16.here hx rfl (hb hby d9_348) kq) ?_
  obtain ⟨_, _, ⟨T32, L32, k32, n32⟩, -, X32, ⟨Lc32, hQ32, l32, y32, z32⟩, st32⟩ := Jvm.LawKit.callS X16 hx (y := own_y22) hown (mvT hZ (W_ 54 rfl)) (mvT hZ (W_ 55 rfl)) (mvT hZ (W_ 50 rfl)) (mvT hZ (W_ 56 rfl)) (by decide) (backOf (W := 5) (rm_g0 l Z a0 hw [] a q x (0 : Int32) csz fm t (9 : Int32) (97 : Int32) h16 n0 O29 S_CS hcs S_IO hio F22 F23 F24 (own_Len.arv F25) (own_At.arv (i := (0 : Int32)) (b := (97 : Int32)) F25 ⟨by decide, by decide⟩ rfl) (by decide) (by decide)) hZ (W_ 56 rfl) (W_ 50 rfl) (by decide) (by decide)) (g := (mkF m 349 #[rv a, iv 0, iv q, iv x, iv 9, iv 9] [(.int 0), (.int x), (.int q), (.int 0), (.ref a), (.int 0), (.ref b16), (.ref b16), (.ref b3), (.ref b3)])) rfl (by rw [hml]; rfl) (argsL := [(.ref a), (.int 0), (.int q), (.int x), (.int 0)]) (rest := [(.int 0), (.ref b16), (.ref b16), (.ref b3), (.ref b3)]) (lenOf pd__28Ljava_2flang_2fString_3bIICI_29C rfl) rfl (by show 2 * 0 + _ ≤ _; exact Nat.le_of_eq rfl) (hb hby d9_349) (fun _ _ => ⟨rfl, e16, (by decide : 2 + 0 ≤ _), (by decide : 13 + 0 ≤ _)⟩)
  dsimp only [Pt.U, Pt.locs, Pt.cells, Pt.slots] at X32 l32 y32 z32 st32 hQ32
  subst l32 y32 z32
  obtain ⟨rfl, Nq32, P33⟩ := hQ32
  have N32 := Fr.app N1 Nq32
  refine own_G.st (T' := T32) 352 [(.int (nar .char (own_g0 (0 : Int32) q x (own_chr (97 : Int32))))), (.int 0), (.ref b16), (.ref b16), (.ref b3), (.ref b3)] (fun _ kq => st32 _ kq) ?_
  obtain ⟨cl34, Ar34, q134, Sz34, Nz34, Hh34, Gg34⟩ := id F31
  obtain ⟨T34, h34, X34, e34, W34, st34⟩ := stC X32 hx hZ P33 Ar34 (j := (0 : Int32)) (inb_of Sz34 ⟨by decide, by decide⟩) (g := (mkF m 352 #[rv a, iv 0, iv q, iv x, iv 9, iv 9] [(.int (nar .char (own_g0 (0 : Int32) q x (own_chr (97 : Int32))))), (.int 0), (.ref b16), (.ref b16), (.ref b3), (.ref b3)])) rfl rfl (hb hby d9_352)
  have F35 : Arv Z h34 b16 k16 .char (9 : Int32) [(.int (kA 0 97 q x)), (.int 0), (.int 0), (.int 0), (.int 0), (.int 0), (.int 0), (.int 0), (.int 0)] (.int 0) := Arv.set Ar34 q134 Sz34 Nz34 Hh34 Gg34 (fits_nar_char _) W34 0 rfl (Nat.le_of_ble_eq_true rfl)
  have N34 := Fr.snoc X34 N32 g20
  have F36 := F22.wr W34
  have F37 := F23.other W34 (Or.inl ne17)
  have F38 := F24.other W34 (Or.inl ne17)
  have F39 := F25.other W34 ne18
  have F40 := F26.wr W34
  have F41 := F27.other W34 (Or.inl ne19)
  have F42 := F28.other W34 (Or.inl ne19)
  have O44 := O29.wr W34 g20
  have K45 := K30.wr W34 (Or.inr z21)
  refine own_G.st (T' := T34) 353 [(.ref b16), (.ref b3), (.ref b3)] st34 ?_
  refine own_G.sk 354 [(.ref b16), (.ref b16), (.ref b3), (.ref b3)] (fun _ kq => XS.dup X34.here hx rfl (hb hby d9_353) rfl rfl kq) ?_
  refine own_G.sk 355 [(.int 1), (.ref b16), (.ref b16), (.ref b3), (.ref b3)] (fun _ kq => XS.iconst X34.here hx rfl (hb hby d9_354) kq) ?_
  refine own_G.sk 356 [(.ref a), (.int 1), (.ref b16), (.ref b16), (.ref b3), (.ref b3)] (fun _ kq => XS.aloadN X34.here hx rfl (hb hby d9_355) rfl rfl kq) ?_
  refine own_G.sk 357 [(.int 0), (.ref a), (.int 1), (.ref b16), (.ref b16), (.ref b3), (.ref b3)] (fun _ kq => XS.iloadN X34.here hx rfl (hb hby d9_356) rfl kq) ?_
  refine own_G.sk 358 [(.int q), (.int 0), (.ref a), (.int 1), (.ref b16), (.ref b16), (.ref b3), (.ref b3)] (fun _ kq => XS.iloadN X34.here hx rfl (hb hby d9_357) rfl kq) ?_
  refine own_G.sk 359 [(.int x), (.int q), (.int 0), (.ref a), (.int 1), (.ref b16), (.ref b16), (.ref b3), (.ref b3)] (fun _ kq => XS.iloadN X34.here hx rfl (hb hby d9_358) rfl kq) ?_
  refine own_G.sk 360 [(.int 1), (.int x), (.int q), (.int 0), (.ref a), (.int 1), (.ref b16), (.ref b16), (.ref b3), (.ref b3)] (fun _ kq => XS.iconst X34.here hx rfl (hb hby d9_359) kq) ?_
  obtain ⟨_, _, ⟨T46, L46, k46, n46⟩, -, X46, ⟨Lc46, hQ46, l46, y46, z46⟩, st46⟩ := Jvm.LawKit.callS X34 hx (y := own_y22) hown (mvT hZ (W_ 54 rfl)) (mvT hZ (W_ 55 rfl)) (mvT hZ (W_ 50 rfl)) (mvT hZ (W_ 56 rfl)) (by decide) (backOf (W := 5) (rm_g0 l Z a0 hw [] a q x (1 : Int32) csz fm t (9 : Int32) (108 : Int32) h34 n0 O44 S_CS hcs S_IO hio F36 F37 F38 (own_Len.arv F39) (own_At.arv (i := (1 : Int32)) (b := (108 : Int32)) F39 ⟨by decide, by decide⟩ rfl) (by decide) (by decide)) hZ (W_ 56 rfl) (W_ 50 rfl) (by decide) (by decide)) (g := (mkF m 360 #[rv a, iv 0, iv q, iv x, iv 9, iv 9] [(.int 1), (.int x), (.int q), (.int 0), (.ref a), (.int 1), (.ref b16), (.ref b16), (.ref b3), (.ref b3)])) rfl (by rw [hml]; rfl) (argsL := [(.ref a), (.int 0), (.int q), (.int x), (.int 1)]) (rest := [(.int 1), (.ref b16), (.ref b16), (.ref b3), (.ref b3)]) (lenOf pd__28Ljava_2flang_2fString_3bIICI_29C rfl) rfl (by show 2 * 0 + _ ≤ _; exact Nat.le_of_eq rfl) (hb hby d9_360) (fun _ _ => ⟨rfl, e34, (by decide : 2 + 0 ≤ _), (by decide : 13 + 0 ≤ _)⟩)
  dsimp only [Pt.U, Pt.locs, Pt.cells, Pt.slots] at X46 l46 y46 z46 st46 hQ46
  subst l46 y46 z46
  obtain ⟨rfl, Nq46, P47⟩ := hQ46
  have N46 := Fr.app N34 Nq46
  refine own_G.st (T' := T46) 363 [(.int (nar .char (own_g0 (1 : Int32) q x (own_chr (108 : Int32))))), (.int 1), (.ref b16), (.ref b16), (.ref b3), (.ref b3)] (fun _ kq => st46 _ kq) ?_
  obtain ⟨cl48, Ar48, q148, Sz48, Nz48, Hh48, Gg48⟩ := id F35
  obtain ⟨T48, h48, X48, e48, W48, st48⟩ := stC X46 hx hZ P47 Ar48 (j := (1 : Int32)) (inb_of Sz48 ⟨by decide, by decide⟩) (g := (mkF m 363 #[rv a, iv 0, iv q, iv x, iv 9, iv 9] [(.int (nar .char (own_g0 (1 : Int32) q x (own_chr (108 : Int32))))), (.int 1), (.ref b16), (.ref b16), (.ref b3), (.ref b3)])) rfl rfl (hb hby d9_363)
  have F49 : Arv Z h48 b16 k16 .char (9 : Int32) [(.int (kA 0 97 q x)), (.int (kA 1 108 q x)), (.int 0), (.int 0), (.int 0), (.int 0), (.int 0), (.int 0), (.int 0)] (.int 0) := Arv.set Ar48 q148 Sz48 Nz48 Hh48 Gg48 (fits_nar_char _) W48 1 rfl (Nat.le_of_ble_eq_true rfl)
  have N48 := Fr.snoc X48 N46 g20
  have F50 := F36.wr W48
  have F51 := F37.other W48 (Or.inl ne17)
  have F52 := F38.other W48 (Or.inl ne17)
  have F53 := F39.other W48 ne18
  have F54 := F40.wr W48
  have F55 := F41.other W48 (Or.inl ne19)
  have F56 := F42.other W48 (Or.inl ne19)
  have O58 := O44.wr W48 g20
  have K59 := K45.wr W48 (Or.inr z21)
  refine own_G.st (T' := T48) 364 [(.ref b16), (.ref b3), (.ref b3)] st48 ?_
  refine own_G.sk 365 [(.ref b16), (.ref b16), (.ref b3), (.ref b3)] (fun _ kq => XS.dup X48.here hx rfl (hb hby d9_364) rfl rfl kq) ?_
  refine own_G.sk 366 [(.int 2), (.ref b16), (.ref b16), (.ref b3), (.ref b3)] (fun _ kq => XS.iconst X48.here hx rfl (hb hby d9_365) kq) ?_
  refine own_G.sk 367 [(.ref a), (.int 2), (.ref b16), (.ref b16), (.ref b3), (.ref b3)] (fun _ kq => XS.aloadN X48.here hx rfl (hb hby d9_366) rfl rfl kq) ?_
  refine own_G.sk 368 [(.int 0), (.ref a), (.int 2), (.ref b16), (.ref b16), (.ref b3), (.ref b3)] (fun _ kq => XS.iloadN X48.here hx rfl (hb hby d9_367) rfl kq) ?_
  refine own_G.sk 369 [(.int q), (.int 0), (.ref a), (.int 2), (.ref b16), (.ref b16), (.ref b3), (.ref b3)] (fun _ kq => XS.iloadN X48.here hx rfl (hb hby d9_368) rfl kq) ?_
  refine own_G.sk 370 [(.int x), (.int q), (.int 0), (.ref a), (.int 2), (.ref b16), (.ref b16), (.ref b3), (.ref b3)] (fun _ kq => XS.iloadN X48.here hx rfl (hb hby d9_369) rfl kq) ?_
  refine own_G.sk 371 [(.int 2), (.int x), (.int q), (.int 0), (.ref a), (.int 2), (.ref b16), (.ref b16), (.ref b3), (.ref b3)] (fun _ kq => XS.iconst X48.here hx rfl (hb hby d9_370) kq) ?_
  obtain ⟨_, _, ⟨T60, L60, k60, n60⟩, -, X60, ⟨Lc60, hQ60, l60, y60, z60⟩, st60⟩ := Jvm.LawKit.callS X48 hx (y := own_y22) hown (mvT hZ (W_ 54 rfl)) (mvT hZ (W_ 55 rfl)) (mvT hZ (W_ 50 rfl)) (mvT hZ (W_ 56 rfl)) (by decide) (backOf (W := 5) (rm_g0 l Z a0 hw [] a q x (2 : Int32) csz fm t (9 : Int32) (116 : Int32) h48 n0 O58 S_CS hcs S_IO hio F50 F51 F52 (own_Len.arv F53) (own_At.arv (i := (2 : Int32)) (b := (116 : Int32)) F53 ⟨by decide, by decide⟩ rfl) (by decide) (by decide)) hZ (W_ 56 rfl) (W_ 50 rfl) (by decide) (by decide)) (g := (mkF m 371 #[rv a, iv 0, iv q, iv x, iv 9, iv 9] [(.int 2), (.int x), (.int q), (.int 0), (.ref a), (.int 2), (.ref b16), (.ref b16), (.ref b3), (.ref b3)])) rfl (by rw [hml]; rfl) (argsL := [(.ref a), (.int 0), (.int q), (.int x), (.int 2)]) (rest := [(.int 2), (.ref b16), (.ref b16), (.ref b3), (.ref b3)]) (lenOf pd__28Ljava_2flang_2fString_3bIICI_29C rfl) rfl (by show 2 * 0 + _ ≤ _; exact Nat.le_of_eq rfl) (hb hby d9_371) (fun _ _ => ⟨rfl, e48, (by decide : 2 + 0 ≤ _), (by decide : 13 + 0 ≤ _)⟩)
  dsimp only [Pt.U, Pt.locs, Pt.cells, Pt.slots] at X60 l60 y60 z60 st60 hQ60
  subst l60 y60 z60
  obtain ⟨rfl, Nq60, P61⟩ := hQ60
  have N60 := Fr.app N48 Nq60
  refine own_G.st (T' := T60) 374 [(.int (nar .char (own_g0 (2 : Int32) q x (own_chr (116 : Int32))))), (.int 2), (.ref b16), (.ref b16), (.ref b3), (.ref b3)] (fun _ kq => st60 _ kq) ?_
  obtain ⟨cl62, Ar62, q162, Sz62, Nz62, Hh62, Gg62⟩ := id F49
  obtain ⟨T62, h62, X62, e62, W62, st62⟩ := stC X60 hx hZ P61 Ar62 (j := (2 : Int32)) (inb_of Sz62 ⟨by decide, by decide⟩) (g := (mkF m 374 #[rv a, iv 0, iv q, iv x, iv 9, iv 9] [(.int (nar .char (own_g0 (2 : Int32) q x (own_chr (116 : Int32))))), (.int 2), (.ref b16), (.ref b16), (.ref b3), (.ref b3)])) rfl rfl (hb hby d9_374)
  have F63 : Arv Z h62 b16 k16 .char (9 : Int32) [(.int (kA 0 97 q x)), (.int (kA 1 108 q x)), (.int (kA 2 116 q x)), (.int 0), (.int 0), (.int 0), (.int 0), (.int 0), (.int 0)] (.int 0) := Arv.set Ar62 q162 Sz62 Nz62 Hh62 Gg62 (fits_nar_char _) W62 2 rfl (Nat.le_of_ble_eq_true rfl)
  have N62 := Fr.snoc X62 N60 g20
  have F64 := F50.wr W62
  have F65 := F51.other W62 (Or.inl ne17)
  have F66 := F52.other W62 (Or.inl ne17)
  have F67 := F53.other W62 ne18
  have F68 := F54.wr W62
  have F69 := F55.other W62 (Or.inl ne19)
  have F70 := F56.other W62 (Or.inl ne19)
  have O72 := O58.wr W62 g20
  have K73 := K59.wr W62 (Or.inr z21)
  refine own_G.st (T' := T62) 375 [(.ref b16), (.ref b3), (.ref b3)] st62 ?_
  refine own_G.sk 376 [(.ref b16), (.ref b16), (.ref b3), (.ref b3)] (fun _ kq => XS.dup X62.here hx rfl (hb hby d9_375) rfl rfl kq) ?_
  refine own_G.sk 377 [(.int 3), (.ref b16), (.ref b16), (.ref b3), (.ref b3)] (fun _ kq => XS.iconst X62.here hx rfl (hb hby d9_376) kq) ?_
  refine own_G.sk 378 [(.ref a), (.int 3), (.ref b16), (.ref b16), (.ref b3), (.ref b3)] (fun _ kq => XS.aloadN X62.here hx rfl (hb hby d9_377) rfl rfl kq) ?_
  refine own_G.sk 379 [(.int 0), (.ref a), (.int 3), (.ref b16), (.ref b16), (.ref b3), (.ref b3)] (fun _ kq => XS.iloadN X62.here hx rfl (hb hby d9_378) rfl kq) ?_
  refine own_G.sk 380 [(.int q), (.int 0), (.ref a), (.int 3), (.ref b16), (.ref b16), (.ref b3), (.ref b3)] (fun _ kq => XS.iloadN X62.here hx rfl (hb hby d9_379) rfl kq) ?_
  refine own_G.sk 381 [(.int x), (.int q), (.int 0), (.ref a), (.int 3), (.ref b16), (.ref b16), (.ref b3), (.ref b3)] (fun _ kq => XS.iloadN X62.here hx rfl (hb hby d9_380) rfl kq) ?_
  refine own_G.sk 382 [(.int 3), (.int x), (.int q), (.int 0), (.ref a), (.int 3), (.ref b16), (.ref b16), (.ref b3), (.ref b3)] (fun _ kq => XS.iconst X62.here hx rfl (hb hby d9_381) kq) ?_
  obtain ⟨_, _, ⟨T74, L74, k74, n74⟩, -, X74, ⟨Lc74, hQ74, l74, y74, z74⟩, st74⟩ := Jvm.LawKit.callS X62 hx (y := own_y22) hown (mvT hZ (W_ 54 rfl)) (mvT hZ (W_ 55 rfl)) (mvT hZ (W_ 50 rfl)) (mvT hZ (W_ 56 rfl)) (by decide) (backOf (W := 5) (rm_g0 l Z a0 hw [] a q x (3 : Int32) csz fm t (9 : Int32) (101 : Int32) h62 n0 O72 S_CS hcs S_IO hio F64 F65 F66 (own_Len.arv F67) (own_At.arv (i := (3 : Int32)) (b := (101 : Int32)) F67 ⟨by decide, by decide⟩ rfl) (by decide) (by decide)) hZ (W_ 56 rfl) (W_ 50 rfl) (by decide) (by decide)) (g := (mkF m 382 #[rv a, iv 0, iv q, iv x, iv 9, iv 9] [(.int 3), (.int x), (.int q), (.int 0), (.ref a), (.int 3), (.ref b16), (.ref b16), (.ref b3), (.ref b3)])) rfl (by rw [hml]; rfl) (argsL := [(.ref a), (.int 0), (.int q), (.int x), (.int 3)]) (rest := [(.int 3), (.ref b16), (.ref b16), (.ref b3), (.ref b3)]) (lenOf pd__28Ljava_2flang_2fString_3bIICI_29C rfl) rfl (by show 2 * 0 + _ ≤ _; exact Nat.le_of_eq rfl) (hb hby d9_382) (fun _ _ => ⟨rfl, e62, (by decide : 2 + 0 ≤ _), (by decide : 13 + 0 ≤ _)⟩)
  dsimp only [Pt.U, Pt.locs, Pt.cells, Pt.slots] at X74 l74 y74 z74 st74 hQ74
  subst l74 y74 z74
  obtain ⟨rfl, Nq74, P75⟩ := hQ74
  have N74 := Fr.app N62 Nq74
  refine own_G.st (T' := T74) 385 [(.int (nar .char (own_g0 (3 : Int32) q x (own_chr (101 : Int32))))), (.int 3), (.ref b16), (.ref b16), (.ref b3), (.ref b3)] (fun _ kq => st74 _ kq) ?_
  obtain ⟨cl76, Ar76, q176, Sz76, Nz76, Hh76, Gg76⟩ := id F63
  obtain ⟨T76, h76, X76, e76, W76, st76⟩ := stC X74 hx hZ P75 Ar76 (j := (3 : Int32)) (inb_of Sz76 ⟨by decide, by decide⟩) (g := (mkF m 385 #[rv a, iv 0, iv q, iv x, iv 9, iv 9] [(.int (nar .char (own_g0 (3 : Int32) q x (own_chr (101 : Int32))))), (.int 3), (.ref b16), (.ref b16), (.ref b3), (.ref b3)])) rfl rfl (hb hby d9_385)
  have F77 : Arv Z h76 b16 k16 .char (9 : Int32) [(.int (kA 0 97 q x)), (.int (kA 1 108 q x)), (.int (kA 2 116 q x)), (.int (kA 3 101 q x)), (.int 0), (.int 0), (.int 0), (.int 0), (.int 0)] (.int 0) := Arv.set Ar76 q176 Sz76 Nz76 Hh76 Gg76 (fits_nar_char _) W76 3 rfl (Nat.le_of_ble_eq_true rfl)
  have N76 := Fr.snoc X76 N74 g20
  have F78 := F64.wr W76
  have F79 := F65.other W76 (Or.inl ne17)
  have F80 := F66.other W76 (Or.inl ne17)
  have F81 := F67.other W76 ne18
  have F82 := F68.wr W76
  have F83 := F69.other W76 (Or.inl ne19)
  have F84 := F70.other W76 (Or.inl ne19)
  have O86 := O72.wr W76 g20
  have K87 := K73.wr W76 (Or.inr z21)
  refine own_G.st (T' := T76) 386 [(.ref b16), (.ref b3), (.ref b3)] st76 ?_
  refine own_G.sk 387 [(.ref b16), (.ref b16), (.ref b3), (.ref b3)] (fun _ kq => XS.dup X76.here hx rfl (hb hby d9_386) rfl rfl kq) ?_
  refine own_G.sk 388 [(.int 4), (.ref b16), (.ref b16), (.ref b3), (.ref b3)] (fun _ kq => XS.iconst X76.here hx rfl (hb hby d9_387) kq) ?_
  refine own_G.sk 389 [(.ref a), (.int 4), (.ref b16), (.ref b16), (.ref b3), (.ref b3)] (fun _ kq => XS.aloadN X76.here hx rfl (hb hby d9_388) rfl rfl kq) ?_
  refine own_G.sk 390 [(.int 0), (.ref a), (.int 4), (.ref b16), (.ref b16), (.ref b3), (.ref b3)] (fun _ kq => XS.iloadN X76.here hx rfl (hb hby d9_389) rfl kq) ?_
  refine own_G.sk 391 [(.int q), (.int 0), (.ref a), (.int 4), (.ref b16), (.ref b16), (.ref b3), (.ref b3)] (fun _ kq => XS.iloadN X76.here hx rfl (hb hby d9_390) rfl kq) ?_
  refine own_G.sk 392 [(.int x), (.int q), (.int 0), (.ref a), (.int 4), (.ref b16), (.ref b16), (.ref b3), (.ref b3)] (fun _ kq => XS.iloadN X76.here hx rfl (hb hby d9_391) rfl kq) ?_
  refine own_G.sk 393 [(.int 4), (.int x), (.int q), (.int 0), (.ref a), (.int 4), (.ref b16), (.ref b16), (.ref b3), (.ref b3)] (fun _ kq => XS.iconst X76.here hx rfl (hb hby d9_392) kq) ?_
  obtain ⟨_, _, ⟨T88, L88, k88, n88⟩, -, X88, ⟨Lc88, hQ88, l88, y88, z88⟩, st88⟩ := Jvm.LawKit.callS X76 hx (y := own_y22) hown (mvT hZ (W_ 54 rfl)) (mvT hZ (W_ 55 rfl)) (mvT hZ (W_ 50 rfl)) (mvT hZ (W_ 56 rfl)) (by decide) (backOf (W := 5) (rm_g0 l Z a0 hw [] a q x (4 : Int32) csz fm t (9 : Int32) (114 : Int32) h76 n0 O86 S_CS hcs S_IO hio F78 F79 F80 (own_Len.arv F81) (own_At.arv (i := (4 : Int32)) (b := (114 : Int32)) F81 ⟨by decide, by decide⟩ rfl) (by decide) (by decide)) hZ (W_ 56 rfl) (W_ 50 rfl) (by decide) (by decide)) (g := (mkF m 393 #[rv a, iv 0, iv q, iv x, iv 9, iv 9] [(.int 4), (.int x), (.int q), (.int 0), (.ref a), (.int 4), (.ref b16), (.ref b16), (.ref b3), (.ref b3)])) rfl (by rw [hml]; rfl) (argsL := [(.ref a), (.int 0), (.int q), (.int x), (.int 4)]) (rest := [(.int 4), (.ref b16), (.ref b16), (.ref b3), (.ref b3)]) (lenOf pd__28Ljava_2flang_2fString_3bIICI_29C rfl) rfl (by show 2 * 0 + _ ≤ _; exact Nat.le_of_eq rfl) (hb hby d9_393) (fun _ _ => ⟨rfl, e76, (by decide : 2 + 0 ≤ _), (by decide : 13 + 0 ≤ _)⟩)
  dsimp only [Pt.U, Pt.locs, Pt.cells, Pt.slots] at X88 l88 y88 z88 st88 hQ88
  subst l88 y88 z88
  obtain ⟨rfl, Nq88, P89⟩ := hQ88
  have N88 := Fr.app N76 Nq88
  refine own_G.st (T' := T88) 396 [(.int (nar .char (own_g0 (4 : Int32) q x (own_chr (114 : Int32))))), (.int 4), (.ref b16), (.ref b16), (.ref b3), (.ref b3)] (fun _ kq => st88 _ kq) ?_
  obtain ⟨cl90, Ar90, q190, Sz90, Nz90, Hh90, Gg90⟩ := id F77
  obtain ⟨T90, h90, X90, e90, W90, st90⟩ := stC X88 hx hZ P89 Ar90 (j := (4 : Int32)) (inb_of Sz90 ⟨by decide, by decide⟩) (g := (mkF m 396 #[rv a, iv 0, iv q, iv x, iv 9, iv 9] [(.int (nar .char (own_g0 (4 : Int32) q x (own_chr (114 : Int32))))), (.int 4), (.ref b16), (.ref b16), (.ref b3), (.ref b3)])) rfl rfl (hb hby d9_396)
  have F91 : Arv Z h90 b16 k16 .char (9 : Int32) [(.int (kA 0 97 q x)), (.int (kA 1 108 q x)), (.int (kA 2 116 q x)), (.int (kA 3 101 q x)), (.int (kA 4 114 q x)), (.int 0), (.int 0), (.int 0), (.int 0)] (.int 0) := Arv.set Ar90 q190 Sz90 Nz90 Hh90 Gg90 (fits_nar_char _) W90 4 rfl (Nat.le_of_ble_eq_true rfl)
  have N90 := Fr.snoc X90 N88 g20
  have F92 := F78.wr W90
  have F93 := F79.other W90 (Or.inl ne17)
  have F94 := F80.other W90 (Or.inl ne17)
  have F95 := F81.other W90 ne18
  have F96 := F82.wr W90
  have F97 := F83.other W90 (Or.inl ne19)
  have F98 := F84.other W90 (Or.inl ne19)
  have O100 := O86.wr W90 g20
  have K101 := K87.wr W90 (Or.inr z21)
  refine own_G.st (T' := T90) 397 [(.ref b16), (.ref b3), (.ref b3)] st90 ?_
  refine own_G.sk 398 [(.ref b16), (.ref b16), (.ref b3), (.ref b3)] (fun _ kq => XS.dup X90.here hx rfl (hb hby d9_397) rfl rfl kq) ?_
  refine own_G.sk 399 [(.int 5), (.ref b16), (.ref b16), (.ref b3), (.ref b3)] (fun _ kq => XS.iconst X90.here hx rfl (hb hby d9_398) kq) ?_
  refine own_G.sk 400 [(.ref a), (.int 5), (.ref b16), (.ref b16), (.ref b3), (.ref b3)] (fun _ kq => XS.aloadN X90.here hx rfl (hb hby d9_399) rfl rfl kq) ?_
  refine own_G.sk 401 [(.int 0), (.ref a), (.int 5), (.ref b16), (.ref b16), (.ref b3), (.ref b3)] (fun _ kq => XS.iloadN X90.here hx rfl (hb hby d9_400) rfl kq) ?_
  refine own_G.sk 402 [(.int q), (.int 0), (.ref a), (.int 5), (.ref b16), (.ref b16), (.ref b3), (.ref b3)] (fun _ kq => XS.iloadN X90.here hx rfl (hb hby d9_401) rfl kq) ?_
  refine own_G.sk 403 [(.int x), (.int q), (.int 0), (.ref a), (.int 5), (.ref b16), (.ref b16), (.ref b3), (.ref b3)] (fun _ kq => XS.iloadN X90.here hx rfl (hb hby d9_402) rfl kq) ?_
  refine own_G.sk 404 [(.int 5), (.int x), (.int q), (.int 0), (.ref a), (.int 5), (.ref b16), (.ref b16), (.ref b3), (.ref b3)] (fun _ kq => XS.iconst X90.here hx rfl (hb hby d9_403) kq) ?_
  obtain ⟨_, _, ⟨T102, L102, k102, n102⟩, -, X102, ⟨Lc102, hQ102, l102, y102, z102⟩, st102⟩ := Jvm.LawKit.callS X90 hx (y := own_y22) hown (mvT hZ (W_ 54 rfl)) (mvT hZ (W_ 55 rfl)) (mvT hZ (W_ 50 rfl)) (mvT hZ (W_ 56 rfl)) (by decide) (backOf (W := 5) (rm_g0 l Z a0 hw [] a q x (5 : Int32) csz fm t (9 : Int32) (110 : Int32) h90 n0 O100 S_CS hcs S_IO hio F92 F93 F94 (own_Len.arv F95) (own_At.arv (i := (5 : Int32)) (b := (110 : Int32)) F95 ⟨by decide, by decide⟩ rfl) (by decide) (by decide)) hZ (W_ 56 rfl) (W_ 50 rfl) (by decide) (by decide)) (g := (mkF m 404 #[rv a, iv 0, iv q, iv x, iv 9, iv 9] [(.int 5), (.int x), (.int q), (.int 0), (.ref a), (.int 5), (.ref b16), (.ref b16), (.ref b3), (.ref b3)])) rfl (by rw [hml]; rfl) (argsL := [(.ref a), (.int 0), (.int q), (.int x), (.int 5)]) (rest := [(.int 5), (.ref b16), (.ref b16), (.ref b3), (.ref b3)]) (lenOf pd__28Ljava_2flang_2fString_3bIICI_29C rfl) rfl (by show 2 * 0 + _ ≤ _; exact Nat.le_of_eq rfl) (hb hby d9_404) (fun _ _ => ⟨rfl, e90, (by decide : 2 + 0 ≤ _), (by decide : 13 + 0 ≤ _)⟩)
  dsimp only [Pt.U, Pt.locs, Pt.cells, Pt.slots] at X102 l102 y102 z102 st102 hQ102
  subst l102 y102 z102
  obtain ⟨rfl, Nq102, P103⟩ := hQ102
  have N102 := Fr.app N90 Nq102
  refine own_G.st (T' := T102) 407 [(.int (nar .char (own_g0 (5 : Int32) q x (own_chr (110 : Int32))))), (.int 5), (.ref b16), (.ref b16), (.ref b3), (.ref b3)] (fun _ kq => st102 _ kq) ?_
  obtain ⟨cl104, Ar104, q1104, Sz104, Nz104, Hh104, Gg104⟩ := id F91
  obtain ⟨T104, h104, X104, e104, W104, st104⟩ := stC X102 hx hZ P103 Ar104 (j := (5 : Int32)) (inb_of Sz104 ⟨by decide, by decide⟩) (g := (mkF m 407 #[rv a, iv 0, iv q, iv x, iv 9, iv 9] [(.int (nar .char (own_g0 (5 : Int32) q x (own_chr (110 : Int32))))), (.int 5), (.ref b16), (.ref b16), (.ref b3), (.ref b3)])) rfl rfl (hb hby d9_407)
  have F105 : Arv Z h104 b16 k16 .char (9 : Int32) [(.int (kA 0 97 q x)), (.int (kA 1 108 q x)), (.int (kA 2 116 q x)), (.int (kA 3 101 q x)), (.int (kA 4 114 q x)), (.int (kA 5 110 q x)), (.int 0), (.int 0), (.int 0)] (.int 0) := Arv.set Ar104 q1104 Sz104 Nz104 Hh104 Gg104 (fits_nar_char _) W104 5 rfl (Nat.le_of_ble_eq_true rfl)
  have N104 := Fr.snoc X104 N102 g20
  have F106 := F92.wr W104
  have F107 := F93.other W104 (Or.inl ne17)
  have F108 := F94.other W104 (Or.inl ne17)
  have F109 := F95.other W104 ne18
  have F110 := F96.wr W104
  have F111 := F97.other W104 (Or.inl ne19)
  have F112 := F98.other W104 (Or.inl ne19)
  have O114 := O100.wr W104 g20
  have K115 := K101.wr W104 (Or.inr z21)
  refine own_G.st (T' := T104) 408 [(.ref b16), (.ref b3), (.ref b3)] st104 ?_
  refine own_G.sk 409 [(.ref b16), (.ref b16), (.ref b3), (.ref b3)] (fun _ kq => XS.dup X104.here hx rfl (hb hby d9_408) rfl rfl kq) ?_
  refine own_G.sk 411 [(.int 6), (.ref b16), (.ref b16), (.ref b3), (.ref b3)] (fun _ kq => XS.bipush X104.here hx rfl (hb hby d9_409) kq) ?_
  refine own_G.sk 412 [(.ref a), (.int 6), (.ref b16), (.ref b16), (.ref b3), (.ref b3)] (fun _ kq => XS.aloadN X104.here hx rfl (hb hby d9_411) rfl rfl kq) ?_
  refine own_G.sk 413 [(.int 0), (.ref a), (.int 6), (.ref b16), (.ref b16), (.ref b3), (.ref b3)] (fun _ kq => XS.iloadN X104.here hx rfl (hb hby d9_412) rfl kq) ?_
  refine own_G.sk 414 [(.int q), (.int 0), (.ref a), (.int 6), (.ref b16), (.ref b16), (.ref b3), (.ref b3)] (fun _ kq => XS.iloadN X104.here hx rfl (hb hby d9_413) rfl kq) ?_
  refine own_G.sk 415 [(.int x), (.int q), (.int 0), (.ref a), (.int 6), (.ref b16), (.ref b16), (.ref b3), (.ref b3)] (fun _ kq => XS.iloadN X104.here hx rfl (hb hby d9_414) rfl kq) ?_
  refine own_G.sk 417 [(.int 6), (.int x), (.int q), (.int 0), (.ref a), (.int 6), (.ref b16), (.ref b16), (.ref b3), (.ref b3)] (fun _ kq => XS.bipush X104.here hx rfl (hb hby d9_415) kq) ?_
  obtain ⟨_, _, ⟨T116, L116, k116, n116⟩, -, X116, ⟨Lc116, hQ116, l116, y116, z116⟩, st116⟩ := Jvm.LawKit.callS X104 hx (y := own_y22) hown (mvT hZ (W_ 54 rfl)) (mvT hZ (W_ 55 rfl)) (mvT hZ (W_ 50 rfl)) (mvT hZ (W_ 56 rfl)) (by decide) (backOf (W := 5) (rm_g0 l Z a0 hw [] a q x (6 : Int32) csz fm t (9 : Int32) (97 : Int32) h104 n0 O114 S_CS hcs S_IO hio F106 F107 F108 (own_Len.arv F109) (own_At.arv (i := (6 : Int32)) (b := (97 : Int32)) F109 ⟨by decide, by decide⟩ rfl) (by decide) (by decide)) hZ (W_ 56 rfl) (W_ 50 rfl) (by decide) (by decide)) (g := (mkF m 417 #[rv a, iv 0, iv q, iv x, iv 9, iv 9] [(.int 6), (.int x), (.int q), (.int 0), (.ref a), (.int 6), (.ref b16), (.ref b16), (.ref b3), (.ref b3)])) rfl (by rw [hml]; rfl) (argsL := [(.ref a), (.int 0), (.int q), (.int x), (.int 6)]) (rest := [(.int 6), (.ref b16), (.ref b16), (.ref b3), (.ref b3)]) (lenOf pd__28Ljava_2flang_2fString_3bIICI_29C rfl) rfl (by show 2 * 0 + _ ≤ _; exact Nat.le_of_eq rfl) (hb hby d9_417) (fun _ _ => ⟨rfl, e104, (by decide : 2 + 0 ≤ _), (by decide : 13 + 0 ≤ _)⟩)
  dsimp only [Pt.U, Pt.locs, Pt.cells, Pt.slots] at X116 l116 y116 z116 st116 hQ116
  subst l116 y116 z116
  obtain ⟨rfl, Nq116, P117⟩ := hQ116
  have N116 := Fr.app N104 Nq116
  refine own_G.st (T' := T116) 420 [(.int (nar .char (own_g0 (6 : Int32) q x (own_chr (97 : Int32))))), (.int 6), (.ref b16), (.ref b16), (.ref b3), (.ref b3)] (fun _ kq => st116 _ kq) ?_
  obtain ⟨cl118, Ar118, q1118, Sz118, Nz118, Hh118, Gg118⟩ := id F105
  obtain ⟨T118, h118, X118, e118, W118, st118⟩ := stC X116 hx hZ P117 Ar118 (j := (6 : Int32)) (inb_of Sz118 ⟨by decide, by decide⟩) (g := (mkF m 420 #[rv a, iv 0, iv q, iv x, iv 9, iv 9] [(.int (nar .char (own_g0 (6 : Int32) q x (own_chr (97 : Int32))))), (.int 6), (.ref b16), (.ref b16), (.ref b3), (.ref b3)])) rfl rfl (hb hby d9_420)
  have F119 : Arv Z h118 b16 k16 .char (9 : Int32) [(.int (kA 0 97 q x)), (.int (kA 1 108 q x)), (.int (kA 2 116 q x)), (.int (kA 3 101 q x)), (.int (kA 4 114 q x)), (.int (kA 5 110 q x)), (.int (kA 6 97 q x)), (.int 0), (.int 0)] (.int 0) := Arv.set Ar118 q1118 Sz118 Nz118 Hh118 Gg118 (fits_nar_char _) W118 6 rfl (Nat.le_of_ble_eq_true rfl)
  have N118 := Fr.snoc X118 N116 g20
  have F120 := F106.wr W118
  have F121 := F107.other W118 (Or.inl ne17)
  have F122 := F108.other W118 (Or.inl ne17)
  have F123 := F109.other W118 ne18
  have F124 := F110.wr W118
  have F125 := F111.other W118 (Or.inl ne19)
  have F126 := F112.other W118 (Or.inl ne19)
  have O128 := O114.wr W118 g20
  have K129 := K115.wr W118 (Or.inr z21)
  refine own_G.st (T' := T118) 421 [(.ref b16), (.ref b3), (.ref b3)] st118 ?_
  refine own_G.sk 422 [(.ref b16), (.ref b16), (.ref b3), (.ref b3)] (fun _ kq => XS.dup X118.here hx rfl (hb hby d9_421) rfl rfl kq) ?_
  refine own_G.sk 424 [(.int 7), (.ref b16), (.ref b16), (.ref b3), (.ref b3)] (fun _ kq => XS.bipush X118.here hx rfl (hb hby d9_422) kq) ?_
  refine own_G.sk 425 [(.ref a), (.int 7), (.ref b16), (.ref b16), (.ref b3), (.ref b3)] (fun _ kq => XS.aloadN X118.here hx rfl (hb hby d9_424) rfl rfl kq) ?_
  refine own_G.sk 426 [(.int 0), (.ref a), (.int 7), (.ref b16), (.ref b16), (.ref b3), (.ref b3)] (fun _ kq => XS.iloadN X118.here hx rfl (hb hby d9_425) rfl kq) ?_
  refine own_G.sk 427 [(.int q), (.int 0), (.ref a), (.int 7), (.ref b16), (.ref b16), (.ref b3), (.ref b3)] (fun _ kq => XS.iloadN X118.here hx rfl (hb hby d9_426) rfl kq) ?_
  refine own_G.sk 428 [(.int x), (.int q), (.int 0), (.ref a), (.int 7), (.ref b16), (.ref b16), (.ref b3), (.ref b3)] (fun _ kq => XS.iloadN X118.here hx rfl (hb hby d9_427) rfl kq) ?_
  refine own_G.sk 430 [(.int 7), (.int x), (.int q), (.int 0), (.ref a), (.int 7), (.ref b16), (.ref b16), (.ref b3), (.ref b3)] (fun _ kq => XS.bipush X118.here hx rfl (hb hby d9_428) kq) ?_
  obtain ⟨_, _, ⟨T130, L130, k130, n130⟩, -, X130, ⟨Lc130, hQ130, l130, y130, z130⟩, st130⟩ := Jvm.LawKit.callS X118 hx (y := own_y22) hown (mvT hZ (W_ 54 rfl)) (mvT hZ (W_ 55 rfl)) (mvT hZ (W_ 50 rfl)) (mvT hZ (W_ 56 rfl)) (by decide) (backOf (W := 5) (rm_g0 l Z a0 hw [] a q x (7 : Int32) csz fm t (9 : Int32) (116 : Int32) h118 n0 O128 S_CS hcs S_IO hio F120 F121 F122 (own_Len.arv F123) (own_At.arv (i := (7 : Int32)) (b := (116 : Int32)) F123 ⟨by decide, by decide⟩ rfl) (by decide) (by decide)) hZ (W_ 56 rfl) (W_ 50 rfl) (by decide) (by decide)) (g := (mkF m 430 #[rv a, iv 0, iv q, iv x, iv 9, iv 9] [(.int 7), (.int x), (.int q), (.int 0), (.ref a), (.int 7), (.ref b16), (.ref b16), (.ref b3), (.ref b3)])) rfl (by rw [hml]; rfl) (argsL := [(.ref a), (.int 0), (.int q), (.int x), (.int 7)]) (rest := [(.int 7), (.ref b16), (.ref b16), (.ref b3), (.ref b3)]) (lenOf pd__28Ljava_2flang_2fString_3bIICI_29C rfl) rfl (by show 2 * 0 + _ ≤ _; exact Nat.le_of_eq rfl) (hb hby d9_430) (fun _ _ => ⟨rfl, e118, (by decide : 2 + 0 ≤ _), (by decide : 13 + 0 ≤ _)⟩)
  dsimp only [Pt.U, Pt.locs, Pt.cells, Pt.slots] at X130 l130 y130 z130 st130 hQ130
  subst l130 y130 z130
  obtain ⟨rfl, Nq130, P131⟩ := hQ130
  have N130 := Fr.app N118 Nq130
  refine own_G.st (T' := T130) 433 [(.int (nar .char (own_g0 (7 : Int32) q x (own_chr (116 : Int32))))), (.int 7), (.ref b16), (.ref b16), (.ref b3), (.ref b3)] (fun _ kq => st130 _ kq) ?_
  obtain ⟨cl132, Ar132, q1132, Sz132, Nz132, Hh132, Gg132⟩ := id F119
  obtain ⟨T132, h132, X132, e132, W132, st132⟩ := stC X130 hx hZ P131 Ar132 (j := (7 : Int32)) (inb_of Sz132 ⟨by decide, by decide⟩) (g := (mkF m 433 #[rv a, iv 0, iv q, iv x, iv 9, iv 9] [(.int (nar .char (own_g0 (7 : Int32) q x (own_chr (116 : Int32))))), (.int 7), (.ref b16), (.ref b16), (.ref b3), (.ref b3)])) rfl rfl (hb hby d9_433)
  have F133 : Arv Z h132 b16 k16 .char (9 : Int32) [(.int (kA 0 97 q x)), (.int (kA 1 108 q x)), (.int (kA 2 116 q x)), (.int (kA 3 101 q x)), (.int (kA 4 114 q x)), (.int (kA 5 110 q x)), (.int (kA 6 97 q x)), (.int (kA 7 116 q x)), (.int 0)] (.int 0) := Arv.set Ar132 q1132 Sz132 Nz132 Hh132 Gg132 (fits_nar_char _) W132 7 rfl (Nat.le_of_ble_eq_true rfl)
  have N132 := Fr.snoc X132 N130 g20
  have F134 := F120.wr W132
  have F135 := F121.other W132 (Or.inl ne17)
  have F136 := F122.other W132 (Or.inl ne17)
  have F137 := F123.other W132 ne18
  have F138 := F124.wr W132
  have F139 := F125.other W132 (Or.inl ne19)
  have F140 := F126.other W132 (Or.inl ne19)
  have O142 := O128.wr W132 g20
  have K143 := K129.wr W132 (Or.inr z21)
  refine own_G.st (T' := T132) 434 [(.ref b16), (.ref b3), (.ref b3)] st132 ?_
  refine own_G.sk 435 [(.ref b16), (.ref b16), (.ref b3), (.ref b3)] (fun _ kq => XS.dup X132.here hx rfl (hb hby d9_434) rfl rfl kq) ?_
  refine own_G.sk 437 [(.int 8), (.ref b16), (.ref b16), (.ref b3), (.ref b3)] (fun _ kq => XS.bipush X132.here hx rfl (hb hby d9_435) kq) ?_
  refine own_G.sk 438 [(.ref a), (.int 8), (.ref b16), (.ref b16), (.ref b3), (.ref b3)] (fun _ kq => XS.aloadN X132.here hx rfl (hb hby d9_437) rfl rfl kq) ?_
  refine own_G.sk 439 [(.int 0), (.ref a), (.int 8), (.ref b16), (.ref b16), (.ref b3), (.ref b3)] (fun _ kq => XS.iloadN X132.here hx rfl (hb hby d9_438) rfl kq) ?_
  refine own_G.sk 440 [(.int q), (.int 0), (.ref a), (.int 8), (.ref b16), (.ref b16), (.ref b3), (.ref b3)] (fun _ kq => XS.iloadN X132.here hx rfl (hb hby d9_439) rfl kq) ?_
  refine own_G.sk 441 [(.int x), (.int q), (.int 0), (.ref a), (.int 8), (.ref b16), (.ref b16), (.ref b3), (.ref b3)] (fun _ kq => XS.iloadN X132.here hx rfl (hb hby d9_440) rfl kq) ?_
  refine own_G.sk 443 [(.int 8), (.int x), (.int q), (.int 0), (.ref a), (.int 8), (.ref b16), (.ref b16), (.ref b3), (.ref b3)] (fun _ kq => XS.bipush X132.here hx rfl (hb hby d9_441) kq) ?_
  obtain ⟨_, _, ⟨T144, L144, k144, n144⟩, -, X144, ⟨Lc144, hQ144, l144, y144, z144⟩, st144⟩ := Jvm.LawKit.callS X132 hx (y := own_y22) hown (mvT hZ (W_ 54 rfl)) (mvT hZ (W_ 55 rfl)) (mvT hZ (W_ 50 rfl)) (mvT hZ (W_ 56 rfl)) (by decide) (backOf (W := 5) (rm_g0 l Z a0 hw [] a q x (8 : Int32) csz fm t (9 : Int32) (101 : Int32) h132 n0 O142 S_CS hcs S_IO hio F134 F135 F136 (own_Len.arv F137) (own_At.arv (i := (8 : Int32)) (b := (101 : Int32)) F137 ⟨by decide, by decide⟩ rfl) (by decide) (by decide)) hZ (W_ 56 rfl) (W_ 50 rfl) (by decide) (by decide)) (g := (mkF m 443 #[rv a, iv 0, iv q, iv x, iv 9, iv 9] [(.int 8), (.int x), (.int q), (.int 0), (.ref a), (.int 8), (.ref b16), (.ref b16), (.ref b3), (.ref b3)])) rfl (by rw [hml]; rfl) (argsL := [(.ref a), (.int 0), (.int q), (.int x), (.int 8)]) (rest := [(.int 8), (.ref b16), (.ref b16), (.ref b3), (.ref b3)]) (lenOf pd__28Ljava_2flang_2fString_3bIICI_29C rfl) rfl (by show 2 * 0 + _ ≤ _; exact Nat.le_of_eq rfl) (hb hby d9_443) (fun _ _ => ⟨rfl, e132, (by decide : 2 + 0 ≤ _), (by decide : 13 + 0 ≤ _)⟩)
  dsimp only [Pt.U, Pt.locs, Pt.cells, Pt.slots] at X144 l144 y144 z144 st144 hQ144
  subst l144 y144 z144
  obtain ⟨rfl, Nq144, P145⟩ := hQ144
  have N144 := Fr.app N132 Nq144
  refine own_G.st (T' := T144) 446 [(.int (nar .char (own_g0 (8 : Int32) q x (own_chr (101 : Int32))))), (.int 8), (.ref b16), (.ref b16), (.ref b3), (.ref b3)] (fun _ kq => st144 _ kq) ?_
  obtain ⟨cl146, Ar146, q1146, Sz146, Nz146, Hh146, Gg146⟩ := id F133
  obtain ⟨T146, h146, X146, e146, W146, st146⟩ := stC X144 hx hZ P145 Ar146 (j := (8 : Int32)) (inb_of Sz146 ⟨by decide, by decide⟩) (g := (mkF m 446 #[rv a, iv 0, iv q, iv x, iv 9, iv 9] [(.int (nar .char (own_g0 (8 : Int32) q x (own_chr (101 : Int32))))), (.int 8), (.ref b16), (.ref b16), (.ref b3), (.ref b3)])) rfl rfl (hb hby d9_446)
  have F147 : Arv Z h146 b16 k16 .char (9 : Int32) [(.int (kA 0 97 q x)), (.int (kA 1 108 q x)), (.int (kA 2 116 q x)), (.int (kA 3 101 q x)), (.int (kA 4 114 q x)), (.int (kA 5 110 q x)), (.int (kA 6 97 q x)), (.int (kA 7 116 q x)), (.int (kA 8 101 q x))] (.int 0) := Arv.set Ar146 q1146 Sz146 Nz146 Hh146 Gg146 (fits_nar_char _) W146 8 rfl (Nat.le_of_ble_eq_true rfl)
  have N146 := Fr.snoc X146 N144 g20
  have F148 := F134.wr W146
  have F149 := F135.other W146 (Or.inl ne17)
  have F150 := F136.other W146 (Or.inl ne17)
  have F151 := F137.other W146 ne18
  have F152 := F138.wr W146
  have F153 := F139.other W146 (Or.inl ne19)
  have F154 := F140.other W146 (Or.inl ne19)
  have O156 := O142.wr W146 g20
  have K157 := K143.wr W146 (Or.inr z21)
  refine own_G.st (T' := T146) 447 [(.ref b16), (.ref b3), (.ref b3)] st146 ?_
  have hp158 : ∀ c ∈ ([(kA 0 97 q x), (kA 1 108 q x), (kA 2 116 q x), (kA 3 101 q x), (kA 4 114 q x), (kA 5 110 q x), (kA 6 97 q x), (kA 7 116 q x), (kA 8 101 q x)] : List Int32), ¬ c < 0 ∧ ¬ (255 : Int32) < c := by
    intro c hc
    simp only [List.mem_cons, List.not_mem_nil, or_false] at hc
    rcases hc with rfl | rfl | rfl | rfl | rfl | rfl | rfl | rfl | rfl
    · exact own_nn (own_g0b hxr (own_cb ⟨by decide, by decide⟩))
    · exact own_nn (own_g0b hxr (own_cb ⟨by decide, by decide⟩))
    · exact own_nn (own_g0b hxr (own_cb ⟨by decide, by decide⟩))
    · exact own_nn (own_g0b hxr (own_cb ⟨by decide, by decide⟩))
    · exact own_nn (own_g0b hxr (own_cb ⟨by decide, by decide⟩))
    · exact own_nn (own_g0b hxr (own_cb ⟨by decide, by decide⟩))
    · exact own_nn (own_g0b hxr (own_cb ⟨by decide, by decide⟩))
    · exact own_nn (own_g0b hxr (own_cb ⟨by decide, by decide⟩))
    · exact own_nn (own_g0b hxr (own_cb ⟨by decide, by decide⟩))
  obtain ⟨_, _, ⟨T159, L159, k159, n159⟩, -, X159, ⟨Lc159, hQ159, l159, y159, z159⟩, st159⟩ := X146.specialBack hx (y := own_y17) rfl hown (mvT hZ (W_ 57 rfl)) (mvT hZ (W_ 58 rfl)) (mvT hZ (W_ 59 rfl)) (by decide) (StrChars.Road.backV (W := 1) hZ hws (kI := 4) (W_ 2 rfl) (cs := ([(kA 0 97 q x), (kA 1 108 q x), (kA 2 116 q x), (kA 3 101 q x), (kA 4 114 q x), (kA 5 110 q x), (kA 6 97 q x), (kA 7 116 q x), (kA 8 101 q x)] : List Int32)) (bs := (([(kA 0 97 q x), (kA 1 108 q x), (kA 2 116 q x), (kA 3 101 q x), (kA 4 114 q x), (kA 5 110 q x), (kA 6 97 q x), (kA 7 116 q x), (kA 8 101 q x)] : List Int32).map (fun c => c.toInt8.toInt32))) (n := 9) g6 O156.le F152 F153 F154 F147 (Sta.ext O156.2 S_CS) hcs rfl rfl (by decide) (by decide) hp158 rfl (by decide) (by decide)) (g := (mkF m 447 #[rv a, iv 0, iv q, iv x, iv 9, iv 9] [(.ref b16), (.ref b3), (.ref b3)])) rfl (by rw [hml]; rfl) (Steps.refl _) (a := b3) (argsL := [(.ref b16)]) (rest := [(.ref b3)]) (lenOf pd__28_5bC_29V rfl) rfl (by show 2 * 0 + _ ≤ _; exact Nat.le_of_eq rfl) (hb hby d9_447) (fun _ _ => ⟨rfl, e146, (by decide : 2 + 1 ≤ _), (by decide : 13 + 9 ≤ _)⟩)
  dsimp only [Pt.U, Pt.locs, Pt.cells, Pt.slots] at X159 l159 y159 z159 st159 hQ159
  subst l159 y159 z159
  obtain ⟨rfl, P160, P161, P162, P163, b164, kx165, P166, P167, P168, P169, P170⟩ := hQ159
  have N159 := Fr.app N146 P160
  have ne171 : a ≠ b164 := Nat.ne_of_lt (Nat.lt_of_lt_of_le F148.lt P167)
  have ne172 : t ≠ b164 := Nat.ne_of_lt (Nat.lt_of_lt_of_le F151.lt P167)
  have ne173 : b3 ≠ b164 := Nat.ne_of_lt (Nat.lt_of_lt_of_le F152.lt P167)
  have ne174 : b16 ≠ b164 := Nat.ne_of_lt (Nat.lt_of_lt_of_le F147.lt P167)
  have g175 : n0 ≤ b164 := Nat.le_trans O156.le P167
  have z176 : h0.size ≤ b164 := Nat.le_trans K157.1 P167
  have F177 := F148.keep P161
  have F178 := F149.keep P161 (ninS ne4 nin0)
  have F179 := F150.keep P161 (ninS ne4 nin0)
  have F180 := F151.keep P161 (ninS ne5 nin0)
  have F181 := F152.keep P161
  have F182 := F147.keep P161 (ninS (Ne.symm ne19) nin0)
  have O183 := O156.keep P161 (allS g6 all0)
  have K184 := K157.trans P161 (allS (Or.inr z7) all0)
  refine own_G.st (T' := T159) 450 [(.ref b3)] (fun _ kq => st159.trans kq) ?_
  exact own_ret X159 rfl (v := some (.ref b3)) (fun h => by rw [Bd.returns] at h; cases h) Bd.notSynchronized ⟨b3, b164, kx165, rfl, N159, K184, z7, z176, P162, P163, P169, hp158, P170⟩ (by decide) (by decide) (fun fs hr => own_retR X159 hx Bd.returns rfl rfl (hb hby d9_450) hr)
theorem d9_15 : decode method_3_code 15 = .ok (.iload_n 1, 1) := by decide +kernel
theorem d9_16 : decode method_3_code 16 = .ok (.iconst 1, 1) := by decide +kernel
theorem d9_17 : decode method_3_code 17 = .ok (.if_icmp .ne 10, 3) := by decide +kernel
theorem d9_20 : decode method_3_code 20 = .ok (.iload 4, 2) := by decide +kernel
theorem d9_22 : decode method_3_code 22 = .ok (.iconst 1, 1) := by decide +kernel
theorem d9_23 : decode method_3_code 23 = .ok (.isub, 1) := by decide +kernel
theorem d9_24 : decode method_3_code 24 = .ok (.goto 7, 3) := by decide +kernel
theorem d9_223 : decode method_3_code 223 = .ok (.new 8, 3) := by decide +kernel
theorem d9_226 : decode method_3_code 226 = .ok (.dup, 1) := by decide +kernel
theorem d9_227 : decode method_3_code 227 = .ok (.bipush 8, 2) := by decide +kernel
theorem d9_229 : decode method_3_code 229 = .ok (.newarray .char, 2) := by decide +kernel
theorem d9_231 : decode method_3_code 231 = .ok (.dup, 1) := by decide +kernel
theorem d9_232 : decode method_3_code 232 = .ok (.iconst 0, 1) := by decide +kernel
theorem d9_233 : decode method_3_code 233 = .ok (.aload_n 0, 1) := by decide +kernel
theorem d9_234 : decode method_3_code 234 = .ok (.iload_n 1, 1) := by decide +kernel
theorem d9_235 : decode method_3_code 235 = .ok (.iload_n 2, 1) := by decide +kernel
theorem d9_236 : decode method_3_code 236 = .ok (.iload_n 3, 1) := by decide +kernel
theorem d9_237 : decode method_3_code 237 = .ok (.iconst 0, 1) := by decide +kernel
theorem d9_238 : decode method_3_code 238 = .ok (.invokestatic 17, 3) := by decide +kernel
theorem d9_241 : decode method_3_code 241 = .ok (.castore, 1) := by decide +kernel
theorem d9_242 : decode method_3_code 242 = .ok (.dup, 1) := by decide +kernel
theorem d9_243 : decode method_3_code 243 = .ok (.iconst 1, 1) := by decide +kernel
theorem d9_244 : decode method_3_code 244 = .ok (.aload_n 0, 1) := by decide +kernel
theorem d9_245 : decode method_3_code 245 = .ok (.iload_n 1, 1) := by decide +kernel
theorem d9_246 : decode method_3_code 246 = .ok (.iload_n 2, 1) := by decide +kernel
theorem d9_247 : decode method_3_code 247 = .ok (.iload_n 3, 1) := by decide +kernel
theorem d9_248 : decode method_3_code 248 = .ok (.iconst 1, 1) := by decide +kernel
theorem d9_249 : decode method_3_code 249 = .ok (.invokestatic 17, 3) := by decide +kernel
theorem d9_252 : decode method_3_code 252 = .ok (.castore, 1) := by decide +kernel
theorem d9_253 : decode method_3_code 253 = .ok (.dup, 1) := by decide +kernel
theorem d9_254 : decode method_3_code 254 = .ok (.iconst 2, 1) := by decide +kernel
theorem d9_255 : decode method_3_code 255 = .ok (.aload_n 0, 1) := by decide +kernel
theorem d9_256 : decode method_3_code 256 = .ok (.iload_n 1, 1) := by decide +kernel
theorem d9_257 : decode method_3_code 257 = .ok (.iload_n 2, 1) := by decide +kernel
theorem d9_258 : decode method_3_code 258 = .ok (.iload_n 3, 1) := by decide +kernel
theorem d9_259 : decode method_3_code 259 = .ok (.iconst 2, 1) := by decide +kernel
theorem d9_260 : decode method_3_code 260 = .ok (.invokestatic 17, 3) := by decide +kernel
theorem d9_263 : decode method_3_code 263 = .ok (.castore, 1) := by decide +kernel
theorem d9_264 : decode method_3_code 264 = .ok (.dup, 1) := by decide +kernel
theorem d9_265 : decode method_3_code 265 = .ok (.iconst 3, 1) := by decide +kernel
theorem d9_266 : decode method_3_code 266 = .ok (.aload_n 0, 1) := by decide +kernel
theorem d9_267 : decode method_3_code 267 = .ok (.iload_n 1, 1) := by decide +kernel
theorem d9_268 : decode method_3_code 268 = .ok (.iload_n 2, 1) := by decide +kernel
theorem d9_269 : decode method_3_code 269 = .ok (.iload_n 3, 1) := by decide +kernel
theorem d9_270 : decode method_3_code 270 = .ok (.iconst 3, 1) := by decide +kernel
theorem d9_271 : decode method_3_code 271 = .ok (.invokestatic 17, 3) := by decide +kernel
theorem d9_274 : decode method_3_code 274 = .ok (.castore, 1) := by decide +kernel
theorem d9_275 : decode method_3_code 275 = .ok (.dup, 1) := by decide +kernel
theorem d9_276 : decode method_3_code 276 = .ok (.iconst 4, 1) := by decide +kernel
theorem d9_277 : decode method_3_code 277 = .ok (.aload_n 0, 1) := by decide +kernel
theorem d9_278 : decode method_3_code 278 = .ok (.iload_n 1, 1) := by decide +kernel
theorem d9_279 : decode method_3_code 279 = .ok (.iload_n 2, 1) := by decide +kernel
theorem d9_280 : decode method_3_code 280 = .ok (.iload_n 3, 1) := by decide +kernel
theorem d9_281 : decode method_3_code 281 = .ok (.iconst 4, 1) := by decide +kernel
theorem d9_282 : decode method_3_code 282 = .ok (.invokestatic 17, 3) := by decide +kernel
theorem d9_285 : decode method_3_code 285 = .ok (.castore, 1) := by decide +kernel
theorem d9_286 : decode method_3_code 286 = .ok (.dup, 1) := by decide +kernel
theorem d9_287 : decode method_3_code 287 = .ok (.iconst 5, 1) := by decide +kernel
theorem d9_288 : decode method_3_code 288 = .ok (.aload_n 0, 1) := by decide +kernel
theorem d9_289 : decode method_3_code 289 = .ok (.iload_n 1, 1) := by decide +kernel
theorem d9_290 : decode method_3_code 290 = .ok (.iload_n 2, 1) := by decide +kernel
theorem d9_291 : decode method_3_code 291 = .ok (.iload_n 3, 1) := by decide +kernel
theorem d9_292 : decode method_3_code 292 = .ok (.iconst 5, 1) := by decide +kernel
theorem d9_293 : decode method_3_code 293 = .ok (.invokestatic 17, 3) := by decide +kernel
theorem d9_296 : decode method_3_code 296 = .ok (.castore, 1) := by decide +kernel
theorem d9_297 : decode method_3_code 297 = .ok (.dup, 1) := by decide +kernel
theorem d9_298 : decode method_3_code 298 = .ok (.bipush 6, 2) := by decide +kernel
theorem d9_300 : decode method_3_code 300 = .ok (.aload_n 0, 1) := by decide +kernel
theorem d9_301 : decode method_3_code 301 = .ok (.iload_n 1, 1) := by decide +kernel
theorem d9_302 : decode method_3_code 302 = .ok (.iload_n 2, 1) := by decide +kernel
theorem d9_303 : decode method_3_code 303 = .ok (.iload_n 3, 1) := by decide +kernel
theorem d9_304 : decode method_3_code 304 = .ok (.bipush 6, 2) := by decide +kernel
theorem d9_306 : decode method_3_code 306 = .ok (.invokestatic 17, 3) := by decide +kernel
theorem d9_309 : decode method_3_code 309 = .ok (.castore, 1) := by decide +kernel
theorem d9_310 : decode method_3_code 310 = .ok (.dup, 1) := by decide +kernel
theorem d9_311 : decode method_3_code 311 = .ok (.bipush 7, 2) := by decide +kernel
theorem d9_313 : decode method_3_code 313 = .ok (.aload_n 0, 1) := by decide +kernel
theorem d9_314 : decode method_3_code 314 = .ok (.iload_n 1, 1) := by decide +kernel
theorem d9_315 : decode method_3_code 315 = .ok (.iload_n 2, 1) := by decide +kernel
theorem d9_316 : decode method_3_code 316 = .ok (.iload_n 3, 1) := by decide +kernel
theorem d9_317 : decode method_3_code 317 = .ok (.bipush 7, 2) := by decide +kernel
theorem d9_319 : decode method_3_code 319 = .ok (.invokestatic 17, 3) := by decide +kernel
theorem d9_322 : decode method_3_code 322 = .ok (.castore, 1) := by decide +kernel
theorem d9_323 : decode method_3_code 323 = .ok (.invokespecial 23, 3) := by decide +kernel
theorem d9_326 : decode method_3_code 326 = .ok (.areturn, 1) := by decide +kernel
theorem ef_mka1 (m : MethodId) (a : Addr) (q : Int32) (x : Int32) : entryFrame m #[(.ref a), (.int 1), (.int q), (.int x)] 6 = mkF m 0 #[rv a, iv 1, iv q, iv x, .unset, .unset] [] := by
  first | (simp [entryFrame, mkF, argsToLocals, Value.category]; done) | rfl
def Q_mka1 (Z : State) (a : Addr) (q : Int32) (x : Int32) (csz : Int32) (fm : Value) (t : Addr) (kb : ClassId) (h0 : Heap) (n0 : Nat) (v : Option Value) (h : Heap) (L : List Loc) : Prop := ∃ (r : Addr), ∃ (t2 : Addr), ∃ (kb2 : ClassId), v = some (.ref r) ∧ Fr n0 L ∧ Keep h0 h [] ∧ h0.size ≤ r ∧ h0.size ≤ t2 ∧ Exa Z h r "java/lang/String" ∧ Fld Z h r "java/lang/String" "coder" "B" (.int 0) ∧ Fld Z h r "java/lang/String" "value" "[B" (.ref t2) ∧ (∀ c ∈ ([(kB 0 97 108 q), (kB 1 108 116 q), (kB 2 116 101 q), (kB 3 101 114 q), (kB 4 114 110 q), (kB 5 110 97 q), (kB 6 97 116 q), (kB 7 116 101 q)] : List Int32), ¬ c < 0 ∧ ¬ (255 : Int32) < c) ∧ Arv Z h t2 kb2 .byte (8 : Int32) ((([(kB 0 97 108 q), (kB 1 108 116 q), (kB 2 116 101 q), (kB 3 101 114 q), (kB 4 114 110 q), (kB 5 110 97 q), (kB 6 97 116 q), (kB 7 116 101 q)] : List Int32).map (fun c => c.toInt8.toInt32)).map Value.int) (.int 0)
set_option maxRecDepth 65536 in
set_option maxHeartbeats 40000000 in
theorem rm_mka1 (l : Launch) (Z : State) (a0 : Array Value) (hw : ∀ d ∈ tables_1, d.before a0 Z = true) (ws : List Jvm.Cond) (a : Addr) (q : Int32) (x : Int32) (csz : Int32) (fm : Value) (t : Addr) (kb : ClassId) (h0 : Heap) (n0 : Nat) (O0 : Old Z n0 h0) (S_CS : Sta Z Z.heap "java/lang/String" "COMPACT_STRINGS" "Z" (.int csz)) (hcs : ¬ csz = (0 : Int32)) (S_IO : Sta Z Z.heap "jdk/internal/util/Preconditions" "SIOOBE_FORMATTER" "Ljava/util/function/BiFunction;" fm) (hio : fm.isRef = true) (Ea : Exa Z h0 a "java/lang/String") (Fv : Fld Z h0 a "java/lang/String" "value" "[B" (.ref t)) (Fc : Fld Z h0 a "java/lang/String" "coder" "B" (.int 0)) (AR : Arv Z h0 t kb .byte (9 : Int32) [(.int 97), (.int 108), (.int 116), (.int 101), (.int 114), (.int 110), (.int 97), (.int 116), (.int 101)] (.int 0)) (hxr : ¬ x < (0 : Int32) ∧ ¬ (255 : Int32) < x) :
    MetFree l own_y23 (head1 (Jvm.Cond.code own_y23 method_3_code 6 (some (.object "java/lang/String")) :: ws) ({ frames := 5, cells := 3, slots := 20, locals := 74 } : Room)) (fun aq_ Uq_ => aq_ = #[(.ref a), (.int 1), (.int q), (.int x)] ∧ Z.Warmed39 Uq_.vm ∧ Uq_.heap = h0) (fun _ _ _ _ _ => True) (fun _ Uq_ oq_ Ur_ => ∃ vq_ Lq_, oq_ = .returned vq_ ∧ Q_mka1 Z a q x csz fm t kb h0 n0 vq_ Ur_.heap Lq_ ∧ FrameEnd Uq_ oq_ Ur_ Lq_ ({ frames := 5, cells := 3, slots := 20, locals := 74 } : Room).cells ({ frames := 5, cells := 3, slots := 20, locals := 74 } : Room).slots) := by
  refine MetFree.of_bodySF (plainFor_of_name pn_com_2fexample_2ftermflow_2ftermflow_2ffeed_2fLinkIsArtefactPinLaw) hisR ?_
  intro p e s m args below meth c s₁ Bd hml0 hP hK
  obtain ⟨rfl, hZ, hh⟩ := hP
  have W_ : ∀ {d : Jvm.Cond} (i : Nat), tables_1[i]? = some d → d.before a0 Z = true := fun i h => hw _ (List.mem_of_getElem? h)
  have hx := Bd.exec
  have hby := Bd.bytes
  have hml : c.maxLocals = 6 := hml0
  have hown : s.vm.findClass "com/example/termflow/termflow/feed/LinkIsArtefactPinLaw" = some m.cls := findClass_of_methodNamed Bd.named
  have hnm := (name_of_methodNamed Bd.named Bd.method).1
  have X0 : Stand p l e ({ frames := 5, cells := 3, slots := 20, locals := 74 } : Room) s m #[(.ref a), (.int 1), (.int q), (.int x)] below meth c s₁ [] 0 0 := Stand.of_body Bd
  have e0 : s₁.heap = h0 := by rw [← hh, Bd.state]; rfl
  have N0 := Fr.nil n0
  have K0 := Keep.refl h0 []
  refine own_G.start (Q := Q_mka1 Z a q x csz fm t kb h0 n0) (ef_mka1 m a q x) ?_
  have hws : ∀ d ∈ StrChars.Road.words, d.before a0 Z = true := fun d hd => hw d (own_hws d hd)
  refine own_G.sk 1 [(.ref a)] (fun _ kq => XS.aloadN X0.here hx rfl (hb hby d9_0) rfl rfl kq) ?_
  obtain ⟨cq1, kq1, q1a, q1b, q1c⟩ := isOf hZ e0 Ea
  obtain ⟨_, _, ⟨T1, L1, k1, n1⟩, -, X1, ⟨Lc1, hQ1, l1, y1, z1⟩, st1⟩ := X0.virtualBack hx (y := own_y7) (z := own_y7) hown (mvT hZ (W_ 8 rfl)) (mvT hZ (W_ 9 rfl)) (notFace_of_selects (args := #[]) (mvT hZ (W_ 11 rfl))) (mvT hZ (W_ 11 rfl)) (mvT hZ (W_ 10 rfl)) (by decide) (backOf (W := 0) (rm_strlen l Z a0 hw [] a csz t (9 : Int32) h0 n0 O0 S_CS hcs Fc Fv (own_Len.arv AR) Ea) hZ (W_ 12 rfl) (W_ 1 rfl) (by decide) (by decide)) q1a q1c (g := (mkF m 1 #[rv a, iv 1, iv q, iv x, .unset, .unset] [(.ref a)])) rfl (by rw [hml]; rfl) (Steps.refl _) (argsL := []) (rest := []) (lenOf pd__28_29I rfl) rfl (by show 2 * 0 + _ ≤ _; exact Nat.le_of_eq rfl) (hb hby d9_1) (fun _ _ => ⟨rfl, e0, (by decide : 0 + 0 ≤ _), (by decide : 0 + 0 ≤ _)⟩)
  dsimp only [Pt.U, Pt.locs, Pt.cells, Pt.slots] at X1 l1 y1 z1 st1 hQ1
  subst l1 y1 z1
  obtain ⟨rfl, Nq1, P2⟩ := hQ1
  have N1 := Fr.app N0 Nq1
  refine own_G.st (T' := T1) 4 [(.int 9)] (fun _ kq => st1.trans kq) ?_
  refine own_G.si 6 [] (fun _ kq => XS.istore X1.here hx rfl (hb hby d9_4) rfl (l' := #[rv a, iv 1, iv q, iv x, iv 9, .unset]) rfl kq) ?_
  refine own_G.sk 7 [(.int 1)] (fun _ kq => XS.iloadN X1.here hx rfl (hb hby d9_6) rfl kq) ?_
  have hc7 : ¬ ((1 : Int32) = (0 : Int32)) := (by decide)
  refine own_G.sk 15 [] (fun _ kq => XS.ifYes X1.here hx rfl (pc0 := 7) (pc' := 15) rfl (hb hby d9_7) rfl ((if0 _ _).trans (feq hc7).2) (by decide) (by decide) kq) ?_
  refine own_G.sk 16 [(.int 1)] (fun _ kq => XS.iloadN X1.here hx rfl (hb hby d9_15) rfl kq) ?_
  refine own_G.sk 17 [(.int 1), (.int 1)] (fun _ kq => XS.iconst X1.here hx rfl (hb hby d9_16) kq) ?_
  have hc17 : (1 : Int32) = (1 : Int32) := (by decide)
  refine own_G.sk 20 [] (fun _ kq => XS.icmpNo X1.here hx rfl (hb hby d9_17) rfl (teq hc17).2 kq) ?_
  refine own_G.sk 22 [(.int 9)] (fun _ kq => XS.iload X1.here hx rfl (hb hby d9_20) rfl kq) ?_
  refine own_G.sk 23 [(.int 1), (.int 9)] (fun _ kq => XS.iconst X1.here hx rfl (hb hby d9_22) kq) ?_
  refine own_G.sk 24 [(.int ((9 : Int32) - (1 : Int32)))] (fun _ kq => XS.isub X1.here hx rfl (hb hby d9_23) rfl kq) ?_
  refine own_G.sk 31 [(.int ((9 : Int32) - (1 : Int32)))] (fun _ kq => XS.goto X1.here hx rfl (pc0 := 24) (pc' := 31) rfl (hb hby d9_24) (by decide) (by decide) kq) ?_
  refine own_G.si 33 [] (fun _ kq => XS.istore X1.here hx rfl (hb hby d9_31) rfl (l' := #[rv a, iv 1, iv q, iv x, iv 9, .val (.int ((9 : Int32) - (1 : Int32)))]) rfl kq) ?_
  have hl5 : ((9 : Int32) - (1 : Int32)) = (8 : Int32) := by decide
  refine own_G.cast (g' := (mkF m 33 #[rv a, iv 1, iv q, iv x, iv 9, iv 8] [])) (by rw [hl5]) ?_
  refine own_G.sk 35 [(.int 8)] (fun _ kq => XS.iload X1.here hx rfl (hb hby d9_33) rfl kq) ?_
  refine own_G.sk 37 [(.int 6), (.int 8)] (fun _ kq => XS.bipush X1.here hx rfl (hb hby d9_35) kq) ?_
  have hc37 : ¬ ((8 : Int32) = (6 : Int32)) := (by decide)
  refine own_G.sk 118 [] (fun _ kq => XS.icmpYes X1.here hx rfl (pc0 := 37) (pc' := 118) rfl (hb hby d9_37) rfl (feq hc37).2 (by decide) (by decide) kq) ?_
  refine own_G.sk 120 [(.int 8)] (fun _ kq => XS.iload X1.here hx rfl (hb hby d9_118) rfl kq) ?_
  refine own_G.sk 122 [(.int 7), (.int 8)] (fun _ kq => XS.bipush X1.here hx rfl (hb hby d9_120) kq) ?_
  have hc122 : ¬ ((8 : Int32) = (7 : Int32)) := (by decide)
  refine own_G.sk 216 [] (fun _ kq => XS.icmpYes X1.here hx rfl (pc0 := 122) (pc' := 216) rfl (hb hby d9_122) rfl (feq hc122).2 (by decide) (by decide) kq) ?_
  refine own_G.sk 218 [(.int 8)] (fun _ kq => XS.iload X1.here hx rfl (hb hby d9_216) rfl kq) ?_
  refine own_G.sk 220 [(.int 8), (.int 8)] (fun _ kq => XS.bipush X1.here hx rfl (hb hby d9_218) kq) ?_
  have hc220 : (8 : Int32) = (8 : Int32) := (by decide)
  refine own_G.sk 223 [] (fun _ kq => XS.icmpNo X1.here hx rfl (hb hby d9_220) rfl (teq hc220).2 kq) ?_
  obtain ⟨T3, h3, X3, e3, E3, A3, D3, -, st3⟩ := newO X1 hx hZ hown (W_ 52 rfl) (W_ 2 rfl) (W_ 1 rfl) P2 (g := (mkF m 223 #[rv a, iv 1, iv q, iv x, iv 9, iv 8] [])) rfl (hb hby d9_223) (by decide) (by decide)
  obtain ⟨b3, g3⟩ : ∃ z, z = h0.size := ⟨_, rfl⟩
  rw [← g3] at A3 D3 st3
  have ne4 : a ≠ b3 := Nat.ne_of_lt (Nat.lt_of_lt_of_le Ea.lt (Nat.le_of_eq g3.symm))
  have ne5 : t ≠ b3 := Nat.ne_of_lt (Nat.lt_of_lt_of_le AR.lt (Nat.le_of_eq g3.symm))
  have g6 : n0 ≤ b3 := Nat.le_trans O0.le (Nat.le_of_eq g3.symm)
  have z7 : h0.size ≤ b3 := Nat.le_trans K0.1 (Nat.le_of_eq g3.symm)
  have F8 := Ea.ext E3
  have F9 := Fv.ext E3
  have F10 := Fc.ext E3
  have F11 := AR.ext E3
  have O12 := O0.ext E3
  have K13 := K0.ext E3
  have F14 : Fld Z h3 b3 "java/lang/String" "value" "[B" .null := D3 (Or.inr (W_ 4 rfl)) (ty := (.array .byte)) (by decide)
  have F15 : Fld Z h3 b3 "java/lang/String" "coder" "B" (.int 0) := D3 (Or.inr (W_ 5 rfl)) (ty := .byte) (by decide)
  refine own_G.st (T' := T3) 226 [(.ref b3)] st3 ?_
  refine own_G.sk 227 [(.ref b3), (.ref b3)] (fun _ kq => XS.dup X3.here hx rfl (hb hby d9_226) rfl rfl kq) ?_
  refine own_G.sk 229 [(.int 8), (.ref b3), (.ref b3)] (fun _ kq => XS.bipush X3.here hx rfl (hb hby d9_227) kq) ?_
  obtain ⟨T16, h16, k16, X16, e16, E16, A16, st16⟩ := newP X3 hx hZ (W_ 53 rfl) e3 (g := (mkF m 229 #[rv a, iv 1, iv q, iv x, iv 9, iv 8] [(.int 8), (.ref b3), (.ref b3)])) rfl (hb hby d9_229) rfl (by decide) (cap := 8) (by decide) (by decide) (by decide) (by decide)
  obtain ⟨b16, g16⟩ : ∃ z, z = h3.size := ⟨_, rfl⟩
  rw [← g16] at A16 st16
  have ne17 : a ≠ b16 := Nat.ne_of_lt (Nat.lt_of_lt_of_le F8.lt (Nat.le_of_eq g16.symm))
  have ne18 : t ≠ b16 := Nat.ne_of_lt (Nat.lt_of_lt_of_le F11.lt (Nat.le_of_eq g16.symm))
  have ne19 : b3 ≠ b16 := Nat.ne_of_lt (Nat.lt_of_lt_of_le A3.lt (Nat.le_of_eq g16.symm))
  have g20 : n0 ≤ b16 := Nat.le_trans O12.le (Nat.le_of_eq g16.symm)
  have z21 : h0.size ≤ b16 := Nat.le_trans K13.1 (Nat.le_of_eq g16.symm)
  have F22 := F8.ext E16
  have F23 := F9.ext E16
  have F24 := F10.ext E16
  have F25 := F11.ext E16
  have F26 := A3.ext E16
  have F27 := F14.ext E16
  have F28 := F15.ext E16
  have O29 := O12.ext E16
  have K30 := K13.ext E16
  have F31 : Arv Z h16 b16 k16 .char (8 : Int32) [(.int 0), (.int 0), (.int 0), (.int 0), (.int 0), (.int 0), (.int 0), (.int 0)] (.int 0) := (Arv.new A16 (by decide)).pad (pad_rep [] (.int 0) 8)
  refine own_G.st (T' := T16) 231 [(.ref b16), (.ref b3), (.ref b3)] st16 ?_
  refine own_G.sk 232 [(.ref b16), (.ref b16), (.ref b3), (.ref b3)] (fun _ kq => XS.dup X16.here hx rfl (hb hby d9_231) rfl rfl kq) ?_
  refine own_G.sk 233 [(.int 0), (.ref b16), (.ref b16), (.ref b3), (.ref b3)] (fun _ kq => XS.iconst X16.here hx rfl (hb hby d9_232) kq) ?_
  refine own_G.sk 234 [(.ref a), (.int 0), (.ref b16), (.ref b16), (.ref b3), (.ref b3)] (fun _ kq => XS.aloadN X16.here hx rfl (hb hby d9_233) rfl rfl kq) ?_
  refine own_G.sk 235 [(.int 1), (.ref a), (.int 0), (.ref b16), (.ref b16), (.ref b3), (.ref b3)] (fun _ kq => XS.iloadN X16.here hx rfl (hb hby d9_234) rfl kq) ?_
  refine own_G.sk 236 [(.int q), (.int 1), (.ref a), (.int 0), (.ref b16), (.ref b16), (.ref b3), (.ref b3)] (fun _ kq => XS.iloadN X16.here hx rfl (hb hby d9_235) rfl kq) ?_
  refine own_G.sk 237 [(.int x), (.int q), (.int 1), (.ref a), (.int 0), (.ref b16), (.ref b16), (.ref b3), (.ref b3)] (fun _ kq => XS.iloadN X16.here hx rfl (hb hby d9_236) rfl kq) ?_
  refine own_G.sk 238 [(.int 0), (.int x), (.int q), (.int 1), (.ref a), (.int 0), (.ref b16), (.ref b16), (.ref b3), (.ref b3)] (fun _ kq => XS.iconst X16.here hx rfl (hb hby d9_237) kq) ?_
  obtain ⟨_, _, ⟨T32, L32, k32, n32⟩, -, X32, ⟨Lc32, hQ32, l32, y32, z32⟩, st32⟩ := Jvm.LawKit.callS X16 hx (y := own_y22) hown (mvT hZ (W_ 54 rfl)) (mvT hZ (W_ 55 rfl)) (mvT hZ (W_ 50 rfl)) (mvT hZ (W_ 56 rfl)) (by decide) (backOf (W := 5) (rm_g1 l Z a0 hw [] a q x (0 : Int32) csz fm t (9 : Int32) (97 : Int32) (108 : Int32) h16 n0 O29 S_CS hcs S_IO hio F22 F23 F24 (own_Len.arv F25) (own_At.arv (i := (0 : Int32)) (b := (97 : Int32)) F25 ⟨by decide, by decide⟩ rfl) (by decide) (by decide) (own_At.arv (i := (1 : Int32)) (b := (108 : Int32)) F25 ⟨by decide, by decide⟩ rfl) (by decide) (by decide)) hZ (W_ 56 rfl) (W_ 50 rfl) (by decide) (by decide)) (g := (mkF m 238 #[rv a, iv 1, iv q, iv x, iv 9, iv 8] [(.int 0), (.int x), (.int q), (.int 1), (.ref a), (.int 0), (.ref b16), (.ref b16), (.ref b3), (.ref b3)])) rfl (by rw [hml]; rfl) (argsL := [(.ref a), (.int 1), (.int q), (.int x), (.int 0)]) (rest := [(.int 0), (.ref b16), (.ref b16), (.ref b3), (.ref b3)]) (lenOf pd__28Ljava_2flang_2fString_3bIICI_29C rfl) rfl (by show 2 * 0 + _ ≤ _; exact Nat.le_of_eq rfl) (hb hby d9_238) (fun _ _ => ⟨rfl, e16, (by decide : 2 + 0 ≤ _), (by decide : 12 + 0 ≤ _)⟩)
  dsimp only [Pt.U, Pt.locs, Pt.cells, Pt.slots] at X32 l32 y32 z32 st32 hQ32
  subst l32 y32 z32
  obtain ⟨rfl, Nq32, P33⟩ := hQ32
  have N32 := Fr.app N1 Nq32
  refine own_G.st (T' := T32) 241 [(.int (nar .char (own_g1 (0 : Int32) q (own_chr (97 : Int32)) (own_chr (108 : Int32))))), (.int 0), (.ref b16), (.ref b16), (.ref b3), (.ref b3)] (fun _ kq => st32 _ kq) ?_
  obtain ⟨cl34, Ar34, q134, Sz34, Nz34, Hh34, Gg34⟩ := id F31
  obtain ⟨T34, h34, X34, e34, W34, st34⟩ := stC X32 hx hZ P33 Ar34 (j := (0 : Int32)) (inb_of Sz34 ⟨by decide, by decide⟩) (g := (mkF m 241 #[rv a, iv 1, iv q, iv x, iv 9, iv 8] [(.int (nar .char (own_g1 (0 : Int32) q (own_chr (97 : Int32)) (own_chr (108 : Int32))))), (.int 0), (.ref b16), (.ref b16), (.ref b3), (.ref b3)])) rfl rfl (hb hby d9_241)
  have F35 : Arv Z h34 b16 k16 .char (8 : Int32) [(.int (kB 0 97 108 q)), (.int 0), (.int 0), (.int 0), (.int 0), (.int 0), (.int 0), (.int 0)] (.int 0) := Arv.set Ar34 q134 Sz34 Nz34 Hh34 Gg34 (fits_nar_char _) W34 0 rfl (Nat.le_of_ble_eq_true rfl)
  have N34 := Fr.snoc X34 N32 g20
  have F36 := F22.wr W34
  have F37 := F23.other W34 (Or.inl ne17)
  have F38 := F24.other W34 (Or.inl ne17)
  have F39 := F25.other W34 ne18
  have F40 := F26.wr W34
  have F41 := F27.other W34 (Or.inl ne19)
  have F42 := F28.other W34 (Or.inl ne19)
  have O44 := O29.wr W34 g20
  have K45 := K30.wr W34 (Or.inr z21)
  refine own_G.st (T' := T34) 242 [(.ref b16), (.ref b3), (.ref b3)] st34 ?_
  refine own_G.sk 243 [(.ref b16), (.ref b16), (.ref b3), (.ref b3)] (fun _ kq => XS.dup X34.here hx rfl (hb hby d9_242) rfl rfl kq) ?_
  refine own_G.sk 244 [(.int 1), (.ref b16), (.ref b16), (.ref b3), (.ref b3)] (fun _ kq => XS.iconst X34.here hx rfl (hb hby d9_243) kq) ?_
  refine own_G.sk 245 [(.ref a), (.int 1), (.ref b16), (.ref b16), (.ref b3), (.ref b3)] (fun _ kq => XS.aloadN X34.here hx rfl (hb hby d9_244) rfl rfl kq) ?_
  refine own_G.sk 246 [(.int 1), (.ref a), (.int 1), (.ref b16), (.ref b16), (.ref b3), (.ref b3)] (fun _ kq => XS.iloadN X34.here hx rfl (hb hby d9_245) rfl kq) ?_
  refine own_G.sk 247 [(.int q), (.int 1), (.ref a), (.int 1), (.ref b16), (.ref b16), (.ref b3), (.ref b3)] (fun _ kq => XS.iloadN X34.here hx rfl (hb hby d9_246) rfl kq) ?_
  refine own_G.sk 248 [(.int x), (.int q), (.int 1), (.ref a), (.int 1), (.ref b16), (.ref b16), (.ref b3), (.ref b3)] (fun _ kq => XS.iloadN X34.here hx rfl (hb hby d9_247) rfl kq) ?_
  refine own_G.sk 249 [(.int 1), (.int x), (.int q), (.int 1), (.ref a), (.int 1), (.ref b16), (.ref b16), (.ref b3), (.ref b3)] (fun _ kq => XS.iconst X34.here hx rfl (hb hby d9_248) kq) ?_
  obtain ⟨_, _, ⟨T46, L46, k46, n46⟩, -, X46, ⟨Lc46, hQ46, l46, y46, z46⟩, st46⟩ := Jvm.LawKit.callS X34 hx (y := own_y22) hown (mvT hZ (W_ 54 rfl)) (mvT hZ (W_ 55 rfl)) (mvT hZ (W_ 50 rfl)) (mvT hZ (W_ 56 rfl)) (by decide) (backOf (W := 5) (rm_g1 l Z a0 hw [] a q x (1 : Int32) csz fm t (9 : Int32) (108 : Int32) (116 : Int32) h34 n0 O44 S_CS hcs S_IO hio F36 F37 F38 (own_Len.arv F39) (own_At.arv (i := (1 : Int32)) (b := (108 : Int32)) F39 ⟨by decide, by decide⟩ rfl) (by decide) (by decide) (own_At.arv (i := (2 : Int32)) (b := (116 : Int32)) F39 ⟨by decide, by decide⟩ rfl) (by decide) (by decide)) hZ (W_ 56 rfl) (W_ 50 rfl) (by decide) (by decide)) (g := (mkF m 249 #[rv a, iv 1, iv q, iv x, iv 9, iv 8] [(.int 1), (.int x), (.int q), (.int 1), (.ref a), (.int 1), (.ref b16), (.ref b16), (.ref b3), (.ref b3)])) rfl (by rw [hml]; rfl) (argsL := [(.ref a), (.int 1), (.int q), (.int x), (.int 1)]) (rest := [(.int 1), (.ref b16), (.ref b16), (.ref b3), (.ref b3)]) (lenOf pd__28Ljava_2flang_2fString_3bIICI_29C rfl) rfl (by show 2 * 0 + _ ≤ _; exact Nat.le_of_eq rfl) (hb hby d9_249) (fun _ _ => ⟨rfl, e34, (by decide : 2 + 0 ≤ _), (by decide : 12 + 0 ≤ _)⟩)
  dsimp only [Pt.U, Pt.locs, Pt.cells, Pt.slots] at X46 l46 y46 z46 st46 hQ46
  subst l46 y46 z46
  obtain ⟨rfl, Nq46, P47⟩ := hQ46
  have N46 := Fr.app N34 Nq46
  refine own_G.st (T' := T46) 252 [(.int (nar .char (own_g1 (1 : Int32) q (own_chr (108 : Int32)) (own_chr (116 : Int32))))), (.int 1), (.ref b16), (.ref b16), (.ref b3), (.ref b3)] (fun _ kq => st46 _ kq) ?_
  obtain ⟨cl48, Ar48, q148, Sz48, Nz48, Hh48, Gg48⟩ := id F35
  obtain ⟨T48, h48, X48, e48, W48, st48⟩ := stC X46 hx hZ P47 Ar48 (j := (1 : Int32)) (inb_of Sz48 ⟨by decide, by decide⟩) (g := (mkF m 252 #[rv a, iv 1, iv q, iv x, iv 9, iv 8] [(.int (nar .char (own_g1 (1 : Int32) q (own_chr (108 : Int32)) (own_chr (116 : Int32))))), (.int 1), (.ref b16), (.ref b16), (.ref b3), (.ref b3)])) rfl rfl (hb hby d9_252)
  have F49 : Arv Z h48 b16 k16 .char (8 : Int32) [(.int (kB 0 97 108 q)), (.int (kB 1 108 116 q)), (.int 0), (.int 0), (.int 0), (.int 0), (.int 0), (.int 0)] (.int 0) := Arv.set Ar48 q148 Sz48 Nz48 Hh48 Gg48 (fits_nar_char _) W48 1 rfl (Nat.le_of_ble_eq_true rfl)
  have N48 := Fr.snoc X48 N46 g20
  have F50 := F36.wr W48
  have F51 := F37.other W48 (Or.inl ne17)
  have F52 := F38.other W48 (Or.inl ne17)
  have F53 := F39.other W48 ne18
  have F54 := F40.wr W48
  have F55 := F41.other W48 (Or.inl ne19)
  have F56 := F42.other W48 (Or.inl ne19)
  have O58 := O44.wr W48 g20
  have K59 := K45.wr W48 (Or.inr z21)
  refine own_G.st (T' := T48) 253 [(.ref b16), (.ref b3), (.ref b3)] st48 ?_
  refine own_G.sk 254 [(.ref b16), (.ref b16), (.ref b3), (.ref b3)] (fun _ kq => XS.dup X48.here hx rfl (hb hby d9_253) rfl rfl kq) ?_
  refine own_G.sk 255 [(.int 2), (.ref b16), (.ref b16), (.ref b3), (.ref b3)] (fun _ kq => XS.iconst X48.here hx rfl (hb hby d9_254) kq) ?_
  refine own_G.sk 256 [(.ref a), (.int 2), (.ref b16), (.ref b16), (.ref b3), (.ref b3)] (fun _ kq => XS.aloadN X48.here hx rfl (hb hby d9_255) rfl rfl kq) ?_
  refine own_G.sk 257 [(.int 1), (.ref a), (.int 2), (.ref b16), (.ref b16), (.ref b3), (.ref b3)] (fun _ kq => XS.iloadN X48.here hx rfl (hb hby d9_256) rfl kq) ?_
  refine own_G.sk 258 [(.int q), (.int 1), (.ref a), (.int 2), (.ref b16), (.ref b16), (.ref b3), (.ref b3)] (fun _ kq => XS.iloadN X48.here hx rfl (hb hby d9_257) rfl kq) ?_
  refine own_G.sk 259 [(.int x), (.int q), (.int 1), (.ref a), (.int 2), (.ref b16), (.ref b16), (.ref b3), (.ref b3)] (fun _ kq => XS.iloadN X48.here hx rfl (hb hby d9_258) rfl kq) ?_
  refine own_G.sk 260 [(.int 2), (.int x), (.int q), (.int 1), (.ref a), (.int 2), (.ref b16), (.ref b16), (.ref b3), (.ref b3)] (fun _ kq => XS.iconst X48.here hx rfl (hb hby d9_259) kq) ?_
  obtain ⟨_, _, ⟨T60, L60, k60, n60⟩, -, X60, ⟨Lc60, hQ60, l60, y60, z60⟩, st60⟩ := Jvm.LawKit.callS X48 hx (y := own_y22) hown (mvT hZ (W_ 54 rfl)) (mvT hZ (W_ 55 rfl)) (mvT hZ (W_ 50 rfl)) (mvT hZ (W_ 56 rfl)) (by decide) (backOf (W := 5) (rm_g1 l Z a0 hw [] a q x (2 : Int32) csz fm t (9 : Int32) (116 : Int32) (101 : Int32) h48 n0 O58 S_CS hcs S_IO hio F50 F51 F52 (own_Len.arv F53) (own_At.arv (i := (2 : Int32)) (b := (116 : Int32)) F53 ⟨by decide, by decide⟩ rfl) (by decide) (by decide) (own_At.arv (i := (3 : Int32)) (b := (101 : Int32)) F53 ⟨by decide, by decide⟩ rfl) (by decide) (by decide)) hZ (W_ 56 rfl) (W_ 50 rfl) (by decide) (by decide)) (g := (mkF m 260 #[rv a, iv 1, iv q, iv x, iv 9, iv 8] [(.int 2), (.int x), (.int q), (.int 1), (.ref a), (.int 2), (.ref b16), (.ref b16), (.ref b3), (.ref b3)])) rfl (by rw [hml]; rfl) (argsL := [(.ref a), (.int 1), (.int q), (.int x), (.int 2)]) (rest := [(.int 2), (.ref b16), (.ref b16), (.ref b3), (.ref b3)]) (lenOf pd__28Ljava_2flang_2fString_3bIICI_29C rfl) rfl (by show 2 * 0 + _ ≤ _; exact Nat.le_of_eq rfl) (hb hby d9_260) (fun _ _ => ⟨rfl, e48, (by decide : 2 + 0 ≤ _), (by decide : 12 + 0 ≤ _)⟩)
  dsimp only [Pt.U, Pt.locs, Pt.cells, Pt.slots] at X60 l60 y60 z60 st60 hQ60
  subst l60 y60 z60
  obtain ⟨rfl, Nq60, P61⟩ := hQ60
  have N60 := Fr.app N48 Nq60
  refine own_G.st (T' := T60) 263 [(.int (nar .char (own_g1 (2 : Int32) q (own_chr (116 : Int32)) (own_chr (101 : Int32))))), (.int 2), (.ref b16), (.ref b16), (.ref b3), (.ref b3)] (fun _ kq => st60 _ kq) ?_
  obtain ⟨cl62, Ar62, q162, Sz62, Nz62, Hh62, Gg62⟩ := id F49
  obtain ⟨T62, h62, X62, e62, W62, st62⟩ := stC X60 hx hZ P61 Ar62 (j := (2 : Int32)) (inb_of Sz62 ⟨by decide, by decide⟩) (g := (mkF m 263 #[rv a, iv 1, iv q, iv x, iv 9, iv 8] [(.int (nar .char (own_g1 (2 : Int32) q (own_chr (116 : Int32)) (own_chr (101 : Int32))))), (.int 2), (.ref b16), (.ref b16), (.ref b3), (.ref b3)])) rfl rfl (hb hby d9_263)
  have F63 : Arv Z h62 b16 k16 .char (8 : Int32) [(.int (kB 0 97 108 q)), (.int (kB 1 108 116 q)), (.int (kB 2 116 101 q)), (.int 0), (.int 0), (.int 0), (.int 0), (.int 0)] (.int 0) := Arv.set Ar62 q162 Sz62 Nz62 Hh62 Gg62 (fits_nar_char _) W62 2 rfl (Nat.le_of_ble_eq_true rfl)
  have N62 := Fr.snoc X62 N60 g20
  have F64 := F50.wr W62
  have F65 := F51.other W62 (Or.inl ne17)
  have F66 := F52.other W62 (Or.inl ne17)
  have F67 := F53.other W62 ne18
  have F68 := F54.wr W62
  have F69 := F55.other W62 (Or.inl ne19)
  have F70 := F56.other W62 (Or.inl ne19)
  have O72 := O58.wr W62 g20
  have K73 := K59.wr W62 (Or.inr z21)
  refine own_G.st (T' := T62) 264 [(.ref b16), (.ref b3), (.ref b3)] st62 ?_
  refine own_G.sk 265 [(.ref b16), (.ref b16), (.ref b3), (.ref b3)] (fun _ kq => XS.dup X62.here hx rfl (hb hby d9_264) rfl rfl kq) ?_
  refine own_G.sk 266 [(.int 3), (.ref b16), (.ref b16), (.ref b3), (.ref b3)] (fun _ kq => XS.iconst X62.here hx rfl (hb hby d9_265) kq) ?_
  refine own_G.sk 267 [(.ref a), (.int 3), (.ref b16), (.ref b16), (.ref b3), (.ref b3)] (fun _ kq => XS.aloadN X62.here hx rfl (hb hby d9_266) rfl rfl kq) ?_
  refine own_G.sk 268 [(.int 1), (.ref a), (.int 3), (.ref b16), (.ref b16), (.ref b3), (.ref b3)] (fun _ kq => XS.iloadN X62.here hx rfl (hb hby d9_267) rfl kq) ?_
  refine own_G.sk 269 [(.int q), (.int 1), (.ref a), (.int 3), (.ref b16), (.ref b16), (.ref b3), (.ref b3)] (fun _ kq => XS.iloadN X62.here hx rfl (hb hby d9_268) rfl kq) ?_
  refine own_G.sk 270 [(.int x), (.int q), (.int 1), (.ref a), (.int 3), (.ref b16), (.ref b16), (.ref b3), (.ref b3)] (fun _ kq => XS.iloadN X62.here hx rfl (hb hby d9_269) rfl kq) ?_
  refine own_G.sk 271 [(.int 3), (.int x), (.int q), (.int 1), (.ref a), (.int 3), (.ref b16), (.ref b16), (.ref b3), (.ref b3)] (fun _ kq => XS.iconst X62.here hx rfl (hb hby d9_270) kq) ?_
  obtain ⟨_, _, ⟨T74, L74, k74, n74⟩, -, X74, ⟨Lc74, hQ74, l74, y74, z74⟩, st74⟩ := Jvm.LawKit.callS X62 hx (y := own_y22) hown (mvT hZ (W_ 54 rfl)) (mvT hZ (W_ 55 rfl)) (mvT hZ (W_ 50 rfl)) (mvT hZ (W_ 56 rfl)) (by decide) (backOf (W := 5) (rm_g1 l Z a0 hw [] a q x (3 : Int32) csz fm t (9 : Int32) (101 : Int32) (114 : Int32) h62 n0 O72 S_CS hcs S_IO hio F64 F65 F66 (own_Len.arv F67) (own_At.arv (i := (3 : Int32)) (b := (101 : Int32)) F67 ⟨by decide, by decide⟩ rfl) (by decide) (by decide) (own_At.arv (i := (4 : Int32)) (b := (114 : Int32)) F67 ⟨by decide, by decide⟩ rfl) (by decide) (by decide)) hZ (W_ 56 rfl) (W_ 50 rfl) (by decide) (by decide)) (g := (mkF m 271 #[rv a, iv 1, iv q, iv x, iv 9, iv 8] [(.int 3), (.int x), (.int q), (.int 1), (.ref a), (.int 3), (.ref b16), (.ref b16), (.ref b3), (.ref b3)])) rfl (by rw [hml]; rfl) (argsL := [(.ref a), (.int 1), (.int q), (.int x), (.int 3)]) (rest := [(.int 3), (.ref b16), (.ref b16), (.ref b3), (.ref b3)]) (lenOf pd__28Ljava_2flang_2fString_3bIICI_29C rfl) rfl (by show 2 * 0 + _ ≤ _; exact Nat.le_of_eq rfl) (hb hby d9_271) (fun _ _ => ⟨rfl, e62, (by decide : 2 + 0 ≤ _), (by decide : 12 + 0 ≤ _)⟩)
  dsimp only [Pt.U, Pt.locs, Pt.cells, Pt.slots] at X74 l74 y74 z74 st74 hQ74
  subst l74 y74 z74
  obtain ⟨rfl, Nq74, P75⟩ := hQ74
  have N74 := Fr.app N62 Nq74
  refine own_G.st (T' := T74) 274 [(.int (nar .char (own_g1 (3 : Int32) q (own_chr (101 : Int32)) (own_chr (114 : Int32))))), (.int 3), (.ref b16), (.ref b16), (.ref b3), (.ref b3)] (fun _ kq => st74 _ kq) ?_
  obtain ⟨cl76, Ar76, q176, Sz76, Nz76, Hh76, Gg76⟩ := id F63
  obtain ⟨T76, h76, X76, e76, W76, st76⟩ := stC X74 hx hZ P75 Ar76 (j := (3 : Int32)) (inb_of Sz76 ⟨by decide, by decide⟩) (g := (mkF m 274 #[rv a, iv 1, iv q, iv x, iv 9, iv 8] [(.int (nar .char (own_g1 (3 : Int32) q (own_chr (101 : Int32)) (own_chr (114 : Int32))))), (.int 3), (.ref b16), (.ref b16), (.ref b3), (.ref b3)])) rfl rfl (hb hby d9_274)
  have F77 : Arv Z h76 b16 k16 .char (8 : Int32) [(.int (kB 0 97 108 q)), (.int (kB 1 108 116 q)), (.int (kB 2 116 101 q)), (.int (kB 3 101 114 q)), (.int 0), (.int 0), (.int 0), (.int 0)] (.int 0) := Arv.set Ar76 q176 Sz76 Nz76 Hh76 Gg76 (fits_nar_char _) W76 3 rfl (Nat.le_of_ble_eq_true rfl)
  have N76 := Fr.snoc X76 N74 g20
  have F78 := F64.wr W76
  have F79 := F65.other W76 (Or.inl ne17)
  have F80 := F66.other W76 (Or.inl ne17)
  have F81 := F67.other W76 ne18
  have F82 := F68.wr W76
  have F83 := F69.other W76 (Or.inl ne19)
  have F84 := F70.other W76 (Or.inl ne19)
  have O86 := O72.wr W76 g20
  have K87 := K73.wr W76 (Or.inr z21)
  refine own_G.st (T' := T76) 275 [(.ref b16), (.ref b3), (.ref b3)] st76 ?_
  refine own_G.sk 276 [(.ref b16), (.ref b16), (.ref b3), (.ref b3)] (fun _ kq => XS.dup X76.here hx rfl (hb hby d9_275) rfl rfl kq) ?_
  refine own_G.sk 277 [(.int 4), (.ref b16), (.ref b16), (.ref b3), (.ref b3)] (fun _ kq => XS.iconst X76.here hx rfl (hb hby d9_276) kq) ?_
  refine own_G.sk 278 [(.ref a), (.int 4), (.ref b16), (.ref b16), (.ref b3), (.ref b3)] (fun _ kq => XS.aloadN X76.here hx rfl (hb hby d9_277) rfl rfl kq) ?_
  refine own_G.sk 279 [(.int 1), (.ref a), (.int 4), (.ref b16), (.ref b16), (.ref b3), (.ref b3)] (fun _ kq => XS.iloadN X76.here hx rfl (hb hby d9_278) rfl kq) ?_
  refine own_G.sk 280 [(.int q), (.int 1), (.ref a), (.int 4), (.ref b16), (.ref b16), (.ref b3), (.ref b3)] (fun _ kq => XS.iloadN X76.here hx rfl (hb hby d9_279) rfl kq) ?_
  refine own_G.sk 281 [(.int x), (.int q), (.int 1), (.ref a), (.int 4), (.ref b16), (.ref b16), (.ref b3), (.ref b3)] (fun _ kq => XS.iloadN X76.here hx rfl (hb hby d9_280) rfl kq) ?_
  refine own_G.sk 282 [(.int 4), (.int x), (.int q), (.int 1), (.ref a), (.int 4), (.ref b16), (.ref b16), (.ref b3), (.ref b3)] (fun _ kq => XS.iconst X76.here hx rfl (hb hby d9_281) kq) ?_
  obtain ⟨_, _, ⟨T88, L88, k88, n88⟩, -, X88, ⟨Lc88, hQ88, l88, y88, z88⟩, st88⟩ := Jvm.LawKit.callS X76 hx (y := own_y22) hown (mvT hZ (W_ 54 rfl)) (mvT hZ (W_ 55 rfl)) (mvT hZ (W_ 50 rfl)) (mvT hZ (W_ 56 rfl)) (by decide) (backOf (W := 5) (rm_g1 l Z a0 hw [] a q x (4 : Int32) csz fm t (9 : Int32) (114 : Int32) (110 : Int32) h76 n0 O86 S_CS hcs S_IO hio F78 F79 F80 (own_Len.arv F81) (own_At.arv (i := (4 : Int32)) (b := (114 : Int32)) F81 ⟨by decide, by decide⟩ rfl) (by decide) (by decide) (own_At.arv (i := (5 : Int32)) (b := (110 : Int32)) F81 ⟨by decide, by decide⟩ rfl) (by decide) (by decide)) hZ (W_ 56 rfl) (W_ 50 rfl) (by decide) (by decide)) (g := (mkF m 282 #[rv a, iv 1, iv q, iv x, iv 9, iv 8] [(.int 4), (.int x), (.int q), (.int 1), (.ref a), (.int 4), (.ref b16), (.ref b16), (.ref b3), (.ref b3)])) rfl (by rw [hml]; rfl) (argsL := [(.ref a), (.int 1), (.int q), (.int x), (.int 4)]) (rest := [(.int 4), (.ref b16), (.ref b16), (.ref b3), (.ref b3)]) (lenOf pd__28Ljava_2flang_2fString_3bIICI_29C rfl) rfl (by show 2 * 0 + _ ≤ _; exact Nat.le_of_eq rfl) (hb hby d9_282) (fun _ _ => ⟨rfl, e76, (by decide : 2 + 0 ≤ _), (by decide : 12 + 0 ≤ _)⟩)
  dsimp only [Pt.U, Pt.locs, Pt.cells, Pt.slots] at X88 l88 y88 z88 st88 hQ88
  subst l88 y88 z88
  obtain ⟨rfl, Nq88, P89⟩ := hQ88
  have N88 := Fr.app N76 Nq88
  refine own_G.st (T' := T88) 285 [(.int (nar .char (own_g1 (4 : Int32) q (own_chr (114 : Int32)) (own_chr (110 : Int32))))), (.int 4), (.ref b16), (.ref b16), (.ref b3), (.ref b3)] (fun _ kq => st88 _ kq) ?_
  obtain ⟨cl90, Ar90, q190, Sz90, Nz90, Hh90, Gg90⟩ := id F77
  obtain ⟨T90, h90, X90, e90, W90, st90⟩ := stC X88 hx hZ P89 Ar90 (j := (4 : Int32)) (inb_of Sz90 ⟨by decide, by decide⟩) (g := (mkF m 285 #[rv a, iv 1, iv q, iv x, iv 9, iv 8] [(.int (nar .char (own_g1 (4 : Int32) q (own_chr (114 : Int32)) (own_chr (110 : Int32))))), (.int 4), (.ref b16), (.ref b16), (.ref b3), (.ref b3)])) rfl rfl (hb hby d9_285)
  have F91 : Arv Z h90 b16 k16 .char (8 : Int32) [(.int (kB 0 97 108 q)), (.int (kB 1 108 116 q)), (.int (kB 2 116 101 q)), (.int (kB 3 101 114 q)), (.int (kB 4 114 110 q)), (.int 0), (.int 0), (.int 0)] (.int 0) := Arv.set Ar90 q190 Sz90 Nz90 Hh90 Gg90 (fits_nar_char _) W90 4 rfl (Nat.le_of_ble_eq_true rfl)
  have N90 := Fr.snoc X90 N88 g20
  have F92 := F78.wr W90
  have F93 := F79.other W90 (Or.inl ne17)
  have F94 := F80.other W90 (Or.inl ne17)
  have F95 := F81.other W90 ne18
  have F96 := F82.wr W90
  have F97 := F83.other W90 (Or.inl ne19)
  have F98 := F84.other W90 (Or.inl ne19)
  have O100 := O86.wr W90 g20
  have K101 := K87.wr W90 (Or.inr z21)
  refine own_G.st (T' := T90) 286 [(.ref b16), (.ref b3), (.ref b3)] st90 ?_
  refine own_G.sk 287 [(.ref b16), (.ref b16), (.ref b3), (.ref b3)] (fun _ kq => XS.dup X90.here hx rfl (hb hby d9_286) rfl rfl kq) ?_
  refine own_G.sk 288 [(.int 5), (.ref b16), (.ref b16), (.ref b3), (.ref b3)] (fun _ kq => XS.iconst X90.here hx rfl (hb hby d9_287) kq) ?_
  refine own_G.sk 289 [(.ref a), (.int 5), (.ref b16), (.ref b16), (.ref b3), (.ref b3)] (fun _ kq => XS.aloadN X90.here hx rfl (hb hby d9_288) rfl rfl kq) ?_
  refine own_G.sk 290 [(.int 1), (.ref a), (.int 5), (.ref b16), (.ref b16), (.ref b3), (.ref b3)] (fun _ kq => XS.iloadN X90.here hx rfl (hb hby d9_289) rfl kq) ?_
  refine own_G.sk 291 [(.int q), (.int 1), (.ref a), (.int 5), (.ref b16), (.ref b16), (.ref b3), (.ref b3)] (fun _ kq => XS.iloadN X90.here hx rfl (hb hby d9_290) rfl kq) ?_
  refine own_G.sk 292 [(.int x), (.int q), (.int 1), (.ref a), (.int 5), (.ref b16), (.ref b16), (.ref b3), (.ref b3)] (fun _ kq => XS.iloadN X90.here hx rfl (hb hby d9_291) rfl kq) ?_
  refine own_G.sk 293 [(.int 5), (.int x), (.int q), (.int 1), (.ref a), (.int 5), (.ref b16), (.ref b16), (.ref b3), (.ref b3)] (fun _ kq => XS.iconst X90.here hx rfl (hb hby d9_292) kq) ?_
  obtain ⟨_, _, ⟨T102, L102, k102, n102⟩, -, X102, ⟨Lc102, hQ102, l102, y102, z102⟩, st102⟩ := Jvm.LawKit.callS X90 hx (y := own_y22) hown (mvT hZ (W_ 54 rfl)) (mvT hZ (W_ 55 rfl)) (mvT hZ (W_ 50 rfl)) (mvT hZ (W_ 56 rfl)) (by decide) (backOf (W := 5) (rm_g1 l Z a0 hw [] a q x (5 : Int32) csz fm t (9 : Int32) (110 : Int32) (97 : Int32) h90 n0 O100 S_CS hcs S_IO hio F92 F93 F94 (own_Len.arv F95) (own_At.arv (i := (5 : Int32)) (b := (110 : Int32)) F95 ⟨by decide, by decide⟩ rfl) (by decide) (by decide) (own_At.arv (i := (6 : Int32)) (b := (97 : Int32)) F95 ⟨by decide, by decide⟩ rfl) (by decide) (by decide)) hZ (W_ 56 rfl) (W_ 50 rfl) (by decide) (by decide)) (g := (mkF m 293 #[rv a, iv 1, iv q, iv x, iv 9, iv 8] [(.int 5), (.int x), (.int q), (.int 1), (.ref a), (.int 5), (.ref b16), (.ref b16), (.ref b3), (.ref b3)])) rfl (by rw [hml]; rfl) (argsL := [(.ref a), (.int 1), (.int q), (.int x), (.int 5)]) (rest := [(.int 5), (.ref b16), (.ref b16), (.ref b3), (.ref b3)]) (lenOf pd__28Ljava_2flang_2fString_3bIICI_29C rfl) rfl (by show 2 * 0 + _ ≤ _; exact Nat.le_of_eq rfl) (hb hby d9_293) (fun _ _ => ⟨rfl, e90, (by decide : 2 + 0 ≤ _), (by decide : 12 + 0 ≤ _)⟩)
  dsimp only [Pt.U, Pt.locs, Pt.cells, Pt.slots] at X102 l102 y102 z102 st102 hQ102
  subst l102 y102 z102
  obtain ⟨rfl, Nq102, P103⟩ := hQ102
  have N102 := Fr.app N90 Nq102
  refine own_G.st (T' := T102) 296 [(.int (nar .char (own_g1 (5 : Int32) q (own_chr (110 : Int32)) (own_chr (97 : Int32))))), (.int 5), (.ref b16), (.ref b16), (.ref b3), (.ref b3)] (fun _ kq => st102 _ kq) ?_
  obtain ⟨cl104, Ar104, q1104, Sz104, Nz104, Hh104, Gg104⟩ := id F91
  obtain ⟨T104, h104, X104, e104, W104, st104⟩ := stC X102 hx hZ P103 Ar104 (j := (5 : Int32)) (inb_of Sz104 ⟨by decide, by decide⟩) (g := (mkF m 296 #[rv a, iv 1, iv q, iv x, iv 9, iv 8] [(.int (nar .char (own_g1 (5 : Int32) q (own_chr (110 : Int32)) (own_chr (97 : Int32))))), (.int 5), (.ref b16), (.ref b16), (.ref b3), (.ref b3)])) rfl rfl (hb hby d9_296)
  have F105 : Arv Z h104 b16 k16 .char (8 : Int32) [(.int (kB 0 97 108 q)), (.int (kB 1 108 116 q)), (.int (kB 2 116 101 q)), (.int (kB 3 101 114 q)), (.int (kB 4 114 110 q)), (.int (kB 5 110 97 q)), (.int 0), (.int 0)] (.int 0) := Arv.set Ar104 q1104 Sz104 Nz104 Hh104 Gg104 (fits_nar_char _) W104 5 rfl (Nat.le_of_ble_eq_true rfl)
  have N104 := Fr.snoc X104 N102 g20
  have F106 := F92.wr W104
  have F107 := F93.other W104 (Or.inl ne17)
  have F108 := F94.other W104 (Or.inl ne17)
  have F109 := F95.other W104 ne18
  have F110 := F96.wr W104
  have F111 := F97.other W104 (Or.inl ne19)
  have F112 := F98.other W104 (Or.inl ne19)
  have O114 := O100.wr W104 g20
  have K115 := K101.wr W104 (Or.inr z21)
  refine own_G.st (T' := T104) 297 [(.ref b16), (.ref b3), (.ref b3)] st104 ?_
  refine own_G.sk 298 [(.ref b16), (.ref b16), (.ref b3), (.ref b3)] (fun _ kq => XS.dup X104.here hx rfl (hb hby d9_297) rfl rfl kq) ?_
  refine own_G.sk 300 [(.int 6), (.ref b16), (.ref b16), (.ref b3), (.ref b3)] (fun _ kq => XS.bipush X104.here hx rfl (hb hby d9_298) kq) ?_
  refine own_G.sk 301 [(.ref a), (.int 6), (.ref b16), (.ref b16), (.ref b3), (.ref b3)] (fun _ kq => XS.aloadN X104.here hx rfl (hb hby d9_300) rfl rfl kq) ?_
  refine own_G.sk 302 [(.int 1), (.ref a), (.int 6), (.ref b16), (.ref b16), (.ref b3), (.ref b3)] (fun _ kq => XS.iloadN X104.here hx rfl (hb hby d9_301) rfl kq) ?_
  refine own_G.sk 303 [(.int q), (.int 1), (.ref a), (.int 6), (.ref b16), (.ref b16), (.ref b3), (.ref b3)] (fun _ kq => XS.iloadN X104.here hx rfl (hb hby d9_302) rfl kq) ?_
  refine own_G.sk 304 [(.int x), (.int q), (.int 1), (.ref a), (.int 6), (.ref b16), (.ref b16), (.ref b3), (.ref b3)] (fun _ kq => XS.iloadN X104.here hx rfl (hb hby d9_303) rfl kq) ?_
  refine own_G.sk 306 [(.int 6), (.int x), (.int q), (.int 1), (.ref a), (.int 6), (.ref b16), (.ref b16), (.ref b3), (.ref b3)] (fun _ kq => XS.bipush X104.here hx rfl (hb hby d9_304) kq) ?_
  obtain ⟨_, _, ⟨T116, L116, k116, n116⟩, -, X116, ⟨Lc116, hQ116, l116, y116, z116⟩, st116⟩ := Jvm.LawKit.callS X104 hx (y := own_y22) hown (mvT hZ (W_ 54 rfl)) (mvT hZ (W_ 55 rfl)) (mvT hZ (W_ 50 rfl)) (mvT hZ (W_ 56 rfl)) (by decide) (backOf (W := 5) (rm_g1 l Z a0 hw [] a q x (6 : Int32) csz fm t (9 : Int32) (97 : Int32) (116 : Int32) h104 n0 O114 S_CS hcs S_IO hio F106 F107 F108 (own_Len.arv F109) (own_At.arv (i := (6 : Int32)) (b := (97 : Int32)) F109 ⟨by decide, by decide⟩ rfl) (by decide) (by decide) (own_At.arv (i := (7 : Int32)) (b := (116 : Int32)) F109 ⟨by decide, by decide⟩ rfl) (by decide) (by decide)) hZ (W_ 56 rfl) (W_ 50 rfl) (by decide) (by decide)) (g := (mkF m 306 #[rv a, iv 1, iv q, iv x, iv 9, iv 8] [(.int 6), (.int x), (.int q), (.int 1), (.ref a), (.int 6), (.ref b16), (.ref b16), (.ref b3), (.ref b3)])) rfl (by rw [hml]; rfl) (argsL := [(.ref a), (.int 1), (.int q), (.int x), (.int 6)]) (rest := [(.int 6), (.ref b16), (.ref b16), (.ref b3), (.ref b3)]) (lenOf pd__28Ljava_2flang_2fString_3bIICI_29C rfl) rfl (by show 2 * 0 + _ ≤ _; exact Nat.le_of_eq rfl) (hb hby d9_306) (fun _ _ => ⟨rfl, e104, (by decide : 2 + 0 ≤ _), (by decide : 12 + 0 ≤ _)⟩)
  dsimp only [Pt.U, Pt.locs, Pt.cells, Pt.slots] at X116 l116 y116 z116 st116 hQ116
  subst l116 y116 z116
  obtain ⟨rfl, Nq116, P117⟩ := hQ116
  have N116 := Fr.app N104 Nq116
  refine own_G.st (T' := T116) 309 [(.int (nar .char (own_g1 (6 : Int32) q (own_chr (97 : Int32)) (own_chr (116 : Int32))))), (.int 6), (.ref b16), (.ref b16), (.ref b3), (.ref b3)] (fun _ kq => st116 _ kq) ?_
  obtain ⟨cl118, Ar118, q1118, Sz118, Nz118, Hh118, Gg118⟩ := id F105
  obtain ⟨T118, h118, X118, e118, W118, st118⟩ := stC X116 hx hZ P117 Ar118 (j := (6 : Int32)) (inb_of Sz118 ⟨by decide, by decide⟩) (g := (mkF m 309 #[rv a, iv 1, iv q, iv x, iv 9, iv 8] [(.int (nar .char (own_g1 (6 : Int32) q (own_chr (97 : Int32)) (own_chr (116 : Int32))))), (.int 6), (.ref b16), (.ref b16), (.ref b3), (.ref b3)])) rfl rfl (hb hby d9_309)
  have F119 : Arv Z h118 b16 k16 .char (8 : Int32) [(.int (kB 0 97 108 q)), (.int (kB 1 108 116 q)), (.int (kB 2 116 101 q)), (.int (kB 3 101 114 q)), (.int (kB 4 114 110 q)), (.int (kB 5 110 97 q)), (.int (kB 6 97 116 q)), (.int 0)] (.int 0) := Arv.set Ar118 q1118 Sz118 Nz118 Hh118 Gg118 (fits_nar_char _) W118 6 rfl (Nat.le_of_ble_eq_true rfl)
  have N118 := Fr.snoc X118 N116 g20
  have F120 := F106.wr W118
  have F121 := F107.other W118 (Or.inl ne17)
  have F122 := F108.other W118 (Or.inl ne17)
  have F123 := F109.other W118 ne18
  have F124 := F110.wr W118
  have F125 := F111.other W118 (Or.inl ne19)
  have F126 := F112.other W118 (Or.inl ne19)
  have O128 := O114.wr W118 g20
  have K129 := K115.wr W118 (Or.inr z21)
  refine own_G.st (T' := T118) 310 [(.ref b16), (.ref b3), (.ref b3)] st118 ?_
  refine own_G.sk 311 [(.ref b16), (.ref b16), (.ref b3), (.ref b3)] (fun _ kq => XS.dup X118.here hx rfl (hb hby d9_310) rfl rfl kq) ?_
  refine own_G.sk 313 [(.int 7), (.ref b16), (.ref b16), (.ref b3), (.ref b3)] (fun _ kq => XS.bipush X118.here hx rfl (hb hby d9_311) kq) ?_
  refine own_G.sk 314 [(.ref a), (.int 7), (.ref b16), (.ref b16), (.ref b3), (.ref b3)] (fun _ kq => XS.aloadN X118.here hx rfl (hb hby d9_313) rfl rfl kq) ?_
  refine own_G.sk 315 [(.int 1), (.ref a), (.int 7), (.ref b16), (.ref b16), (.ref b3), (.ref b3)] (fun _ kq => XS.iloadN X118.here hx rfl (hb hby d9_314) rfl kq) ?_
  refine own_G.sk 316 [(.int q), (.int 1), (.ref a), (.int 7), (.ref b16), (.ref b16), (.ref b3), (.ref b3)] (fun _ kq => XS.iloadN X118.here hx rfl (hb hby d9_315) rfl kq) ?_
  refine own_G.sk 317 [(.int x), (.int q), (.int 1), (.ref a), (.int 7), (.ref b16), (.ref b16), (.ref b3), (.ref b3)] (fun _ kq => XS.iloadN X118.here hx rfl (hb hby d9_316) rfl kq) ?_
  refine own_G.sk 319 [(.int 7), (.int x), (.int q), (.int 1), (.ref a), (.int 7), (.ref b16), (.ref b16), (.ref b3), (.ref b3)] (fun _ kq => XS.bipush X118.here hx rfl (hb hby d9_317) kq) ?_
  obtain ⟨_, _, ⟨T130, L130, k130, n130⟩, -, X130, ⟨Lc130, hQ130, l130, y130, z130⟩, st130⟩ := Jvm.LawKit.callS X118 hx (y := own_y22) hown (mvT hZ (W_ 54 rfl)) (mvT hZ (W_ 55 rfl)) (mvT hZ (W_ 50 rfl)) (mvT hZ (W_ 56 rfl)) (by decide) (backOf (W := 5) (rm_g1 l Z a0 hw [] a q x (7 : Int32) csz fm t (9 : Int32) (116 : Int32) (101 : Int32) h118 n0 O128 S_CS hcs S_IO hio F120 F121 F122 (own_Len.arv F123) (own_At.arv (i := (7 : Int32)) (b := (116 : Int32)) F123 ⟨by decide, by decide⟩ rfl) (by decide) (by decide) (own_At.arv (i := (8 : Int32)) (b := (101 : Int32)) F123 ⟨by decide, by decide⟩ rfl) (by decide) (by decide)) hZ (W_ 56 rfl) (W_ 50 rfl) (by decide) (by decide)) (g := (mkF m 319 #[rv a, iv 1, iv q, iv x, iv 9, iv 8] [(.int 7), (.int x), (.int q), (.int 1), (.ref a), (.int 7), (.ref b16), (.ref b16), (.ref b3), (.ref b3)])) rfl (by rw [hml]; rfl) (argsL := [(.ref a), (.int 1), (.int q), (.int x), (.int 7)]) (rest := [(.int 7), (.ref b16), (.ref b16), (.ref b3), (.ref b3)]) (lenOf pd__28Ljava_2flang_2fString_3bIICI_29C rfl) rfl (by show 2 * 0 + _ ≤ _; exact Nat.le_of_eq rfl) (hb hby d9_319) (fun _ _ => ⟨rfl, e118, (by decide : 2 + 0 ≤ _), (by decide : 12 + 0 ≤ _)⟩)
  dsimp only [Pt.U, Pt.locs, Pt.cells, Pt.slots] at X130 l130 y130 z130 st130 hQ130
  subst l130 y130 z130
  obtain ⟨rfl, Nq130, P131⟩ := hQ130
  have N130 := Fr.app N118 Nq130
  refine own_G.st (T' := T130) 322 [(.int (nar .char (own_g1 (7 : Int32) q (own_chr (116 : Int32)) (own_chr (101 : Int32))))), (.int 7), (.ref b16), (.ref b16), (.ref b3), (.ref b3)] (fun _ kq => st130 _ kq) ?_
  obtain ⟨cl132, Ar132, q1132, Sz132, Nz132, Hh132, Gg132⟩ := id F119
  obtain ⟨T132, h132, X132, e132, W132, st132⟩ := stC X130 hx hZ P131 Ar132 (j := (7 : Int32)) (inb_of Sz132 ⟨by decide, by decide⟩) (g := (mkF m 322 #[rv a, iv 1, iv q, iv x, iv 9, iv 8] [(.int (nar .char (own_g1 (7 : Int32) q (own_chr (116 : Int32)) (own_chr (101 : Int32))))), (.int 7), (.ref b16), (.ref b16), (.ref b3), (.ref b3)])) rfl rfl (hb hby d9_322)
  have F133 : Arv Z h132 b16 k16 .char (8 : Int32) [(.int (kB 0 97 108 q)), (.int (kB 1 108 116 q)), (.int (kB 2 116 101 q)), (.int (kB 3 101 114 q)), (.int (kB 4 114 110 q)), (.int (kB 5 110 97 q)), (.int (kB 6 97 116 q)), (.int (kB 7 116 101 q))] (.int 0) := Arv.set Ar132 q1132 Sz132 Nz132 Hh132 Gg132 (fits_nar_char _) W132 7 rfl (Nat.le_of_ble_eq_true rfl)
  have N132 := Fr.snoc X132 N130 g20
  have F134 := F120.wr W132
  have F135 := F121.other W132 (Or.inl ne17)
  have F136 := F122.other W132 (Or.inl ne17)
  have F137 := F123.other W132 ne18
  have F138 := F124.wr W132
  have F139 := F125.other W132 (Or.inl ne19)
  have F140 := F126.other W132 (Or.inl ne19)
  have O142 := O128.wr W132 g20
  have K143 := K129.wr W132 (Or.inr z21)
  refine own_G.st (T' := T132) 323 [(.ref b16), (.ref b3), (.ref b3)] st132 ?_
  have hp144 : ∀ c ∈ ([(kB 0 97 108 q), (kB 1 108 116 q), (kB 2 116 101 q), (kB 3 101 114 q), (kB 4 114 110 q), (kB 5 110 97 q), (kB 6 97 116 q), (kB 7 116 101 q)] : List Int32), ¬ c < 0 ∧ ¬ (255 : Int32) < c := by
    intro c hc
    simp only [List.mem_cons, List.not_mem_nil, or_false] at hc
    rcases hc with rfl | rfl | rfl | rfl | rfl | rfl | rfl | rfl
    · exact own_nn (own_g1b (own_cb ⟨by decide, by decide⟩) (own_cb ⟨by decide, by decide⟩))
    · exact own_nn (own_g1b (own_cb ⟨by decide, by decide⟩) (own_cb ⟨by decide, by decide⟩))
    · exact own_nn (own_g1b (own_cb ⟨by decide, by decide⟩) (own_cb ⟨by decide, by decide⟩))
    · exact own_nn (own_g1b (own_cb ⟨by decide, by decide⟩) (own_cb ⟨by decide, by decide⟩))
    · exact own_nn (own_g1b (own_cb ⟨by decide, by decide⟩) (own_cb ⟨by decide, by decide⟩))
    · exact own_nn (own_g1b (own_cb ⟨by decide, by decide⟩) (own_cb ⟨by decide, by decide⟩))
    · exact own_nn (own_g1b (own_cb ⟨by decide, by decide⟩) (own_cb ⟨by decide, by decide⟩))
    · exact own_nn (own_g1b (own_cb ⟨by decide, by decide⟩) (own_cb ⟨by decide, by decide⟩))
  obtain ⟨_, _, ⟨T145, L145, k145, n145⟩, -, X145, ⟨Lc145, hQ145, l145, y145, z145⟩, st145⟩ := X132.specialBack hx (y := own_y17) rfl hown (mvT hZ (W_ 57 rfl)) (mvT hZ (W_ 58 rfl)) (mvT hZ (W_ 59 rfl)) (by decide) (StrChars.Road.backV (W := 1) hZ hws (kI := 4) (W_ 2 rfl) (cs := ([(kB 0 97 108 q), (kB 1 108 116 q), (kB 2 116 101 q), (kB 3 101 114 q), (kB 4 114 110 q), (kB 5 110 97 q), (kB 6 97 116 q), (kB 7 116 101 q)] : List Int32)) (bs := (([(kB 0 97 108 q), (kB 1 108 116 q), (kB 2 116 101 q), (kB 3 101 114 q), (kB 4 114 110 q), (kB 5 110 97 q), (kB 6 97 116 q), (kB 7 116 101 q)] : List Int32).map (fun c => c.toInt8.toInt32))) (n := 8) g6 O142.le F138 F139 F140 F133 (Sta.ext O142.2 S_CS) hcs rfl rfl (by decide) (by decide) hp144 rfl (by decide) (by decide)) (g := (mkF m 323 #[rv a, iv 1, iv q, iv x, iv 9, iv 8] [(.ref b16), (.ref b3), (.ref b3)])) rfl (by rw [hml]; rfl) (Steps.refl _) (a := b3) (argsL := [(.ref b16)]) (rest := [(.ref b3)]) (lenOf pd__28_5bC_29V rfl) rfl (by show 2 * 0 + _ ≤ _; exact Nat.le_of_eq rfl) (hb hby d9_323) (fun _ _ => ⟨rfl, e132, (by decide : 2 + 1 ≤ _), (by decide : 12 + 8 ≤ _)⟩)
  dsimp only [Pt.U, Pt.locs, Pt.cells, Pt.slots] at X145 l145 y145 z145 st145 hQ145
  subst l145 y145 z145
  obtain ⟨rfl, P146, P147, P148, P149, b150, kx151, P152, P153, P154, P155, P156⟩ := hQ145
  have N145 := Fr.app N132 P146
  have ne157 : a ≠ b150 := Nat.ne_of_lt (Nat.lt_of_lt_of_le F134.lt P153)
  have ne158 : t ≠ b150 := Nat.ne_of_lt (Nat.lt_of_lt_of_le F137.lt P153)
  have ne159 : b3 ≠ b150 := Nat.ne_of_lt (Nat.lt_of_lt_of_le F138.lt P153)
  have ne160 : b16 ≠ b150 := Nat.ne_of_lt (Nat.lt_of_lt_of_le F133.lt P153)
  have g161 : n0 ≤ b150 := Nat.le_trans O142.le P153
  have z162 : h0.size ≤ b150 := Nat.le_trans K143.1 P153
  have F163 := F134.keep P147
  have F164 := F135.keep P147 (ninS ne4 nin0)
  have F165 := F136.keep P147 (ninS ne4 nin0)
  have F166 := F137.keep P147 (ninS ne5 nin0)
  have F167 := F138.keep P147
  have F168 := F133.keep P147 (ninS (Ne.symm ne19) nin0)
  have O169 := O142.keep P147 (allS g6 all0)
  have K170 := K143.trans P147 (allS (Or.inr z7) all0)
  refine own_G.st (T' := T145) 326 [(.ref b3)] (fun _ kq => st145.trans kq) ?_
  exact own_ret X145 rfl (v := some (.ref b3)) (fun h => by rw [Bd.returns] at h; cases h) Bd.notSynchronized ⟨b3, b150, kx151, rfl, N145, K170, z7, z162, P148, P149, P155, hp144, P156⟩ (by decide) (by decide) (fun fs hr => own_retR X145 hx Bd.returns rfl rfl (hb hby d9_326) hr)
theorem own_q0 {q : Int32} (h1 : ¬ (0 : Int32) < q) (h2 : ¬ (0 : Int32) = q) : q < (0 : Int32) := by
  rw [← Int32.toInt_inj] at h2
  simp only [Int32.lt_iff_toInt_lt] at h1 ⊢
  have e0 : (0 : Int32).toInt = 0 := by decide
  omega
theorem d9_27 : decode method_3_code 27 = .ok (.iload 4, 2) := by decide +kernel
theorem d9_29 : decode method_3_code 29 = .ok (.iconst 1, 1) := by decide +kernel
theorem d9_30 : decode method_3_code 30 = .ok (.iadd, 1) := by decide +kernel
theorem d9_451 : decode method_3_code 451 = .ok (.new 8, 3) := by decide +kernel
theorem d9_454 : decode method_3_code 454 = .ok (.dup, 1) := by decide +kernel
theorem d9_455 : decode method_3_code 455 = .ok (.bipush 10, 2) := by decide +kernel
theorem d9_457 : decode method_3_code 457 = .ok (.newarray .char, 2) := by decide +kernel
theorem d9_459 : decode method_3_code 459 = .ok (.dup, 1) := by decide +kernel
theorem d9_460 : decode method_3_code 460 = .ok (.iconst 0, 1) := by decide +kernel
theorem d9_461 : decode method_3_code 461 = .ok (.aload_n 0, 1) := by decide +kernel
theorem d9_462 : decode method_3_code 462 = .ok (.iload_n 1, 1) := by decide +kernel
theorem d9_463 : decode method_3_code 463 = .ok (.iload_n 2, 1) := by decide +kernel
theorem d9_464 : decode method_3_code 464 = .ok (.iload_n 3, 1) := by decide +kernel
theorem d9_465 : decode method_3_code 465 = .ok (.iconst 0, 1) := by decide +kernel
theorem d9_466 : decode method_3_code 466 = .ok (.invokestatic 17, 3) := by decide +kernel
theorem d9_469 : decode method_3_code 469 = .ok (.castore, 1) := by decide +kernel
theorem d9_470 : decode method_3_code 470 = .ok (.dup, 1) := by decide +kernel
theorem d9_471 : decode method_3_code 471 = .ok (.iconst 1, 1) := by decide +kernel
theorem d9_472 : decode method_3_code 472 = .ok (.aload_n 0, 1) := by decide +kernel
theorem d9_473 : decode method_3_code 473 = .ok (.iload_n 1, 1) := by decide +kernel
theorem d9_474 : decode method_3_code 474 = .ok (.iload_n 2, 1) := by decide +kernel
theorem d9_475 : decode method_3_code 475 = .ok (.iload_n 3, 1) := by decide +kernel
theorem d9_476 : decode method_3_code 476 = .ok (.iconst 1, 1) := by decide +kernel
theorem d9_477 : decode method_3_code 477 = .ok (.invokestatic 17, 3) := by decide +kernel
theorem d9_480 : decode method_3_code 480 = .ok (.castore, 1) := by decide +kernel
theorem d9_481 : decode method_3_code 481 = .ok (.dup, 1) := by decide +kernel
theorem d9_482 : decode method_3_code 482 = .ok (.iconst 2, 1) := by decide +kernel
theorem d9_483 : decode method_3_code 483 = .ok (.aload_n 0, 1) := by decide +kernel
theorem d9_484 : decode method_3_code 484 = .ok (.iload_n 1, 1) := by decide +kernel
theorem d9_485 : decode method_3_code 485 = .ok (.iload_n 2, 1) := by decide +kernel
theorem d9_486 : decode method_3_code 486 = .ok (.iload_n 3, 1) := by decide +kernel
theorem d9_487 : decode method_3_code 487 = .ok (.iconst 2, 1) := by decide +kernel
theorem d9_488 : decode method_3_code 488 = .ok (.invokestatic 17, 3) := by decide +kernel
theorem d9_491 : decode method_3_code 491 = .ok (.castore, 1) := by decide +kernel
theorem d9_492 : decode method_3_code 492 = .ok (.dup, 1) := by decide +kernel
theorem d9_493 : decode method_3_code 493 = .ok (.iconst 3, 1) := by decide +kernel
theorem d9_494 : decode method_3_code 494 = .ok (.aload_n 0, 1) := by decide +kernel
theorem d9_495 : decode method_3_code 495 = .ok (.iload_n 1, 1) := by decide +kernel
theorem d9_496 : decode method_3_code 496 = .ok (.iload_n 2, 1) := by decide +kernel
theorem d9_497 : decode method_3_code 497 = .ok (.iload_n 3, 1) := by decide +kernel
theorem d9_498 : decode method_3_code 498 = .ok (.iconst 3, 1) := by decide +kernel
theorem d9_499 : decode method_3_code 499 = .ok (.invokestatic 17, 3) := by decide +kernel
theorem d9_502 : decode method_3_code 502 = .ok (.castore, 1) := by decide +kernel
theorem d9_503 : decode method_3_code 503 = .ok (.dup, 1) := by decide +kernel
theorem d9_504 : decode method_3_code 504 = .ok (.iconst 4, 1) := by decide +kernel
theorem d9_505 : decode method_3_code 505 = .ok (.aload_n 0, 1) := by decide +kernel
theorem d9_506 : decode method_3_code 506 = .ok (.iload_n 1, 1) := by decide +kernel
theorem d9_507 : decode method_3_code 507 = .ok (.iload_n 2, 1) := by decide +kernel
theorem d9_508 : decode method_3_code 508 = .ok (.iload_n 3, 1) := by decide +kernel
theorem d9_509 : decode method_3_code 509 = .ok (.iconst 4, 1) := by decide +kernel
theorem d9_510 : decode method_3_code 510 = .ok (.invokestatic 17, 3) := by decide +kernel
theorem d9_513 : decode method_3_code 513 = .ok (.castore, 1) := by decide +kernel
theorem d9_514 : decode method_3_code 514 = .ok (.dup, 1) := by decide +kernel
theorem d9_515 : decode method_3_code 515 = .ok (.iconst 5, 1) := by decide +kernel
theorem d9_516 : decode method_3_code 516 = .ok (.aload_n 0, 1) := by decide +kernel
theorem d9_517 : decode method_3_code 517 = .ok (.iload_n 1, 1) := by decide +kernel
theorem d9_518 : decode method_3_code 518 = .ok (.iload_n 2, 1) := by decide +kernel
theorem d9_519 : decode method_3_code 519 = .ok (.iload_n 3, 1) := by decide +kernel
theorem d9_520 : decode method_3_code 520 = .ok (.iconst 5, 1) := by decide +kernel
theorem d9_521 : decode method_3_code 521 = .ok (.invokestatic 17, 3) := by decide +kernel
theorem d9_524 : decode method_3_code 524 = .ok (.castore, 1) := by decide +kernel
theorem d9_525 : decode method_3_code 525 = .ok (.dup, 1) := by decide +kernel
theorem d9_526 : decode method_3_code 526 = .ok (.bipush 6, 2) := by decide +kernel
theorem d9_528 : decode method_3_code 528 = .ok (.aload_n 0, 1) := by decide +kernel
theorem d9_529 : decode method_3_code 529 = .ok (.iload_n 1, 1) := by decide +kernel
theorem d9_530 : decode method_3_code 530 = .ok (.iload_n 2, 1) := by decide +kernel
theorem d9_531 : decode method_3_code 531 = .ok (.iload_n 3, 1) := by decide +kernel
theorem d9_532 : decode method_3_code 532 = .ok (.bipush 6, 2) := by decide +kernel
theorem d9_534 : decode method_3_code 534 = .ok (.invokestatic 17, 3) := by decide +kernel
theorem d9_537 : decode method_3_code 537 = .ok (.castore, 1) := by decide +kernel
theorem d9_538 : decode method_3_code 538 = .ok (.dup, 1) := by decide +kernel
theorem d9_539 : decode method_3_code 539 = .ok (.bipush 7, 2) := by decide +kernel
theorem d9_541 : decode method_3_code 541 = .ok (.aload_n 0, 1) := by decide +kernel
theorem d9_542 : decode method_3_code 542 = .ok (.iload_n 1, 1) := by decide +kernel
theorem d9_543 : decode method_3_code 543 = .ok (.iload_n 2, 1) := by decide +kernel
theorem d9_544 : decode method_3_code 544 = .ok (.iload_n 3, 1) := by decide +kernel
theorem d9_545 : decode method_3_code 545 = .ok (.bipush 7, 2) := by decide +kernel
theorem d9_547 : decode method_3_code 547 = .ok (.invokestatic 17, 3) := by decide +kernel
theorem d9_550 : decode method_3_code 550 = .ok (.castore, 1) := by decide +kernel
theorem d9_551 : decode method_3_code 551 = .ok (.dup, 1) := by decide +kernel
theorem d9_552 : decode method_3_code 552 = .ok (.bipush 8, 2) := by decide +kernel
theorem d9_554 : decode method_3_code 554 = .ok (.aload_n 0, 1) := by decide +kernel
theorem d9_555 : decode method_3_code 555 = .ok (.iload_n 1, 1) := by decide +kernel
theorem d9_556 : decode method_3_code 556 = .ok (.iload_n 2, 1) := by decide +kernel
theorem d9_557 : decode method_3_code 557 = .ok (.iload_n 3, 1) := by decide +kernel
theorem d9_558 : decode method_3_code 558 = .ok (.bipush 8, 2) := by decide +kernel
theorem d9_560 : decode method_3_code 560 = .ok (.invokestatic 17, 3) := by decide +kernel
theorem d9_563 : decode method_3_code 563 = .ok (.castore, 1) := by decide +kernel
theorem d9_564 : decode method_3_code 564 = .ok (.dup, 1) := by decide +kernel
theorem d9_565 : decode method_3_code 565 = .ok (.bipush 9, 2) := by decide +kernel
theorem d9_567 : decode method_3_code 567 = .ok (.aload_n 0, 1) := by decide +kernel
theorem d9_568 : decode method_3_code 568 = .ok (.iload_n 1, 1) := by decide +kernel
theorem d9_569 : decode method_3_code 569 = .ok (.iload_n 2, 1) := by decide +kernel
theorem d9_570 : decode method_3_code 570 = .ok (.iload_n 3, 1) := by decide +kernel
theorem d9_571 : decode method_3_code 571 = .ok (.bipush 9, 2) := by decide +kernel
theorem d9_573 : decode method_3_code 573 = .ok (.invokestatic 17, 3) := by decide +kernel
theorem d9_576 : decode method_3_code 576 = .ok (.castore, 1) := by decide +kernel
theorem d9_577 : decode method_3_code 577 = .ok (.invokespecial 23, 3) := by decide +kernel
theorem d9_580 : decode method_3_code 580 = .ok (.areturn, 1) := by decide +kernel
theorem ef_mka2 (m : MethodId) (a : Addr) (q : Int32) (x : Int32) : entryFrame m #[(.ref a), (.int 2), (.int q), (.int x)] 6 = mkF m 0 #[rv a, iv 2, iv q, iv x, .unset, .unset] [] := by
  first | (simp [entryFrame, mkF, argsToLocals, Value.category]; done) | rfl
def Q_mka2 (Z : State) (a : Addr) (q : Int32) (x : Int32) (csz : Int32) (fm : Value) (t : Addr) (kb : ClassId) (h0 : Heap) (n0 : Nat) (v : Option Value) (h : Heap) (L : List Loc) : Prop := ∃ (r : Addr), ∃ (t2 : Addr), ∃ (kb2 : ClassId), v = some (.ref r) ∧ Fr n0 L ∧ Keep h0 h [] ∧ h0.size ≤ r ∧ h0.size ≤ t2 ∧ Exa Z h r "java/lang/String" ∧ Fld Z h r "java/lang/String" "coder" "B" (.int 0) ∧ Fld Z h r "java/lang/String" "value" "[B" (.ref t2) ∧ (∀ c ∈ ([(kC 0 97 0 q x), (kC 1 108 97 q x), (kC 2 116 108 q x), (kC 3 101 116 q x), (kC 4 114 101 q x), (kC 5 110 114 q x), (kC 6 97 110 q x), (kC 7 116 97 q x), (kC 8 101 116 q x), (kC 9 0 101 q x)] : List Int32), ¬ c < 0 ∧ ¬ (255 : Int32) < c) ∧ Arv Z h t2 kb2 .byte (10 : Int32) ((([(kC 0 97 0 q x), (kC 1 108 97 q x), (kC 2 116 108 q x), (kC 3 101 116 q x), (kC 4 114 101 q x), (kC 5 110 114 q x), (kC 6 97 110 q x), (kC 7 116 97 q x), (kC 8 101 116 q x), (kC 9 0 101 q x)] : List Int32).map (fun c => c.toInt8.toInt32)).map Value.int) (.int 0)
set_option maxRecDepth 65536 in
set_option maxHeartbeats 40000000 in
theorem rm_mka2 (l : Launch) (Z : State) (a0 : Array Value) (hw : ∀ d ∈ tables_1, d.before a0 Z = true) (ws : List Jvm.Cond) (a : Addr) (q : Int32) (x : Int32) (csz : Int32) (fm : Value) (t : Addr) (kb : ClassId) (h0 : Heap) (n0 : Nat) (O0 : Old Z n0 h0) (S_CS : Sta Z Z.heap "java/lang/String" "COMPACT_STRINGS" "Z" (.int csz)) (hcs : ¬ csz = (0 : Int32)) (S_IO : Sta Z Z.heap "jdk/internal/util/Preconditions" "SIOOBE_FORMATTER" "Ljava/util/function/BiFunction;" fm) (hio : fm.isRef = true) (Ea : Exa Z h0 a "java/lang/String") (Fv : Fld Z h0 a "java/lang/String" "value" "[B" (.ref t)) (Fc : Fld Z h0 a "java/lang/String" "coder" "B" (.int 0)) (AR : Arv Z h0 t kb .byte (9 : Int32) [(.int 97), (.int 108), (.int 116), (.int 101), (.int 114), (.int 110), (.int 97), (.int 116), (.int 101)] (.int 0)) (hxr : ¬ x < (0 : Int32) ∧ ¬ (255 : Int32) < x) (hq1 : ¬ q < (0 : Int32)) (hq2 : ¬ (9 : Int32) < q) :
    MetFree l own_y23 (head1 (Jvm.Cond.code own_y23 method_3_code 6 (some (.object "java/lang/String")) :: ws) ({ frames := 5, cells := 3, slots := 24, locals := 74 } : Room)) (fun aq_ Uq_ => aq_ = #[(.ref a), (.int 2), (.int q), (.int x)] ∧ Z.Warmed39 Uq_.vm ∧ Uq_.heap = h0) (fun _ _ _ _ _ => True) (fun _ Uq_ oq_ Ur_ => ∃ vq_ Lq_, oq_ = .returned vq_ ∧ Q_mka2 Z a q x csz fm t kb h0 n0 vq_ Ur_.heap Lq_ ∧ FrameEnd Uq_ oq_ Ur_ Lq_ ({ frames := 5, cells := 3, slots := 24, locals := 74 } : Room).cells ({ frames := 5, cells := 3, slots := 24, locals := 74 } : Room).slots) := by
  refine MetFree.of_bodySF (plainFor_of_name pn_com_2fexample_2ftermflow_2ftermflow_2ffeed_2fLinkIsArtefactPinLaw) hisR ?_
  intro p e s m args below meth c s₁ Bd hml0 hP hK
  obtain ⟨rfl, hZ, hh⟩ := hP
  have W_ : ∀ {d : Jvm.Cond} (i : Nat), tables_1[i]? = some d → d.before a0 Z = true := fun i h => hw _ (List.mem_of_getElem? h)
  have hx := Bd.exec
  have hby := Bd.bytes
  have hml : c.maxLocals = 6 := hml0
  have hown : s.vm.findClass "com/example/termflow/termflow/feed/LinkIsArtefactPinLaw" = some m.cls := findClass_of_methodNamed Bd.named
  have hnm := (name_of_methodNamed Bd.named Bd.method).1
  have X0 : Stand p l e ({ frames := 5, cells := 3, slots := 24, locals := 74 } : Room) s m #[(.ref a), (.int 2), (.int q), (.int x)] below meth c s₁ [] 0 0 := Stand.of_body Bd
  have e0 : s₁.heap = h0 := by rw [← hh, Bd.state]; rfl
  have N0 := Fr.nil n0
  have K0 := Keep.refl h0 []
  refine own_G.start (Q := Q_mka2 Z a q x csz fm t kb h0 n0) (ef_mka2 m a q x) ?_
  have hws : ∀ d ∈ StrChars.Road.words, d.before a0 Z = true := fun d hd => hw d (own_hws d hd)
  refine own_G.sk 1 [(.ref a)] (fun _ kq => XS.aloadN X0.here hx rfl (hb hby d9_0) rfl rfl kq) ?_
  obtain ⟨cq1, kq1, q1a, q1b, q1c⟩ := isOf hZ e0 Ea
  obtain ⟨_, _, ⟨T1, L1, k1, n1⟩, -, X1, ⟨Lc1, hQ1, l1, y1, z1⟩, st1⟩ := X0.virtualBack hx (y := own_y7) (z := own_y7) hown (mvT hZ (W_ 8 rfl)) (mvT hZ (W_ 9 rfl)) (notFace_of_selects (args := #[]) (mvT hZ (W_ 11 rfl))) (mvT hZ (W_ 11 rfl)) (mvT hZ (W_ 10 rfl)) (by decide) (backOf (W := 0) (rm_strlen l Z a0 hw [] a csz t (9 : Int32) h0 n0 O0 S_CS hcs Fc Fv (own_Len.arv AR) Ea) hZ (W_ 12 rfl) (W_ 1 rfl) (by decide) (by decide)) q1a q1c (g := (mkF m 1 #[rv a, iv 2, iv q, iv x, .unset, .unset] [(.ref a)])) rfl (by rw [hml]; rfl) (Steps.refl _) (argsL := []) (rest := []) (lenOf pd__28_29I rfl) rfl (by show 2 * 0 + _ ≤ _; exact Nat.le_of_eq rfl) (hb hby d9_1) (fun _ _ => ⟨rfl, e0, (by decide : 0 + 0 ≤ _), (by decide : 0 + 0 ≤ _)⟩)
  dsimp only [Pt.U, Pt.locs, Pt.cells, Pt.slots] at X1 l1 y1 z1 st1 hQ1
  subst l1 y1 z1
  obtain ⟨rfl, Nq1, P2⟩ := hQ1
  have N1 := Fr.app N0 Nq1
  refine own_G.st (T' := T1) 4 [(.int 9)] (fun _ kq => st1.trans kq) ?_
  refine own_G.si 6 [] (fun _ kq => XS.istore X1.here hx rfl (hb hby d9_4) rfl (l' := #[rv a, iv 2, iv q, iv x, iv 9, .unset]) rfl kq) ?_
  refine own_G.sk 7 [(.int 2)] (fun _ kq => XS.iloadN X1.here hx rfl (hb hby d9_6) rfl kq) ?_
  have hc7 : ¬ ((2 : Int32) = (0 : Int32)) := (by decide)
  refine own_G.sk 15 [] (fun _ kq => XS.ifYes X1.here hx rfl (pc0 := 7) (pc' := 15) rfl (hb hby d9_7) rfl ((if0 _ _).trans (feq hc7).2) (by decide) (by decide) kq) ?_
  refine own_G.sk 16 [(.int 2)] (fun _ kq => XS.iloadN X1.here hx rfl (hb hby d9_15) rfl kq) ?_
  refine own_G.sk 17 [(.int 1), (.int 2)] (fun _ kq => XS.iconst X1.here hx rfl (hb hby d9_16) kq) ?_
  have hc17 : ¬ ((2 : Int32) = (1 : Int32)) := (by decide)
  refine own_G.sk 27 [] (fun _ kq => XS.icmpYes X1.here hx rfl (pc0 := 17) (pc' := 27) rfl (hb hby d9_17) rfl (feq hc17).2 (by decide) (by decide) kq) ?_
  refine own_G.sk 29 [(.int 9)] (fun _ kq => XS.iload X1.here hx rfl (hb hby d9_27) rfl kq) ?_
  refine own_G.sk 30 [(.int 1), (.int 9)] (fun _ kq => XS.iconst X1.here hx rfl (hb hby d9_29) kq) ?_
  refine own_G.sk 31 [(.int ((9 : Int32) + (1 : Int32)))] (fun _ kq => XS.iadd X1.here hx rfl (hb hby d9_30) rfl kq) ?_
  refine own_G.si 33 [] (fun _ kq => XS.istore X1.here hx rfl (hb hby d9_31) rfl (l' := #[rv a, iv 2, iv q, iv x, iv 9, .val (.int ((9 : Int32) + (1 : Int32)))]) rfl kq) ?_
  have hl5 : ((9 : Int32) + (1 : Int32)) = (10 : Int32) := by decide
  refine own_G.cast (g' := (mkF m 33 #[rv a, iv 2, iv q, iv x, iv 9, iv 10] [])) (by rw [hl5]) ?_
  refine own_G.sk 35 [(.int 10)] (fun _ kq => XS.iload X1.here hx rfl (hb hby d9_33) rfl kq) ?_
  refine own_G.sk 37 [(.int 6), (.int 10)] (fun _ kq => XS.bipush X1.here hx rfl (hb hby d9_35) kq) ?_
  have hc37 : ¬ ((10 : Int32) = (6 : Int32)) := (by decide)
  refine own_G.sk 118 [] (fun _ kq => XS.icmpYes X1.here hx rfl (pc0 := 37) (pc' := 118) rfl (hb hby d9_37) rfl (feq hc37).2 (by decide) (by decide) kq) ?_
  refine own_G.sk 120 [(.int 10)] (fun _ kq => XS.iload X1.here hx rfl (hb hby d9_118) rfl kq) ?_
  refine own_G.sk 122 [(.int 7), (.int 10)] (fun _ kq => XS.bipush X1.here hx rfl (hb hby d9_120) kq) ?_
  have hc122 : ¬ ((10 : Int32) = (7 : Int32)) := (by decide)
  refine own_G.sk 216 [] (fun _ kq => XS.icmpYes X1.here hx rfl (pc0 := 122) (pc' := 216) rfl (hb hby d9_122) rfl (feq hc122).2 (by decide) (by decide) kq) ?_
  refine own_G.sk 218 [(.int 10)] (fun _ kq => XS.iload X1.here hx rfl (hb hby d9_216) rfl kq) ?_
  refine own_G.sk 220 [(.int 8), (.int 10)] (fun _ kq => XS.bipush X1.here hx rfl (hb hby d9_218) kq) ?_
  have hc220 : ¬ ((10 : Int32) = (8 : Int32)) := (by decide)
  refine own_G.sk 327 [] (fun _ kq => XS.icmpYes X1.here hx rfl (pc0 := 220) (pc' := 327) rfl (hb hby d9_220) rfl (feq hc220).2 (by decide) (by decide) kq) ?_
  refine own_G.sk 329 [(.int 10)] (fun _ kq => XS.iload X1.here hx rfl (hb hby d9_327) rfl kq) ?_
  refine own_G.sk 331 [(.int 9), (.int 10)] (fun _ kq => XS.bipush X1.here hx rfl (hb hby d9_329) kq) ?_
  have hc331 : ¬ ((10 : Int32) = (9 : Int32)) := (by decide)
  refine own_G.sk 451 [] (fun _ kq => XS.icmpYes X1.here hx rfl (pc0 := 331) (pc' := 451) rfl (hb hby d9_331) rfl (feq hc331).2 (by decide) (by decide) kq) ?_
  obtain ⟨T3, h3, X3, e3, E3, A3, D3, -, st3⟩ := newO X1 hx hZ hown (W_ 52 rfl) (W_ 2 rfl) (W_ 1 rfl) P2 (g := (mkF m 451 #[rv a, iv 2, iv q, iv x, iv 9, iv 10] [])) rfl (hb hby d9_451) (by decide) (by decide)
  obtain ⟨b3, g3⟩ : ∃ z, z = h0.size := ⟨_, rfl⟩
  rw [← g3] at A3 D3 st3
  have ne4 : a ≠ b3 := Nat.ne_of_lt (Nat.lt_of_lt_of_le Ea.lt (Nat.le_of_eq g3.symm))
  have ne5 : t ≠ b3 := Nat.ne_of_lt (Nat.lt_of_lt_of_le AR.lt (Nat.le_of_eq g3.symm))
  have g6 : n0 ≤ b3 := Nat.le_trans O0.le (Nat.le_of_eq g3.symm)
  have z7 : h0.size ≤ b3 := Nat.le_trans K0.1 (Nat.le_of_eq g3.symm)
  have F8 := Ea.ext E3
  have F9 := Fv.ext E3
  have F10 := Fc.ext E3
  have F11 := AR.ext E3
  have O12 := O0.ext E3
  have K13 := K0.ext E3
  have F14 : Fld Z h3 b3 "java/lang/String" "value" "[B" .null := D3 (Or.inr (W_ 4 rfl)) (ty := (.array .byte)) (by decide)
  have F15 : Fld Z h3 b3 "java/lang/String" "coder" "B" (.int 0) := D3 (Or.inr (W_ 5 rfl)) (ty := .byte) (by decide)
  refine own_G.st (T' := T3) 454 [(.ref b3)] st3 ?_
  refine own_G.sk 455 [(.ref b3), (.ref b3)] (fun _ kq => XS.dup X3.here hx rfl (hb hby d9_454) rfl rfl kq) ?_
  refine own_G.sk 457 [(.int 10), (.ref b3), (.ref b3)] (fun _ kq => XS.bipush X3.here hx rfl (hb hby d9_455) kq) ?_
  obtain ⟨T16, h16, k16, X16, e16, E16, A16, st16⟩ := newP X3 hx hZ (W_ 53 rfl) e3 (g := (mkF m 457 #[rv a, iv 2, iv q, iv x, iv 9, iv 10] [(.int 10), (.ref b3), (.ref b3)])) rfl (hb hby d9_457) rfl (by decide) (cap := 10) (by decide) (by decide) (by decide) (by decide)
  obtain ⟨b16, g16⟩ : ∃ z, z = h3.size := ⟨_, rfl⟩
  rw [← g16] at A16 st16
  have ne17 : a ≠ b16 := Nat.ne_of_lt (Nat.lt_of_lt_of_le F8.lt (Nat.le_of_eq g16.symm))
  have ne18 : t ≠ b16 := Nat.ne_of_lt (Nat.lt_of_lt_of_le F11.lt (Nat.le_of_eq g16.symm))
  have ne19 : b3 ≠ b16 := Nat.ne_of_lt (Nat.lt_of_lt_of_le A3.lt (Nat.le_of_eq g16.symm))
  have g20 : n0 ≤ b16 := Nat.le_trans O12.le (Nat.le_of_eq g16.symm)
  have z21 : h0.size ≤ b16 := Nat.le_trans K13.1 (Nat.le_of_eq g16.symm)
  have F22 := F8.ext E16
  have F23 := F9.ext E16
  have F24 := F10.ext E16
  have F25 := F11.ext E16
  have F26 := A3.ext E16
  have F27 := F14.ext E16
  have F28 := F15.ext E16
  have O29 := O12.ext E16
  have K30 := K13.ext E16
  have F31 : Arv Z h16 b16 k16 .char (10 : Int32) [(.int 0), (.int 0), (.int 0), (.int 0), (.int 0), (.int 0), (.int 0), (.int 0), (.int 0), (.int 0)] (.int 0) := (Arv.new A16 (by decide)).pad (pad_rep [] (.int 0) 10)
  refine own_G.st (T' := T16) 459 [(.ref b16), (.ref b3), (.ref b3)] st16 ?_
  refine own_G.sk 460 [(.ref b16), (.ref b16), (.ref b3), (.ref b3)] (fun _ kq => XS.dup X16.here hx rfl (hb hby d9_459) rfl rfl kq) ?_
  refine own_G.sk 461 [(.int 0), (.ref b16), (.ref b16), (.ref b3), (.ref b3)] (fun _ kq => XS.iconst X16.here hx rfl (hb hby d9_460) kq) ?_
  refine own_G.sk 462 [(.ref a), (.int 0), (.ref b16), (.ref b16), (.ref b3), (.ref b3)] (fun _ kq => XS.aloadN X16.here hx rfl (hb hby d9_461) rfl rfl kq) ?_
  refine own_G.sk 463 [(.int 2), (.ref a), (.int 0), (.ref b16), (.ref b16), (.ref b3), (.ref b3)] (fun _ kq => XS.iloadN X16.here hx rfl (hb hby d9_462) rfl kq) ?_
  refine own_G.sk 464 [(.int q), (.int 2), (.ref a), (.int 0), (.ref b16), (.ref b16), (.ref b3), (.ref b3)] (fun _ kq => XS.iloadN X16.here hx rfl (hb hby d9_463) rfl kq) ?_
  refine own_G.sk 465 [(.int x), (.int q), (.int 2), (.ref a), (.int 0), (.ref b16), (.ref b16), (.ref b3), (.ref b3)] (fun _ kq => XS.iloadN X16.here hx rfl (hb hby d9_464) rfl kq) ?_
  refine own_G.sk 466 [(.int 0), (.int x), (.int q), (.int 2), (.ref a), (.int 0), (.ref b16), (.ref b16), (.ref b3), (.ref b3)] (fun _ kq => XS.iconst X16.here hx rfl (hb hby d9_465) kq) ?_
  obtain ⟨_, _, ⟨T32, L32, k32, n32⟩, -, X32, ⟨Lc32, hQ32, l32, y32, z32⟩, st32⟩ := Jvm.LawKit.callS X16 hx (y := own_y22) hown (mvT hZ (W_ 54 rfl)) (mvT hZ (W_ 55 rfl)) (mvT hZ (W_ 50 rfl)) (mvT hZ (W_ 56 rfl)) (by decide) (backOf (W := 5) (rm_g2 l Z a0 hw [] a q x (0 : Int32) csz fm t (9 : Int32) (97 : Int32) (0 : Int32) h16 n0 O29 S_CS hcs S_IO hio F22 F23 F24 (own_Len.arv F25) (fun _ => ⟨(own_At.arv (i := (0 : Int32)) (b := (97 : Int32)) F25 ⟨by decide, by decide⟩ rfl), by decide, by decide⟩) (fun h1_ h2_ => absurd (own_q0 h1_ h2_) hq1)) hZ (W_ 56 rfl) (W_ 50 rfl) (by decide) (by decide)) (g := (mkF m 466 #[rv a, iv 2, iv q, iv x, iv 9, iv 10] [(.int 0), (.int x), (.int q), (.int 2), (.ref a), (.int 0), (.ref b16), (.ref b16), (.ref b3), (.ref b3)])) rfl (by rw [hml]; rfl) (argsL := [(.ref a), (.int 2), (.int q), (.int x), (.int 0)]) (rest := [(.int 0), (.ref b16), (.ref b16), (.ref b3), (.ref b3)]) (lenOf pd__28Ljava_2flang_2fString_3bIICI_29C rfl) rfl (by show 2 * 0 + _ ≤ _; exact Nat.le_of_eq rfl) (hb hby d9_466) (fun _ _ => ⟨rfl, e16, (by decide : 2 + 0 ≤ _), (by decide : 14 + 0 ≤ _)⟩)
  dsimp only [Pt.U, Pt.locs, Pt.cells, Pt.slots] at X32 l32 y32 z32 st32 hQ32
  subst l32 y32 z32
  obtain ⟨rfl, Nq32, P33⟩ := hQ32
  have N32 := Fr.app N1 Nq32
  refine own_G.st (T' := T32) 469 [(.int (nar .char (own_g2 (0 : Int32) q x (own_chr (97 : Int32)) (own_chr (0 : Int32))))), (.int 0), (.ref b16), (.ref b16), (.ref b3), (.ref b3)] (fun _ kq => st32 _ kq) ?_
  obtain ⟨cl34, Ar34, q134, Sz34, Nz34, Hh34, Gg34⟩ := id F31
  obtain ⟨T34, h34, X34, e34, W34, st34⟩ := stC X32 hx hZ P33 Ar34 (j := (0 : Int32)) (inb_of Sz34 ⟨by decide, by decide⟩) (g := (mkF m 469 #[rv a, iv 2, iv q, iv x, iv 9, iv 10] [(.int (nar .char (own_g2 (0 : Int32) q x (own_chr (97 : Int32)) (own_chr (0 : Int32))))), (.int 0), (.ref b16), (.ref b16), (.ref b3), (.ref b3)])) rfl rfl (hb hby d9_469)
  have F35 : Arv Z h34 b16 k16 .char (10 : Int32) [(.int (kC 0 97 0 q x)), (.int 0), (.int 0), (.int 0), (.int 0), (.int 0), (.int 0), (.int 0), (.int 0), (.int 0)] (.int 0) := Arv.set Ar34 q134 Sz34 Nz34 Hh34 Gg34 (fits_nar_char _) W34 0 rfl (Nat.le_of_ble_eq_true rfl)
  have N34 := Fr.snoc X34 N32 g20
  have F36 := F22.wr W34
  have F37 := F23.other W34 (Or.inl ne17)
  have F38 := F24.other W34 (Or.inl ne17)
  have F39 := F25.other W34 ne18
  have F40 := F26.wr W34
  have F41 := F27.other W34 (Or.inl ne19)
  have F42 := F28.other W34 (Or.inl ne19)
  have O44 := O29.wr W34 g20
  have K45 := K30.wr W34 (Or.inr z21)
  refine own_G.st (T' := T34) 470 [(.ref b16), (.ref b3), (.ref b3)] st34 ?_
  refine own_G.sk 471 [(.ref b16), (.ref b16), (.ref b3), (.ref b3)] (fun _ kq => XS.dup X34.here hx rfl (hb hby d9_470) rfl rfl kq) ?_
  refine own_G.sk 472 [(.int 1), (.ref b16), (.ref b16), (.ref b3), (.ref b3)] (fun _ kq => XS.iconst X34.here hx rfl (hb hby d9_471) kq) ?_
  refine own_G.sk 473 [(.ref a), (.int 1), (.ref b16), (.ref b16), (.ref b3), (.ref b3)] (fun _ kq => XS.aloadN X34.here hx rfl (hb hby d9_472) rfl rfl kq) ?_
  refine own_G.sk 474 [(.int 2), (.ref a), (.int 1), (.ref b16), (.ref b16), (.ref b3), (.ref b3)] (fun _ kq => XS.iloadN X34.here hx rfl (hb hby d9_473) rfl kq) ?_
  refine own_G.sk 475 [(.int q), (.int 2), (.ref a), (.int 1), (.ref b16), (.ref b16), (.ref b3), (.ref b3)] (fun _ kq => XS.iloadN X34.here hx rfl (hb hby d9_474) rfl kq) ?_
  refine own_G.sk 476 [(.int x), (.int q), (.int 2), (.ref a), (.int 1), (.ref b16), (.ref b16), (.ref b3), (.ref b3)] (fun _ kq => XS.iloadN X34.here hx rfl (hb hby d9_475) rfl kq) ?_
  refine own_G.sk 477 [(.int 1), (.int x), (.int q), (.int 2), (.ref a), (.int 1), (.ref b16), (.ref b16), (.ref b3), (.ref b3)] (fun _ kq => XS.iconst X34.here hx rfl (hb hby d9_476) kq) ?_
  obtain ⟨_, _, ⟨T46, L46, k46, n46⟩, -, X46, ⟨Lc46, hQ46, l46, y46, z46⟩, st46⟩ := Jvm.LawKit.callS X34 hx (y := own_y22) hown (mvT hZ (W_ 54 rfl)) (mvT hZ (W_ 55 rfl)) (mvT hZ (W_ 50 rfl)) (mvT hZ (W_ 56 rfl)) (by decide) (backOf (W := 5) (rm_g2 l Z a0 hw [] a q x (1 : Int32) csz fm t (9 : Int32) (108 : Int32) (97 : Int32) h34 n0 O44 S_CS hcs S_IO hio F36 F37 F38 (own_Len.arv F39) (fun _ => ⟨(own_At.arv (i := (1 : Int32)) (b := (108 : Int32)) F39 ⟨by decide, by decide⟩ rfl), by decide, by decide⟩) (fun _ _ => ⟨(own_At.arv (i := (0 : Int32)) (b := (97 : Int32)) F39 ⟨by decide, by decide⟩ rfl), by decide, by decide⟩)) hZ (W_ 56 rfl) (W_ 50 rfl) (by decide) (by decide)) (g := (mkF m 477 #[rv a, iv 2, iv q, iv x, iv 9, iv 10] [(.int 1), (.int x), (.int q), (.int 2), (.ref a), (.int 1), (.ref b16), (.ref b16), (.ref b3), (.ref b3)])) rfl (by rw [hml]; rfl) (argsL := [(.ref a), (.int 2), (.int q), (.int x), (.int 1)]) (rest := [(.int 1), (.ref b16), (.ref b16), (.ref b3), (.ref b3)]) (lenOf pd__28Ljava_2flang_2fString_3bIICI_29C rfl) rfl (by show 2 * 0 + _ ≤ _; exact Nat.le_of_eq rfl) (hb hby d9_477) (fun _ _ => ⟨rfl, e34, (by decide : 2 + 0 ≤ _), (by decide : 14 + 0 ≤ _)⟩)
  dsimp only [Pt.U, Pt.locs, Pt.cells, Pt.slots] at X46 l46 y46 z46 st46 hQ46
  subst l46 y46 z46
  obtain ⟨rfl, Nq46, P47⟩ := hQ46
  have N46 := Fr.app N34 Nq46
  refine own_G.st (T' := T46) 480 [(.int (nar .char (own_g2 (1 : Int32) q x (own_chr (108 : Int32)) (own_chr (97 : Int32))))), (.int 1), (.ref b16), (.ref b16), (.ref b3), (.ref b3)] (fun _ kq => st46 _ kq) ?_
  obtain ⟨cl48, Ar48, q148, Sz48, Nz48, Hh48, Gg48⟩ := id F35
  obtain ⟨T48, h48, X48, e48, W48, st48⟩ := stC X46 hx hZ P47 Ar48 (j := (1 : Int32)) (inb_of Sz48 ⟨by decide, by decide⟩) (g := (mkF m 480 #[rv a, iv 2, iv q, iv x, iv 9, iv 10] [(.int (nar .char (own_g2 (1 : Int32) q x (own_chr (108 : Int32)) (own_chr (97 : Int32))))), (.int 1), (.ref b16), (.ref b16), (.ref b3), (.ref b3)])) rfl rfl (hb hby d9_480)
  have F49 : Arv Z h48 b16 k16 .char (10 : Int32) [(.int (kC 0 97 0 q x)), (.int (kC 1 108 97 q x)), (.int 0), (.int 0), (.int 0), (.int 0), (.int 0), (.int 0), (.int 0), (.int 0)] (.int 0) := Arv.set Ar48 q148 Sz48 Nz48 Hh48 Gg48 (fits_nar_char _) W48 1 rfl (Nat.le_of_ble_eq_true rfl)
  have N48 := Fr.snoc X48 N46 g20
  have F50 := F36.wr W48
  have F51 := F37.other W48 (Or.inl ne17)
  have F52 := F38.other W48 (Or.inl ne17)
  have F53 := F39.other W48 ne18
  have F54 := F40.wr W48
  have F55 := F41.other W48 (Or.inl ne19)
  have F56 := F42.other W48 (Or.inl ne19)
  have O58 := O44.wr W48 g20
  have K59 := K45.wr W48 (Or.inr z21)
  refine own_G.st (T' := T48) 481 [(.ref b16), (.ref b3), (.ref b3)] st48 ?_
  refine own_G.sk 482 [(.ref b16), (.ref b16), (.ref b3), (.ref b3)] (fun _ kq => XS.dup X48.here hx rfl (hb hby d9_481) rfl rfl kq) ?_
  refine own_G.sk 483 [(.int 2), (.ref b16), (.ref b16), (.ref b3), (.ref b3)] (fun _ kq => XS.iconst X48.here hx rfl (hb hby d9_482) kq) ?_
  refine own_G.sk 484 [(.ref a), (.int 2), (.ref b16), (.ref b16), (.ref b3), (.ref b3)] (fun _ kq => XS.aloadN X48.here hx rfl (hb hby d9_483) rfl rfl kq) ?_
  refine own_G.sk 485 [(.int 2), (.ref a), (.int 2), (.ref b16), (.ref b16), (.ref b3), (.ref b3)] (fun _ kq => XS.iloadN X48.here hx rfl (hb hby d9_484) rfl kq) ?_
  refine own_G.sk 486 [(.int q), (.int 2), (.ref a), (.int 2), (.ref b16), (.ref b16), (.ref b3), (.ref b3)] (fun _ kq => XS.iloadN X48.here hx rfl (hb hby d9_485) rfl kq) ?_
  refine own_G.sk 487 [(.int x), (.int q), (.int 2), (.ref a), (.int 2), (.ref b16), (.ref b16), (.ref b3), (.ref b3)] (fun _ kq => XS.iloadN X48.here hx rfl (hb hby d9_486) rfl kq) ?_
  refine own_G.sk 488 [(.int 2), (.int x), (.int q), (.int 2), (.ref a), (.int 2), (.ref b16), (.ref b16), (.ref b3), (.ref b3)] (fun _ kq => XS.iconst X48.here hx rfl (hb hby d9_487) kq) ?_
  obtain ⟨_, _, ⟨T60, L60, k60, n60⟩, -, X60, ⟨Lc60, hQ60, l60, y60, z60⟩, st60⟩ := Jvm.LawKit.callS X48 hx (y := own_y22) hown (mvT hZ (W_ 54 rfl)) (mvT hZ (W_ 55 rfl)) (mvT hZ (W_ 50 rfl)) (mvT hZ (W_ 56 rfl)) (by decide) (backOf (W := 5) (rm_g2 l Z a0 hw [] a q x (2 : Int32) csz fm t (9 : Int32) (116 : Int32) (108 : Int32) h48 n0 O58 S_CS hcs S_IO hio F50 F51 F52 (own_Len.arv F53) (fun _ => ⟨(own_At.arv (i := (2 : Int32)) (b := (116 : Int32)) F53 ⟨by decide, by decide⟩ rfl), by decide, by decide⟩) (fun _ _ => ⟨(own_At.arv (i := (1 : Int32)) (b := (108 : Int32)) F53 ⟨by decide, by decide⟩ rfl), by decide, by decide⟩)) hZ (W_ 56 rfl) (W_ 50 rfl) (by decide) (by decide)) (g := (mkF m 488 #[rv a, iv 2, iv q, iv x, iv 9, iv 10] [(.int 2), (.int x), (.int q), (.int 2), (.ref a), (.int 2), (.ref b16), (.ref b16), (.ref b3), (.ref b3)])) rfl (by rw [hml]; rfl) (argsL := [(.ref a), (.int 2), (.int q), (.int x), (.int 2)]) (rest := [(.int 2), (.ref b16), (.ref b16), (.ref b3), (.ref b3)]) (lenOf pd__28Ljava_2flang_2fString_3bIICI_29C rfl) rfl (by show 2 * 0 + _ ≤ _; exact Nat.le_of_eq rfl) (hb hby d9_488) (fun _ _ => ⟨rfl, e48, (by decide : 2 + 0 ≤ _), (by decide : 14 + 0 ≤ _)⟩)
  dsimp only [Pt.U, Pt.locs, Pt.cells, Pt.slots] at X60 l60 y60 z60 st60 hQ60
  subst l60 y60 z60
  obtain ⟨rfl, Nq60, P61⟩ := hQ60
  have N60 := Fr.app N48 Nq60
  refine own_G.st (T' := T60) 491 [(.int (nar .char (own_g2 (2 : Int32) q x (own_chr (116 : Int32)) (own_chr (108 : Int32))))), (.int 2), (.ref b16), (.ref b16), (.ref b3), (.ref b3)] (fun _ kq => st60 _ kq) ?_
  obtain ⟨cl62, Ar62, q162, Sz62, Nz62, Hh62, Gg62⟩ := id F49
  obtain ⟨T62, h62, X62, e62, W62, st62⟩ := stC X60 hx hZ P61 Ar62 (j := (2 : Int32)) (inb_of Sz62 ⟨by decide, by decide⟩) (g := (mkF m 491 #[rv a, iv 2, iv q, iv x, iv 9, iv 10] [(.int (nar .char (own_g2 (2 : Int32) q x (own_chr (116 : Int32)) (own_chr (108 : Int32))))), (.int 2), (.ref b16), (.ref b16), (.ref b3), (.ref b3)])) rfl rfl (hb hby d9_491)
  have F63 : Arv Z h62 b16 k16 .char (10 : Int32) [(.int (kC 0 97 0 q x)), (.int (kC 1 108 97 q x)), (.int (kC 2 116 108 q x)), (.int 0), (.int 0), (.int 0), (.int 0), (.int 0), (.int 0), (.int 0)] (.int 0) := Arv.set Ar62 q162 Sz62 Nz62 Hh62 Gg62 (fits_nar_char _) W62 2 rfl (Nat.le_of_ble_eq_true rfl)
  have N62 := Fr.snoc X62 N60 g20
  have F64 := F50.wr W62
  have F65 := F51.other W62 (Or.inl ne17)
  have F66 := F52.other W62 (Or.inl ne17)
  have F67 := F53.other W62 ne18
  have F68 := F54.wr W62
  have F69 := F55.other W62 (Or.inl ne19)
  have F70 := F56.other W62 (Or.inl ne19)
  have O72 := O58.wr W62 g20
  have K73 := K59.wr W62 (Or.inr z21)
  refine own_G.st (T' := T62) 492 [(.ref b16), (.ref b3), (.ref b3)] st62 ?_
  refine own_G.sk 493 [(.ref b16), (.ref b16), (.ref b3), (.ref b3)] (fun _ kq => XS.dup X62.here hx rfl (hb hby d9_492) rfl rfl kq) ?_
  refine own_G.sk 494 [(.int 3), (.ref b16), (.ref b16), (.ref b3), (.ref b3)] (fun _ kq => XS.iconst X62.here hx rfl (hb hby d9_493) kq) ?_
  refine own_G.sk 495 [(.ref a), (.int 3), (.ref b16), (.ref b16), (.ref b3), (.ref b3)] (fun _ kq => XS.aloadN X62.here hx rfl (hb hby d9_494) rfl rfl kq) ?_
  refine own_G.sk 496 [(.int 2), (.ref a), (.int 3), (.ref b16), (.ref b16), (.ref b3), (.ref b3)] (fun _ kq => XS.iloadN X62.here hx rfl (hb hby d9_495) rfl kq) ?_
  refine own_G.sk 497 [(.int q), (.int 2), (.ref a), (.int 3), (.ref b16), (.ref b16), (.ref b3), (.ref b3)] (fun _ kq => XS.iloadN X62.here hx rfl (hb hby d9_496) rfl kq) ?_
  refine own_G.sk 498 [(.int x), (.int q), (.int 2), (.ref a), (.int 3), (.ref b16), (.ref b16), (.ref b3), (.ref b3)] (fun _ kq => XS.iloadN X62.here hx rfl (hb hby d9_497) rfl kq) ?_
  refine own_G.sk 499 [(.int 3), (.int x), (.int q), (.int 2), (.ref a), (.int 3), (.ref b16), (.ref b16), (.ref b3), (.ref b3)] (fun _ kq => XS.iconst X62.here hx rfl (hb hby d9_498) kq) ?_
  obtain ⟨_, _, ⟨T74, L74, k74, n74⟩, -, X74, ⟨Lc74, hQ74, l74, y74, z74⟩, st74⟩ := Jvm.LawKit.callS X62 hx (y := own_y22) hown (mvT hZ (W_ 54 rfl)) (mvT hZ (W_ 55 rfl)) (mvT hZ (W_ 50 rfl)) (mvT hZ (W_ 56 rfl)) (by decide) (backOf (W := 5) (rm_g2 l Z a0 hw [] a q x (3 : Int32) csz fm t (9 : Int32) (101 : Int32) (116 : Int32) h62 n0 O72 S_CS hcs S_IO hio F64 F65 F66 (own_Len.arv F67) (fun _ => ⟨(own_At.arv (i := (3 : Int32)) (b := (101 : Int32)) F67 ⟨by decide, by decide⟩ rfl), by decide, by decide⟩) (fun _ _ => ⟨(own_At.arv (i := (2 : Int32)) (b := (116 : Int32)) F67 ⟨by decide, by decide⟩ rfl), by decide, by decide⟩)) hZ (W_ 56 rfl) (W_ 50 rfl) (by decide) (by decide)) (g := (mkF m 499 #[rv a, iv 2, iv q, iv x, iv 9, iv 10] [(.int 3), (.int x), (.int q), (.int 2), (.ref a), (.int 3), (.ref b16), (.ref b16), (.ref b3), (.ref b3)])) rfl (by rw [hml]; rfl) (argsL := [(.ref a), (.int 2), (.int q), (.int x), (.int 3)]) (rest := [(.int 3), (.ref b16), (.ref b16), (.ref b3), (.ref b3)]) (lenOf pd__28Ljava_2flang_2fString_3bIICI_29C rfl) rfl (by show 2 * 0 + _ ≤ _; exact Nat.le_of_eq rfl) (hb hby d9_499) (fun _ _ => ⟨rfl, e62, (by decide : 2 + 0 ≤ _), (by decide : 14 + 0 ≤ _)⟩)
  dsimp only [Pt.U, Pt.locs, Pt.cells, Pt.slots] at X74 l74 y74 z74 st74 hQ74
  subst l74 y74 z74
  obtain ⟨rfl, Nq74, P75⟩ := hQ74
  have N74 := Fr.app N62 Nq74
  refine own_G.st (T' := T74) 502 [(.int (nar .char (own_g2 (3 : Int32) q x (own_chr (101 : Int32)) (own_chr (116 : Int32))))), (.int 3), (.ref b16), (.ref b16), (.ref b3), (.ref b3)] (fun _ kq => st74 _ kq) ?_
  obtain ⟨cl76, Ar76, q176, Sz76, Nz76, Hh76, Gg76⟩ := id F63
  obtain ⟨T76, h76, X76, e76, W76, st76⟩ := stC X74 hx hZ P75 Ar76 (j := (3 : Int32)) (inb_of Sz76 ⟨by decide, by decide⟩) (g := (mkF m 502 #[rv a, iv 2, iv q, iv x, iv 9, iv 10] [(.int (nar .char (own_g2 (3 : Int32) q x (own_chr (101 : Int32)) (own_chr (116 : Int32))))), (.int 3), (.ref b16), (.ref b16), (.ref b3), (.ref b3)])) rfl rfl (hb hby d9_502)
  have F77 : Arv Z h76 b16 k16 .char (10 : Int32) [(.int (kC 0 97 0 q x)), (.int (kC 1 108 97 q x)), (.int (kC 2 116 108 q x)), (.int (kC 3 101 116 q x)), (.int 0), (.int 0), (.int 0), (.int 0), (.int 0), (.int 0)] (.int 0) := Arv.set Ar76 q176 Sz76 Nz76 Hh76 Gg76 (fits_nar_char _) W76 3 rfl (Nat.le_of_ble_eq_true rfl)
  have N76 := Fr.snoc X76 N74 g20
  have F78 := F64.wr W76
  have F79 := F65.other W76 (Or.inl ne17)
  have F80 := F66.other W76 (Or.inl ne17)
  have F81 := F67.other W76 ne18
  have F82 := F68.wr W76
  have F83 := F69.other W76 (Or.inl ne19)
  have F84 := F70.other W76 (Or.inl ne19)
  have O86 := O72.wr W76 g20
  have K87 := K73.wr W76 (Or.inr z21)
  refine own_G.st (T' := T76) 503 [(.ref b16), (.ref b3), (.ref b3)] st76 ?_
  refine own_G.sk 504 [(.ref b16), (.ref b16), (.ref b3), (.ref b3)] (fun _ kq => XS.dup X76.here hx rfl (hb hby d9_503) rfl rfl kq) ?_
  refine own_G.sk 505 [(.int 4), (.ref b16), (.ref b16), (.ref b3), (.ref b3)] (fun _ kq => XS.iconst X76.here hx rfl (hb hby d9_504) kq) ?_
  refine own_G.sk 506 [(.ref a), (.int 4), (.ref b16), (.ref b16), (.ref b3), (.ref b3)] (fun _ kq => XS.aloadN X76.here hx rfl (hb hby d9_505) rfl rfl kq) ?_
  refine own_G.sk 507 [(.int 2), (.ref a), (.int 4), (.ref b16), (.ref b16), (.ref b3), (.ref b3)] (fun _ kq => XS.iloadN X76.here hx rfl (hb hby d9_506) rfl kq) ?_
  refine own_G.sk 508 [(.int q), (.int 2), (.ref a), (.int 4), (.ref b16), (.ref b16), (.ref b3), (.ref b3)] (fun _ kq => XS.iloadN X76.here hx rfl (hb hby d9_507) rfl kq) ?_
  refine own_G.sk 509 [(.int x), (.int q), (.int 2), (.ref a), (.int 4), (.ref b16), (.ref b16), (.ref b3), (.ref b3)] (fun _ kq => XS.iloadN X76.here hx rfl (hb hby d9_508) rfl kq) ?_
  refine own_G.sk 510 [(.int 4), (.int x), (.int q), (.int 2), (.ref a), (.int 4), (.ref b16), (.ref b16), (.ref b3), (.ref b3)] (fun _ kq => XS.iconst X76.here hx rfl (hb hby d9_509) kq) ?_
  obtain ⟨_, _, ⟨T88, L88, k88, n88⟩, -, X88, ⟨Lc88, hQ88, l88, y88, z88⟩, st88⟩ := Jvm.LawKit.callS X76 hx (y := own_y22) hown (mvT hZ (W_ 54 rfl)) (mvT hZ (W_ 55 rfl)) (mvT hZ (W_ 50 rfl)) (mvT hZ (W_ 56 rfl)) (by decide) (backOf (W := 5) (rm_g2 l Z a0 hw [] a q x (4 : Int32) csz fm t (9 : Int32) (114 : Int32) (101 : Int32) h76 n0 O86 S_CS hcs S_IO hio F78 F79 F80 (own_Len.arv F81) (fun _ => ⟨(own_At.arv (i := (4 : Int32)) (b := (114 : Int32)) F81 ⟨by decide, by decide⟩ rfl), by decide, by decide⟩) (fun _ _ => ⟨(own_At.arv (i := (3 : Int32)) (b := (101 : Int32)) F81 ⟨by decide, by decide⟩ rfl), by decide, by decide⟩)) hZ (W_ 56 rfl) (W_ 50 rfl) (by decide) (by decide)) (g := (mkF m 510 #[rv a, iv 2, iv q, iv x, iv 9, iv 10] [(.int 4), (.int x), (.int q), (.int 2), (.ref a), (.int 4), (.ref b16), (.ref b16), (.ref b3), (.ref b3)])) rfl (by rw [hml]; rfl) (argsL := [(.ref a), (.int 2), (.int q), (.int x), (.int 4)]) (rest := [(.int 4), (.ref b16), (.ref b16), (.ref b3), (.ref b3)]) (lenOf pd__28Ljava_2flang_2fString_3bIICI_29C rfl) rfl (by show 2 * 0 + _ ≤ _; exact Nat.le_of_eq rfl) (hb hby d9_510) (fun _ _ => ⟨rfl, e76, (by decide : 2 + 0 ≤ _), (by decide : 14 + 0 ≤ _)⟩)
  dsimp only [Pt.U, Pt.locs, Pt.cells, Pt.slots] at X88 l88 y88 z88 st88 hQ88
  subst l88 y88 z88
  obtain ⟨rfl, Nq88, P89⟩ := hQ88
  have N88 := Fr.app N76 Nq88
  refine own_G.st (T' := T88) 513 [(.int (nar .char (own_g2 (4 : Int32) q x (own_chr (114 : Int32)) (own_chr (101 : Int32))))), (.int 4), (.ref b16), (.ref b16), (.ref b3), (.ref b3)] (fun _ kq => st88 _ kq) ?_
  obtain ⟨cl90, Ar90, q190, Sz90, Nz90, Hh90, Gg90⟩ := id F77
  obtain ⟨T90, h90, X90, e90, W90, st90⟩ := stC X88 hx hZ P89 Ar90 (j := (4 : Int32)) (inb_of Sz90 ⟨by decide, by decide⟩) (g := (mkF m 513 #[rv a, iv 2, iv q, iv x, iv 9, iv 10] [(.int (nar .char (own_g2 (4 : Int32) q x (own_chr (114 : Int32)) (own_chr (101 : Int32))))), (.int 4), (.ref b16), (.ref b16), (.ref b3), (.ref b3)])) rfl rfl (hb hby d9_513)
  have F91 : Arv Z h90 b16 k16 .char (10 : Int32) [(.int (kC 0 97 0 q x)), (.int (kC 1 108 97 q x)), (.int (kC 2 116 108 q x)), (.int (kC 3 101 116 q x)), (.int (kC 4 114 101 q x)), (.int 0), (.int 0), (.int 0), (.int 0), (.int 0)] (.int 0) := Arv.set Ar90 q190 Sz90 Nz90 Hh90 Gg90 (fits_nar_char _) W90 4 rfl (Nat.le_of_ble_eq_true rfl)
  have N90 := Fr.snoc X90 N88 g20
  have F92 := F78.wr W90
  have F93 := F79.other W90 (Or.inl ne17)
  have F94 := F80.other W90 (Or.inl ne17)
  have F95 := F81.other W90 ne18
  have F96 := F82.wr W90
  have F97 := F83.other W90 (Or.inl ne19)
  have F98 := F84.other W90 (Or.inl ne19)
  have O100 := O86.wr W90 g20
  have K101 := K87.wr W90 (Or.inr z21)
  refine own_G.st (T' := T90) 514 [(.ref b16), (.ref b3), (.ref b3)] st90 ?_
  refine own_G.sk 515 [(.ref b16), (.ref b16), (.ref b3), (.ref b3)] (fun _ kq => XS.dup X90.here hx rfl (hb hby d9_514) rfl rfl kq) ?_
  refine own_G.sk 516 [(.int 5), (.ref b16), (.ref b16), (.ref b3), (.ref b3)] (fun _ kq => XS.iconst X90.here hx rfl (hb hby d9_515) kq) ?_
  refine own_G.sk 517 [(.ref a), (.int 5), (.ref b16), (.ref b16), (.ref b3), (.ref b3)] (fun _ kq => XS.aloadN X90.here hx rfl (hb hby d9_516) rfl rfl kq) ?_
  refine own_G.sk 518 [(.int 2), (.ref a), (.int 5), (.ref b16), (.ref b16), (.ref b3), (.ref b3)] (fun _ kq => XS.iloadN X90.here hx rfl (hb hby d9_517) rfl kq) ?_
  refine own_G.sk 519 [(.int q), (.int 2), (.ref a), (.int 5), (.ref b16), (.ref b16), (.ref b3), (.ref b3)] (fun _ kq => XS.iloadN X90.here hx rfl (hb hby d9_518) rfl kq) ?_
  refine own_G.sk 520 [(.int x), (.int q), (.int 2), (.ref a), (.int 5), (.ref b16), (.ref b16), (.ref b3), (.ref b3)] (fun _ kq => XS.iloadN X90.here hx rfl (hb hby d9_519) rfl kq) ?_
  refine own_G.sk 521 [(.int 5), (.int x), (.int q), (.int 2), (.ref a), (.int 5), (.ref b16), (.ref b16), (.ref b3), (.ref b3)] (fun _ kq => XS.iconst X90.here hx rfl (hb hby d9_520) kq) ?_
  obtain ⟨_, _, ⟨T102, L102, k102, n102⟩, -, X102, ⟨Lc102, hQ102, l102, y102, z102⟩, st102⟩ := Jvm.LawKit.callS X90 hx (y := own_y22) hown (mvT hZ (W_ 54 rfl)) (mvT hZ (W_ 55 rfl)) (mvT hZ (W_ 50 rfl)) (mvT hZ (W_ 56 rfl)) (by decide) (backOf (W := 5) (rm_g2 l Z a0 hw [] a q x (5 : Int32) csz fm t (9 : Int32) (110 : Int32) (114 : Int32) h90 n0 O100 S_CS hcs S_IO hio F92 F93 F94 (own_Len.arv F95) (fun _ => ⟨(own_At.arv (i := (5 : Int32)) (b := (110 : Int32)) F95 ⟨by decide, by decide⟩ rfl), by decide, by decide⟩) (fun _ _ => ⟨(own_At.arv (i := (4 : Int32)) (b := (114 : Int32)) F95 ⟨by decide, by decide⟩ rfl), by decide, by decide⟩)) hZ (W_ 56 rfl) (W_ 50 rfl) (by decide) (by decide)) (g := (mkF m 521 #[rv a, iv 2, iv q, iv x, iv 9, iv 10] [(.int 5), (.int x), (.int q), (.int 2), (.ref a), (.int 5), (.ref b16), (.ref b16), (.ref b3), (.ref b3)])) rfl (by rw [hml]; rfl) (argsL := [(.ref a), (.int 2), (.int q), (.int x), (.int 5)]) (rest := [(.int 5), (.ref b16), (.ref b16), (.ref b3), (.ref b3)]) (lenOf pd__28Ljava_2flang_2fString_3bIICI_29C rfl) rfl (by show 2 * 0 + _ ≤ _; exact Nat.le_of_eq rfl) (hb hby d9_521) (fun _ _ => ⟨rfl, e90, (by decide : 2 + 0 ≤ _), (by decide : 14 + 0 ≤ _)⟩)
  dsimp only [Pt.U, Pt.locs, Pt.cells, Pt.slots] at X102 l102 y102 z102 st102 hQ102
  subst l102 y102 z102
  obtain ⟨rfl, Nq102, P103⟩ := hQ102
  have N102 := Fr.app N90 Nq102
  refine own_G.st (T' := T102) 524 [(.int (nar .char (own_g2 (5 : Int32) q x (own_chr (110 : Int32)) (own_chr (114 : Int32))))), (.int 5), (.ref b16), (.ref b16), (.ref b3), (.ref b3)] (fun _ kq => st102 _ kq) ?_
  obtain ⟨cl104, Ar104, q1104, Sz104, Nz104, Hh104, Gg104⟩ := id F91
  obtain ⟨T104, h104, X104, e104, W104, st104⟩ := stC X102 hx hZ P103 Ar104 (j := (5 : Int32)) (inb_of Sz104 ⟨by decide, by decide⟩) (g := (mkF m 524 #[rv a, iv 2, iv q, iv x, iv 9, iv 10] [(.int (nar .char (own_g2 (5 : Int32) q x (own_chr (110 : Int32)) (own_chr (114 : Int32))))), (.int 5), (.ref b16), (.ref b16), (.ref b3), (.ref b3)])) rfl rfl (hb hby d9_524)
  have F105 : Arv Z h104 b16 k16 .char (10 : Int32) [(.int (kC 0 97 0 q x)), (.int (kC 1 108 97 q x)), (.int (kC 2 116 108 q x)), (.int (kC 3 101 116 q x)), (.int (kC 4 114 101 q x)), (.int (kC 5 110 114 q x)), (.int 0), (.int 0), (.int 0), (.int 0)] (.int 0) := Arv.set Ar104 q1104 Sz104 Nz104 Hh104 Gg104 (fits_nar_char _) W104 5 rfl (Nat.le_of_ble_eq_true rfl)
  have N104 := Fr.snoc X104 N102 g20
  have F106 := F92.wr W104
  have F107 := F93.other W104 (Or.inl ne17)
  have F108 := F94.other W104 (Or.inl ne17)
  have F109 := F95.other W104 ne18
  have F110 := F96.wr W104
  have F111 := F97.other W104 (Or.inl ne19)
  have F112 := F98.other W104 (Or.inl ne19)
  have O114 := O100.wr W104 g20
  have K115 := K101.wr W104 (Or.inr z21)
  refine own_G.st (T' := T104) 525 [(.ref b16), (.ref b3), (.ref b3)] st104 ?_
  refine own_G.sk 526 [(.ref b16), (.ref b16), (.ref b3), (.ref b3)] (fun _ kq => XS.dup X104.here hx rfl (hb hby d9_525) rfl rfl kq) ?_
  refine own_G.sk 528 [(.int 6), (.ref b16), (.ref b16), (.ref b3), (.ref b3)] (fun _ kq => XS.bipush X104.here hx rfl (hb hby d9_526) kq) ?_
  refine own_G.sk 529 [(.ref a), (.int 6), (.ref b16), (.ref b16), (.ref b3), (.ref b3)] (fun _ kq => XS.aloadN X104.here hx rfl (hb hby d9_528) rfl rfl kq) ?_
  refine own_G.sk 530 [(.int 2), (.ref a), (.int 6), (.ref b16), (.ref b16), (.ref b3), (.ref b3)] (fun _ kq => XS.iloadN X104.here hx rfl (hb hby d9_529) rfl kq) ?_
  refine own_G.sk 531 [(.int q), (.int 2), (.ref a), (.int 6), (.ref b16), (.ref b16), (.ref b3), (.ref b3)] (fun _ kq => XS.iloadN X104.here hx rfl (hb hby d9_530) rfl kq) ?_
  refine own_G.sk 532 [(.int x), (.int q), (.int 2), (.ref a), (.int 6), (.ref b16), (.ref b16), (.ref b3), (.ref b3)] (fun _ kq => XS.iloadN X104.here hx rfl (hb hby d9_531) rfl kq) ?_
  refine own_G.sk 534 [(.int 6), (.int x), (.int q), (.int 2), (.ref a), (.int 6), (.ref b16), (.ref b16), (.ref b3), (.ref b3)] (fun _ kq => XS.bipush X104.here hx rfl (hb hby d9_532) kq) ?_
  obtain ⟨_, _, ⟨T116, L116, k116, n116⟩, -, X116, ⟨Lc116, hQ116, l116, y116, z116⟩, st116⟩ := Jvm.LawKit.callS X104 hx (y := own_y22) hown (mvT hZ (W_ 54 rfl)) (mvT hZ (W_ 55 rfl)) (mvT hZ (W_ 50 rfl)) (mvT hZ (W_ 56 rfl)) (by decide) (backOf (W := 5) (rm_g2 l Z a0 hw [] a q x (6 : Int32) csz fm t (9 : Int32) (97 : Int32) (110 : Int32) h104 n0 O114 S_CS hcs S_IO hio F106 F107 F108 (own_Len.arv F109) (fun _ => ⟨(own_At.arv (i := (6 : Int32)) (b := (97 : Int32)) F109 ⟨by decide, by decide⟩ rfl), by decide, by decide⟩) (fun _ _ => ⟨(own_At.arv (i := (5 : Int32)) (b := (110 : Int32)) F109 ⟨by decide, by decide⟩ rfl), by decide, by decide⟩)) hZ (W_ 56 rfl) (W_ 50 rfl) (by decide) (by decide)) (g := (mkF m 534 #[rv a, iv 2, iv q, iv x, iv 9, iv 10] [(.int 6), (.int x), (.int q), (.int 2), (.ref a), (.int 6), (.ref b16), (.ref b16), (.ref b3), (.ref b3)])) rfl (by rw [hml]; rfl) (argsL := [(.ref a), (.int 2), (.int q), (.int x), (.int 6)]) (rest := [(.int 6), (.ref b16), (.ref b16), (.ref b3), (.ref b3)]) (lenOf pd__28Ljava_2flang_2fString_3bIICI_29C rfl) rfl (by show 2 * 0 + _ ≤ _; exact Nat.le_of_eq rfl) (hb hby d9_534) (fun _ _ => ⟨rfl, e104, (by decide : 2 + 0 ≤ _), (by decide : 14 + 0 ≤ _)⟩)
  dsimp only [Pt.U, Pt.locs, Pt.cells, Pt.slots] at X116 l116 y116 z116 st116 hQ116
  subst l116 y116 z116
  obtain ⟨rfl, Nq116, P117⟩ := hQ116
  have N116 := Fr.app N104 Nq116
  refine own_G.st (T' := T116) 537 [(.int (nar .char (own_g2 (6 : Int32) q x (own_chr (97 : Int32)) (own_chr (110 : Int32))))), (.int 6), (.ref b16), (.ref b16), (.ref b3), (.ref b3)] (fun _ kq => st116 _ kq) ?_
  obtain ⟨cl118, Ar118, q1118, Sz118, Nz118, Hh118, Gg118⟩ := id F105
  obtain ⟨T118, h118, X118, e118, W118, st118⟩ := stC X116 hx hZ P117 Ar118 (j := (6 : Int32)) (inb_of Sz118 ⟨by decide, by decide⟩) (g := (mkF m 537 #[rv a, iv 2, iv q, iv x, iv 9, iv 10] [(.int (nar .char (own_g2 (6 : Int32) q x (own_chr (97 : Int32)) (own_chr (110 : Int32))))), (.int 6), (.ref b16), (.ref b16), (.ref b3), (.ref b3)])) rfl rfl (hb hby d9_537)
  have F119 : Arv Z h118 b16 k16 .char (10 : Int32) [(.int (kC 0 97 0 q x)), (.int (kC 1 108 97 q x)), (.int (kC 2 116 108 q x)), (.int (kC 3 101 116 q x)), (.int (kC 4 114 101 q x)), (.int (kC 5 110 114 q x)), (.int (kC 6 97 110 q x)), (.int 0), (.int 0), (.int 0)] (.int 0) := Arv.set Ar118 q1118 Sz118 Nz118 Hh118 Gg118 (fits_nar_char _) W118 6 rfl (Nat.le_of_ble_eq_true rfl)
  have N118 := Fr.snoc X118 N116 g20
  have F120 := F106.wr W118
  have F121 := F107.other W118 (Or.inl ne17)
  have F122 := F108.other W118 (Or.inl ne17)
  have F123 := F109.other W118 ne18
  have F124 := F110.wr W118
  have F125 := F111.other W118 (Or.inl ne19)
  have F126 := F112.other W118 (Or.inl ne19)
  have O128 := O114.wr W118 g20
  have K129 := K115.wr W118 (Or.inr z21)
  refine own_G.st (T' := T118) 538 [(.ref b16), (.ref b3), (.ref b3)] st118 ?_
  refine own_G.sk 539 [(.ref b16), (.ref b16), (.ref b3), (.ref b3)] (fun _ kq => XS.dup X118.here hx rfl (hb hby d9_538) rfl rfl kq) ?_
  refine own_G.sk 541 [(.int 7), (.ref b16), (.ref b16), (.ref b3), (.ref b3)] (fun _ kq => XS.bipush X118.here hx rfl (hb hby d9_539) kq) ?_
  refine own_G.sk 542 [(.ref a), (.int 7), (.ref b16), (.ref b16), (.ref b3), (.ref b3)] (fun _ kq => XS.aloadN X118.here hx rfl (hb hby d9_541) rfl rfl kq) ?_
  refine own_G.sk 543 [(.int 2), (.ref a), (.int 7), (.ref b16), (.ref b16), (.ref b3), (.ref b3)] (fun _ kq => XS.iloadN X118.here hx rfl (hb hby d9_542) rfl kq) ?_
  refine own_G.sk 544 [(.int q), (.int 2), (.ref a), (.int 7), (.ref b16), (.ref b16), (.ref b3), (.ref b3)] (fun _ kq => XS.iloadN X118.here hx rfl (hb hby d9_543) rfl kq) ?_
  refine own_G.sk 545 [(.int x), (.int q), (.int 2), (.ref a), (.int 7), (.ref b16), (.ref b16), (.ref b3), (.ref b3)] (fun _ kq => XS.iloadN X118.here hx rfl (hb hby d9_544) rfl kq) ?_
  refine own_G.sk 547 [(.int 7), (.int x), (.int q), (.int 2), (.ref a), (.int 7), (.ref b16), (.ref b16), (.ref b3), (.ref b3)] (fun _ kq => XS.bipush X118.here hx rfl (hb hby d9_545) kq) ?_
  obtain ⟨_, _, ⟨T130, L130, k130, n130⟩, -, X130, ⟨Lc130, hQ130, l130, y130, z130⟩, st130⟩ := Jvm.LawKit.callS X118 hx (y := own_y22) hown (mvT hZ (W_ 54 rfl)) (mvT hZ (W_ 55 rfl)) (mvT hZ (W_ 50 rfl)) (mvT hZ (W_ 56 rfl)) (by decide) (backOf (W := 5) (rm_g2 l Z a0 hw [] a q x (7 : Int32) csz fm t (9 : Int32) (116 : Int32) (97 : Int32) h118 n0 O128 S_CS hcs S_IO hio F120 F121 F122 (own_Len.arv F123) (fun _ => ⟨(own_At.arv (i := (7 : Int32)) (b := (116 : Int32)) F123 ⟨by decide, by decide⟩ rfl), by decide, by decide⟩) (fun _ _ => ⟨(own_At.arv (i := (6 : Int32)) (b := (97 : Int32)) F123 ⟨by decide, by decide⟩ rfl), by decide, by decide⟩)) hZ (W_ 56 rfl) (W_ 50 rfl) (by decide) (by decide)) (g := (mkF m 547 #[rv a, iv 2, iv q, iv x, iv 9, iv 10] [(.int 7), (.int x), (.int q), (.int 2), (.ref a), (.int 7), (.ref b16), (.ref b16), (.ref b3), (.ref b3)])) rfl (by rw [hml]; rfl) (argsL := [(.ref a), (.int 2), (.int q), (.int x), (.int 7)]) (rest := [(.int 7), (.ref b16), (.ref b16), (.ref b3), (.ref b3)]) (lenOf pd__28Ljava_2flang_2fString_3bIICI_29C rfl) rfl (by show 2 * 0 + _ ≤ _; exact Nat.le_of_eq rfl) (hb hby d9_547) (fun _ _ => ⟨rfl, e118, (by decide : 2 + 0 ≤ _), (by decide : 14 + 0 ≤ _)⟩)
  dsimp only [Pt.U, Pt.locs, Pt.cells, Pt.slots] at X130 l130 y130 z130 st130 hQ130
  subst l130 y130 z130
  obtain ⟨rfl, Nq130, P131⟩ := hQ130
  have N130 := Fr.app N118 Nq130
  refine own_G.st (T' := T130) 550 [(.int (nar .char (own_g2 (7 : Int32) q x (own_chr (116 : Int32)) (own_chr (97 : Int32))))), (.int 7), (.ref b16), (.ref b16), (.ref b3), (.ref b3)] (fun _ kq => st130 _ kq) ?_
  obtain ⟨cl132, Ar132, q1132, Sz132, Nz132, Hh132, Gg132⟩ := id F119
  obtain ⟨T132, h132, X132, e132, W132, st132⟩ := stC X130 hx hZ P131 Ar132 (j := (7 : Int32)) (inb_of Sz132 ⟨by decide, by decide⟩) (g := (mkF m 550 #[rv a, iv 2, iv q, iv x, iv 9, iv 10] [(.int (nar .char (own_g2 (7 : Int32) q x (own_chr (116 : Int32)) (own_chr (97 : Int32))))), (.int 7), (.ref b16), (.ref b16), (.ref b3), (.ref b3)])) rfl rfl (hb hby d9_550)
  have F133 : Arv Z h132 b16 k16 .char (10 : Int32) [(.int (kC 0 97 0 q x)), (.int (kC 1 108 97 q x)), (.int (kC 2 116 108 q x)), (.int (kC 3 101 116 q x)), (.int (kC 4 114 101 q x)), (.int (kC 5 110 114 q x)), (.int (kC 6 97 110 q x)), (.int (kC 7 116 97 q x)), (.int 0), (.int 0)] (.int 0) := Arv.set Ar132 q1132 Sz132 Nz132 Hh132 Gg132 (fits_nar_char _) W132 7 rfl (Nat.le_of_ble_eq_true rfl)
  have N132 := Fr.snoc X132 N130 g20
  have F134 := F120.wr W132
  have F135 := F121.other W132 (Or.inl ne17)
  have F136 := F122.other W132 (Or.inl ne17)
  have F137 := F123.other W132 ne18
  have F138 := F124.wr W132
  have F139 := F125.other W132 (Or.inl ne19)
  have F140 := F126.other W132 (Or.inl ne19)
  have O142 := O128.wr W132 g20
  have K143 := K129.wr W132 (Or.inr z21)
  refine own_G.st (T' := T132) 551 [(.ref b16), (.ref b3), (.ref b3)] st132 ?_
  refine own_G.sk 552 [(.ref b16), (.ref b16), (.ref b3), (.ref b3)] (fun _ kq => XS.dup X132.here hx rfl (hb hby d9_551) rfl rfl kq) ?_
  refine own_G.sk 554 [(.int 8), (.ref b16), (.ref b16), (.ref b3), (.ref b3)] (fun _ kq => XS.bipush X132.here hx rfl (hb hby d9_552) kq) ?_
  refine own_G.sk 555 [(.ref a), (.int 8), (.ref b16), (.ref b16), (.ref b3), (.ref b3)] (fun _ kq => XS.aloadN X132.here hx rfl (hb hby d9_554) rfl rfl kq) ?_
  refine own_G.sk 556 [(.int 2), (.ref a), (.int 8), (.ref b16), (.ref b16), (.ref b3), (.ref b3)] (fun _ kq => XS.iloadN X132.here hx rfl (hb hby d9_555) rfl kq) ?_
  refine own_G.sk 557 [(.int q), (.int 2), (.ref a), (.int 8), (.ref b16), (.ref b16), (.ref b3), (.ref b3)] (fun _ kq => XS.iloadN X132.here hx rfl (hb hby d9_556) rfl kq) ?_
  refine own_G.sk 558 [(.int x), (.int q), (.int 2), (.ref a), (.int 8), (.ref b16), (.ref b16), (.ref b3), (.ref b3)] (fun _ kq => XS.iloadN X132.here hx rfl (hb hby d9_557) rfl kq) ?_
  refine own_G.sk 560 [(.int 8), (.int x), (.int q), (.int 2), (.ref a), (.int 8), (.ref b16), (.ref b16), (.ref b3), (.ref b3)] (fun _ kq => XS.bipush X132.here hx rfl (hb hby d9_558) kq) ?_
  obtain ⟨_, _, ⟨T144, L144, k144, n144⟩, -, X144, ⟨Lc144, hQ144, l144, y144, z144⟩, st144⟩ := Jvm.LawKit.callS X132 hx (y := own_y22) hown (mvT hZ (W_ 54 rfl)) (mvT hZ (W_ 55 rfl)) (mvT hZ (W_ 50 rfl)) (mvT hZ (W_ 56 rfl)) (by decide) (backOf (W := 5) (rm_g2 l Z a0 hw [] a q x (8 : Int32) csz fm t (9 : Int32) (101 : Int32) (116 : Int32) h132 n0 O142 S_CS hcs S_IO hio F134 F135 F136 (own_Len.arv F137) (fun _ => ⟨(own_At.arv (i := (8 : Int32)) (b := (101 : Int32)) F137 ⟨by decide, by decide⟩ rfl), by decide, by decide⟩) (fun _ _ => ⟨(own_At.arv (i := (7 : Int32)) (b := (116 : Int32)) F137 ⟨by decide, by decide⟩ rfl), by decide, by decide⟩)) hZ (W_ 56 rfl) (W_ 50 rfl) (by decide) (by decide)) (g := (mkF m 560 #[rv a, iv 2, iv q, iv x, iv 9, iv 10] [(.int 8), (.int x), (.int q), (.int 2), (.ref a), (.int 8), (.ref b16), (.ref b16), (.ref b3), (.ref b3)])) rfl (by rw [hml]; rfl) (argsL := [(.ref a), (.int 2), (.int q), (.int x), (.int 8)]) (rest := [(.int 8), (.ref b16), (.ref b16), (.ref b3), (.ref b3)]) (lenOf pd__28Ljava_2flang_2fString_3bIICI_29C rfl) rfl (by show 2 * 0 + _ ≤ _; exact Nat.le_of_eq rfl) (hb hby d9_560) (fun _ _ => ⟨rfl, e132, (by decide : 2 + 0 ≤ _), (by decide : 14 + 0 ≤ _)⟩)
  dsimp only [Pt.U, Pt.locs, Pt.cells, Pt.slots] at X144 l144 y144 z144 st144 hQ144
  subst l144 y144 z144
  obtain ⟨rfl, Nq144, P145⟩ := hQ144
  have N144 := Fr.app N132 Nq144
  refine own_G.st (T' := T144) 563 [(.int (nar .char (own_g2 (8 : Int32) q x (own_chr (101 : Int32)) (own_chr (116 : Int32))))), (.int 8), (.ref b16), (.ref b16), (.ref b3), (.ref b3)] (fun _ kq => st144 _ kq) ?_
  obtain ⟨cl146, Ar146, q1146, Sz146, Nz146, Hh146, Gg146⟩ := id F133
  obtain ⟨T146, h146, X146, e146, W146, st146⟩ := stC X144 hx hZ P145 Ar146 (j := (8 : Int32)) (inb_of Sz146 ⟨by decide, by decide⟩) (g := (mkF m 563 #[rv a, iv 2, iv q, iv x, iv 9, iv 10] [(.int (nar .char (own_g2 (8 : Int32) q x (own_chr (101 : Int32)) (own_chr (116 : Int32))))), (.int 8), (.ref b16), (.ref b16), (.ref b3), (.ref b3)])) rfl rfl (hb hby d9_563)
  have F147 : Arv Z h146 b16 k16 .char (10 : Int32) [(.int (kC 0 97 0 q x)), (.int (kC 1 108 97 q x)), (.int (kC 2 116 108 q x)), (.int (kC 3 101 116 q x)), (.int (kC 4 114 101 q x)), (.int (kC 5 110 114 q x)), (.int (kC 6 97 110 q x)), (.int (kC 7 116 97 q x)), (.int (kC 8 101 116 q x)), (.int 0)] (.int 0) := Arv.set Ar146 q1146 Sz146 Nz146 Hh146 Gg146 (fits_nar_char _) W146 8 rfl (Nat.le_of_ble_eq_true rfl)
  have N146 := Fr.snoc X146 N144 g20
  have F148 := F134.wr W146
  have F149 := F135.other W146 (Or.inl ne17)
  have F150 := F136.other W146 (Or.inl ne17)
  have F151 := F137.other W146 ne18
  have F152 := F138.wr W146
  have F153 := F139.other W146 (Or.inl ne19)
  have F154 := F140.other W146 (Or.inl ne19)
  have O156 := O142.wr W146 g20
  have K157 := K143.wr W146 (Or.inr z21)
  refine own_G.st (T' := T146) 564 [(.ref b16), (.ref b3), (.ref b3)] st146 ?_
  refine own_G.sk 565 [(.ref b16), (.ref b16), (.ref b3), (.ref b3)] (fun _ kq => XS.dup X146.here hx rfl (hb hby d9_564) rfl rfl kq) ?_
  refine own_G.sk 567 [(.int 9), (.ref b16), (.ref b16), (.ref b3), (.ref b3)] (fun _ kq => XS.bipush X146.here hx rfl (hb hby d9_565) kq) ?_
  refine own_G.sk 568 [(.ref a), (.int 9), (.ref b16), (.ref b16), (.ref b3), (.ref b3)] (fun _ kq => XS.aloadN X146.here hx rfl (hb hby d9_567) rfl rfl kq) ?_
  refine own_G.sk 569 [(.int 2), (.ref a), (.int 9), (.ref b16), (.ref b16), (.ref b3), (.ref b3)] (fun _ kq => XS.iloadN X146.here hx rfl (hb hby d9_568) rfl kq) ?_
  refine own_G.sk 570 [(.int q), (.int 2), (.ref a), (.int 9), (.ref b16), (.ref b16), (.ref b3), (.ref b3)] (fun _ kq => XS.iloadN X146.here hx rfl (hb hby d9_569) rfl kq) ?_
  refine own_G.sk 571 [(.int x), (.int q), (.int 2), (.ref a), (.int 9), (.ref b16), (.ref b16), (.ref b3), (.ref b3)] (fun _ kq => XS.iloadN X146.here hx rfl (hb hby d9_570) rfl kq) ?_
  refine own_G.sk 573 [(.int 9), (.int x), (.int q), (.int 2), (.ref a), (.int 9), (.ref b16), (.ref b16), (.ref b3), (.ref b3)] (fun _ kq => XS.bipush X146.here hx rfl (hb hby d9_571) kq) ?_
  obtain ⟨_, _, ⟨T158, L158, k158, n158⟩, -, X158, ⟨Lc158, hQ158, l158, y158, z158⟩, st158⟩ := Jvm.LawKit.callS X146 hx (y := own_y22) hown (mvT hZ (W_ 54 rfl)) (mvT hZ (W_ 55 rfl)) (mvT hZ (W_ 50 rfl)) (mvT hZ (W_ 56 rfl)) (by decide) (backOf (W := 5) (rm_g2 l Z a0 hw [] a q x (9 : Int32) csz fm t (9 : Int32) (0 : Int32) (101 : Int32) h146 n0 O156 S_CS hcs S_IO hio F148 F149 F150 (own_Len.arv F151) (fun hq => absurd hq hq2) (fun _ _ => ⟨(own_At.arv (i := (8 : Int32)) (b := (101 : Int32)) F151 ⟨by decide, by decide⟩ rfl), by decide, by decide⟩)) hZ (W_ 56 rfl) (W_ 50 rfl) (by decide) (by decide)) (g := (mkF m 573 #[rv a, iv 2, iv q, iv x, iv 9, iv 10] [(.int 9), (.int x), (.int q), (.int 2), (.ref a), (.int 9), (.ref b16), (.ref b16), (.ref b3), (.ref b3)])) rfl (by rw [hml]; rfl) (argsL := [(.ref a), (.int 2), (.int q), (.int x), (.int 9)]) (rest := [(.int 9), (.ref b16), (.ref b16), (.ref b3), (.ref b3)]) (lenOf pd__28Ljava_2flang_2fString_3bIICI_29C rfl) rfl (by show 2 * 0 + _ ≤ _; exact Nat.le_of_eq rfl) (hb hby d9_573) (fun _ _ => ⟨rfl, e146, (by decide : 2 + 0 ≤ _), (by decide : 14 + 0 ≤ _)⟩)
  dsimp only [Pt.U, Pt.locs, Pt.cells, Pt.slots] at X158 l158 y158 z158 st158 hQ158
  subst l158 y158 z158
  obtain ⟨rfl, Nq158, P159⟩ := hQ158
  have N158 := Fr.app N146 Nq158
  refine own_G.st (T' := T158) 576 [(.int (nar .char (own_g2 (9 : Int32) q x (own_chr (0 : Int32)) (own_chr (101 : Int32))))), (.int 9), (.ref b16), (.ref b16), (.ref b3), (.ref b3)] (fun _ kq => st158 _ kq) ?_
  obtain ⟨cl160, Ar160, q1160, Sz160, Nz160, Hh160, Gg160⟩ := id F147
  obtain ⟨T160, h160, X160, e160, W160, st160⟩ := stC X158 hx hZ P159 Ar160 (j := (9 : Int32)) (inb_of Sz160 ⟨by decide, by decide⟩) (g := (mkF m 576 #[rv a, iv 2, iv q, iv x, iv 9, iv 10] [(.int (nar .char (own_g2 (9 : Int32) q x (own_chr (0 : Int32)) (own_chr (101 : Int32))))), (.int 9), (.ref b16), (.ref b16), (.ref b3), (.ref b3)])) rfl rfl (hb hby d9_576)
  have F161 : Arv Z h160 b16 k16 .char (10 : Int32) [(.int (kC 0 97 0 q x)), (.int (kC 1 108 97 q x)), (.int (kC 2 116 108 q x)), (.int (kC 3 101 116 q x)), (.int (kC 4 114 101 q x)), (.int (kC 5 110 114 q x)), (.int (kC 6 97 110 q x)), (.int (kC 7 116 97 q x)), (.int (kC 8 101 116 q x)), (.int (kC 9 0 101 q x))] (.int 0) := Arv.set Ar160 q1160 Sz160 Nz160 Hh160 Gg160 (fits_nar_char _) W160 9 rfl (Nat.le_of_ble_eq_true rfl)
  have N160 := Fr.snoc X160 N158 g20
  have F162 := F148.wr W160
  have F163 := F149.other W160 (Or.inl ne17)
  have F164 := F150.other W160 (Or.inl ne17)
  have F165 := F151.other W160 ne18
  have F166 := F152.wr W160
  have F167 := F153.other W160 (Or.inl ne19)
  have F168 := F154.other W160 (Or.inl ne19)
  have O170 := O156.wr W160 g20
  have K171 := K157.wr W160 (Or.inr z21)
  refine own_G.st (T' := T160) 577 [(.ref b16), (.ref b3), (.ref b3)] st160 ?_
  have hp172 : ∀ c ∈ ([(kC 0 97 0 q x), (kC 1 108 97 q x), (kC 2 116 108 q x), (kC 3 101 116 q x), (kC 4 114 101 q x), (kC 5 110 114 q x), (kC 6 97 110 q x), (kC 7 116 97 q x), (kC 8 101 116 q x), (kC 9 0 101 q x)] : List Int32), ¬ c < 0 ∧ ¬ (255 : Int32) < c := by
    intro c hc
    simp only [List.mem_cons, List.not_mem_nil, or_false] at hc
    rcases hc with rfl | rfl | rfl | rfl | rfl | rfl | rfl | rfl | rfl | rfl
    · exact own_nn (own_g2b hxr (own_cb ⟨by decide, by decide⟩) (own_cb ⟨by decide, by decide⟩))
    · exact own_nn (own_g2b hxr (own_cb ⟨by decide, by decide⟩) (own_cb ⟨by decide, by decide⟩))
    · exact own_nn (own_g2b hxr (own_cb ⟨by decide, by decide⟩) (own_cb ⟨by decide, by decide⟩))
    · exact own_nn (own_g2b hxr (own_cb ⟨by decide, by decide⟩) (own_cb ⟨by decide, by decide⟩))
    · exact own_nn (own_g2b hxr (own_cb ⟨by decide, by decide⟩) (own_cb ⟨by decide, by decide⟩))
    · exact own_nn (own_g2b hxr (own_cb ⟨by decide, by decide⟩) (own_cb ⟨by decide, by decide⟩))
    · exact own_nn (own_g2b hxr (own_cb ⟨by decide, by decide⟩) (own_cb ⟨by decide, by decide⟩))
    · exact own_nn (own_g2b hxr (own_cb ⟨by decide, by decide⟩) (own_cb ⟨by decide, by decide⟩))
    · exact own_nn (own_g2b hxr (own_cb ⟨by decide, by decide⟩) (own_cb ⟨by decide, by decide⟩))
    · exact own_nn (own_g2b hxr (own_cb ⟨by decide, by decide⟩) (own_cb ⟨by decide, by decide⟩))
  obtain ⟨_, _, ⟨T173, L173, k173, n173⟩, -, X173, ⟨Lc173, hQ173, l173, y173, z173⟩, st173⟩ := X160.specialBack hx (y := own_y17) rfl hown (mvT hZ (W_ 57 rfl)) (mvT hZ (W_ 58 rfl)) (mvT hZ (W_ 59 rfl)) (by decide) (StrChars.Road.backV (W := 1) hZ hws (kI := 4) (W_ 2 rfl) (cs := ([(kC 0 97 0 q x), (kC 1 108 97 q x), (kC 2 116 108 q x), (kC 3 101 116 q x), (kC 4 114 101 q x), (kC 5 110 114 q x), (kC 6 97 110 q x), (kC 7 116 97 q x), (kC 8 101 116 q x), (kC 9 0 101 q x)] : List Int32)) (bs := (([(kC 0 97 0 q x), (kC 1 108 97 q x), (kC 2 116 108 q x), (kC 3 101 116 q x), (kC 4 114 101 q x), (kC 5 110 114 q x), (kC 6 97 110 q x), (kC 7 116 97 q x), (kC 8 101 116 q x), (kC 9 0 101 q x)] : List Int32).map (fun c => c.toInt8.toInt32))) (n := 10) g6 O170.le F166 F167 F168 F161 (Sta.ext O170.2 S_CS) hcs rfl rfl (by decide) (by decide) hp172 rfl (by decide) (by decide)) (g := (mkF m 577 #[rv a, iv 2, iv q, iv x, iv 9, iv 10] [(.ref b16), (.ref b3), (.ref b3)])) rfl (by rw [hml]; rfl) (Steps.refl _) (a := b3) (argsL := [(.ref b16)]) (rest := [(.ref b3)]) (lenOf pd__28_5bC_29V rfl) rfl (by show 2 * 0 + _ ≤ _; exact Nat.le_of_eq rfl) (hb hby d9_577) (fun _ _ => ⟨rfl, e160, (by decide : 2 + 1 ≤ _), (by decide : 14 + 10 ≤ _)⟩)
  dsimp only [Pt.U, Pt.locs, Pt.cells, Pt.slots] at X173 l173 y173 z173 st173 hQ173
  subst l173 y173 z173
  obtain ⟨rfl, P174, P175, P176, P177, b178, kx179, P180, P181, P182, P183, P184⟩ := hQ173
  have N173 := Fr.app N160 P174
  have ne185 : a ≠ b178 := Nat.ne_of_lt (Nat.lt_of_lt_of_le F162.lt P181)
  have ne186 : t ≠ b178 := Nat.ne_of_lt (Nat.lt_of_lt_of_le F165.lt P181)
  have ne187 : b3 ≠ b178 := Nat.ne_of_lt (Nat.lt_of_lt_of_le F166.lt P181)
  have ne188 : b16 ≠ b178 := Nat.ne_of_lt (Nat.lt_of_lt_of_le F161.lt P181)
  have g189 : n0 ≤ b178 := Nat.le_trans O170.le P181
  have z190 : h0.size ≤ b178 := Nat.le_trans K171.1 P181
  have F191 := F162.keep P175
  have F192 := F163.keep P175 (ninS ne4 nin0)
  have F193 := F164.keep P175 (ninS ne4 nin0)
  have F194 := F165.keep P175 (ninS ne5 nin0)
  have F195 := F166.keep P175
  have F196 := F161.keep P175 (ninS (Ne.symm ne19) nin0)
  have O197 := O170.keep P175 (allS g6 all0)
  have K198 := K171.trans P175 (allS (Or.inr z7) all0)
  refine own_G.st (T' := T173) 580 [(.ref b3)] (fun _ kq => st173.trans kq) ?_
  exact own_ret X173 rfl (v := some (.ref b3)) (fun h => by rw [Bd.returns] at h; cases h) Bd.notSynchronized ⟨b3, b178, kx179, rfl, N173, K198, z7, z190, P176, P177, P183, hp172, P184⟩ (by decide) (by decide) (fun fs hr => own_retR X173 hx Bd.returns rfl rfl (hb hby d9_580) hr)
theorem d9_125 : decode method_3_code 125 = .ok (.new 8, 3) := by decide +kernel
theorem d9_128 : decode method_3_code 128 = .ok (.dup, 1) := by decide +kernel
theorem d9_129 : decode method_3_code 129 = .ok (.bipush 7, 2) := by decide +kernel
theorem d9_131 : decode method_3_code 131 = .ok (.newarray .char, 2) := by decide +kernel
theorem d9_133 : decode method_3_code 133 = .ok (.dup, 1) := by decide +kernel
theorem d9_134 : decode method_3_code 134 = .ok (.iconst 0, 1) := by decide +kernel
theorem d9_135 : decode method_3_code 135 = .ok (.aload_n 0, 1) := by decide +kernel
theorem d9_136 : decode method_3_code 136 = .ok (.iload_n 1, 1) := by decide +kernel
theorem d9_137 : decode method_3_code 137 = .ok (.iload_n 2, 1) := by decide +kernel
theorem d9_138 : decode method_3_code 138 = .ok (.iload_n 3, 1) := by decide +kernel
theorem d9_139 : decode method_3_code 139 = .ok (.iconst 0, 1) := by decide +kernel
theorem d9_140 : decode method_3_code 140 = .ok (.invokestatic 17, 3) := by decide +kernel
theorem d9_143 : decode method_3_code 143 = .ok (.castore, 1) := by decide +kernel
theorem d9_144 : decode method_3_code 144 = .ok (.dup, 1) := by decide +kernel
theorem d9_145 : decode method_3_code 145 = .ok (.iconst 1, 1) := by decide +kernel
theorem d9_146 : decode method_3_code 146 = .ok (.aload_n 0, 1) := by decide +kernel
theorem d9_147 : decode method_3_code 147 = .ok (.iload_n 1, 1) := by decide +kernel
theorem d9_148 : decode method_3_code 148 = .ok (.iload_n 2, 1) := by decide +kernel
theorem d9_149 : decode method_3_code 149 = .ok (.iload_n 3, 1) := by decide +kernel
theorem d9_150 : decode method_3_code 150 = .ok (.iconst 1, 1) := by decide +kernel
theorem d9_151 : decode method_3_code 151 = .ok (.invokestatic 17, 3) := by decide +kernel
theorem d9_154 : decode method_3_code 154 = .ok (.castore, 1) := by decide +kernel
theorem d9_155 : decode method_3_code 155 = .ok (.dup, 1) := by decide +kernel
theorem d9_156 : decode method_3_code 156 = .ok (.iconst 2, 1) := by decide +kernel
theorem d9_157 : decode method_3_code 157 = .ok (.aload_n 0, 1) := by decide +kernel
theorem d9_158 : decode method_3_code 158 = .ok (.iload_n 1, 1) := by decide +kernel
theorem d9_159 : decode method_3_code 159 = .ok (.iload_n 2, 1) := by decide +kernel
theorem d9_160 : decode method_3_code 160 = .ok (.iload_n 3, 1) := by decide +kernel
theorem d9_161 : decode method_3_code 161 = .ok (.iconst 2, 1) := by decide +kernel
theorem d9_162 : decode method_3_code 162 = .ok (.invokestatic 17, 3) := by decide +kernel
theorem d9_165 : decode method_3_code 165 = .ok (.castore, 1) := by decide +kernel
theorem d9_166 : decode method_3_code 166 = .ok (.dup, 1) := by decide +kernel
theorem d9_167 : decode method_3_code 167 = .ok (.iconst 3, 1) := by decide +kernel
theorem d9_168 : decode method_3_code 168 = .ok (.aload_n 0, 1) := by decide +kernel
theorem d9_169 : decode method_3_code 169 = .ok (.iload_n 1, 1) := by decide +kernel
theorem d9_170 : decode method_3_code 170 = .ok (.iload_n 2, 1) := by decide +kernel
theorem d9_171 : decode method_3_code 171 = .ok (.iload_n 3, 1) := by decide +kernel
theorem d9_172 : decode method_3_code 172 = .ok (.iconst 3, 1) := by decide +kernel
theorem d9_173 : decode method_3_code 173 = .ok (.invokestatic 17, 3) := by decide +kernel
theorem d9_176 : decode method_3_code 176 = .ok (.castore, 1) := by decide +kernel
theorem d9_177 : decode method_3_code 177 = .ok (.dup, 1) := by decide +kernel
theorem d9_178 : decode method_3_code 178 = .ok (.iconst 4, 1) := by decide +kernel
theorem d9_179 : decode method_3_code 179 = .ok (.aload_n 0, 1) := by decide +kernel
theorem d9_180 : decode method_3_code 180 = .ok (.iload_n 1, 1) := by decide +kernel
theorem d9_181 : decode method_3_code 181 = .ok (.iload_n 2, 1) := by decide +kernel
theorem d9_182 : decode method_3_code 182 = .ok (.iload_n 3, 1) := by decide +kernel
theorem d9_183 : decode method_3_code 183 = .ok (.iconst 4, 1) := by decide +kernel
theorem d9_184 : decode method_3_code 184 = .ok (.invokestatic 17, 3) := by decide +kernel
theorem d9_187 : decode method_3_code 187 = .ok (.castore, 1) := by decide +kernel
theorem d9_188 : decode method_3_code 188 = .ok (.dup, 1) := by decide +kernel
theorem d9_189 : decode method_3_code 189 = .ok (.iconst 5, 1) := by decide +kernel
theorem d9_190 : decode method_3_code 190 = .ok (.aload_n 0, 1) := by decide +kernel
theorem d9_191 : decode method_3_code 191 = .ok (.iload_n 1, 1) := by decide +kernel
theorem d9_192 : decode method_3_code 192 = .ok (.iload_n 2, 1) := by decide +kernel
theorem d9_193 : decode method_3_code 193 = .ok (.iload_n 3, 1) := by decide +kernel
theorem d9_194 : decode method_3_code 194 = .ok (.iconst 5, 1) := by decide +kernel
theorem d9_195 : decode method_3_code 195 = .ok (.invokestatic 17, 3) := by decide +kernel
theorem d9_198 : decode method_3_code 198 = .ok (.castore, 1) := by decide +kernel
theorem d9_199 : decode method_3_code 199 = .ok (.dup, 1) := by decide +kernel
theorem d9_200 : decode method_3_code 200 = .ok (.bipush 6, 2) := by decide +kernel
theorem d9_202 : decode method_3_code 202 = .ok (.aload_n 0, 1) := by decide +kernel
theorem d9_203 : decode method_3_code 203 = .ok (.iload_n 1, 1) := by decide +kernel
theorem d9_204 : decode method_3_code 204 = .ok (.iload_n 2, 1) := by decide +kernel
theorem d9_205 : decode method_3_code 205 = .ok (.iload_n 3, 1) := by decide +kernel
theorem d9_206 : decode method_3_code 206 = .ok (.bipush 6, 2) := by decide +kernel
theorem d9_208 : decode method_3_code 208 = .ok (.invokestatic 17, 3) := by decide +kernel
theorem d9_211 : decode method_3_code 211 = .ok (.castore, 1) := by decide +kernel
theorem d9_212 : decode method_3_code 212 = .ok (.invokespecial 23, 3) := by decide +kernel
theorem d9_215 : decode method_3_code 215 = .ok (.areturn, 1) := by decide +kernel
theorem ef_mkr0 (m : MethodId) (a : Addr) (q : Int32) (x : Int32) : entryFrame m #[(.ref a), (.int 0), (.int q), (.int x)] 6 = mkF m 0 #[rv a, iv 0, iv q, iv x, .unset, .unset] [] := by
  first | (simp [entryFrame, mkF, argsToLocals, Value.category]; done) | rfl
def Q_mkr0 (Z : State) (a : Addr) (q : Int32) (x : Int32) (csz : Int32) (fm : Value) (t : Addr) (kb : ClassId) (h0 : Heap) (n0 : Nat) (v : Option Value) (h : Heap) (L : List Loc) : Prop := ∃ (r : Addr), ∃ (t2 : Addr), ∃ (kb2 : ClassId), v = some (.ref r) ∧ Fr n0 L ∧ Keep h0 h [] ∧ h0.size ≤ r ∧ h0.size ≤ t2 ∧ Exa Z h r "java/lang/String" ∧ Fld Z h r "java/lang/String" "coder" "B" (.int 0) ∧ Fld Z h r "java/lang/String" "value" "[B" (.ref t2) ∧ (∀ c ∈ ([(kA 0 114 q x), (kA 1 101 q x), (kA 2 108 q x), (kA 3 97 q x), (kA 4 116 q x), (kA 5 101 q x), (kA 6 100 q x)] : List Int32), ¬ c < 0 ∧ ¬ (255 : Int32) < c) ∧ Arv Z h t2 kb2 .byte (7 : Int32) ((([(kA 0 114 q x), (kA 1 101 q x), (kA 2 108 q x), (kA 3 97 q x), (kA 4 116 q x), (kA 5 101 q x), (kA 6 100 q x)] : List Int32).map (fun c => c.toInt8.toInt32)).map Value.int) (.int 0)
set_option maxRecDepth 65536 in
set_option maxHeartbeats 40000000 in
theorem rm_mkr0 (l : Launch) (Z : State) (a0 : Array Value) (hw : ∀ d ∈ tables_1, d.before a0 Z = true) (ws : List Jvm.Cond) (a : Addr) (q : Int32) (x : Int32) (csz : Int32) (fm : Value) (t : Addr) (kb : ClassId) (h0 : Heap) (n0 : Nat) (O0 : Old Z n0 h0) (S_CS : Sta Z Z.heap "java/lang/String" "COMPACT_STRINGS" "Z" (.int csz)) (hcs : ¬ csz = (0 : Int32)) (S_IO : Sta Z Z.heap "jdk/internal/util/Preconditions" "SIOOBE_FORMATTER" "Ljava/util/function/BiFunction;" fm) (hio : fm.isRef = true) (Ea : Exa Z h0 a "java/lang/String") (Fv : Fld Z h0 a "java/lang/String" "value" "[B" (.ref t)) (Fc : Fld Z h0 a "java/lang/String" "coder" "B" (.int 0)) (AR : Arv Z h0 t kb .byte (7 : Int32) [(.int 114), (.int 101), (.int 108), (.int 97), (.int 116), (.int 101), (.int 100)] (.int 0)) (hxr : ¬ x < (0 : Int32) ∧ ¬ (255 : Int32) < x) :
    MetFree l own_y23 (head1 (Jvm.Cond.code own_y23 method_3_code 6 (some (.object "java/lang/String")) :: ws) ({ frames := 5, cells := 3, slots := 18, locals := 74 } : Room)) (fun aq_ Uq_ => aq_ = #[(.ref a), (.int 0), (.int q), (.int x)] ∧ Z.Warmed39 Uq_.vm ∧ Uq_.heap = h0) (fun _ _ _ _ _ => True) (fun _ Uq_ oq_ Ur_ => ∃ vq_ Lq_, oq_ = .returned vq_ ∧ Q_mkr0 Z a q x csz fm t kb h0 n0 vq_ Ur_.heap Lq_ ∧ FrameEnd Uq_ oq_ Ur_ Lq_ ({ frames := 5, cells := 3, slots := 18, locals := 74 } : Room).cells ({ frames := 5, cells := 3, slots := 18, locals := 74 } : Room).slots) := by
  refine MetFree.of_bodySF (plainFor_of_name pn_com_2fexample_2ftermflow_2ftermflow_2ffeed_2fLinkIsArtefactPinLaw) hisR ?_
  intro p e s m args below meth c s₁ Bd hml0 hP hK
  obtain ⟨rfl, hZ, hh⟩ := hP
  have W_ : ∀ {d : Jvm.Cond} (i : Nat), tables_1[i]? = some d → d.before a0 Z = true := fun i h => hw _ (List.mem_of_getElem? h)
  have hx := Bd.exec
  have hby := Bd.bytes
  have hml : c.maxLocals = 6 := hml0
  have hown : s.vm.findClass "com/example/termflow/termflow/feed/LinkIsArtefactPinLaw" = some m.cls := findClass_of_methodNamed Bd.named
  have hnm := (name_of_methodNamed Bd.named Bd.method).1
  have X0 : Stand p l e ({ frames := 5, cells := 3, slots := 18, locals := 74 } : Room) s m #[(.ref a), (.int 0), (.int q), (.int x)] below meth c s₁ [] 0 0 := Stand.of_body Bd
  have e0 : s₁.heap = h0 := by rw [← hh, Bd.state]; rfl
  have N0 := Fr.nil n0
  have K0 := Keep.refl h0 []
  refine own_G.start (Q := Q_mkr0 Z a q x csz fm t kb h0 n0) (ef_mkr0 m a q x) ?_
  have hws : ∀ d ∈ StrChars.Road.words, d.before a0 Z = true := fun d hd => hw d (own_hws d hd)
  refine own_G.sk 1 [(.ref a)] (fun _ kq => XS.aloadN X0.here hx rfl (hb hby d9_0) rfl rfl kq) ?_
  obtain ⟨cq1, kq1, q1a, q1b, q1c⟩ := isOf hZ e0 Ea
  obtain ⟨_, _, ⟨T1, L1, k1, n1⟩, -, X1, ⟨Lc1, hQ1, l1, y1, z1⟩, st1⟩ := X0.virtualBack hx (y := own_y7) (z := own_y7) hown (mvT hZ (W_ 8 rfl)) (mvT hZ (W_ 9 rfl)) (notFace_of_selects (args := #[]) (mvT hZ (W_ 11 rfl))) (mvT hZ (W_ 11 rfl)) (mvT hZ (W_ 10 rfl)) (by decide) (backOf (W := 0) (rm_strlen l Z a0 hw [] a csz t (7 : Int32) h0 n0 O0 S_CS hcs Fc Fv (own_Len.arv AR) Ea) hZ (W_ 12 rfl) (W_ 1 rfl) (by decide) (by decide)) q1a q1c (g := (mkF m 1 #[rv a, iv 0, iv q, iv x, .unset, .unset] [(.ref a)])) rfl (by rw [hml]; rfl) (Steps.refl _) (argsL := []) (rest := []) (lenOf pd__28_29I rfl) rfl (by show 2 * 0 + _ ≤ _; exact Nat.le_of_eq rfl) (hb hby d9_1) (fun _ _ => ⟨rfl, e0, (by decide : 0 + 0 ≤ _), (by decide : 0 + 0 ≤ _)⟩)
  dsimp only [Pt.U, Pt.locs, Pt.cells, Pt.slots] at X1 l1 y1 z1 st1 hQ1
  subst l1 y1 z1
  obtain ⟨rfl, Nq1, P2⟩ := hQ1
  have N1 := Fr.app N0 Nq1
  refine own_G.st (T' := T1) 4 [(.int 7)] (fun _ kq => st1.trans kq) ?_
  refine own_G.si 6 [] (fun _ kq => XS.istore X1.here hx rfl (hb hby d9_4) rfl (l' := #[rv a, iv 0, iv q, iv x, iv 7, .unset]) rfl kq) ?_
  refine own_G.sk 7 [(.int 0)] (fun _ kq => XS.iloadN X1.here hx rfl (hb hby d9_6) rfl kq) ?_
  have hc7 : (0 : Int32) = (0 : Int32) := (by decide)
  refine own_G.sk 10 [] (fun _ kq => XS.ifNo X1.here hx rfl (hb hby d9_7) rfl ((if0 _ _).trans (teq hc7).2) kq) ?_
  refine own_G.sk 12 [(.int 7)] (fun _ kq => XS.iload X1.here hx rfl (hb hby d9_10) rfl kq) ?_
  refine own_G.sk 31 [(.int 7)] (fun _ kq => XS.goto X1.here hx rfl (pc0 := 12) (pc' := 31) rfl (hb hby d9_12) (by decide) (by decide) kq) ?_
  refine own_G.si 33 [] (fun _ kq => XS.istore X1.here hx rfl (hb hby d9_31) rfl (l' := #[rv a, iv 0, iv q, iv x, iv 7, iv 7]) rfl kq) ?_
  refine own_G.sk 35 [(.int 7)] (fun _ kq => XS.iload X1.here hx rfl (hb hby d9_33) rfl kq) ?_
  refine own_G.sk 37 [(.int 6), (.int 7)] (fun _ kq => XS.bipush X1.here hx rfl (hb hby d9_35) kq) ?_
  have hc37 : ¬ ((7 : Int32) = (6 : Int32)) := (by decide)
  refine own_G.sk 118 [] (fun _ kq => XS.icmpYes X1.here hx rfl (pc0 := 37) (pc' := 118) rfl (hb hby d9_37) rfl (feq hc37).2 (by decide) (by decide) kq) ?_
  refine own_G.sk 120 [(.int 7)] (fun _ kq => XS.iload X1.here hx rfl (hb hby d9_118) rfl kq) ?_
  refine own_G.sk 122 [(.int 7), (.int 7)] (fun _ kq => XS.bipush X1.here hx rfl (hb hby d9_120) kq) ?_
  have hc122 : (7 : Int32) = (7 : Int32) := (by decide)
  refine own_G.sk 125 [] (fun _ kq => XS.icmpNo X1.here hx rfl (hb hby d9_122) rfl (teq hc122).2 kq) ?_
  obtain ⟨T3, h3, X3, e3, E3, A3, D3, -, st3⟩ := newO X1 hx hZ hown (W_ 52 rfl) (W_ 2 rfl) (W_ 1 rfl) P2 (g := (mkF m 125 #[rv a, iv 0, iv q, iv x, iv 7, iv 7] [])) rfl (hb hby d9_125) (by decide) (by decide)
  obtain ⟨b3, g3⟩ : ∃ z, z = h0.size := ⟨_, rfl⟩
  rw [← g3] at A3 D3 st3
  have ne4 : a ≠ b3 := Nat.ne_of_lt (Nat.lt_of_lt_of_le Ea.lt (Nat.le_of_eq g3.symm))
  have ne5 : t ≠ b3 := Nat.ne_of_lt (Nat.lt_of_lt_of_le AR.lt (Nat.le_of_eq g3.symm))
  have g6 : n0 ≤ b3 := Nat.le_trans O0.le (Nat.le_of_eq g3.symm)
  have z7 : h0.size ≤ b3 := Nat.le_trans K0.1 (Nat.le_of_eq g3.symm)
  have F8 := Ea.ext E3
  have F9 := Fv.ext E3
  have F10 := Fc.ext E3
  have F11 := AR.ext E3
  have O12 := O0.ext E3
  have K13 := K0.ext E3
  have F14 : Fld Z h3 b3 "java/lang/String" "value" "[B" .null := D3 (Or.inr (W_ 4 rfl)) (ty := (.array .byte)) (by decide)
  have F15 : Fld Z h3 b3 "java/lang/String" "coder" "B" (.int 0) := D3 (Or.inr (W_ 5 rfl)) (ty := .byte) (by decide)
  refine own_G.st (T' := T3) 128 [(.ref b3)] st3 ?_
  refine own_G.sk 129 [(.ref b3), (.ref b3)] (fun _ kq => XS.dup X3.here hx rfl (hb hby d9_128) rfl rfl kq) ?_
  refine own_G.sk 131 [(.int 7), (.ref b3), (.ref b3)] (fun _ kq => XS.bipush X3.here hx rfl (hb hby d9_129) kq) ?_
  obtain ⟨T16, h16, k16, X16, e16, E16, A16, st16⟩ := newP X3 hx hZ (W_ 53 rfl) e3 (g := (mkF m 131 #[rv a, iv 0, iv q, iv x, iv 7, iv 7] [(.int 7), (.ref b3), (.ref b3)])) rfl (hb hby d9_131) rfl (by decide) (cap := 7) (by decide) (by decide) (by decide) (by decide)
  obtain ⟨b16, g16⟩ : ∃ z, z = h3.size := ⟨_, rfl⟩
  rw [← g16] at A16 st16
  have ne17 : a ≠ b16 := Nat.ne_of_lt (Nat.lt_of_lt_of_le F8.lt (Nat.le_of_eq g16.symm))
  have ne18 : t ≠ b16 := Nat.ne_of_lt (Nat.lt_of_lt_of_le F11.lt (Nat.le_of_eq g16.symm))
  have ne19 : b3 ≠ b16 := Nat.ne_of_lt (Nat.lt_of_lt_of_le A3.lt (Nat.le_of_eq g16.symm))
  have g20 : n0 ≤ b16 := Nat.le_trans O12.le (Nat.le_of_eq g16.symm)
  have z21 : h0.size ≤ b16 := Nat.le_trans K13.1 (Nat.le_of_eq g16.symm)
  have F22 := F8.ext E16
  have F23 := F9.ext E16
  have F24 := F10.ext E16
  have F25 := F11.ext E16
  have F26 := A3.ext E16
  have F27 := F14.ext E16
  have F28 := F15.ext E16
  have O29 := O12.ext E16
  have K30 := K13.ext E16
  have F31 : Arv Z h16 b16 k16 .char (7 : Int32) [(.int 0), (.int 0), (.int 0), (.int 0), (.int 0), (.int 0), (.int 0)] (.int 0) := (Arv.new A16 (by decide)).pad (pad_rep [] (.int 0) 7)
  refine own_G.st (T' := T16) 133 [(.ref b16), (.ref b3), (.ref b3)] st16 ?_
  refine own_G.sk 134 [(.ref b16), (.ref b16), (.ref b3), (.ref b3)] (fun _ kq => XS.dup X16.here hx rfl (hb hby d9_133) rfl rfl kq) ?_
  refine own_G.sk 135 [(.int 0), (.ref b16), (.ref b16), (.ref b3), (.ref b3)] (fun _ kq => XS.iconst X16.here hx rfl (hb hby d9_134) kq) ?_
  refine own_G.sk 136 [(.ref a), (.int 0), (.ref b16), (.ref b16), (.ref b3), (.ref b3)] (fun _ kq => XS.aloadN X16.here hx rfl (hb hby d9_135) rfl rfl kq) ?_
  refine own_G.sk 137 [(.int 0), (.ref a), (.int 0), (.ref b16), (.ref b16), (.ref b3), (.ref b3)] (fun _ kq => XS.iloadN X16.here hx rfl (hb hby d9_136) rfl kq) ?_
  refine own_G.sk 138 [(.int q), (.int 0), (.ref a), (.int 0), (.ref b16), (.ref b16), (.ref b3), (.ref b3)] (fun _ kq => XS.iloadN X16.here hx rfl (hb hby d9_137) rfl kq) ?_
  refine own_G.sk 139 [(.int x), (.int q), (.int 0), (.ref a), (.int 0), (.ref b16), (.ref b16), (.ref b3), (.ref b3)] (fun _ kq => XS.iloadN X16.here hx rfl (hb hby d9_138) rfl kq) ?_
  refine own_G.sk 140 [(.int 0), (.int x), (.int q), (.int 0), (.ref a), (.int 0), (.ref b16), (.ref b16), (.ref b3), (.ref b3)] (fun _ kq => XS.iconst X16.here hx rfl (hb hby d9_139) kq) ?_
  obtain ⟨_, _, ⟨T32, L32, k32, n32⟩, -, X32, ⟨Lc32, hQ32, l32, y32, z32⟩, st32⟩ := Jvm.LawKit.callS X16 hx (y := own_y22) hown (mvT hZ (W_ 54 rfl)) (mvT hZ (W_ 55 rfl)) (mvT hZ (W_ 50 rfl)) (mvT hZ (W_ 56 rfl)) (by decide) (backOf (W := 5) (rm_g0 l Z a0 hw [] a q x (0 : Int32) csz fm t (7 : Int32) (114 : Int32) h16 n0 O29 S_CS hcs S_IO hio F22 F23 F24 (own_Len.arv F25) (own_At.arv (i := (0 : Int32)) (b := (114 : Int32)) F25 ⟨by decide, by decide⟩ rfl) (by decide) (by decide)) hZ (W_ 56 rfl) (W_ 50 rfl) (by decide) (by decide)) (g := (mkF m 140 #[rv a, iv 0, iv q, iv x, iv 7, iv 7] [(.int 0), (.int x), (.int q), (.int 0), (.ref a), (.int 0), (.ref b16), (.ref b16), (.ref b3), (.ref b3)])) rfl (by rw [hml]; rfl) (argsL := [(.ref a), (.int 0), (.int q), (.int x), (.int 0)]) (rest := [(.int 0), (.ref b16), (.ref b16), (.ref b3), (.ref b3)]) (lenOf pd__28Ljava_2flang_2fString_3bIICI_29C rfl) rfl (by show 2 * 0 + _ ≤ _; exact Nat.le_of_eq rfl) (hb hby d9_140) (fun _ _ => ⟨rfl, e16, (by decide : 2 + 0 ≤ _), (by decide : 11 + 0 ≤ _)⟩)
  dsimp only [Pt.U, Pt.locs, Pt.cells, Pt.slots] at X32 l32 y32 z32 st32 hQ32
  subst l32 y32 z32
  obtain ⟨rfl, Nq32, P33⟩ := hQ32
  have N32 := Fr.app N1 Nq32
  refine own_G.st (T' := T32) 143 [(.int (nar .char (own_g0 (0 : Int32) q x (own_chr (114 : Int32))))), (.int 0), (.ref b16), (.ref b16), (.ref b3), (.ref b3)] (fun _ kq => st32 _ kq) ?_
  obtain ⟨cl34, Ar34, q134, Sz34, Nz34, Hh34, Gg34⟩ := id F31
  obtain ⟨T34, h34, X34, e34, W34, st34⟩ := stC X32 hx hZ P33 Ar34 (j := (0 : Int32)) (inb_of Sz34 ⟨by decide, by decide⟩) (g := (mkF m 143 #[rv a, iv 0, iv q, iv x, iv 7, iv 7] [(.int (nar .char (own_g0 (0 : Int32) q x (own_chr (114 : Int32))))), (.int 0), (.ref b16), (.ref b16), (.ref b3), (.ref b3)])) rfl rfl (hb hby d9_143)
  have F35 : Arv Z h34 b16 k16 .char (7 : Int32) [(.int (kA 0 114 q x)), (.int 0), (.int 0), (.int 0), (.int 0), (.int 0), (.int 0)] (.int 0) := Arv.set Ar34 q134 Sz34 Nz34 Hh34 Gg34 (fits_nar_char _) W34 0 rfl (Nat.le_of_ble_eq_true rfl)
  have N34 := Fr.snoc X34 N32 g20
  have F36 := F22.wr W34
  have F37 := F23.other W34 (Or.inl ne17)
  have F38 := F24.other W34 (Or.inl ne17)
  have F39 := F25.other W34 ne18
  have F40 := F26.wr W34
  have F41 := F27.other W34 (Or.inl ne19)
  have F42 := F28.other W34 (Or.inl ne19)
  have O44 := O29.wr W34 g20
  have K45 := K30.wr W34 (Or.inr z21)
  refine own_G.st (T' := T34) 144 [(.ref b16), (.ref b3), (.ref b3)] st34 ?_
  refine own_G.sk 145 [(.ref b16), (.ref b16), (.ref b3), (.ref b3)] (fun _ kq => XS.dup X34.here hx rfl (hb hby d9_144) rfl rfl kq) ?_
  refine own_G.sk 146 [(.int 1), (.ref b16), (.ref b16), (.ref b3), (.ref b3)] (fun _ kq => XS.iconst X34.here hx rfl (hb hby d9_145) kq) ?_
  refine own_G.sk 147 [(.ref a), (.int 1), (.ref b16), (.ref b16), (.ref b3), (.ref b3)] (fun _ kq => XS.aloadN X34.here hx rfl (hb hby d9_146) rfl rfl kq) ?_
  refine own_G.sk 148 [(.int 0), (.ref a), (.int 1), (.ref b16), (.ref b16), (.ref b3), (.ref b3)] (fun _ kq => XS.iloadN X34.here hx rfl (hb hby d9_147) rfl kq) ?_
  refine own_G.sk 149 [(.int q), (.int 0), (.ref a), (.int 1), (.ref b16), (.ref b16), (.ref b3), (.ref b3)] (fun _ kq => XS.iloadN X34.here hx rfl (hb hby d9_148) rfl kq) ?_
  refine own_G.sk 150 [(.int x), (.int q), (.int 0), (.ref a), (.int 1), (.ref b16), (.ref b16), (.ref b3), (.ref b3)] (fun _ kq => XS.iloadN X34.here hx rfl (hb hby d9_149) rfl kq) ?_
  refine own_G.sk 151 [(.int 1), (.int x), (.int q), (.int 0), (.ref a), (.int 1), (.ref b16), (.ref b16), (.ref b3), (.ref b3)] (fun _ kq => XS.iconst X34.here hx rfl (hb hby d9_150) kq) ?_
  obtain ⟨_, _, ⟨T46, L46, k46, n46⟩, -, X46, ⟨Lc46, hQ46, l46, y46, z46⟩, st46⟩ := Jvm.LawKit.callS X34 hx (y := own_y22) hown (mvT hZ (W_ 54 rfl)) (mvT hZ (W_ 55 rfl)) (mvT hZ (W_ 50 rfl)) (mvT hZ (W_ 56 rfl)) (by decide) (backOf (W := 5) (rm_g0 l Z a0 hw [] a q x (1 : Int32) csz fm t (7 : Int32) (101 : Int32) h34 n0 O44 S_CS hcs S_IO hio F36 F37 F38 (own_Len.arv F39) (own_At.arv (i := (1 : Int32)) (b := (101 : Int32)) F39 ⟨by decide, by decide⟩ rfl) (by decide) (by decide)) hZ (W_ 56 rfl) (W_ 50 rfl) (by decide) (by decide)) (g := (mkF m 151 #[rv a, iv 0, iv q, iv x, iv 7, iv 7] [(.int 1), (.int x), (.int q), (.int 0), (.ref a), (.int 1), (.ref b16), (.ref b16), (.ref b3), (.ref b3)])) rfl (by rw [hml]; rfl) (argsL := [(.ref a), (.int 0), (.int q), (.int x), (.int 1)]) (rest := [(.int 1), (.ref b16), (.ref b16), (.ref b3), (.ref b3)]) (lenOf pd__28Ljava_2flang_2fString_3bIICI_29C rfl) rfl (by show 2 * 0 + _ ≤ _; exact Nat.le_of_eq rfl) (hb hby d9_151) (fun _ _ => ⟨rfl, e34, (by decide : 2 + 0 ≤ _), (by decide : 11 + 0 ≤ _)⟩)
  dsimp only [Pt.U, Pt.locs, Pt.cells, Pt.slots] at X46 l46 y46 z46 st46 hQ46
  subst l46 y46 z46
  obtain ⟨rfl, Nq46, P47⟩ := hQ46
  have N46 := Fr.app N34 Nq46
  refine own_G.st (T' := T46) 154 [(.int (nar .char (own_g0 (1 : Int32) q x (own_chr (101 : Int32))))), (.int 1), (.ref b16), (.ref b16), (.ref b3), (.ref b3)] (fun _ kq => st46 _ kq) ?_
  obtain ⟨cl48, Ar48, q148, Sz48, Nz48, Hh48, Gg48⟩ := id F35
  obtain ⟨T48, h48, X48, e48, W48, st48⟩ := stC X46 hx hZ P47 Ar48 (j := (1 : Int32)) (inb_of Sz48 ⟨by decide, by decide⟩) (g := (mkF m 154 #[rv a, iv 0, iv q, iv x, iv 7, iv 7] [(.int (nar .char (own_g0 (1 : Int32) q x (own_chr (101 : Int32))))), (.int 1), (.ref b16), (.ref b16), (.ref b3), (.ref b3)])) rfl rfl (hb hby d9_154)
  have F49 : Arv Z h48 b16 k16 .char (7 : Int32) [(.int (kA 0 114 q x)), (.int (kA 1 101 q x)), (.int 0), (.int 0), (.int 0), (.int 0), (.int 0)] (.int 0) := Arv.set Ar48 q148 Sz48 Nz48 Hh48 Gg48 (fits_nar_char _) W48 1 rfl (Nat.le_of_ble_eq_true rfl)
  have N48 := Fr.snoc X48 N46 g20
  have F50 := F36.wr W48
  have F51 := F37.other W48 (Or.inl ne17)
  have F52 := F38.other W48 (Or.inl ne17)
  have F53 := F39.other W48 ne18
  have F54 := F40.wr W48
  have F55 := F41.other W48 (Or.inl ne19)
  have F56 := F42.other W48 (Or.inl ne19)
  have O58 := O44.wr W48 g20
  have K59 := K45.wr W48 (Or.inr z21)
  refine own_G.st (T' := T48) 155 [(.ref b16), (.ref b3), (.ref b3)] st48 ?_
  refine own_G.sk 156 [(.ref b16), (.ref b16), (.ref b3), (.ref b3)] (fun _ kq => XS.dup X48.here hx rfl (hb hby d9_155) rfl rfl kq) ?_
  refine own_G.sk 157 [(.int 2), (.ref b16), (.ref b16), (.ref b3), (.ref b3)] (fun _ kq => XS.iconst X48.here hx rfl (hb hby d9_156) kq) ?_
  refine own_G.sk 158 [(.ref a), (.int 2), (.ref b16), (.ref b16), (.ref b3), (.ref b3)] (fun _ kq => XS.aloadN X48.here hx rfl (hb hby d9_157) rfl rfl kq) ?_
  refine own_G.sk 159 [(.int 0), (.ref a), (.int 2), (.ref b16), (.ref b16), (.ref b3), (.ref b3)] (fun _ kq => XS.iloadN X48.here hx rfl (hb hby d9_158) rfl kq) ?_
  refine own_G.sk 160 [(.int q), (.int 0), (.ref a), (.int 2), (.ref b16), (.ref b16), (.ref b3), (.ref b3)] (fun _ kq => XS.iloadN X48.here hx rfl (hb hby d9_159) rfl kq) ?_
  refine own_G.sk 161 [(.int x), (.int q), (.int 0), (.ref a), (.int 2), (.ref b16), (.ref b16), (.ref b3), (.ref b3)] (fun _ kq => XS.iloadN X48.here hx rfl (hb hby d9_160) rfl kq) ?_
  refine own_G.sk 162 [(.int 2), (.int x), (.int q), (.int 0), (.ref a), (.int 2), (.ref b16), (.ref b16), (.ref b3), (.ref b3)] (fun _ kq => XS.iconst X48.here hx rfl (hb hby d9_161) kq) ?_
  obtain ⟨_, _, ⟨T60, L60, k60, n60⟩, -, X60, ⟨Lc60, hQ60, l60, y60, z60⟩, st60⟩ := Jvm.LawKit.callS X48 hx (y := own_y22) hown (mvT hZ (W_ 54 rfl)) (mvT hZ (W_ 55 rfl)) (mvT hZ (W_ 50 rfl)) (mvT hZ (W_ 56 rfl)) (by decide) (backOf (W := 5) (rm_g0 l Z a0 hw [] a q x (2 : Int32) csz fm t (7 : Int32) (108 : Int32) h48 n0 O58 S_CS hcs S_IO hio F50 F51 F52 (own_Len.arv F53) (own_At.arv (i := (2 : Int32)) (b := (108 : Int32)) F53 ⟨by decide, by decide⟩ rfl) (by decide) (by decide)) hZ (W_ 56 rfl) (W_ 50 rfl) (by decide) (by decide)) (g := (mkF m 162 #[rv a, iv 0, iv q, iv x, iv 7, iv 7] [(.int 2), (.int x), (.int q), (.int 0), (.ref a), (.int 2), (.ref b16), (.ref b16), (.ref b3), (.ref b3)])) rfl (by rw [hml]; rfl) (argsL := [(.ref a), (.int 0), (.int q), (.int x), (.int 2)]) (rest := [(.int 2), (.ref b16), (.ref b16), (.ref b3), (.ref b3)]) (lenOf pd__28Ljava_2flang_2fString_3bIICI_29C rfl) rfl (by show 2 * 0 + _ ≤ _; exact Nat.le_of_eq rfl) (hb hby d9_162) (fun _ _ => ⟨rfl, e48, (by decide : 2 + 0 ≤ _), (by decide : 11 + 0 ≤ _)⟩)
  dsimp only [Pt.U, Pt.locs, Pt.cells, Pt.slots] at X60 l60 y60 z60 st60 hQ60
  subst l60 y60 z60
  obtain ⟨rfl, Nq60, P61⟩ := hQ60
  have N60 := Fr.app N48 Nq60
  refine own_G.st (T' := T60) 165 [(.int (nar .char (own_g0 (2 : Int32) q x (own_chr (108 : Int32))))), (.int 2), (.ref b16), (.ref b16), (.ref b3), (.ref b3)] (fun _ kq => st60 _ kq) ?_
  obtain ⟨cl62, Ar62, q162, Sz62, Nz62, Hh62, Gg62⟩ := id F49
  obtain ⟨T62, h62, X62, e62, W62, st62⟩ := stC X60 hx hZ P61 Ar62 (j := (2 : Int32)) (inb_of Sz62 ⟨by decide, by decide⟩) (g := (mkF m 165 #[rv a, iv 0, iv q, iv x, iv 7, iv 7] [(.int (nar .char (own_g0 (2 : Int32) q x (own_chr (108 : Int32))))), (.int 2), (.ref b16), (.ref b16), (.ref b3), (.ref b3)])) rfl rfl (hb hby d9_165)
  have F63 : Arv Z h62 b16 k16 .char (7 : Int32) [(.int (kA 0 114 q x)), (.int (kA 1 101 q x)), (.int (kA 2 108 q x)), (.int 0), (.int 0), (.int 0), (.int 0)] (.int 0) := Arv.set Ar62 q162 Sz62 Nz62 Hh62 Gg62 (fits_nar_char _) W62 2 rfl (Nat.le_of_ble_eq_true rfl)
  have N62 := Fr.snoc X62 N60 g20
  have F64 := F50.wr W62
  have F65 := F51.other W62 (Or.inl ne17)
  have F66 := F52.other W62 (Or.inl ne17)
  have F67 := F53.other W62 ne18
  have F68 := F54.wr W62
  have F69 := F55.other W62 (Or.inl ne19)
  have F70 := F56.other W62 (Or.inl ne19)
  have O72 := O58.wr W62 g20
  have K73 := K59.wr W62 (Or.inr z21)
  refine own_G.st (T' := T62) 166 [(.ref b16), (.ref b3), (.ref b3)] st62 ?_
  refine own_G.sk 167 [(.ref b16), (.ref b16), (.ref b3), (.ref b3)] (fun _ kq => XS.dup X62.here hx rfl (hb hby d9_166) rfl rfl kq) ?_
  refine own_G.sk 168 [(.int 3), (.ref b16), (.ref b16), (.ref b3), (.ref b3)] (fun _ kq => XS.iconst X62.here hx rfl (hb hby d9_167) kq) ?_
  refine own_G.sk 169 [(.ref a), (.int 3), (.ref b16), (.ref b16), (.ref b3), (.ref b3)] (fun _ kq => XS.aloadN X62.here hx rfl (hb hby d9_168) rfl rfl kq) ?_
  refine own_G.sk 170 [(.int 0), (.ref a), (.int 3), (.ref b16), (.ref b16), (.ref b3), (.ref b3)] (fun _ kq => XS.iloadN X62.here hx rfl (hb hby d9_169) rfl kq) ?_
  refine own_G.sk 171 [(.int q), (.int 0), (.ref a), (.int 3), (.ref b16), (.ref b16), (.ref b3), (.ref b3)] (fun _ kq => XS.iloadN X62.here hx rfl (hb hby d9_170) rfl kq) ?_
  refine own_G.sk 172 [(.int x), (.int q), (.int 0), (.ref a), (.int 3), (.ref b16), (.ref b16), (.ref b3), (.ref b3)] (fun _ kq => XS.iloadN X62.here hx rfl (hb hby d9_171) rfl kq) ?_
  refine own_G.sk 173 [(.int 3), (.int x), (.int q), (.int 0), (.ref a), (.int 3), (.ref b16), (.ref b16), (.ref b3), (.ref b3)] (fun _ kq => XS.iconst X62.here hx rfl (hb hby d9_172) kq) ?_
  obtain ⟨_, _, ⟨T74, L74, k74, n74⟩, -, X74, ⟨Lc74, hQ74, l74, y74, z74⟩, st74⟩ := Jvm.LawKit.callS X62 hx (y := own_y22) hown (mvT hZ (W_ 54 rfl)) (mvT hZ (W_ 55 rfl)) (mvT hZ (W_ 50 rfl)) (mvT hZ (W_ 56 rfl)) (by decide) (backOf (W := 5) (rm_g0 l Z a0 hw [] a q x (3 : Int32) csz fm t (7 : Int32) (97 : Int32) h62 n0 O72 S_CS hcs S_IO hio F64 F65 F66 (own_Len.arv F67) (own_At.arv (i := (3 : Int32)) (b := (97 : Int32)) F67 ⟨by decide, by decide⟩ rfl) (by decide) (by decide)) hZ (W_ 56 rfl) (W_ 50 rfl) (by decide) (by decide)) (g := (mkF m 173 #[rv a, iv 0, iv q, iv x, iv 7, iv 7] [(.int 3), (.int x), (.int q), (.int 0), (.ref a), (.int 3), (.ref b16), (.ref b16), (.ref b3), (.ref b3)])) rfl (by rw [hml]; rfl) (argsL := [(.ref a), (.int 0), (.int q), (.int x), (.int 3)]) (rest := [(.int 3), (.ref b16), (.ref b16), (.ref b3), (.ref b3)]) (lenOf pd__28Ljava_2flang_2fString_3bIICI_29C rfl) rfl (by show 2 * 0 + _ ≤ _; exact Nat.le_of_eq rfl) (hb hby d9_173) (fun _ _ => ⟨rfl, e62, (by decide : 2 + 0 ≤ _), (by decide : 11 + 0 ≤ _)⟩)
  dsimp only [Pt.U, Pt.locs, Pt.cells, Pt.slots] at X74 l74 y74 z74 st74 hQ74
  subst l74 y74 z74
  obtain ⟨rfl, Nq74, P75⟩ := hQ74
  have N74 := Fr.app N62 Nq74
  refine own_G.st (T' := T74) 176 [(.int (nar .char (own_g0 (3 : Int32) q x (own_chr (97 : Int32))))), (.int 3), (.ref b16), (.ref b16), (.ref b3), (.ref b3)] (fun _ kq => st74 _ kq) ?_
  obtain ⟨cl76, Ar76, q176, Sz76, Nz76, Hh76, Gg76⟩ := id F63
  obtain ⟨T76, h76, X76, e76, W76, st76⟩ := stC X74 hx hZ P75 Ar76 (j := (3 : Int32)) (inb_of Sz76 ⟨by decide, by decide⟩) (g := (mkF m 176 #[rv a, iv 0, iv q, iv x, iv 7, iv 7] [(.int (nar .char (own_g0 (3 : Int32) q x (own_chr (97 : Int32))))), (.int 3), (.ref b16), (.ref b16), (.ref b3), (.ref b3)])) rfl rfl (hb hby d9_176)
  have F77 : Arv Z h76 b16 k16 .char (7 : Int32) [(.int (kA 0 114 q x)), (.int (kA 1 101 q x)), (.int (kA 2 108 q x)), (.int (kA 3 97 q x)), (.int 0), (.int 0), (.int 0)] (.int 0) := Arv.set Ar76 q176 Sz76 Nz76 Hh76 Gg76 (fits_nar_char _) W76 3 rfl (Nat.le_of_ble_eq_true rfl)
  have N76 := Fr.snoc X76 N74 g20
  have F78 := F64.wr W76
  have F79 := F65.other W76 (Or.inl ne17)
  have F80 := F66.other W76 (Or.inl ne17)
  have F81 := F67.other W76 ne18
  have F82 := F68.wr W76
  have F83 := F69.other W76 (Or.inl ne19)
  have F84 := F70.other W76 (Or.inl ne19)
  have O86 := O72.wr W76 g20
  have K87 := K73.wr W76 (Or.inr z21)
  refine own_G.st (T' := T76) 177 [(.ref b16), (.ref b3), (.ref b3)] st76 ?_
  refine own_G.sk 178 [(.ref b16), (.ref b16), (.ref b3), (.ref b3)] (fun _ kq => XS.dup X76.here hx rfl (hb hby d9_177) rfl rfl kq) ?_
  refine own_G.sk 179 [(.int 4), (.ref b16), (.ref b16), (.ref b3), (.ref b3)] (fun _ kq => XS.iconst X76.here hx rfl (hb hby d9_178) kq) ?_
  refine own_G.sk 180 [(.ref a), (.int 4), (.ref b16), (.ref b16), (.ref b3), (.ref b3)] (fun _ kq => XS.aloadN X76.here hx rfl (hb hby d9_179) rfl rfl kq) ?_
  refine own_G.sk 181 [(.int 0), (.ref a), (.int 4), (.ref b16), (.ref b16), (.ref b3), (.ref b3)] (fun _ kq => XS.iloadN X76.here hx rfl (hb hby d9_180) rfl kq) ?_
  refine own_G.sk 182 [(.int q), (.int 0), (.ref a), (.int 4), (.ref b16), (.ref b16), (.ref b3), (.ref b3)] (fun _ kq => XS.iloadN X76.here hx rfl (hb hby d9_181) rfl kq) ?_
  refine own_G.sk 183 [(.int x), (.int q), (.int 0), (.ref a), (.int 4), (.ref b16), (.ref b16), (.ref b3), (.ref b3)] (fun _ kq => XS.iloadN X76.here hx rfl (hb hby d9_182) rfl kq) ?_
  refine own_G.sk 184 [(.int 4), (.int x), (.int q), (.int 0), (.ref a), (.int 4), (.ref b16), (.ref b16), (.ref b3), (.ref b3)] (fun _ kq => XS.iconst X76.here hx rfl (hb hby d9_183) kq) ?_
  obtain ⟨_, _, ⟨T88, L88, k88, n88⟩, -, X88, ⟨Lc88, hQ88, l88, y88, z88⟩, st88⟩ := Jvm.LawKit.callS X76 hx (y := own_y22) hown (mvT hZ (W_ 54 rfl)) (mvT hZ (W_ 55 rfl)) (mvT hZ (W_ 50 rfl)) (mvT hZ (W_ 56 rfl)) (by decide) (backOf (W := 5) (rm_g0 l Z a0 hw [] a q x (4 : Int32) csz fm t (7 : Int32) (116 : Int32) h76 n0 O86 S_CS hcs S_IO hio F78 F79 F80 (own_Len.arv F81) (own_At.arv (i := (4 : Int32)) (b := (116 : Int32)) F81 ⟨by decide, by decide⟩ rfl) (by decide) (by decide)) hZ (W_ 56 rfl) (W_ 50 rfl) (by decide) (by decide)) (g := (mkF m 184 #[rv a, iv 0, iv q, iv x, iv 7, iv 7] [(.int 4), (.int x), (.int q), (.int 0), (.ref a), (.int 4), (.ref b16), (.ref b16), (.ref b3), (.ref b3)])) rfl (by rw [hml]; rfl) (argsL := [(.ref a), (.int 0), (.int q), (.int x), (.int 4)]) (rest := [(.int 4), (.ref b16), (.ref b16), (.ref b3), (.ref b3)]) (lenOf pd__28Ljava_2flang_2fString_3bIICI_29C rfl) rfl (by show 2 * 0 + _ ≤ _; exact Nat.le_of_eq rfl) (hb hby d9_184) (fun _ _ => ⟨rfl, e76, (by decide : 2 + 0 ≤ _), (by decide : 11 + 0 ≤ _)⟩)
  dsimp only [Pt.U, Pt.locs, Pt.cells, Pt.slots] at X88 l88 y88 z88 st88 hQ88
  subst l88 y88 z88
  obtain ⟨rfl, Nq88, P89⟩ := hQ88
  have N88 := Fr.app N76 Nq88
  refine own_G.st (T' := T88) 187 [(.int (nar .char (own_g0 (4 : Int32) q x (own_chr (116 : Int32))))), (.int 4), (.ref b16), (.ref b16), (.ref b3), (.ref b3)] (fun _ kq => st88 _ kq) ?_
  obtain ⟨cl90, Ar90, q190, Sz90, Nz90, Hh90, Gg90⟩ := id F77
  obtain ⟨T90, h90, X90, e90, W90, st90⟩ := stC X88 hx hZ P89 Ar90 (j := (4 : Int32)) (inb_of Sz90 ⟨by decide, by decide⟩) (g := (mkF m 187 #[rv a, iv 0, iv q, iv x, iv 7, iv 7] [(.int (nar .char (own_g0 (4 : Int32) q x (own_chr (116 : Int32))))), (.int 4), (.ref b16), (.ref b16), (.ref b3), (.ref b3)])) rfl rfl (hb hby d9_187)
  have F91 : Arv Z h90 b16 k16 .char (7 : Int32) [(.int (kA 0 114 q x)), (.int (kA 1 101 q x)), (.int (kA 2 108 q x)), (.int (kA 3 97 q x)), (.int (kA 4 116 q x)), (.int 0), (.int 0)] (.int 0) := Arv.set Ar90 q190 Sz90 Nz90 Hh90 Gg90 (fits_nar_char _) W90 4 rfl (Nat.le_of_ble_eq_true rfl)
  have N90 := Fr.snoc X90 N88 g20
  have F92 := F78.wr W90
  have F93 := F79.other W90 (Or.inl ne17)
  have F94 := F80.other W90 (Or.inl ne17)
  have F95 := F81.other W90 ne18
  have F96 := F82.wr W90
  have F97 := F83.other W90 (Or.inl ne19)
  have F98 := F84.other W90 (Or.inl ne19)
  have O100 := O86.wr W90 g20
  have K101 := K87.wr W90 (Or.inr z21)
  refine own_G.st (T' := T90) 188 [(.ref b16), (.ref b3), (.ref b3)] st90 ?_
  refine own_G.sk 189 [(.ref b16), (.ref b16), (.ref b3), (.ref b3)] (fun _ kq => XS.dup X90.here hx rfl (hb hby d9_188) rfl rfl kq) ?_
  refine own_G.sk 190 [(.int 5), (.ref b16), (.ref b16), (.ref b3), (.ref b3)] (fun _ kq => XS.iconst X90.here hx rfl (hb hby d9_189) kq) ?_
  refine own_G.sk 191 [(.ref a), (.int 5), (.ref b16), (.ref b16), (.ref b3), (.ref b3)] (fun _ kq => XS.aloadN X90.here hx rfl (hb hby d9_190) rfl rfl kq) ?_
  refine own_G.sk 192 [(.int 0), (.ref a), (.int 5), (.ref b16), (.ref b16), (.ref b3), (.ref b3)] (fun _ kq => XS.iloadN X90.here hx rfl (hb hby d9_191) rfl kq) ?_
  refine own_G.sk 193 [(.int q), (.int 0), (.ref a), (.int 5), (.ref b16), (.ref b16), (.ref b3), (.ref b3)] (fun _ kq => XS.iloadN X90.here hx rfl (hb hby d9_192) rfl kq) ?_
  refine own_G.sk 194 [(.int x), (.int q), (.int 0), (.ref a), (.int 5), (.ref b16), (.ref b16), (.ref b3), (.ref b3)] (fun _ kq => XS.iloadN X90.here hx rfl (hb hby d9_193) rfl kq) ?_
  refine own_G.sk 195 [(.int 5), (.int x), (.int q), (.int 0), (.ref a), (.int 5), (.ref b16), (.ref b16), (.ref b3), (.ref b3)] (fun _ kq => XS.iconst X90.here hx rfl (hb hby d9_194) kq) ?_
  obtain ⟨_, _, ⟨T102, L102, k102, n102⟩, -, X102, ⟨Lc102, hQ102, l102, y102, z102⟩, st102⟩ := Jvm.LawKit.callS X90 hx (y := own_y22) hown (mvT hZ (W_ 54 rfl)) (mvT hZ (W_ 55 rfl)) (mvT hZ (W_ 50 rfl)) (mvT hZ (W_ 56 rfl)) (by decide) (backOf (W := 5) (rm_g0 l Z a0 hw [] a q x (5 : Int32) csz fm t (7 : Int32) (101 : Int32) h90 n0 O100 S_CS hcs S_IO hio F92 F93 F94 (own_Len.arv F95) (own_At.arv (i := (5 : Int32)) (b := (101 : Int32)) F95 ⟨by decide, by decide⟩ rfl) (by decide) (by decide)) hZ (W_ 56 rfl) (W_ 50 rfl) (by decide) (by decide)) (g := (mkF m 195 #[rv a, iv 0, iv q, iv x, iv 7, iv 7] [(.int 5), (.int x), (.int q), (.int 0), (.ref a), (.int 5), (.ref b16), (.ref b16), (.ref b3), (.ref b3)])) rfl (by rw [hml]; rfl) (argsL := [(.ref a), (.int 0), (.int q), (.int x), (.int 5)]) (rest := [(.int 5), (.ref b16), (.ref b16), (.ref b3), (.ref b3)]) (lenOf pd__28Ljava_2flang_2fString_3bIICI_29C rfl) rfl (by show 2 * 0 + _ ≤ _; exact Nat.le_of_eq rfl) (hb hby d9_195) (fun _ _ => ⟨rfl, e90, (by decide : 2 + 0 ≤ _), (by decide : 11 + 0 ≤ _)⟩)
  dsimp only [Pt.U, Pt.locs, Pt.cells, Pt.slots] at X102 l102 y102 z102 st102 hQ102
  subst l102 y102 z102
  obtain ⟨rfl, Nq102, P103⟩ := hQ102
  have N102 := Fr.app N90 Nq102
  refine own_G.st (T' := T102) 198 [(.int (nar .char (own_g0 (5 : Int32) q x (own_chr (101 : Int32))))), (.int 5), (.ref b16), (.ref b16), (.ref b3), (.ref b3)] (fun _ kq => st102 _ kq) ?_
  obtain ⟨cl104, Ar104, q1104, Sz104, Nz104, Hh104, Gg104⟩ := id F91
  obtain ⟨T104, h104, X104, e104, W104, st104⟩ := stC X102 hx hZ P103 Ar104 (j := (5 : Int32)) (inb_of Sz104 ⟨by decide, by decide⟩) (g := (mkF m 198 #[rv a, iv 0, iv q, iv x, iv 7, iv 7] [(.int (nar .char (own_g0 (5 : Int32) q x (own_chr (101 : Int32))))), (.int 5), (.ref b16), (.ref b16), (.ref b3), (.ref b3)])) rfl rfl (hb hby d9_198)
  have F105 : Arv Z h104 b16 k16 .char (7 : Int32) [(.int (kA 0 114 q x)), (.int (kA 1 101 q x)), (.int (kA 2 108 q x)), (.int (kA 3 97 q x)), (.int (kA 4 116 q x)), (.int (kA 5 101 q x)), (.int 0)] (.int 0) := Arv.set Ar104 q1104 Sz104 Nz104 Hh104 Gg104 (fits_nar_char _) W104 5 rfl (Nat.le_of_ble_eq_true rfl)
  have N104 := Fr.snoc X104 N102 g20
  have F106 := F92.wr W104
  have F107 := F93.other W104 (Or.inl ne17)
  have F108 := F94.other W104 (Or.inl ne17)
  have F109 := F95.other W104 ne18
  have F110 := F96.wr W104
  have F111 := F97.other W104 (Or.inl ne19)
  have F112 := F98.other W104 (Or.inl ne19)
  have O114 := O100.wr W104 g20
  have K115 := K101.wr W104 (Or.inr z21)
  refine own_G.st (T' := T104) 199 [(.ref b16), (.ref b3), (.ref b3)] st104 ?_
  refine own_G.sk 200 [(.ref b16), (.ref b16), (.ref b3), (.ref b3)] (fun _ kq => XS.dup X104.here hx rfl (hb hby d9_199) rfl rfl kq) ?_
  refine own_G.sk 202 [(.int 6), (.ref b16), (.ref b16), (.ref b3), (.ref b3)] (fun _ kq => XS.bipush X104.here hx rfl (hb hby d9_200) kq) ?_
  refine own_G.sk 203 [(.ref a), (.int 6), (.ref b16), (.ref b16), (.ref b3), (.ref b3)] (fun _ kq => XS.aloadN X104.here hx rfl (hb hby d9_202) rfl rfl kq) ?_
  refine own_G.sk 204 [(.int 0), (.ref a), (.int 6), (.ref b16), (.ref b16), (.ref b3), (.ref b3)] (fun _ kq => XS.iloadN X104.here hx rfl (hb hby d9_203) rfl kq) ?_
  refine own_G.sk 205 [(.int q), (.int 0), (.ref a), (.int 6), (.ref b16), (.ref b16), (.ref b3), (.ref b3)] (fun _ kq => XS.iloadN X104.here hx rfl (hb hby d9_204) rfl kq) ?_
  refine own_G.sk 206 [(.int x), (.int q), (.int 0), (.ref a), (.int 6), (.ref b16), (.ref b16), (.ref b3), (.ref b3)] (fun _ kq => XS.iloadN X104.here hx rfl (hb hby d9_205) rfl kq) ?_
  refine own_G.sk 208 [(.int 6), (.int x), (.int q), (.int 0), (.ref a), (.int 6), (.ref b16), (.ref b16), (.ref b3), (.ref b3)] (fun _ kq => XS.bipush X104.here hx rfl (hb hby d9_206) kq) ?_
  obtain ⟨_, _, ⟨T116, L116, k116, n116⟩, -, X116, ⟨Lc116, hQ116, l116, y116, z116⟩, st116⟩ := Jvm.LawKit.callS X104 hx (y := own_y22) hown (mvT hZ (W_ 54 rfl)) (mvT hZ (W_ 55 rfl)) (mvT hZ (W_ 50 rfl)) (mvT hZ (W_ 56 rfl)) (by decide) (backOf (W := 5) (rm_g0 l Z a0 hw [] a q x (6 : Int32) csz fm t (7 : Int32) (100 : Int32) h104 n0 O114 S_CS hcs S_IO hio F106 F107 F108 (own_Len.arv F109) (own_At.arv (i := (6 : Int32)) (b := (100 : Int32)) F109 ⟨by decide, by decide⟩ rfl) (by decide) (by decide)) hZ (W_ 56 rfl) (W_ 50 rfl) (by decide) (by decide)) (g := (mkF m 208 #[rv a, iv 0, iv q, iv x, iv 7, iv 7] [(.int 6), (.int x), (.int q), (.int 0), (.ref a), (.int 6), (.ref b16), (.ref b16), (.ref b3), (.ref b3)])) rfl (by rw [hml]; rfl) (argsL := [(.ref a), (.int 0), (.int q), (.int x), (.int 6)]) (rest := [(.int 6), (.ref b16), (.ref b16), (.ref b3), (.ref b3)]) (lenOf pd__28Ljava_2flang_2fString_3bIICI_29C rfl) rfl (by show 2 * 0 + _ ≤ _; exact Nat.le_of_eq rfl) (hb hby d9_208) (fun _ _ => ⟨rfl, e104, (by decide : 2 + 0 ≤ _), (by decide : 11 + 0 ≤ _)⟩)
  dsimp only [Pt.U, Pt.locs, Pt.cells, Pt.slots] at X116 l116 y116 z116 st116 hQ116
  subst l116 y116 z116
  obtain ⟨rfl, Nq116, P117⟩ := hQ116
  have N116 := Fr.app N104 Nq116
  refine own_G.st (T' := T116) 211 [(.int (nar .char (own_g0 (6 : Int32) q x (own_chr (100 : Int32))))), (.int 6), (.ref b16), (.ref b16), (.ref b3), (.ref b3)] (fun _ kq => st116 _ kq) ?_
  obtain ⟨cl118, Ar118, q1118, Sz118, Nz118, Hh118, Gg118⟩ := id F105
  obtain ⟨T118, h118, X118, e118, W118, st118⟩ := stC X116 hx hZ P117 Ar118 (j := (6 : Int32)) (inb_of Sz118 ⟨by decide, by decide⟩) (g := (mkF m 211 #[rv a, iv 0, iv q, iv x, iv 7, iv 7] [(.int (nar .char (own_g0 (6 : Int32) q x (own_chr (100 : Int32))))), (.int 6), (.ref b16), (.ref b16), (.ref b3), (.ref b3)])) rfl rfl (hb hby d9_211)
  have F119 : Arv Z h118 b16 k16 .char (7 : Int32) [(.int (kA 0 114 q x)), (.int (kA 1 101 q x)), (.int (kA 2 108 q x)), (.int (kA 3 97 q x)), (.int (kA 4 116 q x)), (.int (kA 5 101 q x)), (.int (kA 6 100 q x))] (.int 0) := Arv.set Ar118 q1118 Sz118 Nz118 Hh118 Gg118 (fits_nar_char _) W118 6 rfl (Nat.le_of_ble_eq_true rfl)
  have N118 := Fr.snoc X118 N116 g20
  have F120 := F106.wr W118
  have F121 := F107.other W118 (Or.inl ne17)
  have F122 := F108.other W118 (Or.inl ne17)
  have F123 := F109.other W118 ne18
  have F124 := F110.wr W118
  have F125 := F111.other W118 (Or.inl ne19)
  have F126 := F112.other W118 (Or.inl ne19)
  have O128 := O114.wr W118 g20
  have K129 := K115.wr W118 (Or.inr z21)
  refine own_G.st (T' := T118) 212 [(.ref b16), (.ref b3), (.ref b3)] st118 ?_
  have hp130 : ∀ c ∈ ([(kA 0 114 q x), (kA 1 101 q x), (kA 2 108 q x), (kA 3 97 q x), (kA 4 116 q x), (kA 5 101 q x), (kA 6 100 q x)] : List Int32), ¬ c < 0 ∧ ¬ (255 : Int32) < c := by
    intro c hc
    simp only [List.mem_cons, List.not_mem_nil, or_false] at hc
    rcases hc with rfl | rfl | rfl | rfl | rfl | rfl | rfl
    · exact own_nn (own_g0b hxr (own_cb ⟨by decide, by decide⟩))
    · exact own_nn (own_g0b hxr (own_cb ⟨by decide, by decide⟩))
    · exact own_nn (own_g0b hxr (own_cb ⟨by decide, by decide⟩))
    · exact own_nn (own_g0b hxr (own_cb ⟨by decide, by decide⟩))
    · exact own_nn (own_g0b hxr (own_cb ⟨by decide, by decide⟩))
    · exact own_nn (own_g0b hxr (own_cb ⟨by decide, by decide⟩))
    · exact own_nn (own_g0b hxr (own_cb ⟨by decide, by decide⟩))
  obtain ⟨_, _, ⟨T131, L131, k131, n131⟩, -, X131, ⟨Lc131, hQ131, l131, y131, z131⟩, st131⟩ := X118.specialBack hx (y := own_y17) rfl hown (mvT hZ (W_ 57 rfl)) (mvT hZ (W_ 58 rfl)) (mvT hZ (W_ 59 rfl)) (by decide) (StrChars.Road.backV (W := 1) hZ hws (kI := 4) (W_ 2 rfl) (cs := ([(kA 0 114 q x), (kA 1 101 q x), (kA 2 108 q x), (kA 3 97 q x), (kA 4 116 q x), (kA 5 101 q x), (kA 6 100 q x)] : List Int32)) (bs := (([(kA 0 114 q x), (kA 1 101 q x), (kA 2 108 q x), (kA 3 97 q x), (kA 4 116 q x), (kA 5 101 q x), (kA 6 100 q x)] : List Int32).map (fun c => c.toInt8.toInt32))) (n := 7) g6 O128.le F124 F125 F126 F119 (Sta.ext O128.2 S_CS) hcs rfl rfl (by decide) (by decide) hp130 rfl (by decide) (by decide)) (g := (mkF m 212 #[rv a, iv 0, iv q, iv x, iv 7, iv 7] [(.ref b16), (.ref b3), (.ref b3)])) rfl (by rw [hml]; rfl) (Steps.refl _) (a := b3) (argsL := [(.ref b16)]) (rest := [(.ref b3)]) (lenOf pd__28_5bC_29V rfl) rfl (by show 2 * 0 + _ ≤ _; exact Nat.le_of_eq rfl) (hb hby d9_212) (fun _ _ => ⟨rfl, e118, (by decide : 2 + 1 ≤ _), (by decide : 11 + 7 ≤ _)⟩)
  dsimp only [Pt.U, Pt.locs, Pt.cells, Pt.slots] at X131 l131 y131 z131 st131 hQ131
  subst l131 y131 z131
  obtain ⟨rfl, P132, P133, P134, P135, b136, kx137, P138, P139, P140, P141, P142⟩ := hQ131
  have N131 := Fr.app N118 P132
  have ne143 : a ≠ b136 := Nat.ne_of_lt (Nat.lt_of_lt_of_le F120.lt P139)
  have ne144 : t ≠ b136 := Nat.ne_of_lt (Nat.lt_of_lt_of_le F123.lt P139)
  have ne145 : b3 ≠ b136 := Nat.ne_of_lt (Nat.lt_of_lt_of_le F124.lt P139)
  have ne146 : b16 ≠ b136 := Nat.ne_of_lt (Nat.lt_of_lt_of_le F119.lt P139)
  have g147 : n0 ≤ b136 := Nat.le_trans O128.le P139
  have z148 : h0.size ≤ b136 := Nat.le_trans K129.1 P139
  have F149 := F120.keep P133
  have F150 := F121.keep P133 (ninS ne4 nin0)
  have F151 := F122.keep P133 (ninS ne4 nin0)
  have F152 := F123.keep P133 (ninS ne5 nin0)
  have F153 := F124.keep P133
  have F154 := F119.keep P133 (ninS (Ne.symm ne19) nin0)
  have O155 := O128.keep P133 (allS g6 all0)
  have K156 := K129.trans P133 (allS (Or.inr z7) all0)
  refine own_G.st (T' := T131) 215 [(.ref b3)] (fun _ kq => st131.trans kq) ?_
  exact own_ret X131 rfl (v := some (.ref b3)) (fun h => by rw [Bd.returns] at h; cases h) Bd.notSynchronized ⟨b3, b136, kx137, rfl, N131, K156, z7, z148, P134, P135, P141, hp130, P142⟩ (by decide) (by decide) (fun fs hr => own_retR X131 hx Bd.returns rfl rfl (hb hby d9_215) hr)
theorem d9_40 : decode method_3_code 40 = .ok (.new 8, 3) := by decide +kernel
theorem d9_43 : decode method_3_code 43 = .ok (.dup, 1) := by decide +kernel
theorem d9_44 : decode method_3_code 44 = .ok (.bipush 6, 2) := by decide +kernel
theorem d9_46 : decode method_3_code 46 = .ok (.newarray .char, 2) := by decide +kernel
theorem d9_48 : decode method_3_code 48 = .ok (.dup, 1) := by decide +kernel
theorem d9_49 : decode method_3_code 49 = .ok (.iconst 0, 1) := by decide +kernel
theorem d9_50 : decode method_3_code 50 = .ok (.aload_n 0, 1) := by decide +kernel
theorem d9_51 : decode method_3_code 51 = .ok (.iload_n 1, 1) := by decide +kernel
theorem d9_52 : decode method_3_code 52 = .ok (.iload_n 2, 1) := by decide +kernel
theorem d9_53 : decode method_3_code 53 = .ok (.iload_n 3, 1) := by decide +kernel
theorem d9_54 : decode method_3_code 54 = .ok (.iconst 0, 1) := by decide +kernel
theorem d9_55 : decode method_3_code 55 = .ok (.invokestatic 17, 3) := by decide +kernel
theorem d9_58 : decode method_3_code 58 = .ok (.castore, 1) := by decide +kernel
theorem d9_59 : decode method_3_code 59 = .ok (.dup, 1) := by decide +kernel
theorem d9_60 : decode method_3_code 60 = .ok (.iconst 1, 1) := by decide +kernel
theorem d9_61 : decode method_3_code 61 = .ok (.aload_n 0, 1) := by decide +kernel
theorem d9_62 : decode method_3_code 62 = .ok (.iload_n 1, 1) := by decide +kernel
theorem d9_63 : decode method_3_code 63 = .ok (.iload_n 2, 1) := by decide +kernel
theorem d9_64 : decode method_3_code 64 = .ok (.iload_n 3, 1) := by decide +kernel
theorem d9_65 : decode method_3_code 65 = .ok (.iconst 1, 1) := by decide +kernel
theorem d9_66 : decode method_3_code 66 = .ok (.invokestatic 17, 3) := by decide +kernel
theorem d9_69 : decode method_3_code 69 = .ok (.castore, 1) := by decide +kernel
theorem d9_70 : decode method_3_code 70 = .ok (.dup, 1) := by decide +kernel
theorem d9_71 : decode method_3_code 71 = .ok (.iconst 2, 1) := by decide +kernel
theorem d9_72 : decode method_3_code 72 = .ok (.aload_n 0, 1) := by decide +kernel
theorem d9_73 : decode method_3_code 73 = .ok (.iload_n 1, 1) := by decide +kernel
theorem d9_74 : decode method_3_code 74 = .ok (.iload_n 2, 1) := by decide +kernel
theorem d9_75 : decode method_3_code 75 = .ok (.iload_n 3, 1) := by decide +kernel
theorem d9_76 : decode method_3_code 76 = .ok (.iconst 2, 1) := by decide +kernel
theorem d9_77 : decode method_3_code 77 = .ok (.invokestatic 17, 3) := by decide +kernel
theorem d9_80 : decode method_3_code 80 = .ok (.castore, 1) := by decide +kernel
theorem d9_81 : decode method_3_code 81 = .ok (.dup, 1) := by decide +kernel
theorem d9_82 : decode method_3_code 82 = .ok (.iconst 3, 1) := by decide +kernel
theorem d9_83 : decode method_3_code 83 = .ok (.aload_n 0, 1) := by decide +kernel
theorem d9_84 : decode method_3_code 84 = .ok (.iload_n 1, 1) := by decide +kernel
theorem d9_85 : decode method_3_code 85 = .ok (.iload_n 2, 1) := by decide +kernel
theorem d9_86 : decode method_3_code 86 = .ok (.iload_n 3, 1) := by decide +kernel
theorem d9_87 : decode method_3_code 87 = .ok (.iconst 3, 1) := by decide +kernel
theorem d9_88 : decode method_3_code 88 = .ok (.invokestatic 17, 3) := by decide +kernel
theorem d9_91 : decode method_3_code 91 = .ok (.castore, 1) := by decide +kernel
theorem d9_92 : decode method_3_code 92 = .ok (.dup, 1) := by decide +kernel
theorem d9_93 : decode method_3_code 93 = .ok (.iconst 4, 1) := by decide +kernel
theorem d9_94 : decode method_3_code 94 = .ok (.aload_n 0, 1) := by decide +kernel
theorem d9_95 : decode method_3_code 95 = .ok (.iload_n 1, 1) := by decide +kernel
theorem d9_96 : decode method_3_code 96 = .ok (.iload_n 2, 1) := by decide +kernel
theorem d9_97 : decode method_3_code 97 = .ok (.iload_n 3, 1) := by decide +kernel
theorem d9_98 : decode method_3_code 98 = .ok (.iconst 4, 1) := by decide +kernel
theorem d9_99 : decode method_3_code 99 = .ok (.invokestatic 17, 3) := by decide +kernel
theorem d9_102 : decode method_3_code 102 = .ok (.castore, 1) := by decide +kernel
theorem d9_103 : decode method_3_code 103 = .ok (.dup, 1) := by decide +kernel
theorem d9_104 : decode method_3_code 104 = .ok (.iconst 5, 1) := by decide +kernel
theorem d9_105 : decode method_3_code 105 = .ok (.aload_n 0, 1) := by decide +kernel
theorem d9_106 : decode method_3_code 106 = .ok (.iload_n 1, 1) := by decide +kernel
theorem d9_107 : decode method_3_code 107 = .ok (.iload_n 2, 1) := by decide +kernel
theorem d9_108 : decode method_3_code 108 = .ok (.iload_n 3, 1) := by decide +kernel
theorem d9_109 : decode method_3_code 109 = .ok (.iconst 5, 1) := by decide +kernel
theorem d9_110 : decode method_3_code 110 = .ok (.invokestatic 17, 3) := by decide +kernel
theorem d9_113 : decode method_3_code 113 = .ok (.castore, 1) := by decide +kernel
theorem d9_114 : decode method_3_code 114 = .ok (.invokespecial 23, 3) := by decide +kernel
theorem d9_117 : decode method_3_code 117 = .ok (.areturn, 1) := by decide +kernel
theorem ef_mkr1 (m : MethodId) (a : Addr) (q : Int32) (x : Int32) : entryFrame m #[(.ref a), (.int 1), (.int q), (.int x)] 6 = mkF m 0 #[rv a, iv 1, iv q, iv x, .unset, .unset] [] := by
  first | (simp [entryFrame, mkF, argsToLocals, Value.category]; done) | rfl
def Q_mkr1 (Z : State) (a : Addr) (q : Int32) (x : Int32) (csz : Int32) (fm : Value) (t : Addr) (kb : ClassId) (h0 : Heap) (n0 : Nat) (v : Option Value) (h : Heap) (L : List Loc) : Prop := ∃ (r : Addr), ∃ (t2 : Addr), ∃ (kb2 : ClassId), v = some (.ref r) ∧ Fr n0 L ∧ Keep h0 h [] ∧ h0.size ≤ r ∧ h0.size ≤ t2 ∧ Exa Z h r "java/lang/String" ∧ Fld Z h r "java/lang/String" "coder" "B" (.int 0) ∧ Fld Z h r "java/lang/String" "value" "[B" (.ref t2) ∧ (∀ c ∈ ([(kB 0 114 101 q), (kB 1 101 108 q), (kB 2 108 97 q), (kB 3 97 116 q), (kB 4 116 101 q), (kB 5 101 100 q)] : List Int32), ¬ c < 0 ∧ ¬ (255 : Int32) < c) ∧ Arv Z h t2 kb2 .byte (6 : Int32) ((([(kB 0 114 101 q), (kB 1 101 108 q), (kB 2 108 97 q), (kB 3 97 116 q), (kB 4 116 101 q), (kB 5 101 100 q)] : List Int32).map (fun c => c.toInt8.toInt32)).map Value.int) (.int 0)
set_option maxRecDepth 65536 in
set_option maxHeartbeats 40000000 in
theorem rm_mkr1 (l : Launch) (Z : State) (a0 : Array Value) (hw : ∀ d ∈ tables_1, d.before a0 Z = true) (ws : List Jvm.Cond) (a : Addr) (q : Int32) (x : Int32) (csz : Int32) (fm : Value) (t : Addr) (kb : ClassId) (h0 : Heap) (n0 : Nat) (O0 : Old Z n0 h0) (S_CS : Sta Z Z.heap "java/lang/String" "COMPACT_STRINGS" "Z" (.int csz)) (hcs : ¬ csz = (0 : Int32)) (S_IO : Sta Z Z.heap "jdk/internal/util/Preconditions" "SIOOBE_FORMATTER" "Ljava/util/function/BiFunction;" fm) (hio : fm.isRef = true) (Ea : Exa Z h0 a "java/lang/String") (Fv : Fld Z h0 a "java/lang/String" "value" "[B" (.ref t)) (Fc : Fld Z h0 a "java/lang/String" "coder" "B" (.int 0)) (AR : Arv Z h0 t kb .byte (7 : Int32) [(.int 114), (.int 101), (.int 108), (.int 97), (.int 116), (.int 101), (.int 100)] (.int 0)) (hxr : ¬ x < (0 : Int32) ∧ ¬ (255 : Int32) < x) :
    MetFree l own_y23 (head1 (Jvm.Cond.code own_y23 method_3_code 6 (some (.object "java/lang/String")) :: ws) ({ frames := 5, cells := 3, slots := 16, locals := 74 } : Room)) (fun aq_ Uq_ => aq_ = #[(.ref a), (.int 1), (.int q), (.int x)] ∧ Z.Warmed39 Uq_.vm ∧ Uq_.heap = h0) (fun _ _ _ _ _ => True) (fun _ Uq_ oq_ Ur_ => ∃ vq_ Lq_, oq_ = .returned vq_ ∧ Q_mkr1 Z a q x csz fm t kb h0 n0 vq_ Ur_.heap Lq_ ∧ FrameEnd Uq_ oq_ Ur_ Lq_ ({ frames := 5, cells := 3, slots := 16, locals := 74 } : Room).cells ({ frames := 5, cells := 3, slots := 16, locals := 74 } : Room).slots) := by
  refine MetFree.of_bodySF (plainFor_of_name pn_com_2fexample_2ftermflow_2ftermflow_2ffeed_2fLinkIsArtefactPinLaw) hisR ?_
  intro p e s m args below meth c s₁ Bd hml0 hP hK
  obtain ⟨rfl, hZ, hh⟩ := hP
  have W_ : ∀ {d : Jvm.Cond} (i : Nat), tables_1[i]? = some d → d.before a0 Z = true := fun i h => hw _ (List.mem_of_getElem? h)
  have hx := Bd.exec
  have hby := Bd.bytes
  have hml : c.maxLocals = 6 := hml0
  have hown : s.vm.findClass "com/example/termflow/termflow/feed/LinkIsArtefactPinLaw" = some m.cls := findClass_of_methodNamed Bd.named
  have hnm := (name_of_methodNamed Bd.named Bd.method).1
  have X0 : Stand p l e ({ frames := 5, cells := 3, slots := 16, locals := 74 } : Room) s m #[(.ref a), (.int 1), (.int q), (.int x)] below meth c s₁ [] 0 0 := Stand.of_body Bd
  have e0 : s₁.heap = h0 := by rw [← hh, Bd.state]; rfl
  have N0 := Fr.nil n0
  have K0 := Keep.refl h0 []
  refine own_G.start (Q := Q_mkr1 Z a q x csz fm t kb h0 n0) (ef_mkr1 m a q x) ?_
  have hws : ∀ d ∈ StrChars.Road.words, d.before a0 Z = true := fun d hd => hw d (own_hws d hd)
  refine own_G.sk 1 [(.ref a)] (fun _ kq => XS.aloadN X0.here hx rfl (hb hby d9_0) rfl rfl kq) ?_
  obtain ⟨cq1, kq1, q1a, q1b, q1c⟩ := isOf hZ e0 Ea
  obtain ⟨_, _, ⟨T1, L1, k1, n1⟩, -, X1, ⟨Lc1, hQ1, l1, y1, z1⟩, st1⟩ := X0.virtualBack hx (y := own_y7) (z := own_y7) hown (mvT hZ (W_ 8 rfl)) (mvT hZ (W_ 9 rfl)) (notFace_of_selects (args := #[]) (mvT hZ (W_ 11 rfl))) (mvT hZ (W_ 11 rfl)) (mvT hZ (W_ 10 rfl)) (by decide) (backOf (W := 0) (rm_strlen l Z a0 hw [] a csz t (7 : Int32) h0 n0 O0 S_CS hcs Fc Fv (own_Len.arv AR) Ea) hZ (W_ 12 rfl) (W_ 1 rfl) (by decide) (by decide)) q1a q1c (g := (mkF m 1 #[rv a, iv 1, iv q, iv x, .unset, .unset] [(.ref a)])) rfl (by rw [hml]; rfl) (Steps.refl _) (argsL := []) (rest := []) (lenOf pd__28_29I rfl) rfl (by show 2 * 0 + _ ≤ _; exact Nat.le_of_eq rfl) (hb hby d9_1) (fun _ _ => ⟨rfl, e0, (by decide : 0 + 0 ≤ _), (by decide : 0 + 0 ≤ _)⟩)
  dsimp only [Pt.U, Pt.locs, Pt.cells, Pt.slots] at X1 l1 y1 z1 st1 hQ1
  subst l1 y1 z1
  obtain ⟨rfl, Nq1, P2⟩ := hQ1
  have N1 := Fr.app N0 Nq1
  refine own_G.st (T' := T1) 4 [(.int 7)] (fun _ kq => st1.trans kq) ?_
  refine own_G.si 6 [] (fun _ kq => XS.istore X1.here hx rfl (hb hby d9_4) rfl (l' := #[rv a, iv 1, iv q, iv x, iv 7, .unset]) rfl kq) ?_
  refine own_G.sk 7 [(.int 1)] (fun _ kq => XS.iloadN X1.here hx rfl (hb hby d9_6) rfl kq) ?_
  have hc7 : ¬ ((1 : Int32) = (0 : Int32)) := (by decide)
  refine own_G.sk 15 [] (fun _ kq => XS.ifYes X1.here hx rfl (pc0 := 7) (pc' := 15) rfl (hb hby d9_7) rfl ((if0 _ _).trans (feq hc7).2) (by decide) (by decide) kq) ?_
  refine own_G.sk 16 [(.int 1)] (fun _ kq => XS.iloadN X1.here hx rfl (hb hby d9_15) rfl kq) ?_
  refine own_G.sk 17 [(.int 1), (.int 1)] (fun _ kq => XS.iconst X1.here hx rfl (hb hby d9_16) kq) ?_
  have hc17 : (1 : Int32) = (1 : Int32) := (by decide)
  refine own_G.sk 20 [] (fun _ kq => XS.icmpNo X1.here hx rfl (hb hby d9_17) rfl (teq hc17).2 kq) ?_
  refine own_G.sk 22 [(.int 7)] (fun _ kq => XS.iload X1.here hx rfl (hb hby d9_20) rfl kq) ?_
  refine own_G.sk 23 [(.int 1), (.int 7)] (fun _ kq => XS.iconst X1.here hx rfl (hb hby d9_22) kq) ?_
  refine own_G.sk 24 [(.int ((7 : Int32) - (1 : Int32)))] (fun _ kq => XS.isub X1.here hx rfl (hb hby d9_23) rfl kq) ?_
  refine own_G.sk 31 [(.int ((7 : Int32) - (1 : Int32)))] (fun _ kq => XS.goto X1.here hx rfl (pc0 := 24) (pc' := 31) rfl (hb hby d9_24) (by decide) (by decide) kq) ?_
  refine own_G.si 33 [] (fun _ kq => XS.istore X1.here hx rfl (hb hby d9_31) rfl (l' := #[rv a, iv 1, iv q, iv x, iv 7, .val (.int ((7 : Int32) - (1 : Int32)))]) rfl kq) ?_
  have hl5 : ((7 : Int32) - (1 : Int32)) = (6 : Int32) := by decide
  refine own_G.cast (g' := (mkF m 33 #[rv a, iv 1, iv q, iv x, iv 7, iv 6] [])) (by rw [hl5]) ?_
  refine own_G.sk 35 [(.int 6)] (fun _ kq => XS.iload X1.here hx rfl (hb hby d9_33) rfl kq) ?_
  refine own_G.sk 37 [(.int 6), (.int 6)] (fun _ kq => XS.bipush X1.here hx rfl (hb hby d9_35) kq) ?_
  have hc37 : (6 : Int32) = (6 : Int32) := (by decide)
  refine own_G.sk 40 [] (fun _ kq => XS.icmpNo X1.here hx rfl (hb hby d9_37) rfl (teq hc37).2 kq) ?_
  obtain ⟨T3, h3, X3, e3, E3, A3, D3, -, st3⟩ := newO X1 hx hZ hown (W_ 52 rfl) (W_ 2 rfl) (W_ 1 rfl) P2 (g := (mkF m 40 #[rv a, iv 1, iv q, iv x, iv 7, iv 6] [])) rfl (hb hby d9_40) (by decide) (by decide)
  obtain ⟨b3, g3⟩ : ∃ z, z = h0.size := ⟨_, rfl⟩
  rw [← g3] at A3 D3 st3
  have ne4 : a ≠ b3 := Nat.ne_of_lt (Nat.lt_of_lt_of_le Ea.lt (Nat.le_of_eq g3.symm))
  have ne5 : t ≠ b3 := Nat.ne_of_lt (Nat.lt_of_lt_of_le AR.lt (Nat.le_of_eq g3.symm))
  have g6 : n0 ≤ b3 := Nat.le_trans O0.le (Nat.le_of_eq g3.symm)
  have z7 : h0.size ≤ b3 := Nat.le_trans K0.1 (Nat.le_of_eq g3.symm)
  have F8 := Ea.ext E3
  have F9 := Fv.ext E3
  have F10 := Fc.ext E3
  have F11 := AR.ext E3
  have O12 := O0.ext E3
  have K13 := K0.ext E3
  have F14 : Fld Z h3 b3 "java/lang/String" "value" "[B" .null := D3 (Or.inr (W_ 4 rfl)) (ty := (.array .byte)) (by decide)
  have F15 : Fld Z h3 b3 "java/lang/String" "coder" "B" (.int 0) := D3 (Or.inr (W_ 5 rfl)) (ty := .byte) (by decide)
  refine own_G.st (T' := T3) 43 [(.ref b3)] st3 ?_
  refine own_G.sk 44 [(.ref b3), (.ref b3)] (fun _ kq => XS.dup X3.here hx rfl (hb hby d9_43) rfl rfl kq) ?_
  refine own_G.sk 46 [(.int 6), (.ref b3), (.ref b3)] (fun _ kq => XS.bipush X3.here hx rfl (hb hby d9_44) kq) ?_
  obtain ⟨T16, h16, k16, X16, e16, E16, A16, st16⟩ := newP X3 hx hZ (W_ 53 rfl) e3 (g := (mkF m 46 #[rv a, iv 1, iv q, iv x, iv 7, iv 6] [(.int 6), (.ref b3), (.ref b3)])) rfl (hb hby d9_46) rfl (by decide) (cap := 6) (by decide) (by decide) (by decide) (by decide)
  obtain ⟨b16, g16⟩ : ∃ z, z = h3.size := ⟨_, rfl⟩
  rw [← g16] at A16 st16
  have ne17 : a ≠ b16 := Nat.ne_of_lt (Nat.lt_of_lt_of_le F8.lt (Nat.le_of_eq g16.symm))
  have ne18 : t ≠ b16 := Nat.ne_of_lt (Nat.lt_of_lt_of_le F11.lt (Nat.le_of_eq g16.symm))
  have ne19 : b3 ≠ b16 := Nat.ne_of_lt (Nat.lt_of_lt_of_le A3.lt (Nat.le_of_eq g16.symm))
  have g20 : n0 ≤ b16 := Nat.le_trans O12.le (Nat.le_of_eq g16.symm)
  have z21 : h0.size ≤ b16 := Nat.le_trans K13.1 (Nat.le_of_eq g16.symm)
  have F22 := F8.ext E16
  have F23 := F9.ext E16
  have F24 := F10.ext E16
  have F25 := F11.ext E16
  have F26 := A3.ext E16
  have F27 := F14.ext E16
  have F28 := F15.ext E16
  have O29 := O12.ext E16
  have K30 := K13.ext E16
  have F31 : Arv Z h16 b16 k16 .char (6 : Int32) [(.int 0), (.int 0), (.int 0), (.int 0), (.int 0), (.int 0)] (.int 0) := (Arv.new A16 (by decide)).pad (pad_rep [] (.int 0) 6)
  refine own_G.st (T' := T16) 48 [(.ref b16), (.ref b3), (.ref b3)] st16 ?_
  refine own_G.sk 49 [(.ref b16), (.ref b16), (.ref b3), (.ref b3)] (fun _ kq => XS.dup X16.here hx rfl (hb hby d9_48) rfl rfl kq) ?_
  refine own_G.sk 50 [(.int 0), (.ref b16), (.ref b16), (.ref b3), (.ref b3)] (fun _ kq => XS.iconst X16.here hx rfl (hb hby d9_49) kq) ?_
  refine own_G.sk 51 [(.ref a), (.int 0), (.ref b16), (.ref b16), (.ref b3), (.ref b3)] (fun _ kq => XS.aloadN X16.here hx rfl (hb hby d9_50) rfl rfl kq) ?_
  refine own_G.sk 52 [(.int 1), (.ref a), (.int 0), (.ref b16), (.ref b16), (.ref b3), (.ref b3)] (fun _ kq => XS.iloadN X16.here hx rfl (hb hby d9_51) rfl kq) ?_
  refine own_G.sk 53 [(.int q), (.int 1), (.ref a), (.int 0), (.ref b16), (.ref b16), (.ref b3), (.ref b3)] (fun _ kq => XS.iloadN X16.here hx rfl (hb hby d9_52) rfl kq) ?_
  refine own_G.sk 54 [(.int x), (.int q), (.int 1), (.ref a), (.int 0), (.ref b16), (.ref b16), (.ref b3), (.ref b3)] (fun _ kq => XS.iloadN X16.here hx rfl (hb hby d9_53) rfl kq) ?_
  refine own_G.sk 55 [(.int 0), (.int x), (.int q), (.int 1), (.ref a), (.int 0), (.ref b16), (.ref b16), (.ref b3), (.ref b3)] (fun _ kq => XS.iconst X16.here hx rfl (hb hby d9_54) kq) ?_
  obtain ⟨_, _, ⟨T32, L32, k32, n32⟩, -, X32, ⟨Lc32, hQ32, l32, y32, z32⟩, st32⟩ := Jvm.LawKit.callS X16 hx (y := own_y22) hown (mvT hZ (W_ 54 rfl)) (mvT hZ (W_ 55 rfl)) (mvT hZ (W_ 50 rfl)) (mvT hZ (W_ 56 rfl)) (by decide) (backOf (W := 5) (rm_g1 l Z a0 hw [] a q x (0 : Int32) csz fm t (7 : Int32) (114 : Int32) (101 : Int32) h16 n0 O29 S_CS hcs S_IO hio F22 F23 F24 (own_Len.arv F25) (own_At.arv (i := (0 : Int32)) (b := (114 : Int32)) F25 ⟨by decide, by decide⟩ rfl) (by decide) (by decide) (own_At.arv (i := (1 : Int32)) (b := (101 : Int32)) F25 ⟨by decide, by decide⟩ rfl) (by decide) (by decide)) hZ (W_ 56 rfl) (W_ 50 rfl) (by decide) (by decide)) (g := (mkF m 55 #[rv a, iv 1, iv q, iv x, iv 7, iv 6] [(.int 0), (.int x), (.int q), (.int 1), (.ref a), (.int 0), (.ref b16), (.ref b16), (.ref b3), (.ref b3)])) rfl (by rw [hml]; rfl) (argsL := [(.ref a), (.int 1), (.int q), (.int x), (.int 0)]) (rest := [(.int 0), (.ref b16), (.ref b16), (.ref b3), (.ref b3)]) (lenOf pd__28Ljava_2flang_2fString_3bIICI_29C rfl) rfl (by show 2 * 0 + _ ≤ _; exact Nat.le_of_eq rfl) (hb hby d9_55) (fun _ _ => ⟨rfl, e16, (by decide : 2 + 0 ≤ _), (by decide : 10 + 0 ≤ _)⟩)
  dsimp only [Pt.U, Pt.locs, Pt.cells, Pt.slots] at X32 l32 y32 z32 st32 hQ32
  subst l32 y32 z32
  obtain ⟨rfl, Nq32, P33⟩ := hQ32
  have N32 := Fr.app N1 Nq32
  refine own_G.st (T' := T32) 58 [(.int (nar .char (own_g1 (0 : Int32) q (own_chr (114 : Int32)) (own_chr (101 : Int32))))), (.int 0), (.ref b16), (.ref b16), (.ref b3), (.ref b3)] (fun _ kq => st32 _ kq) ?_
  obtain ⟨cl34, Ar34, q134, Sz34, Nz34, Hh34, Gg34⟩ := id F31
  obtain ⟨T34, h34, X34, e34, W34, st34⟩ := stC X32 hx hZ P33 Ar34 (j := (0 : Int32)) (inb_of Sz34 ⟨by decide, by decide⟩) (g := (mkF m 58 #[rv a, iv 1, iv q, iv x, iv 7, iv 6] [(.int (nar .char (own_g1 (0 : Int32) q (own_chr (114 : Int32)) (own_chr (101 : Int32))))), (.int 0), (.ref b16), (.ref b16), (.ref b3), (.ref b3)])) rfl rfl (hb hby d9_58)
  have F35 : Arv Z h34 b16 k16 .char (6 : Int32) [(.int (kB 0 114 101 q)), (.int 0), (.int 0), (.int 0), (.int 0), (.int 0)] (.int 0) := Arv.set Ar34 q134 Sz34 Nz34 Hh34 Gg34 (fits_nar_char _) W34 0 rfl (Nat.le_of_ble_eq_true rfl)
  have N34 := Fr.snoc X34 N32 g20
  have F36 := F22.wr W34
  have F37 := F23.other W34 (Or.inl ne17)
  have F38 := F24.other W34 (Or.inl ne17)
  have F39 := F25.other W34 ne18
  have F40 := F26.wr W34
  have F41 := F27.other W34 (Or.inl ne19)
  have F42 := F28.other W34 (Or.inl ne19)
  have O44 := O29.wr W34 g20
  have K45 := K30.wr W34 (Or.inr z21)
  refine own_G.st (T' := T34) 59 [(.ref b16), (.ref b3), (.ref b3)] st34 ?_
  refine own_G.sk 60 [(.ref b16), (.ref b16), (.ref b3), (.ref b3)] (fun _ kq => XS.dup X34.here hx rfl (hb hby d9_59) rfl rfl kq) ?_
  refine own_G.sk 61 [(.int 1), (.ref b16), (.ref b16), (.ref b3), (.ref b3)] (fun _ kq => XS.iconst X34.here hx rfl (hb hby d9_60) kq) ?_
  refine own_G.sk 62 [(.ref a), (.int 1), (.ref b16), (.ref b16), (.ref b3), (.ref b3)] (fun _ kq => XS.aloadN X34.here hx rfl (hb hby d9_61) rfl rfl kq) ?_
  refine own_G.sk 63 [(.int 1), (.ref a), (.int 1), (.ref b16), (.ref b16), (.ref b3), (.ref b3)] (fun _ kq => XS.iloadN X34.here hx rfl (hb hby d9_62) rfl kq) ?_
  refine own_G.sk 64 [(.int q), (.int 1), (.ref a), (.int 1), (.ref b16), (.ref b16), (.ref b3), (.ref b3)] (fun _ kq => XS.iloadN X34.here hx rfl (hb hby d9_63) rfl kq) ?_
  refine own_G.sk 65 [(.int x), (.int q), (.int 1), (.ref a), (.int 1), (.ref b16), (.ref b16), (.ref b3), (.ref b3)] (fun _ kq => XS.iloadN X34.here hx rfl (hb hby d9_64) rfl kq) ?_
  refine own_G.sk 66 [(.int 1), (.int x), (.int q), (.int 1), (.ref a), (.int 1), (.ref b16), (.ref b16), (.ref b3), (.ref b3)] (fun _ kq => XS.iconst X34.here hx rfl (hb hby d9_65) kq) ?_
  obtain ⟨_, _, ⟨T46, L46, k46, n46⟩, -, X46, ⟨Lc46, hQ46, l46, y46, z46⟩, st46⟩ := Jvm.LawKit.callS X34 hx (y := own_y22) hown (mvT hZ (W_ 54 rfl)) (mvT hZ (W_ 55 rfl)) (mvT hZ (W_ 50 rfl)) (mvT hZ (W_ 56 rfl)) (by decide) (backOf (W := 5) (rm_g1 l Z a0 hw [] a q x (1 : Int32) csz fm t (7 : Int32) (101 : Int32) (108 : Int32) h34 n0 O44 S_CS hcs S_IO hio F36 F37 F38 (own_Len.arv F39) (own_At.arv (i := (1 : Int32)) (b := (101 : Int32)) F39 ⟨by decide, by decide⟩ rfl) (by decide) (by decide) (own_At.arv (i := (2 : Int32)) (b := (108 : Int32)) F39 ⟨by decide, by decide⟩ rfl) (by decide) (by decide)) hZ (W_ 56 rfl) (W_ 50 rfl) (by decide) (by decide)) (g := (mkF m 66 #[rv a, iv 1, iv q, iv x, iv 7, iv 6] [(.int 1), (.int x), (.int q), (.int 1), (.ref a), (.int 1), (.ref b16), (.ref b16), (.ref b3), (.ref b3)])) rfl (by rw [hml]; rfl) (argsL := [(.ref a), (.int 1), (.int q), (.int x), (.int 1)]) (rest := [(.int 1), (.ref b16), (.ref b16), (.ref b3), (.ref b3)]) (lenOf pd__28Ljava_2flang_2fString_3bIICI_29C rfl) rfl (by show 2 * 0 + _ ≤ _; exact Nat.le_of_eq rfl) (hb hby d9_66) (fun _ _ => ⟨rfl, e34, (by decide : 2 + 0 ≤ _), (by decide : 10 + 0 ≤ _)⟩)
  dsimp only [Pt.U, Pt.locs, Pt.cells, Pt.slots] at X46 l46 y46 z46 st46 hQ46
  subst l46 y46 z46
  obtain ⟨rfl, Nq46, P47⟩ := hQ46
  have N46 := Fr.app N34 Nq46
  refine own_G.st (T' := T46) 69 [(.int (nar .char (own_g1 (1 : Int32) q (own_chr (101 : Int32)) (own_chr (108 : Int32))))), (.int 1), (.ref b16), (.ref b16), (.ref b3), (.ref b3)] (fun _ kq => st46 _ kq) ?_
  obtain ⟨cl48, Ar48, q148, Sz48, Nz48, Hh48, Gg48⟩ := id F35
  obtain ⟨T48, h48, X48, e48, W48, st48⟩ := stC X46 hx hZ P47 Ar48 (j := (1 : Int32)) (inb_of Sz48 ⟨by decide, by decide⟩) (g := (mkF m 69 #[rv a, iv 1, iv q, iv x, iv 7, iv 6] [(.int (nar .char (own_g1 (1 : Int32) q (own_chr (101 : Int32)) (own_chr (108 : Int32))))), (.int 1), (.ref b16), (.ref b16), (.ref b3), (.ref b3)])) rfl rfl (hb hby d9_69)
  have F49 : Arv Z h48 b16 k16 .char (6 : Int32) [(.int (kB 0 114 101 q)), (.int (kB 1 101 108 q)), (.int 0), (.int 0), (.int 0), (.int 0)] (.int 0) := Arv.set Ar48 q148 Sz48 Nz48 Hh48 Gg48 (fits_nar_char _) W48 1 rfl (Nat.le_of_ble_eq_true rfl)
  have N48 := Fr.snoc X48 N46 g20
  have F50 := F36.wr W48
  have F51 := F37.other W48 (Or.inl ne17)
  have F52 := F38.other W48 (Or.inl ne17)
  have F53 := F39.other W48 ne18
  have F54 := F40.wr W48
  have F55 := F41.other W48 (Or.inl ne19)
  have F56 := F42.other W48 (Or.inl ne19)
  have O58 := O44.wr W48 g20
  have K59 := K45.wr W48 (Or.inr z21)
  refine own_G.st (T' := T48) 70 [(.ref b16), (.ref b3), (.ref b3)] st48 ?_
  refine own_G.sk 71 [(.ref b16), (.ref b16), (.ref b3), (.ref b3)] (fun _ kq => XS.dup X48.here hx rfl (hb hby d9_70) rfl rfl kq) ?_
  refine own_G.sk 72 [(.int 2), (.ref b16), (.ref b16), (.ref b3), (.ref b3)] (fun _ kq => XS.iconst X48.here hx rfl (hb hby d9_71) kq) ?_
  refine own_G.sk 73 [(.ref a), (.int 2), (.ref b16), (.ref b16), (.ref b3), (.ref b3)] (fun _ kq => XS.aloadN X48.here hx rfl (hb hby d9_72) rfl rfl kq) ?_
  refine own_G.sk 74 [(.int 1), (.ref a), (.int 2), (.ref b16), (.ref b16), (.ref b3), (.ref b3)] (fun _ kq => XS.iloadN X48.here hx rfl (hb hby d9_73) rfl kq) ?_
  refine own_G.sk 75 [(.int q), (.int 1), (.ref a), (.int 2), (.ref b16), (.ref b16), (.ref b3), (.ref b3)] (fun _ kq => XS.iloadN X48.here hx rfl (hb hby d9_74) rfl kq) ?_
  refine own_G.sk 76 [(.int x), (.int q), (.int 1), (.ref a), (.int 2), (.ref b16), (.ref b16), (.ref b3), (.ref b3)] (fun _ kq => XS.iloadN X48.here hx rfl (hb hby d9_75) rfl kq) ?_
  refine own_G.sk 77 [(.int 2), (.int x), (.int q), (.int 1), (.ref a), (.int 2), (.ref b16), (.ref b16), (.ref b3), (.ref b3)] (fun _ kq => XS.iconst X48.here hx rfl (hb hby d9_76) kq) ?_
  obtain ⟨_, _, ⟨T60, L60, k60, n60⟩, -, X60, ⟨Lc60, hQ60, l60, y60, z60⟩, st60⟩ := Jvm.LawKit.callS X48 hx (y := own_y22) hown (mvT hZ (W_ 54 rfl)) (mvT hZ (W_ 55 rfl)) (mvT hZ (W_ 50 rfl)) (mvT hZ (W_ 56 rfl)) (by decide) (backOf (W := 5) (rm_g1 l Z a0 hw [] a q x (2 : Int32) csz fm t (7 : Int32) (108 : Int32) (97 : Int32) h48 n0 O58 S_CS hcs S_IO hio F50 F51 F52 (own_Len.arv F53) (own_At.arv (i := (2 : Int32)) (b := (108 : Int32)) F53 ⟨by decide, by decide⟩ rfl) (by decide) (by decide) (own_At.arv (i := (3 : Int32)) (b := (97 : Int32)) F53 ⟨by decide, by decide⟩ rfl) (by decide) (by decide)) hZ (W_ 56 rfl) (W_ 50 rfl) (by decide) (by decide)) (g := (mkF m 77 #[rv a, iv 1, iv q, iv x, iv 7, iv 6] [(.int 2), (.int x), (.int q), (.int 1), (.ref a), (.int 2), (.ref b16), (.ref b16), (.ref b3), (.ref b3)])) rfl (by rw [hml]; rfl) (argsL := [(.ref a), (.int 1), (.int q), (.int x), (.int 2)]) (rest := [(.int 2), (.ref b16), (.ref b16), (.ref b3), (.ref b3)]) (lenOf pd__28Ljava_2flang_2fString_3bIICI_29C rfl) rfl (by show 2 * 0 + _ ≤ _; exact Nat.le_of_eq rfl) (hb hby d9_77) (fun _ _ => ⟨rfl, e48, (by decide : 2 + 0 ≤ _), (by decide : 10 + 0 ≤ _)⟩)
  dsimp only [Pt.U, Pt.locs, Pt.cells, Pt.slots] at X60 l60 y60 z60 st60 hQ60
  subst l60 y60 z60
  obtain ⟨rfl, Nq60, P61⟩ := hQ60
  have N60 := Fr.app N48 Nq60
  refine own_G.st (T' := T60) 80 [(.int (nar .char (own_g1 (2 : Int32) q (own_chr (108 : Int32)) (own_chr (97 : Int32))))), (.int 2), (.ref b16), (.ref b16), (.ref b3), (.ref b3)] (fun _ kq => st60 _ kq) ?_
  obtain ⟨cl62, Ar62, q162, Sz62, Nz62, Hh62, Gg62⟩ := id F49
  obtain ⟨T62, h62, X62, e62, W62, st62⟩ := stC X60 hx hZ P61 Ar62 (j := (2 : Int32)) (inb_of Sz62 ⟨by decide, by decide⟩) (g := (mkF m 80 #[rv a, iv 1, iv q, iv x, iv 7, iv 6] [(.int (nar .char (own_g1 (2 : Int32) q (own_chr (108 : Int32)) (own_chr (97 : Int32))))), (.int 2), (.ref b16), (.ref b16), (.ref b3), (.ref b3)])) rfl rfl (hb hby d9_80)
  have F63 : Arv Z h62 b16 k16 .char (6 : Int32) [(.int (kB 0 114 101 q)), (.int (kB 1 101 108 q)), (.int (kB 2 108 97 q)), (.int 0), (.int 0), (.int 0)] (.int 0) := Arv.set Ar62 q162 Sz62 Nz62 Hh62 Gg62 (fits_nar_char _) W62 2 rfl (Nat.le_of_ble_eq_true rfl)
  have N62 := Fr.snoc X62 N60 g20
  have F64 := F50.wr W62
  have F65 := F51.other W62 (Or.inl ne17)
  have F66 := F52.other W62 (Or.inl ne17)
  have F67 := F53.other W62 ne18
  have F68 := F54.wr W62
  have F69 := F55.other W62 (Or.inl ne19)
  have F70 := F56.other W62 (Or.inl ne19)
  have O72 := O58.wr W62 g20
  have K73 := K59.wr W62 (Or.inr z21)
  refine own_G.st (T' := T62) 81 [(.ref b16), (.ref b3), (.ref b3)] st62 ?_
  refine own_G.sk 82 [(.ref b16), (.ref b16), (.ref b3), (.ref b3)] (fun _ kq => XS.dup X62.here hx rfl (hb hby d9_81) rfl rfl kq) ?_
  refine own_G.sk 83 [(.int 3), (.ref b16), (.ref b16), (.ref b3), (.ref b3)] (fun _ kq => XS.iconst X62.here hx rfl (hb hby d9_82) kq) ?_
  refine own_G.sk 84 [(.ref a), (.int 3), (.ref b16), (.ref b16), (.ref b3), (.ref b3)] (fun _ kq => XS.aloadN X62.here hx rfl (hb hby d9_83) rfl rfl kq) ?_
  refine own_G.sk 85 [(.int 1), (.ref a), (.int 3), (.ref b16), (.ref b16), (.ref b3), (.ref b3)] (fun _ kq => XS.iloadN X62.here hx rfl (hb hby d9_84) rfl kq) ?_
  refine own_G.sk 86 [(.int q), (.int 1), (.ref a), (.int 3), (.ref b16), (.ref b16), (.ref b3), (.ref b3)] (fun _ kq => XS.iloadN X62.here hx rfl (hb hby d9_85) rfl kq) ?_
  refine own_G.sk 87 [(.int x), (.int q), (.int 1), (.ref a), (.int 3), (.ref b16), (.ref b16), (.ref b3), (.ref b3)] (fun _ kq => XS.iloadN X62.here hx rfl (hb hby d9_86) rfl kq) ?_
  refine own_G.sk 88 [(.int 3), (.int x), (.int q), (.int 1), (.ref a), (.int 3), (.ref b16), (.ref b16), (.ref b3), (.ref b3)] (fun _ kq => XS.iconst X62.here hx rfl (hb hby d9_87) kq) ?_
  obtain ⟨_, _, ⟨T74, L74, k74, n74⟩, -, X74, ⟨Lc74, hQ74, l74, y74, z74⟩, st74⟩ := Jvm.LawKit.callS X62 hx (y := own_y22) hown (mvT hZ (W_ 54 rfl)) (mvT hZ (W_ 55 rfl)) (mvT hZ (W_ 50 rfl)) (mvT hZ (W_ 56 rfl)) (by decide) (backOf (W := 5) (rm_g1 l Z a0 hw [] a q x (3 : Int32) csz fm t (7 : Int32) (97 : Int32) (116 : Int32) h62 n0 O72 S_CS hcs S_IO hio F64 F65 F66 (own_Len.arv F67) (own_At.arv (i := (3 : Int32)) (b := (97 : Int32)) F67 ⟨by decide, by decide⟩ rfl) (by decide) (by decide) (own_At.arv (i := (4 : Int32)) (b := (116 : Int32)) F67 ⟨by decide, by decide⟩ rfl) (by decide) (by decide)) hZ (W_ 56 rfl) (W_ 50 rfl) (by decide) (by decide)) (g := (mkF m 88 #[rv a, iv 1, iv q, iv x, iv 7, iv 6] [(.int 3), (.int x), (.int q), (.int 1), (.ref a), (.int 3), (.ref b16), (.ref b16), (.ref b3), (.ref b3)])) rfl (by rw [hml]; rfl) (argsL := [(.ref a), (.int 1), (.int q), (.int x), (.int 3)]) (rest := [(.int 3), (.ref b16), (.ref b16), (.ref b3), (.ref b3)]) (lenOf pd__28Ljava_2flang_2fString_3bIICI_29C rfl) rfl (by show 2 * 0 + _ ≤ _; exact Nat.le_of_eq rfl) (hb hby d9_88) (fun _ _ => ⟨rfl, e62, (by decide : 2 + 0 ≤ _), (by decide : 10 + 0 ≤ _)⟩)
  dsimp only [Pt.U, Pt.locs, Pt.cells, Pt.slots] at X74 l74 y74 z74 st74 hQ74
  subst l74 y74 z74
  obtain ⟨rfl, Nq74, P75⟩ := hQ74
  have N74 := Fr.app N62 Nq74
  refine own_G.st (T' := T74) 91 [(.int (nar .char (own_g1 (3 : Int32) q (own_chr (97 : Int32)) (own_chr (116 : Int32))))), (.int 3), (.ref b16), (.ref b16), (.ref b3), (.ref b3)] (fun _ kq => st74 _ kq) ?_
  obtain ⟨cl76, Ar76, q176, Sz76, Nz76, Hh76, Gg76⟩ := id F63
  obtain ⟨T76, h76, X76, e76, W76, st76⟩ := stC X74 hx hZ P75 Ar76 (j := (3 : Int32)) (inb_of Sz76 ⟨by decide, by decide⟩) (g := (mkF m 91 #[rv a, iv 1, iv q, iv x, iv 7, iv 6] [(.int (nar .char (own_g1 (3 : Int32) q (own_chr (97 : Int32)) (own_chr (116 : Int32))))), (.int 3), (.ref b16), (.ref b16), (.ref b3), (.ref b3)])) rfl rfl (hb hby d9_91)
  have F77 : Arv Z h76 b16 k16 .char (6 : Int32) [(.int (kB 0 114 101 q)), (.int (kB 1 101 108 q)), (.int (kB 2 108 97 q)), (.int (kB 3 97 116 q)), (.int 0), (.int 0)] (.int 0) := Arv.set Ar76 q176 Sz76 Nz76 Hh76 Gg76 (fits_nar_char _) W76 3 rfl (Nat.le_of_ble_eq_true rfl)
  have N76 := Fr.snoc X76 N74 g20
  have F78 := F64.wr W76
  have F79 := F65.other W76 (Or.inl ne17)
  have F80 := F66.other W76 (Or.inl ne17)
  have F81 := F67.other W76 ne18
  have F82 := F68.wr W76
  have F83 := F69.other W76 (Or.inl ne19)
  have F84 := F70.other W76 (Or.inl ne19)
  have O86 := O72.wr W76 g20
  have K87 := K73.wr W76 (Or.inr z21)
  refine own_G.st (T' := T76) 92 [(.ref b16), (.ref b3), (.ref b3)] st76 ?_
  refine own_G.sk 93 [(.ref b16), (.ref b16), (.ref b3), (.ref b3)] (fun _ kq => XS.dup X76.here hx rfl (hb hby d9_92) rfl rfl kq) ?_
  refine own_G.sk 94 [(.int 4), (.ref b16), (.ref b16), (.ref b3), (.ref b3)] (fun _ kq => XS.iconst X76.here hx rfl (hb hby d9_93) kq) ?_
  refine own_G.sk 95 [(.ref a), (.int 4), (.ref b16), (.ref b16), (.ref b3), (.ref b3)] (fun _ kq => XS.aloadN X76.here hx rfl (hb hby d9_94) rfl rfl kq) ?_
  refine own_G.sk 96 [(.int 1), (.ref a), (.int 4), (.ref b16), (.ref b16), (.ref b3), (.ref b3)] (fun _ kq => XS.iloadN X76.here hx rfl (hb hby d9_95) rfl kq) ?_
  refine own_G.sk 97 [(.int q), (.int 1), (.ref a), (.int 4), (.ref b16), (.ref b16), (.ref b3), (.ref b3)] (fun _ kq => XS.iloadN X76.here hx rfl (hb hby d9_96) rfl kq) ?_
  refine own_G.sk 98 [(.int x), (.int q), (.int 1), (.ref a), (.int 4), (.ref b16), (.ref b16), (.ref b3), (.ref b3)] (fun _ kq => XS.iloadN X76.here hx rfl (hb hby d9_97) rfl kq) ?_
  refine own_G.sk 99 [(.int 4), (.int x), (.int q), (.int 1), (.ref a), (.int 4), (.ref b16), (.ref b16), (.ref b3), (.ref b3)] (fun _ kq => XS.iconst X76.here hx rfl (hb hby d9_98) kq) ?_
  obtain ⟨_, _, ⟨T88, L88, k88, n88⟩, -, X88, ⟨Lc88, hQ88, l88, y88, z88⟩, st88⟩ := Jvm.LawKit.callS X76 hx (y := own_y22) hown (mvT hZ (W_ 54 rfl)) (mvT hZ (W_ 55 rfl)) (mvT hZ (W_ 50 rfl)) (mvT hZ (W_ 56 rfl)) (by decide) (backOf (W := 5) (rm_g1 l Z a0 hw [] a q x (4 : Int32) csz fm t (7 : Int32) (116 : Int32) (101 : Int32) h76 n0 O86 S_CS hcs S_IO hio F78 F79 F80 (own_Len.arv F81) (own_At.arv (i := (4 : Int32)) (b := (116 : Int32)) F81 ⟨by decide, by decide⟩ rfl) (by decide) (by decide) (own_At.arv (i := (5 : Int32)) (b := (101 : Int32)) F81 ⟨by decide, by decide⟩ rfl) (by decide) (by decide)) hZ (W_ 56 rfl) (W_ 50 rfl) (by decide) (by decide)) (g := (mkF m 99 #[rv a, iv 1, iv q, iv x, iv 7, iv 6] [(.int 4), (.int x), (.int q), (.int 1), (.ref a), (.int 4), (.ref b16), (.ref b16), (.ref b3), (.ref b3)])) rfl (by rw [hml]; rfl) (argsL := [(.ref a), (.int 1), (.int q), (.int x), (.int 4)]) (rest := [(.int 4), (.ref b16), (.ref b16), (.ref b3), (.ref b3)]) (lenOf pd__28Ljava_2flang_2fString_3bIICI_29C rfl) rfl (by show 2 * 0 + _ ≤ _; exact Nat.le_of_eq rfl) (hb hby d9_99) (fun _ _ => ⟨rfl, e76, (by decide : 2 + 0 ≤ _), (by decide : 10 + 0 ≤ _)⟩)
  dsimp only [Pt.U, Pt.locs, Pt.cells, Pt.slots] at X88 l88 y88 z88 st88 hQ88
  subst l88 y88 z88
  obtain ⟨rfl, Nq88, P89⟩ := hQ88
  have N88 := Fr.app N76 Nq88
  refine own_G.st (T' := T88) 102 [(.int (nar .char (own_g1 (4 : Int32) q (own_chr (116 : Int32)) (own_chr (101 : Int32))))), (.int 4), (.ref b16), (.ref b16), (.ref b3), (.ref b3)] (fun _ kq => st88 _ kq) ?_
  obtain ⟨cl90, Ar90, q190, Sz90, Nz90, Hh90, Gg90⟩ := id F77
  obtain ⟨T90, h90, X90, e90, W90, st90⟩ := stC X88 hx hZ P89 Ar90 (j := (4 : Int32)) (inb_of Sz90 ⟨by decide, by decide⟩) (g := (mkF m 102 #[rv a, iv 1, iv q, iv x, iv 7, iv 6] [(.int (nar .char (own_g1 (4 : Int32) q (own_chr (116 : Int32)) (own_chr (101 : Int32))))), (.int 4), (.ref b16), (.ref b16), (.ref b3), (.ref b3)])) rfl rfl (hb hby d9_102)
  have F91 : Arv Z h90 b16 k16 .char (6 : Int32) [(.int (kB 0 114 101 q)), (.int (kB 1 101 108 q)), (.int (kB 2 108 97 q)), (.int (kB 3 97 116 q)), (.int (kB 4 116 101 q)), (.int 0)] (.int 0) := Arv.set Ar90 q190 Sz90 Nz90 Hh90 Gg90 (fits_nar_char _) W90 4 rfl (Nat.le_of_ble_eq_true rfl)
  have N90 := Fr.snoc X90 N88 g20
  have F92 := F78.wr W90
  have F93 := F79.other W90 (Or.inl ne17)
  have F94 := F80.other W90 (Or.inl ne17)
  have F95 := F81.other W90 ne18
  have F96 := F82.wr W90
  have F97 := F83.other W90 (Or.inl ne19)
  have F98 := F84.other W90 (Or.inl ne19)
  have O100 := O86.wr W90 g20
  have K101 := K87.wr W90 (Or.inr z21)
  refine own_G.st (T' := T90) 103 [(.ref b16), (.ref b3), (.ref b3)] st90 ?_
  refine own_G.sk 104 [(.ref b16), (.ref b16), (.ref b3), (.ref b3)] (fun _ kq => XS.dup X90.here hx rfl (hb hby d9_103) rfl rfl kq) ?_
  refine own_G.sk 105 [(.int 5), (.ref b16), (.ref b16), (.ref b3), (.ref b3)] (fun _ kq => XS.iconst X90.here hx rfl (hb hby d9_104) kq) ?_
  refine own_G.sk 106 [(.ref a), (.int 5), (.ref b16), (.ref b16), (.ref b3), (.ref b3)] (fun _ kq => XS.aloadN X90.here hx rfl (hb hby d9_105) rfl rfl kq) ?_
  refine own_G.sk 107 [(.int 1), (.ref a), (.int 5), (.ref b16), (.ref b16), (.ref b3), (.ref b3)] (fun _ kq => XS.iloadN X90.here hx rfl (hb hby d9_106) rfl kq) ?_
  refine own_G.sk 108 [(.int q), (.int 1), (.ref a), (.int 5), (.ref b16), (.ref b16), (.ref b3), (.ref b3)] (fun _ kq => XS.iloadN X90.here hx rfl (hb hby d9_107) rfl kq) ?_
  refine own_G.sk 109 [(.int x), (.int q), (.int 1), (.ref a), (.int 5), (.ref b16), (.ref b16), (.ref b3), (.ref b3)] (fun _ kq => XS.iloadN X90.here hx rfl (hb hby d9_108) rfl kq) ?_
  refine own_G.sk 110 [(.int 5), (.int x), (.int q), (.int 1), (.ref a), (.int 5), (.ref b16), (.ref b16), (.ref b3), (.ref b3)] (fun _ kq => XS.iconst X90.here hx rfl (hb hby d9_109) kq) ?_
  obtain ⟨_, _, ⟨T102, L102, k102, n102⟩, -, X102, ⟨Lc102, hQ102, l102, y102, z102⟩, st102⟩ := Jvm.LawKit.callS X90 hx (y := own_y22) hown (mvT hZ (W_ 54 rfl)) (mvT hZ (W_ 55 rfl)) (mvT hZ (W_ 50 rfl)) (mvT hZ (W_ 56 rfl)) (by decide) (backOf (W := 5) (rm_g1 l Z a0 hw [] a q x (5 : Int32) csz fm t (7 : Int32) (101 : Int32) (100 : Int32) h90 n0 O100 S_CS hcs S_IO hio F92 F93 F94 (own_Len.arv F95) (own_At.arv (i := (5 : Int32)) (b := (101 : Int32)) F95 ⟨by decide, by decide⟩ rfl) (by decide) (by decide) (own_At.arv (i := (6 : Int32)) (b := (100 : Int32)) F95 ⟨by decide, by decide⟩ rfl) (by decide) (by decide)) hZ (W_ 56 rfl) (W_ 50 rfl) (by decide) (by decide)) (g := (mkF m 110 #[rv a, iv 1, iv q, iv x, iv 7, iv 6] [(.int 5), (.int x), (.int q), (.int 1), (.ref a), (.int 5), (.ref b16), (.ref b16), (.ref b3), (.ref b3)])) rfl (by rw [hml]; rfl) (argsL := [(.ref a), (.int 1), (.int q), (.int x), (.int 5)]) (rest := [(.int 5), (.ref b16), (.ref b16), (.ref b3), (.ref b3)]) (lenOf pd__28Ljava_2flang_2fString_3bIICI_29C rfl) rfl (by show 2 * 0 + _ ≤ _; exact Nat.le_of_eq rfl) (hb hby d9_110) (fun _ _ => ⟨rfl, e90, (by decide : 2 + 0 ≤ _), (by decide : 10 + 0 ≤ _)⟩)
  dsimp only [Pt.U, Pt.locs, Pt.cells, Pt.slots] at X102 l102 y102 z102 st102 hQ102
  subst l102 y102 z102
  obtain ⟨rfl, Nq102, P103⟩ := hQ102
  have N102 := Fr.app N90 Nq102
  refine own_G.st (T' := T102) 113 [(.int (nar .char (own_g1 (5 : Int32) q (own_chr (101 : Int32)) (own_chr (100 : Int32))))), (.int 5), (.ref b16), (.ref b16), (.ref b3), (.ref b3)] (fun _ kq => st102 _ kq) ?_
  obtain ⟨cl104, Ar104, q1104, Sz104, Nz104, Hh104, Gg104⟩ := id F91
  obtain ⟨T104, h104, X104, e104, W104, st104⟩ := stC X102 hx hZ P103 Ar104 (j := (5 : Int32)) (inb_of Sz104 ⟨by decide, by decide⟩) (g := (mkF m 113 #[rv a, iv 1, iv q, iv x, iv 7, iv 6] [(.int (nar .char (own_g1 (5 : Int32) q (own_chr (101 : Int32)) (own_chr (100 : Int32))))), (.int 5), (.ref b16), (.ref b16), (.ref b3), (.ref b3)])) rfl rfl (hb hby d9_113)
  have F105 : Arv Z h104 b16 k16 .char (6 : Int32) [(.int (kB 0 114 101 q)), (.int (kB 1 101 108 q)), (.int (kB 2 108 97 q)), (.int (kB 3 97 116 q)), (.int (kB 4 116 101 q)), (.int (kB 5 101 100 q))] (.int 0) := Arv.set Ar104 q1104 Sz104 Nz104 Hh104 Gg104 (fits_nar_char _) W104 5 rfl (Nat.le_of_ble_eq_true rfl)
  have N104 := Fr.snoc X104 N102 g20
  have F106 := F92.wr W104
  have F107 := F93.other W104 (Or.inl ne17)
  have F108 := F94.other W104 (Or.inl ne17)
  have F109 := F95.other W104 ne18
  have F110 := F96.wr W104
  have F111 := F97.other W104 (Or.inl ne19)
  have F112 := F98.other W104 (Or.inl ne19)
  have O114 := O100.wr W104 g20
  have K115 := K101.wr W104 (Or.inr z21)
  refine own_G.st (T' := T104) 114 [(.ref b16), (.ref b3), (.ref b3)] st104 ?_
  have hp116 : ∀ c ∈ ([(kB 0 114 101 q), (kB 1 101 108 q), (kB 2 108 97 q), (kB 3 97 116 q), (kB 4 116 101 q), (kB 5 101 100 q)] : List Int32), ¬ c < 0 ∧ ¬ (255 : Int32) < c := by
    intro c hc
    simp only [List.mem_cons, List.not_mem_nil, or_false] at hc
    rcases hc with rfl | rfl | rfl | rfl | rfl | rfl
    · exact own_nn (own_g1b (own_cb ⟨by decide, by decide⟩) (own_cb ⟨by decide, by decide⟩))
    · exact own_nn (own_g1b (own_cb ⟨by decide, by decide⟩) (own_cb ⟨by decide, by decide⟩))
    · exact own_nn (own_g1b (own_cb ⟨by decide, by decide⟩) (own_cb ⟨by decide, by decide⟩))
    · exact own_nn (own_g1b (own_cb ⟨by decide, by decide⟩) (own_cb ⟨by decide, by decide⟩))
    · exact own_nn (own_g1b (own_cb ⟨by decide, by decide⟩) (own_cb ⟨by decide, by decide⟩))
    · exact own_nn (own_g1b (own_cb ⟨by decide, by decide⟩) (own_cb ⟨by decide, by decide⟩))
  obtain ⟨_, _, ⟨T117, L117, k117, n117⟩, -, X117, ⟨Lc117, hQ117, l117, y117, z117⟩, st117⟩ := X104.specialBack hx (y := own_y17) rfl hown (mvT hZ (W_ 57 rfl)) (mvT hZ (W_ 58 rfl)) (mvT hZ (W_ 59 rfl)) (by decide) (StrChars.Road.backV (W := 1) hZ hws (kI := 4) (W_ 2 rfl) (cs := ([(kB 0 114 101 q), (kB 1 101 108 q), (kB 2 108 97 q), (kB 3 97 116 q), (kB 4 116 101 q), (kB 5 101 100 q)] : List Int32)) (bs := (([(kB 0 114 101 q), (kB 1 101 108 q), (kB 2 108 97 q), (kB 3 97 116 q), (kB 4 116 101 q), (kB 5 101 100 q)] : List Int32).map (fun c => c.toInt8.toInt32))) (n := 6) g6 O114.le F110 F111 F112 F105 (Sta.ext O114.2 S_CS) hcs rfl rfl (by decide) (by decide) hp116 rfl (by decide) (by decide)) (g := (mkF m 114 #[rv a, iv 1, iv q, iv x, iv 7, iv 6] [(.ref b16), (.ref b3), (.ref b3)])) rfl (by rw [hml]; rfl) (Steps.refl _) (a := b3) (argsL := [(.ref b16)]) (rest := [(.ref b3)]) (lenOf pd__28_5bC_29V rfl) rfl (by show 2 * 0 + _ ≤ _; exact Nat.le_of_eq rfl) (hb hby d9_114) (fun _ _ => ⟨rfl, e104, (by decide : 2 + 1 ≤ _), (by decide : 10 + 6 ≤ _)⟩)
  dsimp only [Pt.U, Pt.locs, Pt.cells, Pt.slots] at X117 l117 y117 z117 st117 hQ117
  subst l117 y117 z117
  obtain ⟨rfl, P118, P119, P120, P121, b122, kx123, P124, P125, P126, P127, P128⟩ := hQ117
  have N117 := Fr.app N104 P118
  have ne129 : a ≠ b122 := Nat.ne_of_lt (Nat.lt_of_lt_of_le F106.lt P125)
  have ne130 : t ≠ b122 := Nat.ne_of_lt (Nat.lt_of_lt_of_le F109.lt P125)
  have ne131 : b3 ≠ b122 := Nat.ne_of_lt (Nat.lt_of_lt_of_le F110.lt P125)
  have ne132 : b16 ≠ b122 := Nat.ne_of_lt (Nat.lt_of_lt_of_le F105.lt P125)
  have g133 : n0 ≤ b122 := Nat.le_trans O114.le P125
  have z134 : h0.size ≤ b122 := Nat.le_trans K115.1 P125
  have F135 := F106.keep P119
  have F136 := F107.keep P119 (ninS ne4 nin0)
  have F137 := F108.keep P119 (ninS ne4 nin0)
  have F138 := F109.keep P119 (ninS ne5 nin0)
  have F139 := F110.keep P119
  have F140 := F105.keep P119 (ninS (Ne.symm ne19) nin0)
  have O141 := O114.keep P119 (allS g6 all0)
  have K142 := K115.trans P119 (allS (Or.inr z7) all0)
  refine own_G.st (T' := T117) 117 [(.ref b3)] (fun _ kq => st117.trans kq) ?_
  exact own_ret X117 rfl (v := some (.ref b3)) (fun h => by rw [Bd.returns] at h; cases h) Bd.notSynchronized ⟨b3, b122, kx123, rfl, N117, K142, z7, z134, P120, P121, P127, hp116, P128⟩ (by decide) (by decide) (fun fs hr => own_retR X117 hx Bd.returns rfl rfl (hb hby d9_117) hr)
theorem ef_mkr2 (m : MethodId) (a : Addr) (q : Int32) (x : Int32) : entryFrame m #[(.ref a), (.int 2), (.int q), (.int x)] 6 = mkF m 0 #[rv a, iv 2, iv q, iv x, .unset, .unset] [] := by
  first | (simp [entryFrame, mkF, argsToLocals, Value.category]; done) | rfl
def Q_mkr2 (Z : State) (a : Addr) (q : Int32) (x : Int32) (csz : Int32) (fm : Value) (t : Addr) (kb : ClassId) (h0 : Heap) (n0 : Nat) (v : Option Value) (h : Heap) (L : List Loc) : Prop := ∃ (r : Addr), ∃ (t2 : Addr), ∃ (kb2 : ClassId), v = some (.ref r) ∧ Fr n0 L ∧ Keep h0 h [] ∧ h0.size ≤ r ∧ h0.size ≤ t2 ∧ Exa Z h r "java/lang/String" ∧ Fld Z h r "java/lang/String" "coder" "B" (.int 0) ∧ Fld Z h r "java/lang/String" "value" "[B" (.ref t2) ∧ (∀ c ∈ ([(kC 0 114 0 q x), (kC 1 101 114 q x), (kC 2 108 101 q x), (kC 3 97 108 q x), (kC 4 116 97 q x), (kC 5 101 116 q x), (kC 6 100 101 q x), (kC 7 0 100 q x)] : List Int32), ¬ c < 0 ∧ ¬ (255 : Int32) < c) ∧ Arv Z h t2 kb2 .byte (8 : Int32) ((([(kC 0 114 0 q x), (kC 1 101 114 q x), (kC 2 108 101 q x), (kC 3 97 108 q x), (kC 4 116 97 q x), (kC 5 101 116 q x), (kC 6 100 101 q x), (kC 7 0 100 q x)] : List Int32).map (fun c => c.toInt8.toInt32)).map Value.int) (.int 0)
set_option maxRecDepth 65536 in
set_option maxHeartbeats 40000000 in
theorem rm_mkr2 (l : Launch) (Z : State) (a0 : Array Value) (hw : ∀ d ∈ tables_1, d.before a0 Z = true) (ws : List Jvm.Cond) (a : Addr) (q : Int32) (x : Int32) (csz : Int32) (fm : Value) (t : Addr) (kb : ClassId) (h0 : Heap) (n0 : Nat) (O0 : Old Z n0 h0) (S_CS : Sta Z Z.heap "java/lang/String" "COMPACT_STRINGS" "Z" (.int csz)) (hcs : ¬ csz = (0 : Int32)) (S_IO : Sta Z Z.heap "jdk/internal/util/Preconditions" "SIOOBE_FORMATTER" "Ljava/util/function/BiFunction;" fm) (hio : fm.isRef = true) (Ea : Exa Z h0 a "java/lang/String") (Fv : Fld Z h0 a "java/lang/String" "value" "[B" (.ref t)) (Fc : Fld Z h0 a "java/lang/String" "coder" "B" (.int 0)) (AR : Arv Z h0 t kb .byte (7 : Int32) [(.int 114), (.int 101), (.int 108), (.int 97), (.int 116), (.int 101), (.int 100)] (.int 0)) (hxr : ¬ x < (0 : Int32) ∧ ¬ (255 : Int32) < x) (hq1 : ¬ q < (0 : Int32)) (hq2 : ¬ (7 : Int32) < q) :
    MetFree l own_y23 (head1 (Jvm.Cond.code own_y23 method_3_code 6 (some (.object "java/lang/String")) :: ws) ({ frames := 5, cells := 3, slots := 20, locals := 74 } : Room)) (fun aq_ Uq_ => aq_ = #[(.ref a), (.int 2), (.int q), (.int x)] ∧ Z.Warmed39 Uq_.vm ∧ Uq_.heap = h0) (fun _ _ _ _ _ => True) (fun _ Uq_ oq_ Ur_ => ∃ vq_ Lq_, oq_ = .returned vq_ ∧ Q_mkr2 Z a q x csz fm t kb h0 n0 vq_ Ur_.heap Lq_ ∧ FrameEnd Uq_ oq_ Ur_ Lq_ ({ frames := 5, cells := 3, slots := 20, locals := 74 } : Room).cells ({ frames := 5, cells := 3, slots := 20, locals := 74 } : Room).slots) := by
  refine MetFree.of_bodySF (plainFor_of_name pn_com_2fexample_2ftermflow_2ftermflow_2ffeed_2fLinkIsArtefactPinLaw) hisR ?_
  intro p e s m args below meth c s₁ Bd hml0 hP hK
  obtain ⟨rfl, hZ, hh⟩ := hP
  have W_ : ∀ {d : Jvm.Cond} (i : Nat), tables_1[i]? = some d → d.before a0 Z = true := fun i h => hw _ (List.mem_of_getElem? h)
  have hx := Bd.exec
  have hby := Bd.bytes
  have hml : c.maxLocals = 6 := hml0
  have hown : s.vm.findClass "com/example/termflow/termflow/feed/LinkIsArtefactPinLaw" = some m.cls := findClass_of_methodNamed Bd.named
  have hnm := (name_of_methodNamed Bd.named Bd.method).1
  have X0 : Stand p l e ({ frames := 5, cells := 3, slots := 20, locals := 74 } : Room) s m #[(.ref a), (.int 2), (.int q), (.int x)] below meth c s₁ [] 0 0 := Stand.of_body Bd
  have e0 : s₁.heap = h0 := by rw [← hh, Bd.state]; rfl
  have N0 := Fr.nil n0
  have K0 := Keep.refl h0 []
  refine own_G.start (Q := Q_mkr2 Z a q x csz fm t kb h0 n0) (ef_mkr2 m a q x) ?_
  have hws : ∀ d ∈ StrChars.Road.words, d.before a0 Z = true := fun d hd => hw d (own_hws d hd)
  refine own_G.sk 1 [(.ref a)] (fun _ kq => XS.aloadN X0.here hx rfl (hb hby d9_0) rfl rfl kq) ?_
  obtain ⟨cq1, kq1, q1a, q1b, q1c⟩ := isOf hZ e0 Ea
  obtain ⟨_, _, ⟨T1, L1, k1, n1⟩, -, X1, ⟨Lc1, hQ1, l1, y1, z1⟩, st1⟩ := X0.virtualBack hx (y := own_y7) (z := own_y7) hown (mvT hZ (W_ 8 rfl)) (mvT hZ (W_ 9 rfl)) (notFace_of_selects (args := #[]) (mvT hZ (W_ 11 rfl))) (mvT hZ (W_ 11 rfl)) (mvT hZ (W_ 10 rfl)) (by decide) (backOf (W := 0) (rm_strlen l Z a0 hw [] a csz t (7 : Int32) h0 n0 O0 S_CS hcs Fc Fv (own_Len.arv AR) Ea) hZ (W_ 12 rfl) (W_ 1 rfl) (by decide) (by decide)) q1a q1c (g := (mkF m 1 #[rv a, iv 2, iv q, iv x, .unset, .unset] [(.ref a)])) rfl (by rw [hml]; rfl) (Steps.refl _) (argsL := []) (rest := []) (lenOf pd__28_29I rfl) rfl (by show 2 * 0 + _ ≤ _; exact Nat.le_of_eq rfl) (hb hby d9_1) (fun _ _ => ⟨rfl, e0, (by decide : 0 + 0 ≤ _), (by decide : 0 + 0 ≤ _)⟩)
  dsimp only [Pt.U, Pt.locs, Pt.cells, Pt.slots] at X1 l1 y1 z1 st1 hQ1
  subst l1 y1 z1
  obtain ⟨rfl, Nq1, P2⟩ := hQ1
  have N1 := Fr.app N0 Nq1
  refine own_G.st (T' := T1) 4 [(.int 7)] (fun _ kq => st1.trans kq) ?_
  refine own_G.si 6 [] (fun _ kq => XS.istore X1.here hx rfl (hb hby d9_4) rfl (l' := #[rv a, iv 2, iv q, iv x, iv 7, .unset]) rfl kq) ?_
  refine own_G.sk 7 [(.int 2)] (fun _ kq => XS.iloadN X1.here hx rfl (hb hby d9_6) rfl kq) ?_
  have hc7 : ¬ ((2 : Int32) = (0 : Int32)) := (by decide)
  refine own_G.sk 15 [] (fun _ kq => XS.ifYes X1.here hx rfl (pc0 := 7) (pc' := 15) rfl (hb hby d9_7) rfl ((if0 _ _).trans (feq hc7).2) (by decide) (by decide) kq) ?_
  refine own_G.sk 16 [(.int 2)] (fun _ kq => XS.iloadN X1.here hx rfl (hb hby d9_15) rfl kq) ?_
  refine own_G.sk 17 [(.int 1), (.int 2)] (fun _ kq => XS.iconst X1.here hx rfl (hb hby d9_16) kq) ?_
  have hc17 : ¬ ((2 : Int32) = (1 : Int32)) := (by decide)
  refine own_G.sk 27 [] (fun _ kq => XS.icmpYes X1.here hx rfl (pc0 := 17) (pc' := 27) rfl (hb hby d9_17) rfl (feq hc17).2 (by decide) (by decide) kq) ?_
  refine own_G.sk 29 [(.int 7)] (fun _ kq => XS.iload X1.here hx rfl (hb hby d9_27) rfl kq) ?_
  refine own_G.sk 30 [(.int 1), (.int 7)] (fun _ kq => XS.iconst X1.here hx rfl (hb hby d9_29) kq) ?_
  refine own_G.sk 31 [(.int ((7 : Int32) + (1 : Int32)))] (fun _ kq => XS.iadd X1.here hx rfl (hb hby d9_30) rfl kq) ?_
  refine own_G.si 33 [] (fun _ kq => XS.istore X1.here hx rfl (hb hby d9_31) rfl (l' := #[rv a, iv 2, iv q, iv x, iv 7, .val (.int ((7 : Int32) + (1 : Int32)))]) rfl kq) ?_
  have hl5 : ((7 : Int32) + (1 : Int32)) = (8 : Int32) := by decide
  refine own_G.cast (g' := (mkF m 33 #[rv a, iv 2, iv q, iv x, iv 7, iv 8] [])) (by rw [hl5]) ?_
  refine own_G.sk 35 [(.int 8)] (fun _ kq => XS.iload X1.here hx rfl (hb hby d9_33) rfl kq) ?_
  refine own_G.sk 37 [(.int 6), (.int 8)] (fun _ kq => XS.bipush X1.here hx rfl (hb hby d9_35) kq) ?_
  have hc37 : ¬ ((8 : Int32) = (6 : Int32)) := (by decide)
  refine own_G.sk 118 [] (fun _ kq => XS.icmpYes X1.here hx rfl (pc0 := 37) (pc' := 118) rfl (hb hby d9_37) rfl (feq hc37).2 (by decide) (by decide) kq) ?_
  refine own_G.sk 120 [(.int 8)] (fun _ kq => XS.iload X1.here hx rfl (hb hby d9_118) rfl kq) ?_
  refine own_G.sk 122 [(.int 7), (.int 8)] (fun _ kq => XS.bipush X1.here hx rfl (hb hby d9_120) kq) ?_
  have hc122 : ¬ ((8 : Int32) = (7 : Int32)) := (by decide)
  refine own_G.sk 216 [] (fun _ kq => XS.icmpYes X1.here hx rfl (pc0 := 122) (pc' := 216) rfl (hb hby d9_122) rfl (feq hc122).2 (by decide) (by decide) kq) ?_
  refine own_G.sk 218 [(.int 8)] (fun _ kq => XS.iload X1.here hx rfl (hb hby d9_216) rfl kq) ?_
  refine own_G.sk 220 [(.int 8), (.int 8)] (fun _ kq => XS.bipush X1.here hx rfl (hb hby d9_218) kq) ?_
  have hc220 : (8 : Int32) = (8 : Int32) := (by decide)
  refine own_G.sk 223 [] (fun _ kq => XS.icmpNo X1.here hx rfl (hb hby d9_220) rfl (teq hc220).2 kq) ?_
  obtain ⟨T3, h3, X3, e3, E3, A3, D3, -, st3⟩ := newO X1 hx hZ hown (W_ 52 rfl) (W_ 2 rfl) (W_ 1 rfl) P2 (g := (mkF m 223 #[rv a, iv 2, iv q, iv x, iv 7, iv 8] [])) rfl (hb hby d9_223) (by decide) (by decide)
  obtain ⟨b3, g3⟩ : ∃ z, z = h0.size := ⟨_, rfl⟩
  rw [← g3] at A3 D3 st3
  have ne4 : a ≠ b3 := Nat.ne_of_lt (Nat.lt_of_lt_of_le Ea.lt (Nat.le_of_eq g3.symm))
  have ne5 : t ≠ b3 := Nat.ne_of_lt (Nat.lt_of_lt_of_le AR.lt (Nat.le_of_eq g3.symm))
  have g6 : n0 ≤ b3 := Nat.le_trans O0.le (Nat.le_of_eq g3.symm)
  have z7 : h0.size ≤ b3 := Nat.le_trans K0.1 (Nat.le_of_eq g3.symm)
  have F8 := Ea.ext E3
  have F9 := Fv.ext E3
  have F10 := Fc.ext E3
  have F11 := AR.ext E3
  have O12 := O0.ext E3
  have K13 := K0.ext E3
  have F14 : Fld Z h3 b3 "java/lang/String" "value" "[B" .null := D3 (Or.inr (W_ 4 rfl)) (ty := (.array .byte)) (by decide)
  have F15 : Fld Z h3 b3 "java/lang/String" "coder" "B" (.int 0) := D3 (Or.inr (W_ 5 rfl)) (ty := .byte) (by decide)
  refine own_G.st (T' := T3) 226 [(.ref b3)] st3 ?_
  refine own_G.sk 227 [(.ref b3), (.ref b3)] (fun _ kq => XS.dup X3.here hx rfl (hb hby d9_226) rfl rfl kq) ?_
  refine own_G.sk 229 [(.int 8), (.ref b3), (.ref b3)] (fun _ kq => XS.bipush X3.here hx rfl (hb hby d9_227) kq) ?_
  obtain ⟨T16, h16, k16, X16, e16, E16, A16, st16⟩ := newP X3 hx hZ (W_ 53 rfl) e3 (g := (mkF m 229 #[rv a, iv 2, iv q, iv x, iv 7, iv 8] [(.int 8), (.ref b3), (.ref b3)])) rfl (hb hby d9_229) rfl (by decide) (cap := 8) (by decide) (by decide) (by decide) (by decide)
  obtain ⟨b16, g16⟩ : ∃ z, z = h3.size := ⟨_, rfl⟩
  rw [← g16] at A16 st16
  have ne17 : a ≠ b16 := Nat.ne_of_lt (Nat.lt_of_lt_of_le F8.lt (Nat.le_of_eq g16.symm))
  have ne18 : t ≠ b16 := Nat.ne_of_lt (Nat.lt_of_lt_of_le F11.lt (Nat.le_of_eq g16.symm))
  have ne19 : b3 ≠ b16 := Nat.ne_of_lt (Nat.lt_of_lt_of_le A3.lt (Nat.le_of_eq g16.symm))
  have g20 : n0 ≤ b16 := Nat.le_trans O12.le (Nat.le_of_eq g16.symm)
  have z21 : h0.size ≤ b16 := Nat.le_trans K13.1 (Nat.le_of_eq g16.symm)
  have F22 := F8.ext E16
  have F23 := F9.ext E16
  have F24 := F10.ext E16
  have F25 := F11.ext E16
  have F26 := A3.ext E16
  have F27 := F14.ext E16
  have F28 := F15.ext E16
  have O29 := O12.ext E16
  have K30 := K13.ext E16
  have F31 : Arv Z h16 b16 k16 .char (8 : Int32) [(.int 0), (.int 0), (.int 0), (.int 0), (.int 0), (.int 0), (.int 0), (.int 0)] (.int 0) := (Arv.new A16 (by decide)).pad (pad_rep [] (.int 0) 8)
  refine own_G.st (T' := T16) 231 [(.ref b16), (.ref b3), (.ref b3)] st16 ?_
  refine own_G.sk 232 [(.ref b16), (.ref b16), (.ref b3), (.ref b3)] (fun _ kq => XS.dup X16.here hx rfl (hb hby d9_231) rfl rfl kq) ?_
  refine own_G.sk 233 [(.int 0), (.ref b16), (.ref b16), (.ref b3), (.ref b3)] (fun _ kq => XS.iconst X16.here hx rfl (hb hby d9_232) kq) ?_
  refine own_G.sk 234 [(.ref a), (.int 0), (.ref b16), (.ref b16), (.ref b3), (.ref b3)] (fun _ kq => XS.aloadN X16.here hx rfl (hb hby d9_233) rfl rfl kq) ?_
  refine own_G.sk 235 [(.int 2), (.ref a), (.int 0), (.ref b16), (.ref b16), (.ref b3), (.ref b3)] (fun _ kq => XS.iloadN X16.here hx rfl (hb hby d9_234) rfl kq) ?_
  refine own_G.sk 236 [(.int q), (.int 2), (.ref a), (.int 0), (.ref b16), (.ref b16), (.ref b3), (.ref b3)] (fun _ kq => XS.iloadN X16.here hx rfl (hb hby d9_235) rfl kq) ?_
  refine own_G.sk 237 [(.int x), (.int q), (.int 2), (.ref a), (.int 0), (.ref b16), (.ref b16), (.ref b3), (.ref b3)] (fun _ kq => XS.iloadN X16.here hx rfl (hb hby d9_236) rfl kq) ?_
  refine own_G.sk 238 [(.int 0), (.int x), (.int q), (.int 2), (.ref a), (.int 0), (.ref b16), (.ref b16), (.ref b3), (.ref b3)] (fun _ kq => XS.iconst X16.here hx rfl (hb hby d9_237) kq) ?_
  obtain ⟨_, _, ⟨T32, L32, k32, n32⟩, -, X32, ⟨Lc32, hQ32, l32, y32, z32⟩, st32⟩ := Jvm.LawKit.callS X16 hx (y := own_y22) hown (mvT hZ (W_ 54 rfl)) (mvT hZ (W_ 55 rfl)) (mvT hZ (W_ 50 rfl)) (mvT hZ (W_ 56 rfl)) (by decide) (backOf (W := 5) (rm_g2 l Z a0 hw [] a q x (0 : Int32) csz fm t (7 : Int32) (114 : Int32) (0 : Int32) h16 n0 O29 S_CS hcs S_IO hio F22 F23 F24 (own_Len.arv F25) (fun _ => ⟨(own_At.arv (i := (0 : Int32)) (b := (114 : Int32)) F25 ⟨by decide, by decide⟩ rfl), by decide, by decide⟩) (fun h1_ h2_ => absurd (own_q0 h1_ h2_) hq1)) hZ (W_ 56 rfl) (W_ 50 rfl) (by decide) (by decide)) (g := (mkF m 238 #[rv a, iv 2, iv q, iv x, iv 7, iv 8] [(.int 0), (.int x), (.int q), (.int 2), (.ref a), (.int 0), (.ref b16), (.ref b16), (.ref b3), (.ref b3)])) rfl (by rw [hml]; rfl) (argsL := [(.ref a), (.int 2), (.int q), (.int x), (.int 0)]) (rest := [(.int 0), (.ref b16), (.ref b16), (.ref b3), (.ref b3)]) (lenOf pd__28Ljava_2flang_2fString_3bIICI_29C rfl) rfl (by show 2 * 0 + _ ≤ _; exact Nat.le_of_eq rfl) (hb hby d9_238) (fun _ _ => ⟨rfl, e16, (by decide : 2 + 0 ≤ _), (by decide : 12 + 0 ≤ _)⟩)
  dsimp only [Pt.U, Pt.locs, Pt.cells, Pt.slots] at X32 l32 y32 z32 st32 hQ32
  subst l32 y32 z32
  obtain ⟨rfl, Nq32, P33⟩ := hQ32
  have N32 := Fr.app N1 Nq32
  refine own_G.st (T' := T32) 241 [(.int (nar .char (own_g2 (0 : Int32) q x (own_chr (114 : Int32)) (own_chr (0 : Int32))))), (.int 0), (.ref b16), (.ref b16), (.ref b3), (.ref b3)] (fun _ kq => st32 _ kq) ?_
  obtain ⟨cl34, Ar34, q134, Sz34, Nz34, Hh34, Gg34⟩ := id F31
  obtain ⟨T34, h34, X34, e34, W34, st34⟩ := stC X32 hx hZ P33 Ar34 (j := (0 : Int32)) (inb_of Sz34 ⟨by decide, by decide⟩) (g := (mkF m 241 #[rv a, iv 2, iv q, iv x, iv 7, iv 8] [(.int (nar .char (own_g2 (0 : Int32) q x (own_chr (114 : Int32)) (own_chr (0 : Int32))))), (.int 0), (.ref b16), (.ref b16), (.ref b3), (.ref b3)])) rfl rfl (hb hby d9_241)
  have F35 : Arv Z h34 b16 k16 .char (8 : Int32) [(.int (kC 0 114 0 q x)), (.int 0), (.int 0), (.int 0), (.int 0), (.int 0), (.int 0), (.int 0)] (.int 0) := Arv.set Ar34 q134 Sz34 Nz34 Hh34 Gg34 (fits_nar_char _) W34 0 rfl (Nat.le_of_ble_eq_true rfl)
  have N34 := Fr.snoc X34 N32 g20
  have F36 := F22.wr W34
  have F37 := F23.other W34 (Or.inl ne17)
  have F38 := F24.other W34 (Or.inl ne17)
  have F39 := F25.other W34 ne18
  have F40 := F26.wr W34
  have F41 := F27.other W34 (Or.inl ne19)
  have F42 := F28.other W34 (Or.inl ne19)
  have O44 := O29.wr W34 g20
  have K45 := K30.wr W34 (Or.inr z21)
  refine own_G.st (T' := T34) 242 [(.ref b16), (.ref b3), (.ref b3)] st34 ?_
  refine own_G.sk 243 [(.ref b16), (.ref b16), (.ref b3), (.ref b3)] (fun _ kq => XS.dup X34.here hx rfl (hb hby d9_242) rfl rfl kq) ?_
  refine own_G.sk 244 [(.int 1), (.ref b16), (.ref b16), (.ref b3), (.ref b3)] (fun _ kq => XS.iconst X34.here hx rfl (hb hby d9_243) kq) ?_
  refine own_G.sk 245 [(.ref a), (.int 1), (.ref b16), (.ref b16), (.ref b3), (.ref b3)] (fun _ kq => XS.aloadN X34.here hx rfl (hb hby d9_244) rfl rfl kq) ?_
  refine own_G.sk 246 [(.int 2), (.ref a), (.int 1), (.ref b16), (.ref b16), (.ref b3), (.ref b3)] (fun _ kq => XS.iloadN X34.here hx rfl (hb hby d9_245) rfl kq) ?_
  refine own_G.sk 247 [(.int q), (.int 2), (.ref a), (.int 1), (.ref b16), (.ref b16), (.ref b3), (.ref b3)] (fun _ kq => XS.iloadN X34.here hx rfl (hb hby d9_246) rfl kq) ?_
  refine own_G.sk 248 [(.int x), (.int q), (.int 2), (.ref a), (.int 1), (.ref b16), (.ref b16), (.ref b3), (.ref b3)] (fun _ kq => XS.iloadN X34.here hx rfl (hb hby d9_247) rfl kq) ?_
  refine own_G.sk 249 [(.int 1), (.int x), (.int q), (.int 2), (.ref a), (.int 1), (.ref b16), (.ref b16), (.ref b3), (.ref b3)] (fun _ kq => XS.iconst X34.here hx rfl (hb hby d9_248) kq) ?_
  obtain ⟨_, _, ⟨T46, L46, k46, n46⟩, -, X46, ⟨Lc46, hQ46, l46, y46, z46⟩, st46⟩ := Jvm.LawKit.callS X34 hx (y := own_y22) hown (mvT hZ (W_ 54 rfl)) (mvT hZ (W_ 55 rfl)) (mvT hZ (W_ 50 rfl)) (mvT hZ (W_ 56 rfl)) (by decide) (backOf (W := 5) (rm_g2 l Z a0 hw [] a q x (1 : Int32) csz fm t (7 : Int32) (101 : Int32) (114 : Int32) h34 n0 O44 S_CS hcs S_IO hio F36 F37 F38 (own_Len.arv F39) (fun _ => ⟨(own_At.arv (i := (1 : Int32)) (b := (101 : Int32)) F39 ⟨by decide, by decide⟩ rfl), by decide, by decide⟩) (fun _ _ => ⟨(own_At.arv (i := (0 : Int32)) (b := (114 : Int32)) F39 ⟨by decide, by decide⟩ rfl), by decide, by decide⟩)) hZ (W_ 56 rfl) (W_ 50 rfl) (by decide) (by decide)) (g := (mkF m 249 #[rv a, iv 2, iv q, iv x, iv 7, iv 8] [(.int 1), (.int x), (.int q), (.int 2), (.ref a), (.int 1), (.ref b16), (.ref b16), (.ref b3), (.ref b3)])) rfl (by rw [hml]; rfl) (argsL := [(.ref a), (.int 2), (.int q), (.int x), (.int 1)]) (rest := [(.int 1), (.ref b16), (.ref b16), (.ref b3), (.ref b3)]) (lenOf pd__28Ljava_2flang_2fString_3bIICI_29C rfl) rfl (by show 2 * 0 + _ ≤ _; exact Nat.le_of_eq rfl) (hb hby d9_249) (fun _ _ => ⟨rfl, e34, (by decide : 2 + 0 ≤ _), (by decide : 12 + 0 ≤ _)⟩)
  dsimp only [Pt.U, Pt.locs, Pt.cells, Pt.slots] at X46 l46 y46 z46 st46 hQ46
  subst l46 y46 z46
  obtain ⟨rfl, Nq46, P47⟩ := hQ46
  have N46 := Fr.app N34 Nq46
  refine own_G.st (T' := T46) 252 [(.int (nar .char (own_g2 (1 : Int32) q x (own_chr (101 : Int32)) (own_chr (114 : Int32))))), (.int 1), (.ref b16), (.ref b16), (.ref b3), (.ref b3)] (fun _ kq => st46 _ kq) ?_
  obtain ⟨cl48, Ar48, q148, Sz48, Nz48, Hh48, Gg48⟩ := id F35
  obtain ⟨T48, h48, X48, e48, W48, st48⟩ := stC X46 hx hZ P47 Ar48 (j := (1 : Int32)) (inb_of Sz48 ⟨by decide, by decide⟩) (g := (mkF m 252 #[rv a, iv 2, iv q, iv x, iv 7, iv 8] [(.int (nar .char (own_g2 (1 : Int32) q x (own_chr (101 : Int32)) (own_chr (114 : Int32))))), (.int 1), (.ref b16), (.ref b16), (.ref b3), (.ref b3)])) rfl rfl (hb hby d9_252)
  have F49 : Arv Z h48 b16 k16 .char (8 : Int32) [(.int (kC 0 114 0 q x)), (.int (kC 1 101 114 q x)), (.int 0), (.int 0), (.int 0), (.int 0), (.int 0), (.int 0)] (.int 0) := Arv.set Ar48 q148 Sz48 Nz48 Hh48 Gg48 (fits_nar_char _) W48 1 rfl (Nat.le_of_ble_eq_true rfl)
  have N48 := Fr.snoc X48 N46 g20
  have F50 := F36.wr W48
  have F51 := F37.other W48 (Or.inl ne17)
  have F52 := F38.other W48 (Or.inl ne17)
  have F53 := F39.other W48 ne18
  have F54 := F40.wr W48
  have F55 := F41.other W48 (Or.inl ne19)
  have F56 := F42.other W48 (Or.inl ne19)
  have O58 := O44.wr W48 g20
  have K59 := K45.wr W48 (Or.inr z21)
  refine own_G.st (T' := T48) 253 [(.ref b16), (.ref b3), (.ref b3)] st48 ?_
  refine own_G.sk 254 [(.ref b16), (.ref b16), (.ref b3), (.ref b3)] (fun _ kq => XS.dup X48.here hx rfl (hb hby d9_253) rfl rfl kq) ?_
  refine own_G.sk 255 [(.int 2), (.ref b16), (.ref b16), (.ref b3), (.ref b3)] (fun _ kq => XS.iconst X48.here hx rfl (hb hby d9_254) kq) ?_
  refine own_G.sk 256 [(.ref a), (.int 2), (.ref b16), (.ref b16), (.ref b3), (.ref b3)] (fun _ kq => XS.aloadN X48.here hx rfl (hb hby d9_255) rfl rfl kq) ?_
  refine own_G.sk 257 [(.int 2), (.ref a), (.int 2), (.ref b16), (.ref b16), (.ref b3), (.ref b3)] (fun _ kq => XS.iloadN X48.here hx rfl (hb hby d9_256) rfl kq) ?_
  refine own_G.sk 258 [(.int q), (.int 2), (.ref a), (.int 2), (.ref b16), (.ref b16), (.ref b3), (.ref b3)] (fun _ kq => XS.iloadN X48.here hx rfl (hb hby d9_257) rfl kq) ?_
  refine own_G.sk 259 [(.int x), (.int q), (.int 2), (.ref a), (.int 2), (.ref b16), (.ref b16), (.ref b3), (.ref b3)] (fun _ kq => XS.iloadN X48.here hx rfl (hb hby d9_258) rfl kq) ?_
  refine own_G.sk 260 [(.int 2), (.int x), (.int q), (.int 2), (.ref a), (.int 2), (.ref b16), (.ref b16), (.ref b3), (.ref b3)] (fun _ kq => XS.iconst X48.here hx rfl (hb hby d9_259) kq) ?_
  obtain ⟨_, _, ⟨T60, L60, k60, n60⟩, -, X60, ⟨Lc60, hQ60, l60, y60, z60⟩, st60⟩ := Jvm.LawKit.callS X48 hx (y := own_y22) hown (mvT hZ (W_ 54 rfl)) (mvT hZ (W_ 55 rfl)) (mvT hZ (W_ 50 rfl)) (mvT hZ (W_ 56 rfl)) (by decide) (backOf (W := 5) (rm_g2 l Z a0 hw [] a q x (2 : Int32) csz fm t (7 : Int32) (108 : Int32) (101 : Int32) h48 n0 O58 S_CS hcs S_IO hio F50 F51 F52 (own_Len.arv F53) (fun _ => ⟨(own_At.arv (i := (2 : Int32)) (b := (108 : Int32)) F53 ⟨by decide, by decide⟩ rfl), by decide, by decide⟩) (fun _ _ => ⟨(own_At.arv (i := (1 : Int32)) (b := (101 : Int32)) F53 ⟨by decide, by decide⟩ rfl), by decide, by decide⟩)) hZ (W_ 56 rfl) (W_ 50 rfl) (by decide) (by decide)) (g := (mkF m 260 #[rv a, iv 2, iv q, iv x, iv 7, iv 8] [(.int 2), (.int x), (.int q), (.int 2), (.ref a), (.int 2), (.ref b16), (.ref b16), (.ref b3), (.ref b3)])) rfl (by rw [hml]; rfl) (argsL := [(.ref a), (.int 2), (.int q), (.int x), (.int 2)]) (rest := [(.int 2), (.ref b16), (.ref b16), (.ref b3), (.ref b3)]) (lenOf pd__28Ljava_2flang_2fString_3bIICI_29C rfl) rfl (by show 2 * 0 + _ ≤ _; exact Nat.le_of_eq rfl) (hb hby d9_260) (fun _ _ => ⟨rfl, e48, (by decide : 2 + 0 ≤ _), (by decide : 12 + 0 ≤ _)⟩)
  dsimp only [Pt.U, Pt.locs, Pt.cells, Pt.slots] at X60 l60 y60 z60 st60 hQ60
  subst l60 y60 z60
  obtain ⟨rfl, Nq60, P61⟩ := hQ60
  have N60 := Fr.app N48 Nq60
  refine own_G.st (T' := T60) 263 [(.int (nar .char (own_g2 (2 : Int32) q x (own_chr (108 : Int32)) (own_chr (101 : Int32))))), (.int 2), (.ref b16), (.ref b16), (.ref b3), (.ref b3)] (fun _ kq => st60 _ kq) ?_
  obtain ⟨cl62, Ar62, q162, Sz62, Nz62, Hh62, Gg62⟩ := id F49
  obtain ⟨T62, h62, X62, e62, W62, st62⟩ := stC X60 hx hZ P61 Ar62 (j := (2 : Int32)) (inb_of Sz62 ⟨by decide, by decide⟩) (g := (mkF m 263 #[rv a, iv 2, iv q, iv x, iv 7, iv 8] [(.int (nar .char (own_g2 (2 : Int32) q x (own_chr (108 : Int32)) (own_chr (101 : Int32))))), (.int 2), (.ref b16), (.ref b16), (.ref b3), (.ref b3)])) rfl rfl (hb hby d9_263)
  have F63 : Arv Z h62 b16 k16 .char (8 : Int32) [(.int (kC 0 114 0 q x)), (.int (kC 1 101 114 q x)), (.int (kC 2 108 101 q x)), (.int 0), (.int 0), (.int 0), (.int 0), (.int 0)] (.int 0) := Arv.set Ar62 q162 Sz62 Nz62 Hh62 Gg62 (fits_nar_char _) W62 2 rfl (Nat.le_of_ble_eq_true rfl)
  have N62 := Fr.snoc X62 N60 g20
  have F64 := F50.wr W62
  have F65 := F51.other W62 (Or.inl ne17)
  have F66 := F52.other W62 (Or.inl ne17)
  have F67 := F53.other W62 ne18
  have F68 := F54.wr W62
  have F69 := F55.other W62 (Or.inl ne19)
  have F70 := F56.other W62 (Or.inl ne19)
  have O72 := O58.wr W62 g20
  have K73 := K59.wr W62 (Or.inr z21)
  refine own_G.st (T' := T62) 264 [(.ref b16), (.ref b3), (.ref b3)] st62 ?_
  refine own_G.sk 265 [(.ref b16), (.ref b16), (.ref b3), (.ref b3)] (fun _ kq => XS.dup X62.here hx rfl (hb hby d9_264) rfl rfl kq) ?_
  refine own_G.sk 266 [(.int 3), (.ref b16), (.ref b16), (.ref b3), (.ref b3)] (fun _ kq => XS.iconst X62.here hx rfl (hb hby d9_265) kq) ?_
  refine own_G.sk 267 [(.ref a), (.int 3), (.ref b16), (.ref b16), (.ref b3), (.ref b3)] (fun _ kq => XS.aloadN X62.here hx rfl (hb hby d9_266) rfl rfl kq) ?_
  refine own_G.sk 268 [(.int 2), (.ref a), (.int 3), (.ref b16), (.ref b16), (.ref b3), (.ref b3)] (fun _ kq => XS.iloadN X62.here hx rfl (hb hby d9_267) rfl kq) ?_
  refine own_G.sk 269 [(.int q), (.int 2), (.ref a), (.int 3), (.ref b16), (.ref b16), (.ref b3), (.ref b3)] (fun _ kq => XS.iloadN X62.here hx rfl (hb hby d9_268) rfl kq) ?_
  refine own_G.sk 270 [(.int x), (.int q), (.int 2), (.ref a), (.int 3), (.ref b16), (.ref b16), (.ref b3), (.ref b3)] (fun _ kq => XS.iloadN X62.here hx rfl (hb hby d9_269) rfl kq) ?_
  refine own_G.sk 271 [(.int 3), (.int x), (.int q), (.int 2), (.ref a), (.int 3), (.ref b16), (.ref b16), (.ref b3), (.ref b3)] (fun _ kq => XS.iconst X62.here hx rfl (hb hby d9_270) kq) ?_
  obtain ⟨_, _, ⟨T74, L74, k74, n74⟩, -, X74, ⟨Lc74, hQ74, l74, y74, z74⟩, st74⟩ := Jvm.LawKit.callS X62 hx (y := own_y22) hown (mvT hZ (W_ 54 rfl)) (mvT hZ (W_ 55 rfl)) (mvT hZ (W_ 50 rfl)) (mvT hZ (W_ 56 rfl)) (by decide) (backOf (W := 5) (rm_g2 l Z a0 hw [] a q x (3 : Int32) csz fm t (7 : Int32) (97 : Int32) (108 : Int32) h62 n0 O72 S_CS hcs S_IO hio F64 F65 F66 (own_Len.arv F67) (fun _ => ⟨(own_At.arv (i := (3 : Int32)) (b := (97 : Int32)) F67 ⟨by decide, by decide⟩ rfl), by decide, by decide⟩) (fun _ _ => ⟨(own_At.arv (i := (2 : Int32)) (b := (108 : Int32)) F67 ⟨by decide, by decide⟩ rfl), by decide, by decide⟩)) hZ (W_ 56 rfl) (W_ 50 rfl) (by decide) (by decide)) (g := (mkF m 271 #[rv a, iv 2, iv q, iv x, iv 7, iv 8] [(.int 3), (.int x), (.int q), (.int 2), (.ref a), (.int 3), (.ref b16), (.ref b16), (.ref b3), (.ref b3)])) rfl (by rw [hml]; rfl) (argsL := [(.ref a), (.int 2), (.int q), (.int x), (.int 3)]) (rest := [(.int 3), (.ref b16), (.ref b16), (.ref b3), (.ref b3)]) (lenOf pd__28Ljava_2flang_2fString_3bIICI_29C rfl) rfl (by show 2 * 0 + _ ≤ _; exact Nat.le_of_eq rfl) (hb hby d9_271) (fun _ _ => ⟨rfl, e62, (by decide : 2 + 0 ≤ _), (by decide : 12 + 0 ≤ _)⟩)
  dsimp only [Pt.U, Pt.locs, Pt.cells, Pt.slots] at X74 l74 y74 z74 st74 hQ74
  subst l74 y74 z74
  obtain ⟨rfl, Nq74, P75⟩ := hQ74
  have N74 := Fr.app N62 Nq74
  refine own_G.st (T' := T74) 274 [(.int (nar .char (own_g2 (3 : Int32) q x (own_chr (97 : Int32)) (own_chr (108 : Int32))))), (.int 3), (.ref b16), (.ref b16), (.ref b3), (.ref b3)] (fun _ kq => st74 _ kq) ?_
  obtain ⟨cl76, Ar76, q176, Sz76, Nz76, Hh76, Gg76⟩ := id F63
  obtain ⟨T76, h76, X76, e76, W76, st76⟩ := stC X74 hx hZ P75 Ar76 (j := (3 : Int32)) (inb_of Sz76 ⟨by decide, by decide⟩) (g := (mkF m 274 #[rv a, iv 2, iv q, iv x, iv 7, iv 8] [(.int (nar .char (own_g2 (3 : Int32) q x (own_chr (97 : Int32)) (own_chr (108 : Int32))))), (.int 3), (.ref b16), (.ref b16), (.ref b3), (.ref b3)])) rfl rfl (hb hby d9_274)
  have F77 : Arv Z h76 b16 k16 .char (8 : Int32) [(.int (kC 0 114 0 q x)), (.int (kC 1 101 114 q x)), (.int (kC 2 108 101 q x)), (.int (kC 3 97 108 q x)), (.int 0), (.int 0), (.int 0), (.int 0)] (.int 0) := Arv.set Ar76 q176 Sz76 Nz76 Hh76 Gg76 (fits_nar_char _) W76 3 rfl (Nat.le_of_ble_eq_true rfl)
  have N76 := Fr.snoc X76 N74 g20
  have F78 := F64.wr W76
  have F79 := F65.other W76 (Or.inl ne17)
  have F80 := F66.other W76 (Or.inl ne17)
  have F81 := F67.other W76 ne18
  have F82 := F68.wr W76
  have F83 := F69.other W76 (Or.inl ne19)
  have F84 := F70.other W76 (Or.inl ne19)
  have O86 := O72.wr W76 g20
  have K87 := K73.wr W76 (Or.inr z21)
  refine own_G.st (T' := T76) 275 [(.ref b16), (.ref b3), (.ref b3)] st76 ?_
  refine own_G.sk 276 [(.ref b16), (.ref b16), (.ref b3), (.ref b3)] (fun _ kq => XS.dup X76.here hx rfl (hb hby d9_275) rfl rfl kq) ?_
  refine own_G.sk 277 [(.int 4), (.ref b16), (.ref b16), (.ref b3), (.ref b3)] (fun _ kq => XS.iconst X76.here hx rfl (hb hby d9_276) kq) ?_
  refine own_G.sk 278 [(.ref a), (.int 4), (.ref b16), (.ref b16), (.ref b3), (.ref b3)] (fun _ kq => XS.aloadN X76.here hx rfl (hb hby d9_277) rfl rfl kq) ?_
  refine own_G.sk 279 [(.int 2), (.ref a), (.int 4), (.ref b16), (.ref b16), (.ref b3), (.ref b3)] (fun _ kq => XS.iloadN X76.here hx rfl (hb hby d9_278) rfl kq) ?_
  refine own_G.sk 280 [(.int q), (.int 2), (.ref a), (.int 4), (.ref b16), (.ref b16), (.ref b3), (.ref b3)] (fun _ kq => XS.iloadN X76.here hx rfl (hb hby d9_279) rfl kq) ?_
  refine own_G.sk 281 [(.int x), (.int q), (.int 2), (.ref a), (.int 4), (.ref b16), (.ref b16), (.ref b3), (.ref b3)] (fun _ kq => XS.iloadN X76.here hx rfl (hb hby d9_280) rfl kq) ?_
  refine own_G.sk 282 [(.int 4), (.int x), (.int q), (.int 2), (.ref a), (.int 4), (.ref b16), (.ref b16), (.ref b3), (.ref b3)] (fun _ kq => XS.iconst X76.here hx rfl (hb hby d9_281) kq) ?_
  obtain ⟨_, _, ⟨T88, L88, k88, n88⟩, -, X88, ⟨Lc88, hQ88, l88, y88, z88⟩, st88⟩ := Jvm.LawKit.callS X76 hx (y := own_y22) hown (mvT hZ (W_ 54 rfl)) (mvT hZ (W_ 55 rfl)) (mvT hZ (W_ 50 rfl)) (mvT hZ (W_ 56 rfl)) (by decide) (backOf (W := 5) (rm_g2 l Z a0 hw [] a q x (4 : Int32) csz fm t (7 : Int32) (116 : Int32) (97 : Int32) h76 n0 O86 S_CS hcs S_IO hio F78 F79 F80 (own_Len.arv F81) (fun _ => ⟨(own_At.arv (i := (4 : Int32)) (b := (116 : Int32)) F81 ⟨by decide, by decide⟩ rfl), by decide, by decide⟩) (fun _ _ => ⟨(own_At.arv (i := (3 : Int32)) (b := (97 : Int32)) F81 ⟨by decide, by decide⟩ rfl), by decide, by decide⟩)) hZ (W_ 56 rfl) (W_ 50 rfl) (by decide) (by decide)) (g := (mkF m 282 #[rv a, iv 2, iv q, iv x, iv 7, iv 8] [(.int 4), (.int x), (.int q), (.int 2), (.ref a), (.int 4), (.ref b16), (.ref b16), (.ref b3), (.ref b3)])) rfl (by rw [hml]; rfl) (argsL := [(.ref a), (.int 2), (.int q), (.int x), (.int 4)]) (rest := [(.int 4), (.ref b16), (.ref b16), (.ref b3), (.ref b3)]) (lenOf pd__28Ljava_2flang_2fString_3bIICI_29C rfl) rfl (by show 2 * 0 + _ ≤ _; exact Nat.le_of_eq rfl) (hb hby d9_282) (fun _ _ => ⟨rfl, e76, (by decide : 2 + 0 ≤ _), (by decide : 12 + 0 ≤ _)⟩)
  dsimp only [Pt.U, Pt.locs, Pt.cells, Pt.slots] at X88 l88 y88 z88 st88 hQ88
  subst l88 y88 z88
  obtain ⟨rfl, Nq88, P89⟩ := hQ88
  have N88 := Fr.app N76 Nq88
  refine own_G.st (T' := T88) 285 [(.int (nar .char (own_g2 (4 : Int32) q x (own_chr (116 : Int32)) (own_chr (97 : Int32))))), (.int 4), (.ref b16), (.ref b16), (.ref b3), (.ref b3)] (fun _ kq => st88 _ kq) ?_
  obtain ⟨cl90, Ar90, q190, Sz90, Nz90, Hh90, Gg90⟩ := id F77
  obtain ⟨T90, h90, X90, e90, W90, st90⟩ := stC X88 hx hZ P89 Ar90 (j := (4 : Int32)) (inb_of Sz90 ⟨by decide, by decide⟩) (g := (mkF m 285 #[rv a, iv 2, iv q, iv x, iv 7, iv 8] [(.int (nar .char (own_g2 (4 : Int32) q x (own_chr (116 : Int32)) (own_chr (97 : Int32))))), (.int 4), (.ref b16), (.ref b16), (.ref b3), (.ref b3)])) rfl rfl (hb hby d9_285)
  have F91 : Arv Z h90 b16 k16 .char (8 : Int32) [(.int (kC 0 114 0 q x)), (.int (kC 1 101 114 q x)), (.int (kC 2 108 101 q x)), (.int (kC 3 97 108 q x)), (.int (kC 4 116 97 q x)), (.int 0), (.int 0), (.int 0)] (.int 0) := Arv.set Ar90 q190 Sz90 Nz90 Hh90 Gg90 (fits_nar_char _) W90 4 rfl (Nat.le_of_ble_eq_true rfl)
  have N90 := Fr.snoc X90 N88 g20
  have F92 := F78.wr W90
  have F93 := F79.other W90 (Or.inl ne17)
  have F94 := F80.other W90 (Or.inl ne17)
  have F95 := F81.other W90 ne18
  have F96 := F82.wr W90
  have F97 := F83.other W90 (Or.inl ne19)
  have F98 := F84.other W90 (Or.inl ne19)
  have O100 := O86.wr W90 g20
  have K101 := K87.wr W90 (Or.inr z21)
  refine own_G.st (T' := T90) 286 [(.ref b16), (.ref b3), (.ref b3)] st90 ?_
  refine own_G.sk 287 [(.ref b16), (.ref b16), (.ref b3), (.ref b3)] (fun _ kq => XS.dup X90.here hx rfl (hb hby d9_286) rfl rfl kq) ?_
  refine own_G.sk 288 [(.int 5), (.ref b16), (.ref b16), (.ref b3), (.ref b3)] (fun _ kq => XS.iconst X90.here hx rfl (hb hby d9_287) kq) ?_
  refine own_G.sk 289 [(.ref a), (.int 5), (.ref b16), (.ref b16), (.ref b3), (.ref b3)] (fun _ kq => XS.aloadN X90.here hx rfl (hb hby d9_288) rfl rfl kq) ?_
  refine own_G.sk 290 [(.int 2), (.ref a), (.int 5), (.ref b16), (.ref b16), (.ref b3), (.ref b3)] (fun _ kq => XS.iloadN X90.here hx rfl (hb hby d9_289) rfl kq) ?_
  refine own_G.sk 291 [(.int q), (.int 2), (.ref a), (.int 5), (.ref b16), (.ref b16), (.ref b3), (.ref b3)] (fun _ kq => XS.iloadN X90.here hx rfl (hb hby d9_290) rfl kq) ?_
  refine own_G.sk 292 [(.int x), (.int q), (.int 2), (.ref a), (.int 5), (.ref b16), (.ref b16), (.ref b3), (.ref b3)] (fun _ kq => XS.iloadN X90.here hx rfl (hb hby d9_291) rfl kq) ?_
  refine own_G.sk 293 [(.int 5), (.int x), (.int q), (.int 2), (.ref a), (.int 5), (.ref b16), (.ref b16), (.ref b3), (.ref b3)] (fun _ kq => XS.iconst X90.here hx rfl (hb hby d9_292) kq) ?_
  obtain ⟨_, _, ⟨T102, L102, k102, n102⟩, -, X102, ⟨Lc102, hQ102, l102, y102, z102⟩, st102⟩ := Jvm.LawKit.callS X90 hx (y := own_y22) hown (mvT hZ (W_ 54 rfl)) (mvT hZ (W_ 55 rfl)) (mvT hZ (W_ 50 rfl)) (mvT hZ (W_ 56 rfl)) (by decide) (backOf (W := 5) (rm_g2 l Z a0 hw [] a q x (5 : Int32) csz fm t (7 : Int32) (101 : Int32) (116 : Int32) h90 n0 O100 S_CS hcs S_IO hio F92 F93 F94 (own_Len.arv F95) (fun _ => ⟨(own_At.arv (i := (5 : Int32)) (b := (101 : Int32)) F95 ⟨by decide, by decide⟩ rfl), by decide, by decide⟩) (fun _ _ => ⟨(own_At.arv (i := (4 : Int32)) (b := (116 : Int32)) F95 ⟨by decide, by decide⟩ rfl), by decide, by decide⟩)) hZ (W_ 56 rfl) (W_ 50 rfl) (by decide) (by decide)) (g := (mkF m 293 #[rv a, iv 2, iv q, iv x, iv 7, iv 8] [(.int 5), (.int x), (.int q), (.int 2), (.ref a), (.int 5), (.ref b16), (.ref b16), (.ref b3), (.ref b3)])) rfl (by rw [hml]; rfl) (argsL := [(.ref a), (.int 2), (.int q), (.int x), (.int 5)]) (rest := [(.int 5), (.ref b16), (.ref b16), (.ref b3), (.ref b3)]) (lenOf pd__28Ljava_2flang_2fString_3bIICI_29C rfl) rfl (by show 2 * 0 + _ ≤ _; exact Nat.le_of_eq rfl) (hb hby d9_293) (fun _ _ => ⟨rfl, e90, (by decide : 2 + 0 ≤ _), (by decide : 12 + 0 ≤ _)⟩)
  dsimp only [Pt.U, Pt.locs, Pt.cells, Pt.slots] at X102 l102 y102 z102 st102 hQ102
  subst l102 y102 z102
  obtain ⟨rfl, Nq102, P103⟩ := hQ102
  have N102 := Fr.app N90 Nq102
  refine own_G.st (T' := T102) 296 [(.int (nar .char (own_g2 (5 : Int32) q x (own_chr (101 : Int32)) (own_chr (116 : Int32))))), (.int 5), (.ref b16), (.ref b16), (.ref b3), (.ref b3)] (fun _ kq => st102 _ kq) ?_
  obtain ⟨cl104, Ar104, q1104, Sz104, Nz104, Hh104, Gg104⟩ := id F91
  obtain ⟨T104, h104, X104, e104, W104, st104⟩ := stC X102 hx hZ P103 Ar104 (j := (5 : Int32)) (inb_of Sz104 ⟨by decide, by decide⟩) (g := (mkF m 296 #[rv a, iv 2, iv q, iv x, iv 7, iv 8] [(.int (nar .char (own_g2 (5 : Int32) q x (own_chr (101 : Int32)) (own_chr (116 : Int32))))), (.int 5), (.ref b16), (.ref b16), (.ref b3), (.ref b3)])) rfl rfl (hb hby d9_296)
  have F105 : Arv Z h104 b16 k16 .char (8 : Int32) [(.int (kC 0 114 0 q x)), (.int (kC 1 101 114 q x)), (.int (kC 2 108 101 q x)), (.int (kC 3 97 108 q x)), (.int (kC 4 116 97 q x)), (.int (kC 5 101 116 q x)), (.int 0), (.int 0)] (.int 0) := Arv.set Ar104 q1104 Sz104 Nz104 Hh104 Gg104 (fits_nar_char _) W104 5 rfl (Nat.le_of_ble_eq_true rfl)
  have N104 := Fr.snoc X104 N102 g20
  have F106 := F92.wr W104
  have F107 := F93.other W104 (Or.inl ne17)
  have F108 := F94.other W104 (Or.inl ne17)
  have F109 := F95.other W104 ne18
  have F110 := F96.wr W104
  have F111 := F97.other W104 (Or.inl ne19)
  have F112 := F98.other W104 (Or.inl ne19)
  have O114 := O100.wr W104 g20
  have K115 := K101.wr W104 (Or.inr z21)
  refine own_G.st (T' := T104) 297 [(.ref b16), (.ref b3), (.ref b3)] st104 ?_
  refine own_G.sk 298 [(.ref b16), (.ref b16), (.ref b3), (.ref b3)] (fun _ kq => XS.dup X104.here hx rfl (hb hby d9_297) rfl rfl kq) ?_
  refine own_G.sk 300 [(.int 6), (.ref b16), (.ref b16), (.ref b3), (.ref b3)] (fun _ kq => XS.bipush X104.here hx rfl (hb hby d9_298) kq) ?_
  refine own_G.sk 301 [(.ref a), (.int 6), (.ref b16), (.ref b16), (.ref b3), (.ref b3)] (fun _ kq => XS.aloadN X104.here hx rfl (hb hby d9_300) rfl rfl kq) ?_
  refine own_G.sk 302 [(.int 2), (.ref a), (.int 6), (.ref b16), (.ref b16), (.ref b3), (.ref b3)] (fun _ kq => XS.iloadN X104.here hx rfl (hb hby d9_301) rfl kq) ?_
  refine own_G.sk 303 [(.int q), (.int 2), (.ref a), (.int 6), (.ref b16), (.ref b16), (.ref b3), (.ref b3)] (fun _ kq => XS.iloadN X104.here hx rfl (hb hby d9_302) rfl kq) ?_
  refine own_G.sk 304 [(.int x), (.int q), (.int 2), (.ref a), (.int 6), (.ref b16), (.ref b16), (.ref b3), (.ref b3)] (fun _ kq => XS.iloadN X104.here hx rfl (hb hby d9_303) rfl kq) ?_
  refine own_G.sk 306 [(.int 6), (.int x), (.int q), (.int 2), (.ref a), (.int 6), (.ref b16), (.ref b16), (.ref b3), (.ref b3)] (fun _ kq => XS.bipush X104.here hx rfl (hb hby d9_304) kq) ?_
  obtain ⟨_, _, ⟨T116, L116, k116, n116⟩, -, X116, ⟨Lc116, hQ116, l116, y116, z116⟩, st116⟩ := Jvm.LawKit.callS X104 hx (y := own_y22) hown (mvT hZ (W_ 54 rfl)) (mvT hZ (W_ 55 rfl)) (mvT hZ (W_ 50 rfl)) (mvT hZ (W_ 56 rfl)) (by decide) (backOf (W := 5) (rm_g2 l Z a0 hw [] a q x (6 : Int32) csz fm t (7 : Int32) (100 : Int32) (101 : Int32) h104 n0 O114 S_CS hcs S_IO hio F106 F107 F108 (own_Len.arv F109) (fun _ => ⟨(own_At.arv (i := (6 : Int32)) (b := (100 : Int32)) F109 ⟨by decide, by decide⟩ rfl), by decide, by decide⟩) (fun _ _ => ⟨(own_At.arv (i := (5 : Int32)) (b := (101 : Int32)) F109 ⟨by decide, by decide⟩ rfl), by decide, by decide⟩)) hZ (W_ 56 rfl) (W_ 50 rfl) (by decide) (by decide)) (g := (mkF m 306 #[rv a, iv 2, iv q, iv x, iv 7, iv 8] [(.int 6), (.int x), (.int q), (.int 2), (.ref a), (.int 6), (.ref b16), (.ref b16), (.ref b3), (.ref b3)])) rfl (by rw [hml]; rfl) (argsL := [(.ref a), (.int 2), (.int q), (.int x), (.int 6)]) (rest := [(.int 6), (.ref b16), (.ref b16), (.ref b3), (.ref b3)]) (lenOf pd__28Ljava_2flang_2fString_3bIICI_29C rfl) rfl (by show 2 * 0 + _ ≤ _; exact Nat.le_of_eq rfl) (hb hby d9_306) (fun _ _ => ⟨rfl, e104, (by decide : 2 + 0 ≤ _), (by decide : 12 + 0 ≤ _)⟩)
  dsimp only [Pt.U, Pt.locs, Pt.cells, Pt.slots] at X116 l116 y116 z116 st116 hQ116
  subst l116 y116 z116
  obtain ⟨rfl, Nq116, P117⟩ := hQ116
  have N116 := Fr.app N104 Nq116
  refine own_G.st (T' := T116) 309 [(.int (nar .char (own_g2 (6 : Int32) q x (own_chr (100 : Int32)) (own_chr (101 : Int32))))), (.int 6), (.ref b16), (.ref b16), (.ref b3), (.ref b3)] (fun _ kq => st116 _ kq) ?_
  obtain ⟨cl118, Ar118, q1118, Sz118, Nz118, Hh118, Gg118⟩ := id F105
  obtain ⟨T118, h118, X118, e118, W118, st118⟩ := stC X116 hx hZ P117 Ar118 (j := (6 : Int32)) (inb_of Sz118 ⟨by decide, by decide⟩) (g := (mkF m 309 #[rv a, iv 2, iv q, iv x, iv 7, iv 8] [(.int (nar .char (own_g2 (6 : Int32) q x (own_chr (100 : Int32)) (own_chr (101 : Int32))))), (.int 6), (.ref b16), (.ref b16), (.ref b3), (.ref b3)])) rfl rfl (hb hby d9_309)
  have F119 : Arv Z h118 b16 k16 .char (8 : Int32) [(.int (kC 0 114 0 q x)), (.int (kC 1 101 114 q x)), (.int (kC 2 108 101 q x)), (.int (kC 3 97 108 q x)), (.int (kC 4 116 97 q x)), (.int (kC 5 101 116 q x)), (.int (kC 6 100 101 q x)), (.int 0)] (.int 0) := Arv.set Ar118 q1118 Sz118 Nz118 Hh118 Gg118 (fits_nar_char _) W118 6 rfl (Nat.le_of_ble_eq_true rfl)
  have N118 := Fr.snoc X118 N116 g20
  have F120 := F106.wr W118
  have F121 := F107.other W118 (Or.inl ne17)
  have F122 := F108.other W118 (Or.inl ne17)
  have F123 := F109.other W118 ne18
  have F124 := F110.wr W118
  have F125 := F111.other W118 (Or.inl ne19)
  have F126 := F112.other W118 (Or.inl ne19)
  have O128 := O114.wr W118 g20
  have K129 := K115.wr W118 (Or.inr z21)
  refine own_G.st (T' := T118) 310 [(.ref b16), (.ref b3), (.ref b3)] st118 ?_
  refine own_G.sk 311 [(.ref b16), (.ref b16), (.ref b3), (.ref b3)] (fun _ kq => XS.dup X118.here hx rfl (hb hby d9_310) rfl rfl kq) ?_
  refine own_G.sk 313 [(.int 7), (.ref b16), (.ref b16), (.ref b3), (.ref b3)] (fun _ kq => XS.bipush X118.here hx rfl (hb hby d9_311) kq) ?_
  refine own_G.sk 314 [(.ref a), (.int 7), (.ref b16), (.ref b16), (.ref b3), (.ref b3)] (fun _ kq => XS.aloadN X118.here hx rfl (hb hby d9_313) rfl rfl kq) ?_
  refine own_G.sk 315 [(.int 2), (.ref a), (.int 7), (.ref b16), (.ref b16), (.ref b3), (.ref b3)] (fun _ kq => XS.iloadN X118.here hx rfl (hb hby d9_314) rfl kq) ?_
  refine own_G.sk 316 [(.int q), (.int 2), (.ref a), (.int 7), (.ref b16), (.ref b16), (.ref b3), (.ref b3)] (fun _ kq => XS.iloadN X118.here hx rfl (hb hby d9_315) rfl kq) ?_
  refine own_G.sk 317 [(.int x), (.int q), (.int 2), (.ref a), (.int 7), (.ref b16), (.ref b16), (.ref b3), (.ref b3)] (fun _ kq => XS.iloadN X118.here hx rfl (hb hby d9_316) rfl kq) ?_
  refine own_G.sk 319 [(.int 7), (.int x), (.int q), (.int 2), (.ref a), (.int 7), (.ref b16), (.ref b16), (.ref b3), (.ref b3)] (fun _ kq => XS.bipush X118.here hx rfl (hb hby d9_317) kq) ?_
  obtain ⟨_, _, ⟨T130, L130, k130, n130⟩, -, X130, ⟨Lc130, hQ130, l130, y130, z130⟩, st130⟩ := Jvm.LawKit.callS X118 hx (y := own_y22) hown (mvT hZ (W_ 54 rfl)) (mvT hZ (W_ 55 rfl)) (mvT hZ (W_ 50 rfl)) (mvT hZ (W_ 56 rfl)) (by decide) (backOf (W := 5) (rm_g2 l Z a0 hw [] a q x (7 : Int32) csz fm t (7 : Int32) (0 : Int32) (100 : Int32) h118 n0 O128 S_CS hcs S_IO hio F120 F121 F122 (own_Len.arv F123) (fun hq => absurd hq hq2) (fun _ _ => ⟨(own_At.arv (i := (6 : Int32)) (b := (100 : Int32)) F123 ⟨by decide, by decide⟩ rfl), by decide, by decide⟩)) hZ (W_ 56 rfl) (W_ 50 rfl) (by decide) (by decide)) (g := (mkF m 319 #[rv a, iv 2, iv q, iv x, iv 7, iv 8] [(.int 7), (.int x), (.int q), (.int 2), (.ref a), (.int 7), (.ref b16), (.ref b16), (.ref b3), (.ref b3)])) rfl (by rw [hml]; rfl) (argsL := [(.ref a), (.int 2), (.int q), (.int x), (.int 7)]) (rest := [(.int 7), (.ref b16), (.ref b16), (.ref b3), (.ref b3)]) (lenOf pd__28Ljava_2flang_2fString_3bIICI_29C rfl) rfl (by show 2 * 0 + _ ≤ _; exact Nat.le_of_eq rfl) (hb hby d9_319) (fun _ _ => ⟨rfl, e118, (by decide : 2 + 0 ≤ _), (by decide : 12 + 0 ≤ _)⟩)
  dsimp only [Pt.U, Pt.locs, Pt.cells, Pt.slots] at X130 l130 y130 z130 st130 hQ130
  subst l130 y130 z130
  obtain ⟨rfl, Nq130, P131⟩ := hQ130
  have N130 := Fr.app N118 Nq130
  refine own_G.st (T' := T130) 322 [(.int (nar .char (own_g2 (7 : Int32) q x (own_chr (0 : Int32)) (own_chr (100 : Int32))))), (.int 7), (.ref b16), (.ref b16), (.ref b3), (.ref b3)] (fun _ kq => st130 _ kq) ?_
  obtain ⟨cl132, Ar132, q1132, Sz132, Nz132, Hh132, Gg132⟩ := id F119
  obtain ⟨T132, h132, X132, e132, W132, st132⟩ := stC X130 hx hZ P131 Ar132 (j := (7 : Int32)) (inb_of Sz132 ⟨by decide, by decide⟩) (g := (mkF m 322 #[rv a, iv 2, iv q, iv x, iv 7, iv 8] [(.int (nar .char (own_g2 (7 : Int32) q x (own_chr (0 : Int32)) (own_chr (100 : Int32))))), (.int 7), (.ref b16), (.ref b16), (.ref b3), (.ref b3)])) rfl rfl (hb hby d9_322)
  have F133 : Arv Z h132 b16 k16 .char (8 : Int32) [(.int (kC 0 114 0 q x)), (.int (kC 1 101 114 q x)), (.int (kC 2 108 101 q x)), (.int (kC 3 97 108 q x)), (.int (kC 4 116 97 q x)), (.int (kC 5 101 116 q x)), (.int (kC 6 100 101 q x)), (.int (kC 7 0 100 q x))] (.int 0) := Arv.set Ar132 q1132 Sz132 Nz132 Hh132 Gg132 (fits_nar_char _) W132 7 rfl (Nat.le_of_ble_eq_true rfl)
  have N132 := Fr.snoc X132 N130 g20
  have F134 := F120.wr W132
  have F135 := F121.other W132 (Or.inl ne17)
  have F136 := F122.other W132 (Or.inl ne17)
  have F137 := F123.other W132 ne18
  have F138 := F124.wr W132
  have F139 := F125.other W132 (Or.inl ne19)
  have F140 := F126.other W132 (Or.inl ne19)
  have O142 := O128.wr W132 g20
  have K143 := K129.wr W132 (Or.inr z21)
  refine own_G.st (T' := T132) 323 [(.ref b16), (.ref b3), (.ref b3)] st132 ?_
  have hp144 : ∀ c ∈ ([(kC 0 114 0 q x), (kC 1 101 114 q x), (kC 2 108 101 q x), (kC 3 97 108 q x), (kC 4 116 97 q x), (kC 5 101 116 q x), (kC 6 100 101 q x), (kC 7 0 100 q x)] : List Int32), ¬ c < 0 ∧ ¬ (255 : Int32) < c := by
    intro c hc
    simp only [List.mem_cons, List.not_mem_nil, or_false] at hc
    rcases hc with rfl | rfl | rfl | rfl | rfl | rfl | rfl | rfl
    · exact own_nn (own_g2b hxr (own_cb ⟨by decide, by decide⟩) (own_cb ⟨by decide, by decide⟩))
    · exact own_nn (own_g2b hxr (own_cb ⟨by decide, by decide⟩) (own_cb ⟨by decide, by decide⟩))
    · exact own_nn (own_g2b hxr (own_cb ⟨by decide, by decide⟩) (own_cb ⟨by decide, by decide⟩))
    · exact own_nn (own_g2b hxr (own_cb ⟨by decide, by decide⟩) (own_cb ⟨by decide, by decide⟩))
    · exact own_nn (own_g2b hxr (own_cb ⟨by decide, by decide⟩) (own_cb ⟨by decide, by decide⟩))
    · exact own_nn (own_g2b hxr (own_cb ⟨by decide, by decide⟩) (own_cb ⟨by decide, by decide⟩))
    · exact own_nn (own_g2b hxr (own_cb ⟨by decide, by decide⟩) (own_cb ⟨by decide, by decide⟩))
    · exact own_nn (own_g2b hxr (own_cb ⟨by decide, by decide⟩) (own_cb ⟨by decide, by decide⟩))
  obtain ⟨_, _, ⟨T145, L145, k145, n145⟩, -, X145, ⟨Lc145, hQ145, l145, y145, z145⟩, st145⟩ := X132.specialBack hx (y := own_y17) rfl hown (mvT hZ (W_ 57 rfl)) (mvT hZ (W_ 58 rfl)) (mvT hZ (W_ 59 rfl)) (by decide) (StrChars.Road.backV (W := 1) hZ hws (kI := 4) (W_ 2 rfl) (cs := ([(kC 0 114 0 q x), (kC 1 101 114 q x), (kC 2 108 101 q x), (kC 3 97 108 q x), (kC 4 116 97 q x), (kC 5 101 116 q x), (kC 6 100 101 q x), (kC 7 0 100 q x)] : List Int32)) (bs := (([(kC 0 114 0 q x), (kC 1 101 114 q x), (kC 2 108 101 q x), (kC 3 97 108 q x), (kC 4 116 97 q x), (kC 5 101 116 q x), (kC 6 100 101 q x), (kC 7 0 100 q x)] : List Int32).map (fun c => c.toInt8.toInt32))) (n := 8) g6 O142.le F138 F139 F140 F133 (Sta.ext O142.2 S_CS) hcs rfl rfl (by decide) (by decide) hp144 rfl (by decide) (by decide)) (g := (mkF m 323 #[rv a, iv 2, iv q, iv x, iv 7, iv 8] [(.ref b16), (.ref b3), (.ref b3)])) rfl (by rw [hml]; rfl) (Steps.refl _) (a := b3) (argsL := [(.ref b16)]) (rest := [(.ref b3)]) (lenOf pd__28_5bC_29V rfl) rfl (by show 2 * 0 + _ ≤ _; exact Nat.le_of_eq rfl) (hb hby d9_323) (fun _ _ => ⟨rfl, e132, (by decide : 2 + 1 ≤ _), (by decide : 12 + 8 ≤ _)⟩)
  dsimp only [Pt.U, Pt.locs, Pt.cells, Pt.slots] at X145 l145 y145 z145 st145 hQ145
  subst l145 y145 z145
  obtain ⟨rfl, P146, P147, P148, P149, b150, kx151, P152, P153, P154, P155, P156⟩ := hQ145
  have N145 := Fr.app N132 P146
  have ne157 : a ≠ b150 := Nat.ne_of_lt (Nat.lt_of_lt_of_le F134.lt P153)
  have ne158 : t ≠ b150 := Nat.ne_of_lt (Nat.lt_of_lt_of_le F137.lt P153)
  have ne159 : b3 ≠ b150 := Nat.ne_of_lt (Nat.lt_of_lt_of_le F138.lt P153)
  have ne160 : b16 ≠ b150 := Nat.ne_of_lt (Nat.lt_of_lt_of_le F133.lt P153)
  have g161 : n0 ≤ b150 := Nat.le_trans O142.le P153
  have z162 : h0.size ≤ b150 := Nat.le_trans K143.1 P153
  have F163 := F134.keep P147
  have F164 := F135.keep P147 (ninS ne4 nin0)
  have F165 := F136.keep P147 (ninS ne4 nin0)
  have F166 := F137.keep P147 (ninS ne5 nin0)
  have F167 := F138.keep P147
  have F168 := F133.keep P147 (ninS (Ne.symm ne19) nin0)
  have O169 := O142.keep P147 (allS g6 all0)
  have K170 := K143.trans P147 (allS (Or.inr z7) all0)
  refine own_G.st (T' := T145) 326 [(.ref b3)] (fun _ kq => st145.trans kq) ?_
  exact own_ret X145 rfl (v := some (.ref b3)) (fun h => by rw [Bd.returns] at h; cases h) Bd.notSynchronized ⟨b3, b150, kx151, rfl, N145, K170, z7, z162, P148, P149, P155, hp144, P156⟩ (by decide) (by decide) (fun fs hr => own_retR X145 hx Bd.returns rfl rfl (hb hby d9_326) hr)
theorem own_in9 {x : Int32} (h1 : ¬ x < (0 : Int32)) (h2 : x < (9 : Int32)) : x = (0 : Int32) ∨ x = (1 : Int32) ∨ x = (2 : Int32) ∨ x = (3 : Int32) ∨ x = (4 : Int32) ∨ x = (5 : Int32) ∨ x = (6 : Int32) ∨ x = (7 : Int32) ∨ x = (8 : Int32) := by
  simp only [Int32.lt_iff_toInt_lt] at h1 h2
  have e0 : (0 : Int32).toInt = 0 := by decide
  have e1 : (9 : Int32).toInt = 9 := by decide
  have h3 : x.toInt = 0 ∨ x.toInt = 1 ∨ x.toInt = 2 ∨ x.toInt = 3 ∨ x.toInt = 4 ∨ x.toInt = 5 ∨ x.toInt = 6 ∨ x.toInt = 7 ∨ x.toInt = 8 := by omega
  rcases h3 with h | h | h | h | h | h | h | h | h
  · exact Or.inl (own_toInt h)
  · exact Or.inr (Or.inl (own_toInt h))
  · exact Or.inr (Or.inr (Or.inl (own_toInt h)))
  · exact Or.inr (Or.inr (Or.inr (Or.inl (own_toInt h))))
  · exact Or.inr (Or.inr (Or.inr (Or.inr (Or.inl (own_toInt h)))))
  · exact Or.inr (Or.inr (Or.inr (Or.inr (Or.inr (Or.inl (own_toInt h))))))
  · exact Or.inr (Or.inr (Or.inr (Or.inr (Or.inr (Or.inr (Or.inl (own_toInt h)))))))
  · exact Or.inr (Or.inr (Or.inr (Or.inr (Or.inr (Or.inr (Or.inr (Or.inl (own_toInt h))))))))
  · exact Or.inr (Or.inr (Or.inr (Or.inr (Or.inr (Or.inr (Or.inr (Or.inr ((own_toInt h)))))))))
theorem own_mod9 (x : Int32) : ¬ (x &&& (2147483647 : Int32)) % (9 : Int32) < (0 : Int32) ∧ (x &&& (2147483647 : Int32)) % (9 : Int32) < (9 : Int32) := by
  have h1 := c_mask x (2147483647 : Int32) 31 (by decide) (by decide)
  have h2 := (c_irem (x &&& (2147483647 : Int32)) (9 : Int32) 9 (by decide)).1 (by rw [h1]; omega)
  simp only [Int32.lt_iff_toInt_lt]
  have e0 : (0 : Int32).toInt = 0 := by decide
  have e1 : (9 : Int32).toInt = 9 := by decide
  have e2 : (8 : Int32).toInt = 8 := by decide
  omega
theorem own_mod10 (x : Int32) : ¬ (x &&& (2147483647 : Int32)) % (10 : Int32) < (0 : Int32) ∧ ¬ (9 : Int32) < (x &&& (2147483647 : Int32)) % (10 : Int32) := by
  have h1 := c_mask x (2147483647 : Int32) 31 (by decide) (by decide)
  have h2 := (c_irem (x &&& (2147483647 : Int32)) (10 : Int32) 10 (by decide)).1 (by rw [h1]; omega)
  simp only [Int32.lt_iff_toInt_lt]
  have e0 : (0 : Int32).toInt = 0 := by decide
  have e1 : (10 : Int32).toInt = 10 := by decide
  have e2 : (9 : Int32).toInt = 9 := by decide
  omega
theorem own_minb9 {q : Int32} (h1 : ¬ q < (0 : Int32)) : ¬ own_min q (8 : Int32) < (0 : Int32) ∧ own_min q (8 : Int32) < (9 : Int32) := by
  unfold own_min
  split
  · exact ⟨by decide, by decide⟩
  · refine ⟨h1, ?_⟩
    rename_i h2
    simp only [Int32.lt_iff_toInt_lt] at h2 ⊢
    have e0 : (8 : Int32).toInt = 8 := by decide
    have e1 : (9 : Int32).toInt = 9 := by decide
    omega
theorem own_in7 {x : Int32} (h1 : ¬ x < (0 : Int32)) (h2 : x < (7 : Int32)) : x = (0 : Int32) ∨ x = (1 : Int32) ∨ x = (2 : Int32) ∨ x = (3 : Int32) ∨ x = (4 : Int32) ∨ x = (5 : Int32) ∨ x = (6 : Int32) := by
  simp only [Int32.lt_iff_toInt_lt] at h1 h2
  have e0 : (0 : Int32).toInt = 0 := by decide
  have e1 : (7 : Int32).toInt = 7 := by decide
  have h3 : x.toInt = 0 ∨ x.toInt = 1 ∨ x.toInt = 2 ∨ x.toInt = 3 ∨ x.toInt = 4 ∨ x.toInt = 5 ∨ x.toInt = 6 := by omega
  rcases h3 with h | h | h | h | h | h | h
  · exact Or.inl (own_toInt h)
  · exact Or.inr (Or.inl (own_toInt h))
  · exact Or.inr (Or.inr (Or.inl (own_toInt h)))
  · exact Or.inr (Or.inr (Or.inr (Or.inl (own_toInt h))))
  · exact Or.inr (Or.inr (Or.inr (Or.inr (Or.inl (own_toInt h)))))
  · exact Or.inr (Or.inr (Or.inr (Or.inr (Or.inr (Or.inl (own_toInt h))))))
  · exact Or.inr (Or.inr (Or.inr (Or.inr (Or.inr (Or.inr ((own_toInt h)))))))
theorem own_mod7 (x : Int32) : ¬ (x &&& (2147483647 : Int32)) % (7 : Int32) < (0 : Int32) ∧ (x &&& (2147483647 : Int32)) % (7 : Int32) < (7 : Int32) := by
  have h1 := c_mask x (2147483647 : Int32) 31 (by decide) (by decide)
  have h2 := (c_irem (x &&& (2147483647 : Int32)) (7 : Int32) 7 (by decide)).1 (by rw [h1]; omega)
  simp only [Int32.lt_iff_toInt_lt]
  have e0 : (0 : Int32).toInt = 0 := by decide
  have e1 : (7 : Int32).toInt = 7 := by decide
  have e2 : (6 : Int32).toInt = 6 := by decide
  omega
theorem own_mod8 (x : Int32) : ¬ (x &&& (2147483647 : Int32)) % (8 : Int32) < (0 : Int32) ∧ ¬ (7 : Int32) < (x &&& (2147483647 : Int32)) % (8 : Int32) := by
  have h1 := c_mask x (2147483647 : Int32) 31 (by decide) (by decide)
  have h2 := (c_irem (x &&& (2147483647 : Int32)) (8 : Int32) 8 (by decide)).1 (by rw [h1]; omega)
  simp only [Int32.lt_iff_toInt_lt]
  have e0 : (0 : Int32).toInt = 0 := by decide
  have e1 : (8 : Int32).toInt = 8 := by decide
  have e2 : (7 : Int32).toInt = 7 := by decide
  omega
theorem own_minb7 {q : Int32} (h1 : ¬ q < (0 : Int32)) : ¬ own_min q (6 : Int32) < (0 : Int32) ∧ own_min q (6 : Int32) < (7 : Int32) := by
  unfold own_min
  split
  · exact ⟨by decide, by decide⟩
  · refine ⟨h1, ?_⟩
    rename_i h2
    simp only [Int32.lt_iff_toInt_lt] at h2 ⊢
    have e0 : (6 : Int32).toInt = 6 := by decide
    have e1 : (7 : Int32).toInt = 7 := by decide
    omega
theorem own_m0a {q x : Int32} (h1 : ¬ q < (0 : Int32)) (h2 : q < (9 : Int32)) (hxr : ¬ x < (0 : Int32) ∧ ¬ (255 : Int32) < x) : own_art [(kA 0 97 q x), (kA 1 108 q x), (kA 2 116 q x), (kA 3 101 q x), (kA 4 114 q x), (kA 5 110 q x), (kA 6 97 q x), (kA 7 116 q x), (kA 8 101 q x)] = if x = own_chr (own_alt.getD q.toNatClampNeg 0) then 1 else 0 := by
  have en : nar .char (nar .char x) = x := by rw [own_narI hxr, own_narI hxr]
  rcases own_in9 h1 h2 with rfl | rfl | rfl | rfl | rfl | rfl | rfl | rfl | rfl
  · have hl : ([(nar .char (nar .char (own_g0 (0 : Int32) (0 : Int32) x (own_chr (97 : Int32))))), (nar .char (nar .char (own_g0 (1 : Int32) (0 : Int32) x (own_chr (108 : Int32))))), (nar .char (nar .char (own_g0 (2 : Int32) (0 : Int32) x (own_chr (116 : Int32))))), (nar .char (nar .char (own_g0 (3 : Int32) (0 : Int32) x (own_chr (101 : Int32))))), (nar .char (nar .char (own_g0 (4 : Int32) (0 : Int32) x (own_chr (114 : Int32))))), (nar .char (nar .char (own_g0 (5 : Int32) (0 : Int32) x (own_chr (110 : Int32))))), (nar .char (nar .char (own_g0 (6 : Int32) (0 : Int32) x (own_chr (97 : Int32))))), (nar .char (nar .char (own_g0 (7 : Int32) (0 : Int32) x (own_chr (116 : Int32))))), (nar .char (nar .char (own_g0 (8 : Int32) (0 : Int32) x (own_chr (101 : Int32)))))] : List Int32) = [x, (108 : Int32), (116 : Int32), (101 : Int32), (114 : Int32), (110 : Int32), (97 : Int32), (116 : Int32), (101 : Int32)] := by
      have eg : own_g0 (0 : Int32) (0 : Int32) x (own_chr (97 : Int32)) = x := if_pos rfl
      rw [eg, en]
      rfl
    have hg : own_chr (own_alt.getD ((0 : Int32) : Int32).toNatClampNeg 0) = (97 : Int32) := by decide
    rw [hl, hg]
    rcases Classical.em (x = (97 : Int32)) with rfl | hx'
    · rw [if_pos rfl]
      decide
    · rw [if_neg hx']
      have A : ¬ own_alt = [x, (108 : Int32), (116 : Int32), (101 : Int32), (114 : Int32), (110 : Int32), (97 : Int32), (116 : Int32), (101 : Int32)] := by
        intro hq
        simp [own_alt] at hq
        exact hx' hq.symm
      have B : ¬ own_rel = [x, (108 : Int32), (116 : Int32), (101 : Int32), (114 : Int32), (110 : Int32), (97 : Int32), (116 : Int32), (101 : Int32)] := by
        intro hq
        simp [own_rel] at hq
      unfold own_art
      rw [if_neg A, if_neg B]
  · have hl : ([(nar .char (nar .char (own_g0 (0 : Int32) (1 : Int32) x (own_chr (97 : Int32))))), (nar .char (nar .char (own_g0 (1 : Int32) (1 : Int32) x (own_chr (108 : Int32))))), (nar .char (nar .char (own_g0 (2 : Int32) (1 : Int32) x (own_chr (116 : Int32))))), (nar .char (nar .char (own_g0 (3 : Int32) (1 : Int32) x (own_chr (101 : Int32))))), (nar .char (nar .char (own_g0 (4 : Int32) (1 : Int32) x (own_chr (114 : Int32))))), (nar .char (nar .char (own_g0 (5 : Int32) (1 : Int32) x (own_chr (110 : Int32))))), (nar .char (nar .char (own_g0 (6 : Int32) (1 : Int32) x (own_chr (97 : Int32))))), (nar .char (nar .char (own_g0 (7 : Int32) (1 : Int32) x (own_chr (116 : Int32))))), (nar .char (nar .char (own_g0 (8 : Int32) (1 : Int32) x (own_chr (101 : Int32)))))] : List Int32) = [(97 : Int32), x, (116 : Int32), (101 : Int32), (114 : Int32), (110 : Int32), (97 : Int32), (116 : Int32), (101 : Int32)] := by
      have eg : own_g0 (1 : Int32) (1 : Int32) x (own_chr (108 : Int32)) = x := if_pos rfl
      rw [eg, en]
      rfl
    have hg : own_chr (own_alt.getD ((1 : Int32) : Int32).toNatClampNeg 0) = (108 : Int32) := by decide
    rw [hl, hg]
    rcases Classical.em (x = (108 : Int32)) with rfl | hx'
    · rw [if_pos rfl]
      decide
    · rw [if_neg hx']
      have A : ¬ own_alt = [(97 : Int32), x, (116 : Int32), (101 : Int32), (114 : Int32), (110 : Int32), (97 : Int32), (116 : Int32), (101 : Int32)] := by
        intro hq
        simp [own_alt] at hq
        exact hx' hq.symm
      have B : ¬ own_rel = [(97 : Int32), x, (116 : Int32), (101 : Int32), (114 : Int32), (110 : Int32), (97 : Int32), (116 : Int32), (101 : Int32)] := by
        intro hq
        simp [own_rel] at hq
      unfold own_art
      rw [if_neg A, if_neg B]
  · have hl : ([(nar .char (nar .char (own_g0 (0 : Int32) (2 : Int32) x (own_chr (97 : Int32))))), (nar .char (nar .char (own_g0 (1 : Int32) (2 : Int32) x (own_chr (108 : Int32))))), (nar .char (nar .char (own_g0 (2 : Int32) (2 : Int32) x (own_chr (116 : Int32))))), (nar .char (nar .char (own_g0 (3 : Int32) (2 : Int32) x (own_chr (101 : Int32))))), (nar .char (nar .char (own_g0 (4 : Int32) (2 : Int32) x (own_chr (114 : Int32))))), (nar .char (nar .char (own_g0 (5 : Int32) (2 : Int32) x (own_chr (110 : Int32))))), (nar .char (nar .char (own_g0 (6 : Int32) (2 : Int32) x (own_chr (97 : Int32))))), (nar .char (nar .char (own_g0 (7 : Int32) (2 : Int32) x (own_chr (116 : Int32))))), (nar .char (nar .char (own_g0 (8 : Int32) (2 : Int32) x (own_chr (101 : Int32)))))] : List Int32) = [(97 : Int32), (108 : Int32), x, (101 : Int32), (114 : Int32), (110 : Int32), (97 : Int32), (116 : Int32), (101 : Int32)] := by
      have eg : own_g0 (2 : Int32) (2 : Int32) x (own_chr (116 : Int32)) = x := if_pos rfl
      rw [eg, en]
      rfl
    have hg : own_chr (own_alt.getD ((2 : Int32) : Int32).toNatClampNeg 0) = (116 : Int32) := by decide
    rw [hl, hg]
    rcases Classical.em (x = (116 : Int32)) with rfl | hx'
    · rw [if_pos rfl]
      decide
    · rw [if_neg hx']
      have A : ¬ own_alt = [(97 : Int32), (108 : Int32), x, (101 : Int32), (114 : Int32), (110 : Int32), (97 : Int32), (116 : Int32), (101 : Int32)] := by
        intro hq
        simp [own_alt] at hq
        exact hx' hq.symm
      have B : ¬ own_rel = [(97 : Int32), (108 : Int32), x, (101 : Int32), (114 : Int32), (110 : Int32), (97 : Int32), (116 : Int32), (101 : Int32)] := by
        intro hq
        simp [own_rel] at hq
      unfold own_art
      rw [if_neg A, if_neg B]
  · have hl : ([(nar .char (nar .char (own_g0 (0 : Int32) (3 : Int32) x (own_chr (97 : Int32))))), (nar .char (nar .char (own_g0 (1 : Int32) (3 : Int32) x (own_chr (108 : Int32))))), (nar .char (nar .char (own_g0 (2 : Int32) (3 : Int32) x (own_chr (116 : Int32))))), (nar .char (nar .char (own_g0 (3 : Int32) (3 : Int32) x (own_chr (101 : Int32))))), (nar .char (nar .char (own_g0 (4 : Int32) (3 : Int32) x (own_chr (114 : Int32))))), (nar .char (nar .char (own_g0 (5 : Int32) (3 : Int32) x (own_chr (110 : Int32))))), (nar .char (nar .char (own_g0 (6 : Int32) (3 : Int32) x (own_chr (97 : Int32))))), (nar .char (nar .char (own_g0 (7 : Int32) (3 : Int32) x (own_chr (116 : Int32))))), (nar .char (nar .char (own_g0 (8 : Int32) (3 : Int32) x (own_chr (101 : Int32)))))] : List Int32) = [(97 : Int32), (108 : Int32), (116 : Int32), x, (114 : Int32), (110 : Int32), (97 : Int32), (116 : Int32), (101 : Int32)] := by
      have eg : own_g0 (3 : Int32) (3 : Int32) x (own_chr (101 : Int32)) = x := if_pos rfl
      rw [eg, en]
      rfl
    have hg : own_chr (own_alt.getD ((3 : Int32) : Int32).toNatClampNeg 0) = (101 : Int32) := by decide
    rw [hl, hg]
    rcases Classical.em (x = (101 : Int32)) with rfl | hx'
    · rw [if_pos rfl]
      decide
    · rw [if_neg hx']
      have A : ¬ own_alt = [(97 : Int32), (108 : Int32), (116 : Int32), x, (114 : Int32), (110 : Int32), (97 : Int32), (116 : Int32), (101 : Int32)] := by
        intro hq
        simp [own_alt] at hq
        exact hx' hq.symm
      have B : ¬ own_rel = [(97 : Int32), (108 : Int32), (116 : Int32), x, (114 : Int32), (110 : Int32), (97 : Int32), (116 : Int32), (101 : Int32)] := by
        intro hq
        simp [own_rel] at hq
      unfold own_art
      rw [if_neg A, if_neg B]
  · have hl : ([(nar .char (nar .char (own_g0 (0 : Int32) (4 : Int32) x (own_chr (97 : Int32))))), (nar .char (nar .char (own_g0 (1 : Int32) (4 : Int32) x (own_chr (108 : Int32))))), (nar .char (nar .char (own_g0 (2 : Int32) (4 : Int32) x (own_chr (116 : Int32))))), (nar .char (nar .char (own_g0 (3 : Int32) (4 : Int32) x (own_chr (101 : Int32))))), (nar .char (nar .char (own_g0 (4 : Int32) (4 : Int32) x (own_chr (114 : Int32))))), (nar .char (nar .char (own_g0 (5 : Int32) (4 : Int32) x (own_chr (110 : Int32))))), (nar .char (nar .char (own_g0 (6 : Int32) (4 : Int32) x (own_chr (97 : Int32))))), (nar .char (nar .char (own_g0 (7 : Int32) (4 : Int32) x (own_chr (116 : Int32))))), (nar .char (nar .char (own_g0 (8 : Int32) (4 : Int32) x (own_chr (101 : Int32)))))] : List Int32) = [(97 : Int32), (108 : Int32), (116 : Int32), (101 : Int32), x, (110 : Int32), (97 : Int32), (116 : Int32), (101 : Int32)] := by
      have eg : own_g0 (4 : Int32) (4 : Int32) x (own_chr (114 : Int32)) = x := if_pos rfl
      rw [eg, en]
      rfl
    have hg : own_chr (own_alt.getD ((4 : Int32) : Int32).toNatClampNeg 0) = (114 : Int32) := by decide
    rw [hl, hg]
    rcases Classical.em (x = (114 : Int32)) with rfl | hx'
    · rw [if_pos rfl]
      decide
    · rw [if_neg hx']
      have A : ¬ own_alt = [(97 : Int32), (108 : Int32), (116 : Int32), (101 : Int32), x, (110 : Int32), (97 : Int32), (116 : Int32), (101 : Int32)] := by
        intro hq
        simp [own_alt] at hq
        exact hx' hq.symm
      have B : ¬ own_rel = [(97 : Int32), (108 : Int32), (116 : Int32), (101 : Int32), x, (110 : Int32), (97 : Int32), (116 : Int32), (101 : Int32)] := by
        intro hq
        simp [own_rel] at hq
      unfold own_art
      rw [if_neg A, if_neg B]
  · have hl : ([(nar .char (nar .char (own_g0 (0 : Int32) (5 : Int32) x (own_chr (97 : Int32))))), (nar .char (nar .char (own_g0 (1 : Int32) (5 : Int32) x (own_chr (108 : Int32))))), (nar .char (nar .char (own_g0 (2 : Int32) (5 : Int32) x (own_chr (116 : Int32))))), (nar .char (nar .char (own_g0 (3 : Int32) (5 : Int32) x (own_chr (101 : Int32))))), (nar .char (nar .char (own_g0 (4 : Int32) (5 : Int32) x (own_chr (114 : Int32))))), (nar .char (nar .char (own_g0 (5 : Int32) (5 : Int32) x (own_chr (110 : Int32))))), (nar .char (nar .char (own_g0 (6 : Int32) (5 : Int32) x (own_chr (97 : Int32))))), (nar .char (nar .char (own_g0 (7 : Int32) (5 : Int32) x (own_chr (116 : Int32))))), (nar .char (nar .char (own_g0 (8 : Int32) (5 : Int32) x (own_chr (101 : Int32)))))] : List Int32) = [(97 : Int32), (108 : Int32), (116 : Int32), (101 : Int32), (114 : Int32), x, (97 : Int32), (116 : Int32), (101 : Int32)] := by
      have eg : own_g0 (5 : Int32) (5 : Int32) x (own_chr (110 : Int32)) = x := if_pos rfl
      rw [eg, en]
      rfl
    have hg : own_chr (own_alt.getD ((5 : Int32) : Int32).toNatClampNeg 0) = (110 : Int32) := by decide
    rw [hl, hg]
    rcases Classical.em (x = (110 : Int32)) with rfl | hx'
    · rw [if_pos rfl]
      decide
    · rw [if_neg hx']
      have A : ¬ own_alt = [(97 : Int32), (108 : Int32), (116 : Int32), (101 : Int32), (114 : Int32), x, (97 : Int32), (116 : Int32), (101 : Int32)] := by
        intro hq
        simp [own_alt] at hq
        exact hx' hq.symm
      have B : ¬ own_rel = [(97 : Int32), (108 : Int32), (116 : Int32), (101 : Int32), (114 : Int32), x, (97 : Int32), (116 : Int32), (101 : Int32)] := by
        intro hq
        simp [own_rel] at hq
      unfold own_art
      rw [if_neg A, if_neg B]
  · have hl : ([(nar .char (nar .char (own_g0 (0 : Int32) (6 : Int32) x (own_chr (97 : Int32))))), (nar .char (nar .char (own_g0 (1 : Int32) (6 : Int32) x (own_chr (108 : Int32))))), (nar .char (nar .char (own_g0 (2 : Int32) (6 : Int32) x (own_chr (116 : Int32))))), (nar .char (nar .char (own_g0 (3 : Int32) (6 : Int32) x (own_chr (101 : Int32))))), (nar .char (nar .char (own_g0 (4 : Int32) (6 : Int32) x (own_chr (114 : Int32))))), (nar .char (nar .char (own_g0 (5 : Int32) (6 : Int32) x (own_chr (110 : Int32))))), (nar .char (nar .char (own_g0 (6 : Int32) (6 : Int32) x (own_chr (97 : Int32))))), (nar .char (nar .char (own_g0 (7 : Int32) (6 : Int32) x (own_chr (116 : Int32))))), (nar .char (nar .char (own_g0 (8 : Int32) (6 : Int32) x (own_chr (101 : Int32)))))] : List Int32) = [(97 : Int32), (108 : Int32), (116 : Int32), (101 : Int32), (114 : Int32), (110 : Int32), x, (116 : Int32), (101 : Int32)] := by
      have eg : own_g0 (6 : Int32) (6 : Int32) x (own_chr (97 : Int32)) = x := if_pos rfl
      rw [eg, en]
      rfl
    have hg : own_chr (own_alt.getD ((6 : Int32) : Int32).toNatClampNeg 0) = (97 : Int32) := by decide
    rw [hl, hg]
    rcases Classical.em (x = (97 : Int32)) with rfl | hx'
    · rw [if_pos rfl]
      decide
    · rw [if_neg hx']
      have A : ¬ own_alt = [(97 : Int32), (108 : Int32), (116 : Int32), (101 : Int32), (114 : Int32), (110 : Int32), x, (116 : Int32), (101 : Int32)] := by
        intro hq
        simp [own_alt] at hq
        exact hx' hq.symm
      have B : ¬ own_rel = [(97 : Int32), (108 : Int32), (116 : Int32), (101 : Int32), (114 : Int32), (110 : Int32), x, (116 : Int32), (101 : Int32)] := by
        intro hq
        simp [own_rel] at hq
      unfold own_art
      rw [if_neg A, if_neg B]
  · have hl : ([(nar .char (nar .char (own_g0 (0 : Int32) (7 : Int32) x (own_chr (97 : Int32))))), (nar .char (nar .char (own_g0 (1 : Int32) (7 : Int32) x (own_chr (108 : Int32))))), (nar .char (nar .char (own_g0 (2 : Int32) (7 : Int32) x (own_chr (116 : Int32))))), (nar .char (nar .char (own_g0 (3 : Int32) (7 : Int32) x (own_chr (101 : Int32))))), (nar .char (nar .char (own_g0 (4 : Int32) (7 : Int32) x (own_chr (114 : Int32))))), (nar .char (nar .char (own_g0 (5 : Int32) (7 : Int32) x (own_chr (110 : Int32))))), (nar .char (nar .char (own_g0 (6 : Int32) (7 : Int32) x (own_chr (97 : Int32))))), (nar .char (nar .char (own_g0 (7 : Int32) (7 : Int32) x (own_chr (116 : Int32))))), (nar .char (nar .char (own_g0 (8 : Int32) (7 : Int32) x (own_chr (101 : Int32)))))] : List Int32) = [(97 : Int32), (108 : Int32), (116 : Int32), (101 : Int32), (114 : Int32), (110 : Int32), (97 : Int32), x, (101 : Int32)] := by
      have eg : own_g0 (7 : Int32) (7 : Int32) x (own_chr (116 : Int32)) = x := if_pos rfl
      rw [eg, en]
      rfl
    have hg : own_chr (own_alt.getD ((7 : Int32) : Int32).toNatClampNeg 0) = (116 : Int32) := by decide
    rw [hl, hg]
    rcases Classical.em (x = (116 : Int32)) with rfl | hx'
    · rw [if_pos rfl]
      decide
    · rw [if_neg hx']
      have A : ¬ own_alt = [(97 : Int32), (108 : Int32), (116 : Int32), (101 : Int32), (114 : Int32), (110 : Int32), (97 : Int32), x, (101 : Int32)] := by
        intro hq
        simp [own_alt] at hq
        exact hx' hq.symm
      have B : ¬ own_rel = [(97 : Int32), (108 : Int32), (116 : Int32), (101 : Int32), (114 : Int32), (110 : Int32), (97 : Int32), x, (101 : Int32)] := by
        intro hq
        simp [own_rel] at hq
      unfold own_art
      rw [if_neg A, if_neg B]
  · have hl : ([(nar .char (nar .char (own_g0 (0 : Int32) (8 : Int32) x (own_chr (97 : Int32))))), (nar .char (nar .char (own_g0 (1 : Int32) (8 : Int32) x (own_chr (108 : Int32))))), (nar .char (nar .char (own_g0 (2 : Int32) (8 : Int32) x (own_chr (116 : Int32))))), (nar .char (nar .char (own_g0 (3 : Int32) (8 : Int32) x (own_chr (101 : Int32))))), (nar .char (nar .char (own_g0 (4 : Int32) (8 : Int32) x (own_chr (114 : Int32))))), (nar .char (nar .char (own_g0 (5 : Int32) (8 : Int32) x (own_chr (110 : Int32))))), (nar .char (nar .char (own_g0 (6 : Int32) (8 : Int32) x (own_chr (97 : Int32))))), (nar .char (nar .char (own_g0 (7 : Int32) (8 : Int32) x (own_chr (116 : Int32))))), (nar .char (nar .char (own_g0 (8 : Int32) (8 : Int32) x (own_chr (101 : Int32)))))] : List Int32) = [(97 : Int32), (108 : Int32), (116 : Int32), (101 : Int32), (114 : Int32), (110 : Int32), (97 : Int32), (116 : Int32), x] := by
      have eg : own_g0 (8 : Int32) (8 : Int32) x (own_chr (101 : Int32)) = x := if_pos rfl
      rw [eg, en]
      rfl
    have hg : own_chr (own_alt.getD ((8 : Int32) : Int32).toNatClampNeg 0) = (101 : Int32) := by decide
    rw [hl, hg]
    rcases Classical.em (x = (101 : Int32)) with rfl | hx'
    · rw [if_pos rfl]
      decide
    · rw [if_neg hx']
      have A : ¬ own_alt = [(97 : Int32), (108 : Int32), (116 : Int32), (101 : Int32), (114 : Int32), (110 : Int32), (97 : Int32), (116 : Int32), x] := by
        intro hq
        simp [own_alt] at hq
        exact hx' hq.symm
      have B : ¬ own_rel = [(97 : Int32), (108 : Int32), (116 : Int32), (101 : Int32), (114 : Int32), (110 : Int32), (97 : Int32), (116 : Int32), x] := by
        intro hq
        simp [own_rel] at hq
      unfold own_art
      rw [if_neg A, if_neg B]
theorem own_m0r {q x : Int32} (h1 : ¬ q < (0 : Int32)) (h2 : q < (7 : Int32)) (hxr : ¬ x < (0 : Int32) ∧ ¬ (255 : Int32) < x) : own_art [(kA 0 114 q x), (kA 1 101 q x), (kA 2 108 q x), (kA 3 97 q x), (kA 4 116 q x), (kA 5 101 q x), (kA 6 100 q x)] = if x = own_chr (own_rel.getD q.toNatClampNeg 0) then 1 else 0 := by
  have en : nar .char (nar .char x) = x := by rw [own_narI hxr, own_narI hxr]
  rcases own_in7 h1 h2 with rfl | rfl | rfl | rfl | rfl | rfl | rfl
  · have hl : ([(nar .char (nar .char (own_g0 (0 : Int32) (0 : Int32) x (own_chr (114 : Int32))))), (nar .char (nar .char (own_g0 (1 : Int32) (0 : Int32) x (own_chr (101 : Int32))))), (nar .char (nar .char (own_g0 (2 : Int32) (0 : Int32) x (own_chr (108 : Int32))))), (nar .char (nar .char (own_g0 (3 : Int32) (0 : Int32) x (own_chr (97 : Int32))))), (nar .char (nar .char (own_g0 (4 : Int32) (0 : Int32) x (own_chr (116 : Int32))))), (nar .char (nar .char (own_g0 (5 : Int32) (0 : Int32) x (own_chr (101 : Int32))))), (nar .char (nar .char (own_g0 (6 : Int32) (0 : Int32) x (own_chr (100 : Int32)))))] : List Int32) = [x, (101 : Int32), (108 : Int32), (97 : Int32), (116 : Int32), (101 : Int32), (100 : Int32)] := by
      have eg : own_g0 (0 : Int32) (0 : Int32) x (own_chr (114 : Int32)) = x := if_pos rfl
      rw [eg, en]
      rfl
    have hg : own_chr (own_rel.getD ((0 : Int32) : Int32).toNatClampNeg 0) = (114 : Int32) := by decide
    rw [hl, hg]
    rcases Classical.em (x = (114 : Int32)) with rfl | hx'
    · rw [if_pos rfl]
      decide
    · rw [if_neg hx']
      have A : ¬ own_rel = [x, (101 : Int32), (108 : Int32), (97 : Int32), (116 : Int32), (101 : Int32), (100 : Int32)] := by
        intro hq
        simp [own_rel] at hq
        exact hx' hq.symm
      have B : ¬ own_alt = [x, (101 : Int32), (108 : Int32), (97 : Int32), (116 : Int32), (101 : Int32), (100 : Int32)] := by
        intro hq
        simp [own_alt] at hq
      unfold own_art
      rw [if_neg B, if_neg A]
  · have hl : ([(nar .char (nar .char (own_g0 (0 : Int32) (1 : Int32) x (own_chr (114 : Int32))))), (nar .char (nar .char (own_g0 (1 : Int32) (1 : Int32) x (own_chr (101 : Int32))))), (nar .char (nar .char (own_g0 (2 : Int32) (1 : Int32) x (own_chr (108 : Int32))))), (nar .char (nar .char (own_g0 (3 : Int32) (1 : Int32) x (own_chr (97 : Int32))))), (nar .char (nar .char (own_g0 (4 : Int32) (1 : Int32) x (own_chr (116 : Int32))))), (nar .char (nar .char (own_g0 (5 : Int32) (1 : Int32) x (own_chr (101 : Int32))))), (nar .char (nar .char (own_g0 (6 : Int32) (1 : Int32) x (own_chr (100 : Int32)))))] : List Int32) = [(114 : Int32), x, (108 : Int32), (97 : Int32), (116 : Int32), (101 : Int32), (100 : Int32)] := by
      have eg : own_g0 (1 : Int32) (1 : Int32) x (own_chr (101 : Int32)) = x := if_pos rfl
      rw [eg, en]
      rfl
    have hg : own_chr (own_rel.getD ((1 : Int32) : Int32).toNatClampNeg 0) = (101 : Int32) := by decide
    rw [hl, hg]
    rcases Classical.em (x = (101 : Int32)) with rfl | hx'
    · rw [if_pos rfl]
      decide
    · rw [if_neg hx']
      have A : ¬ own_rel = [(114 : Int32), x, (108 : Int32), (97 : Int32), (116 : Int32), (101 : Int32), (100 : Int32)] := by
        intro hq
        simp [own_rel] at hq
        exact hx' hq.symm
      have B : ¬ own_alt = [(114 : Int32), x, (108 : Int32), (97 : Int32), (116 : Int32), (101 : Int32), (100 : Int32)] := by
        intro hq
        simp [own_alt] at hq
      unfold own_art
      rw [if_neg B, if_neg A]
  · have hl : ([(nar .char (nar .char (own_g0 (0 : Int32) (2 : Int32) x (own_chr (114 : Int32))))), (nar .char (nar .char (own_g0 (1 : Int32) (2 : Int32) x (own_chr (101 : Int32))))), (nar .char (nar .char (own_g0 (2 : Int32) (2 : Int32) x (own_chr (108 : Int32))))), (nar .char (nar .char (own_g0 (3 : Int32) (2 : Int32) x (own_chr (97 : Int32))))), (nar .char (nar .char (own_g0 (4 : Int32) (2 : Int32) x (own_chr (116 : Int32))))), (nar .char (nar .char (own_g0 (5 : Int32) (2 : Int32) x (own_chr (101 : Int32))))), (nar .char (nar .char (own_g0 (6 : Int32) (2 : Int32) x (own_chr (100 : Int32)))))] : List Int32) = [(114 : Int32), (101 : Int32), x, (97 : Int32), (116 : Int32), (101 : Int32), (100 : Int32)] := by
      have eg : own_g0 (2 : Int32) (2 : Int32) x (own_chr (108 : Int32)) = x := if_pos rfl
      rw [eg, en]
      rfl
    have hg : own_chr (own_rel.getD ((2 : Int32) : Int32).toNatClampNeg 0) = (108 : Int32) := by decide
    rw [hl, hg]
    rcases Classical.em (x = (108 : Int32)) with rfl | hx'
    · rw [if_pos rfl]
      decide
    · rw [if_neg hx']
      have A : ¬ own_rel = [(114 : Int32), (101 : Int32), x, (97 : Int32), (116 : Int32), (101 : Int32), (100 : Int32)] := by
        intro hq
        simp [own_rel] at hq
        exact hx' hq.symm
      have B : ¬ own_alt = [(114 : Int32), (101 : Int32), x, (97 : Int32), (116 : Int32), (101 : Int32), (100 : Int32)] := by
        intro hq
        simp [own_alt] at hq
      unfold own_art
      rw [if_neg B, if_neg A]
  · have hl : ([(nar .char (nar .char (own_g0 (0 : Int32) (3 : Int32) x (own_chr (114 : Int32))))), (nar .char (nar .char (own_g0 (1 : Int32) (3 : Int32) x (own_chr (101 : Int32))))), (nar .char (nar .char (own_g0 (2 : Int32) (3 : Int32) x (own_chr (108 : Int32))))), (nar .char (nar .char (own_g0 (3 : Int32) (3 : Int32) x (own_chr (97 : Int32))))), (nar .char (nar .char (own_g0 (4 : Int32) (3 : Int32) x (own_chr (116 : Int32))))), (nar .char (nar .char (own_g0 (5 : Int32) (3 : Int32) x (own_chr (101 : Int32))))), (nar .char (nar .char (own_g0 (6 : Int32) (3 : Int32) x (own_chr (100 : Int32)))))] : List Int32) = [(114 : Int32), (101 : Int32), (108 : Int32), x, (116 : Int32), (101 : Int32), (100 : Int32)] := by
      have eg : own_g0 (3 : Int32) (3 : Int32) x (own_chr (97 : Int32)) = x := if_pos rfl
      rw [eg, en]
      rfl
    have hg : own_chr (own_rel.getD ((3 : Int32) : Int32).toNatClampNeg 0) = (97 : Int32) := by decide
    rw [hl, hg]
    rcases Classical.em (x = (97 : Int32)) with rfl | hx'
    · rw [if_pos rfl]
      decide
    · rw [if_neg hx']
      have A : ¬ own_rel = [(114 : Int32), (101 : Int32), (108 : Int32), x, (116 : Int32), (101 : Int32), (100 : Int32)] := by
        intro hq
        simp [own_rel] at hq
        exact hx' hq.symm
      have B : ¬ own_alt = [(114 : Int32), (101 : Int32), (108 : Int32), x, (116 : Int32), (101 : Int32), (100 : Int32)] := by
        intro hq
        simp [own_alt] at hq
      unfold own_art
      rw [if_neg B, if_neg A]
  · have hl : ([(nar .char (nar .char (own_g0 (0 : Int32) (4 : Int32) x (own_chr (114 : Int32))))), (nar .char (nar .char (own_g0 (1 : Int32) (4 : Int32) x (own_chr (101 : Int32))))), (nar .char (nar .char (own_g0 (2 : Int32) (4 : Int32) x (own_chr (108 : Int32))))), (nar .char (nar .char (own_g0 (3 : Int32) (4 : Int32) x (own_chr (97 : Int32))))), (nar .char (nar .char (own_g0 (4 : Int32) (4 : Int32) x (own_chr (116 : Int32))))), (nar .char (nar .char (own_g0 (5 : Int32) (4 : Int32) x (own_chr (101 : Int32))))), (nar .char (nar .char (own_g0 (6 : Int32) (4 : Int32) x (own_chr (100 : Int32)))))] : List Int32) = [(114 : Int32), (101 : Int32), (108 : Int32), (97 : Int32), x, (101 : Int32), (100 : Int32)] := by
      have eg : own_g0 (4 : Int32) (4 : Int32) x (own_chr (116 : Int32)) = x := if_pos rfl
      rw [eg, en]
      rfl
    have hg : own_chr (own_rel.getD ((4 : Int32) : Int32).toNatClampNeg 0) = (116 : Int32) := by decide
    rw [hl, hg]
    rcases Classical.em (x = (116 : Int32)) with rfl | hx'
    · rw [if_pos rfl]
      decide
    · rw [if_neg hx']
      have A : ¬ own_rel = [(114 : Int32), (101 : Int32), (108 : Int32), (97 : Int32), x, (101 : Int32), (100 : Int32)] := by
        intro hq
        simp [own_rel] at hq
        exact hx' hq.symm
      have B : ¬ own_alt = [(114 : Int32), (101 : Int32), (108 : Int32), (97 : Int32), x, (101 : Int32), (100 : Int32)] := by
        intro hq
        simp [own_alt] at hq
      unfold own_art
      rw [if_neg B, if_neg A]
  · have hl : ([(nar .char (nar .char (own_g0 (0 : Int32) (5 : Int32) x (own_chr (114 : Int32))))), (nar .char (nar .char (own_g0 (1 : Int32) (5 : Int32) x (own_chr (101 : Int32))))), (nar .char (nar .char (own_g0 (2 : Int32) (5 : Int32) x (own_chr (108 : Int32))))), (nar .char (nar .char (own_g0 (3 : Int32) (5 : Int32) x (own_chr (97 : Int32))))), (nar .char (nar .char (own_g0 (4 : Int32) (5 : Int32) x (own_chr (116 : Int32))))), (nar .char (nar .char (own_g0 (5 : Int32) (5 : Int32) x (own_chr (101 : Int32))))), (nar .char (nar .char (own_g0 (6 : Int32) (5 : Int32) x (own_chr (100 : Int32)))))] : List Int32) = [(114 : Int32), (101 : Int32), (108 : Int32), (97 : Int32), (116 : Int32), x, (100 : Int32)] := by
      have eg : own_g0 (5 : Int32) (5 : Int32) x (own_chr (101 : Int32)) = x := if_pos rfl
      rw [eg, en]
      rfl
    have hg : own_chr (own_rel.getD ((5 : Int32) : Int32).toNatClampNeg 0) = (101 : Int32) := by decide
    rw [hl, hg]
    rcases Classical.em (x = (101 : Int32)) with rfl | hx'
    · rw [if_pos rfl]
      decide
    · rw [if_neg hx']
      have A : ¬ own_rel = [(114 : Int32), (101 : Int32), (108 : Int32), (97 : Int32), (116 : Int32), x, (100 : Int32)] := by
        intro hq
        simp [own_rel] at hq
        exact hx' hq.symm
      have B : ¬ own_alt = [(114 : Int32), (101 : Int32), (108 : Int32), (97 : Int32), (116 : Int32), x, (100 : Int32)] := by
        intro hq
        simp [own_alt] at hq
      unfold own_art
      rw [if_neg B, if_neg A]
  · have hl : ([(nar .char (nar .char (own_g0 (0 : Int32) (6 : Int32) x (own_chr (114 : Int32))))), (nar .char (nar .char (own_g0 (1 : Int32) (6 : Int32) x (own_chr (101 : Int32))))), (nar .char (nar .char (own_g0 (2 : Int32) (6 : Int32) x (own_chr (108 : Int32))))), (nar .char (nar .char (own_g0 (3 : Int32) (6 : Int32) x (own_chr (97 : Int32))))), (nar .char (nar .char (own_g0 (4 : Int32) (6 : Int32) x (own_chr (116 : Int32))))), (nar .char (nar .char (own_g0 (5 : Int32) (6 : Int32) x (own_chr (101 : Int32))))), (nar .char (nar .char (own_g0 (6 : Int32) (6 : Int32) x (own_chr (100 : Int32)))))] : List Int32) = [(114 : Int32), (101 : Int32), (108 : Int32), (97 : Int32), (116 : Int32), (101 : Int32), x] := by
      have eg : own_g0 (6 : Int32) (6 : Int32) x (own_chr (100 : Int32)) = x := if_pos rfl
      rw [eg, en]
      rfl
    have hg : own_chr (own_rel.getD ((6 : Int32) : Int32).toNatClampNeg 0) = (100 : Int32) := by decide
    rw [hl, hg]
    rcases Classical.em (x = (100 : Int32)) with rfl | hx'
    · rw [if_pos rfl]
      decide
    · rw [if_neg hx']
      have A : ¬ own_rel = [(114 : Int32), (101 : Int32), (108 : Int32), (97 : Int32), (116 : Int32), (101 : Int32), x] := by
        intro hq
        simp [own_rel] at hq
        exact hx' hq.symm
      have B : ¬ own_alt = [(114 : Int32), (101 : Int32), (108 : Int32), (97 : Int32), (116 : Int32), (101 : Int32), x] := by
        intro hq
        simp [own_alt] at hq
      unfold own_art
      rw [if_neg B, if_neg A]
theorem own_art_len {cs : List Int32} (h1 : ¬ cs.length = 9) (h2 : ¬ cs.length = 7) : own_art cs = 0 := by
  unfold own_art
  rw [if_neg (fun h => h1 (by rw [← h]; rfl)), if_neg (fun h => h2 (by rw [← h]; rfl))]
theorem own_chrb (b : Int32) : ¬ own_chr b < (0 : Int32) ∧ ¬ (255 : Int32) < own_chr b := by
  have a2 := c_mask b (255 : Int32) 8 (by decide) (by decide)
  have a3 := c_i2c (b &&& (255 : Int32))
  have e : own_chr b = (b &&& (255 : Int32)).toUInt32.toUInt16.toUInt32.toInt32 := rfl
  rw [e]
  simp only [Int32.lt_iff_toInt_lt]
  have e0 : (0 : Int32).toInt = 0 := by decide
  have e1 : (255 : Int32).toInt = 255 := by decide
  omega
theorem own_codl {cs : List Int32} {n : Int32} (h : ∀ c ∈ cs, ¬ c < 0 ∧ ¬ (255 : Int32) < c) (hn : n = Int32.ofNat cs.length) : StrChars.Road.CodA cs 0 n ((cs.map (fun c => c.toInt8.toInt32)).map Value.int) :=
  Or.inl ⟨rfl, hn, by rw [List.map_map]; rfl, fun c hc => (h c hc).2⟩
theorem own_bdl {cs : List Int32} (h : ∀ c ∈ cs, ¬ c < 0 ∧ ¬ (255 : Int32) < c) : ∀ c ∈ cs, ¬ c < 0 ∧ ¬ (65535 : Int32) < c := fun c hc => by
  obtain ⟨h1, h2⟩ := h c hc
  refine ⟨h1, ?_⟩
  simp only [Int32.lt_iff_toInt_lt] at h2 ⊢
  have e1 : (255 : Int32).toInt = 255 := by decide
  have e2 : (65535 : Int32).toInt = 65535 := by decide
  omega
theorem own_one {x : Int32} (h : ¬ x < (0 : Int32) ∧ ¬ (255 : Int32) < x) : ∀ c ∈ [x], ¬ c < 0 ∧ ¬ (255 : Int32) < c := fun c hc => by
  simp only [List.mem_cons, List.not_mem_nil, or_false] at hc
  rw [hc]
  exact h
theorem own_nil : ∀ c ∈ ([] : List Int32), ¬ c < 0 ∧ ¬ (255 : Int32) < c := fun c hc => by cases hc
theorem own_getD (l : List Int32) (j : Nat) : (l.map Value.int).getD j (.int 0) = .int (l.getD j 0) := by
  simp only [List.getD_eq_getElem?_getD, List.getElem?_map]
  cases l[j]? <;> rfl
theorem pd__28J_29Ljava_2flang_2fLong_3b : parseMethodDescriptor "(J)Ljava/lang/Long;" = some ⟨[.long], some (.object "java/lang/Long")⟩ := by decide +kernel
theorem pd__28Ljava_2flang_2fString_3bLjava_2flang_2fString_3bLjava_2flang_2fString_3bLjava_2flang_2fLong_3bLjava_2flang_2fString_3bLjava_2flang_2fString_3bZ_29V : parseMethodDescriptor "(Ljava/lang/String;Ljava/lang/String;Ljava/lang/String;Ljava/lang/Long;Ljava/lang/String;Ljava/lang/String;Z)V" = some ⟨[(.object "java/lang/String"), (.object "java/lang/String"), (.object "java/lang/String"), (.object "java/lang/Long"), (.object "java/lang/String"), (.object "java/lang/String"), .boolean], none⟩ := by decide +kernel
theorem pd__28C_29Ljava_2flang_2fString_3b : parseMethodDescriptor "(C)Ljava/lang/String;" = some ⟨[.char], some (.object "java/lang/String")⟩ := by decide +kernel
theorem pd__28Ljava_2flang_2fString_3bIIC_29Ljava_2flang_2fString_3b : parseMethodDescriptor "(Ljava/lang/String;IIC)Ljava/lang/String;" = some ⟨[(.object "java/lang/String"), .int, .int, .char], some (.object "java/lang/String")⟩ := by decide +kernel
theorem pd__28II_29I : parseMethodDescriptor "(II)I" = some ⟨[.int, .int], some .int⟩ := by decide +kernel
theorem ef_law (m : MethodId) (sel : Int32) (pos : Int32) (ch : Int32) (flag : Int32) (lng : Int64) : entryFrame m #[(.int sel), (.int pos), (.int ch), (.int flag), (.long lng)] maxLocals = mkF m 0 #[iv sel, iv pos, iv ch, iv flag, .val (.long lng), .second, .unset, .unset, .unset, .unset, .unset, .unset, .unset, .unset, .unset] [] := by
  first | (simp [entryFrame, mkF, argsToLocals, Value.category, maxLocals]; done) | rfl
def Q_law (Z : State) (sel : Int32) (pos : Int32) (ch : Int32) (flag : Int32) (lng : Int64) (csz : Int32) (fm : Value) (la : Addr) (lc : Cell) (h0 : Heap) (n0 : Nat) (v : Option Value) (h : Heap) (L : List Loc) : Prop := v = some (.int 1) ∧ Fr n0 L
set_option maxRecDepth 65536 in
set_option maxHeartbeats 40000000 in
theorem rm_law (l : Launch) (Z : State) (a0 : Array Value) (hw : ∀ d ∈ tables_1, d.before a0 Z = true) (ws : List Jvm.Cond) (sel : Int32) (pos : Int32) (ch : Int32) (flag : Int32) (lng : Int64) (csz : Int32) (fm : Value) (la : Addr) (lc : Cell) (h0 : Heap) (n0 : Nat) (O0 : Old Z n0 h0) (S_CS : Sta Z Z.heap "java/lang/String" "COMPACT_STRINGS" "Z" (.int csz)) (hcs : ¬ csz = (0 : Int32)) (S_IO : Sta Z Z.heap "jdk/internal/util/Preconditions" "SIOOBE_FORMATTER" "Ljava/util/function/BiFunction;" fm) (hio : fm.isRef = true) (S_lcache : Sta Z Z.heap "java/lang/Long$LongCache" "cache" "[Ljava/lang/Long;" (.ref la)) (LX : Bxs Z la lc "java/lang/Long" "J" (256 : Int32) (fun j => .long (j - 128).toInt64)) :
    MetFree l x (head1 (Jvm.Cond.code x code maxLocals ret :: ws) room_1) (fun aq_ Uq_ => aq_ = #[(.int sel), (.int pos), (.int ch), (.int flag), (.long lng)] ∧ Z.Warmed39 Uq_.vm ∧ Uq_.heap = h0 ∧ CHv Z own_EL Uq_.vm h0) (fun _ _ _ _ _ => True) (fun _ Uq_ oq_ Ur_ => ∃ vq_ Lq_, oq_ = .returned vq_ ∧ Q_law Z sel pos ch flag lng csz fm la lc h0 n0 vq_ Ur_.heap Lq_ ∧ CHr Z own_EL Uq_.vm Uq_.heap Ur_.vm Ur_.heap ∧ ReturnedEndW Uq_ oq_ Ur_ Lq_ 26 3216) := by
  refine MetFree.of_bodySF (plainFor_of_name pn_com_2fexample_2ftermflow_2ftermflow_2ffeed_2fLinkIsArtefactPinLaw) hisR ?_
  intro p e s m args below meth c s₁ Bd hml0 hP hK
  obtain ⟨rfl, hZ, hh, hH⟩ := hP
  have W_ : ∀ {d : Jvm.Cond} (i : Nat), tables_1[i]? = some d → d.before a0 Z = true := fun i h => hw _ (List.mem_of_getElem? h)
  have hx := Bd.exec
  have hby := Bd.bytes
  have hml : c.maxLocals = 15 := hml0
  have hown : s.vm.findClass "com/example/termflow/termflow/feed/LinkIsArtefactPinLaw" = some m.cls := findClass_of_methodNamed Bd.named
  have hnm := (name_of_methodNamed Bd.named Bd.method).1
  have X0 : Stand p l e room_1 (s.setVm s.vm) m #[(.int sel), (.int pos), (.int ch), (.int flag), (.long lng)] below meth c s₁ [] 0 0 := Stand.of_body Bd
  have e0 : s₁.heap = h0 := by rw [← hh, Bd.state]; rfl
  have N0 := Fr.nil n0
  have K0 := Keep.refl h0 []
  have hS : s.Since s.vm s.heap.size := (State.WarmedH.refl s).since _
  have hkS : s.heap.size ≤ h0.size := by rw [hh]; exact Nat.le_refl _
  have hZ : Z.Warmed39 (s.setVm s.vm).vm := hZ
  have hown : (s.setVm s.vm).vm.findClass "com/example/termflow/termflow/feed/LinkIsArtefactPinLaw" = some m.cls := hown
  have own_wS : ∀ a ∈ Bundle.stringAtoms, a.before a0 Z = true := fun d hd => hw d (own_wSm d hd)
  have ew := own_EW Z a0 hw
  have hR := CHr.refl hH
  refine own_GH.start (Q := Q_law Z sel pos ch flag lng csz fm la lc h0 n0) (ef_law m sel pos ch flag lng) ?_
  have hws : ∀ d ∈ StrChars.Road.words, d.before a0 Z = true := fun d hd => hw d (own_hws d hd)
  have tl : ∀ (tl_T : State) (tl_h : Heap) (tl_L : List Loc) (tl_vm : Vm) (tl_k : Nat) (wd : Addr) (md : Int32) (nn : Int32) (dr : Int32) (r : Addr) (t : Addr) (kb : ClassId) (n : Int32) (vs : List Value) (cs : List Int32) (xp : Int32) (hr : Addr) (ot : Value), (Stand p l e room_1 (s.setVm tl_vm) m #[(.int sel), (.int pos), (.int ch), (.int flag), (.long lng)] below meth c tl_T tl_L 16 3100) → (tl_T.heap = tl_h) → (s.Since tl_vm tl_k) → (tl_k ≤ tl_h.size) → (Z.Warmed39 (s.setVm tl_vm).vm) → ((s.setVm tl_vm).vm.findClass "com/example/termflow/termflow/feed/LinkIsArtefactPinLaw" = some m.cls) → (CHv Z own_EL tl_vm tl_h) → (CHr Z own_EL s.vm h0 tl_vm tl_h) → (Old Z n0 tl_h) → (Keep h0 tl_h []) → (Fr n0 tl_L) → (Exa Z tl_h r "java/lang/String") → (Fld Z tl_h r "java/lang/String" "value" "[B" (.ref t)) → (Fld Z tl_h r "java/lang/String" "coder" "B" (.int 0)) → (Arv Z tl_h t kb .byte n vs (.int 0)) → (StrChars.Road.CodA cs 0 n vs) → (∀ c ∈ cs, ¬ c < 0 ∧ ¬ (65535 : Int32) < c) → (cs.length ≤ 4000) → (own_art cs = xp) → (ot.isRef = true) → own_GH Z own_EL p e below s 26 3216 (Q_law Z sel pos ch flag lng csz fm la lc h0 n0) tl_T (mkF m 199 #[iv sel, iv pos, iv ch, iv flag, .val (.long lng), .second, rv wd, iv md, iv nn, iv dr, rv r, iv xp, rv hr, .val ot, .unset] []) := by
    intro tl_T tl_h tl_L tl_vm tl_k wd md nn dr r t kb n vs cs xp hr ot tl_X tl_e hS hkS hZ hown hH hR tl_O tl_K tl_N tl_F0 tl_F1 tl_F2 tl_F3 hcod hbd hl2 hex rot
    obtain ⟨T1, h1, X1, e1, E1, A1, D1, -, st1⟩ := newO tl_X hx hZ hown (W_ 90 rfl) (W_ 91 rfl) (W_ 92 rfl) tl_e (g := (mkF m 199 #[iv sel, iv pos, iv ch, iv flag, .val (.long lng), .second, rv wd, iv md, iv nn, iv dr, rv r, iv xp, rv hr, .val ot, .unset] [])) rfl (hb hby at_199) (by decide) (by decide)
    obtain ⟨b1, g1⟩ : ∃ z, z = tl_h.size := ⟨_, rfl⟩
    rw [← g1] at A1 D1 st1
    have ne2 : r ≠ b1 := Nat.ne_of_lt (Nat.lt_of_lt_of_le tl_F0.lt (Nat.le_of_eq g1.symm))
    have ne3 : t ≠ b1 := Nat.ne_of_lt (Nat.lt_of_lt_of_le tl_F3.lt (Nat.le_of_eq g1.symm))
    have g4 : n0 ≤ b1 := Nat.le_trans tl_O.le (Nat.le_of_eq g1.symm)
    have z5 : h0.size ≤ b1 := Nat.le_trans tl_K.1 (Nat.le_of_eq g1.symm)
    have sf6 : Safe Z own_EL tl_vm tl_h b1 := Safe.new (Nat.le_of_eq g1.symm)
    have hkS := Nat.le_trans hkS E1.1
    have sf7 := Safe.ext E1 hH sf6
    have hR := hR.trans (CHr.ext E1 hH)
    have hH := CHv.ext E1 hH
    have F8 := tl_F0.ext E1
    have F9 := tl_F1.ext E1
    have F10 := tl_F2.ext E1
    have F11 := tl_F3.ext E1
    have O12 := tl_O.ext E1
    have K13 := tl_K.ext E1
    have F14 : Fld Z h1 b1 "com/example/termflow/termflow/feed/Link" "rel" "Ljava/lang/String;" .null := D1 (Or.inr (W_ 129 rfl)) (ty := (.object "java/lang/String")) (by decide)
    have F15 : Fld Z h1 b1 "com/example/termflow/termflow/feed/Link" "href" "Ljava/lang/String;" .null := D1 (Or.inr (W_ 131 rfl)) (ty := (.object "java/lang/String")) (by decide)
    have F16 : Fld Z h1 b1 "com/example/termflow/termflow/feed/Link" "type" "Ljava/lang/String;" .null := D1 (Or.inr (W_ 133 rfl)) (ty := (.object "java/lang/String")) (by decide)
    have F17 : Fld Z h1 b1 "com/example/termflow/termflow/feed/Link" "length" "Ljava/lang/Long;" .null := D1 (Or.inr (W_ 135 rfl)) (ty := (.object "java/lang/Long")) (by decide)
    have F18 : Fld Z h1 b1 "com/example/termflow/termflow/feed/Link" "sha256" "Ljava/lang/String;" .null := D1 (Or.inr (W_ 137 rfl)) (ty := (.object "java/lang/String")) (by decide)
    have F19 : Fld Z h1 b1 "com/example/termflow/termflow/feed/Link" "md5" "Ljava/lang/String;" .null := D1 (Or.inr (W_ 139 rfl)) (ty := (.object "java/lang/String")) (by decide)
    have F20 : Fld Z h1 b1 "com/example/termflow/termflow/feed/Link" "validated" "Z" (.int 0) := D1 (Or.inr (W_ 141 rfl)) (ty := .boolean) (by decide)
    refine own_GH.st (T' := T1) 202 [(.ref b1)] st1 ?_
    refine own_GH.sk 203 [(.ref b1), (.ref b1)] (fun _ kq => XS.dup X1.here hx rfl (hb hby at_202) rfl rfl kq) ?_
    refine own_GH.sk 205 [(.ref r), (.ref b1), (.ref b1)] (fun _ kq => XS.aload X1.here hx rfl (hb hby at_203) rfl rfl kq) ?_
    refine own_GH.sk 207 [(.ref hr), (.ref r), (.ref b1), (.ref b1)] (fun _ kq => XS.aload X1.here hx rfl (hb hby at_205) rfl rfl kq) ?_
    refine own_GH.sk 209 [ot, (.ref hr), (.ref r), (.ref b1), (.ref b1)] (fun _ kq => XS.aload X1.here hx rfl (hb hby at_207) rfl rot kq) ?_
    refine own_GH.sk 211 [(.long lng), ot, (.ref hr), (.ref r), (.ref b1), (.ref b1)] (fun _ kq => XS.lload X1.here hx rfl (hb hby at_209) rfl kq) ?_
    obtain ⟨_, _, ⟨T21, L21, k21, n21⟩, -, X21, ⟨Lc21, hQ21, l21, y21, z21⟩, st21⟩ := Jvm.LawKit.callS X1 hx (y := own_y4) hown (mvT hZ (W_ 93 rfl)) (mvT hZ (W_ 94 rfl)) (mvT hZ (W_ 95 rfl)) (mvT hZ (W_ 96 rfl)) (by decide) (backOf (W := 5) (rm_lvalueOf l Z a0 hw [] lng la lc h1 n0 O12 S_lcache LX) hZ (W_ 96 rfl) (W_ 95 rfl) (by decide) (by decide)) (g := (mkF m 211 #[iv sel, iv pos, iv ch, iv flag, .val (.long lng), .second, rv wd, iv md, iv nn, iv dr, rv r, iv xp, rv hr, .val ot, .unset] [(.long lng), ot, (.ref hr), (.ref r), (.ref b1), (.ref b1)])) rfl (by rw [hml]; rfl) (argsL := [(.long lng)]) (rest := [ot, (.ref hr), (.ref r), (.ref b1), (.ref b1)]) (lenOf pd__28J_29Ljava_2flang_2fLong_3b rfl) rfl (by show 2 * 0 + (List.map (fun v => Value.category v) [ot, (.ref hr), (.ref r), (.ref b1), (.ref b1)]).sum ≤ 5; simp only [List.map_cons, List.map_nil, List.sum_cons, List.sum_nil, own_cat rot]; exact Nat.le_of_eq rfl) (hb hby at_211) (fun _ _ => ⟨rfl, e1, (by decide : 17 + 1 ≤ _), (by decide : 3107 + 1 ≤ _)⟩)
    dsimp only [Pt.U, Pt.locs, Pt.cells, Pt.slots] at X21 l21 y21 z21 st21 hQ21
    subst l21 y21 z21
    obtain ⟨b22, rfl, Nq21, P23, P24⟩ := hQ21
    have N21 := Fr.app tl_N Nq21
    have hkS := Nat.le_trans hkS P23.1
    have sf25 := Safe.keep P23 sf0 hH sf7
    have hR := hR.trans (CHr.keep P23 sf0 hH)
    have hH := CHv.keep P23 sf0 hH
    have F26 := F8.keep P23
    have F27 := F9.keep P23 nin0
    have F28 := F10.keep P23 nin0
    have F29 := F11.keep P23 nin0
    have F30 := A1.keep P23
    have F31 := F14.keep P23 nin0
    have F32 := F15.keep P23 nin0
    have F33 := F16.keep P23 nin0
    have F34 := F17.keep P23 nin0
    have F35 := F18.keep P23 nin0
    have F36 := F19.keep P23 nin0
    have F37 := F20.keep P23 nin0
    have O38 := O12.keep P23 all0
    have K39 := K13.trans P23 all0
    refine own_GH.st (T' := T21) 214 [(.ref b22), ot, (.ref hr), (.ref r), (.ref b1), (.ref b1)] (fun _ kq => st21 _ kq) ?_
    refine own_GH.sk 216 [ot, (.ref b22), ot, (.ref hr), (.ref r), (.ref b1), (.ref b1)] (fun _ kq => XS.aload X21.here hx rfl (hb hby at_214) rfl rot kq) ?_
    refine own_GH.sk 218 [ot, ot, (.ref b22), ot, (.ref hr), (.ref r), (.ref b1), (.ref b1)] (fun _ kq => XS.aload X21.here hx rfl (hb hby at_216) rfl rot kq) ?_
    refine own_GH.sk 219 [(.int flag), ot, ot, (.ref b22), ot, (.ref hr), (.ref r), (.ref b1), (.ref b1)] (fun _ kq => XS.iloadN X21.here hx rfl (hb hby at_218) rfl kq) ?_
    refine own_GH.sk 220 [(.int 1), (.int flag), ot, ot, (.ref b22), ot, (.ref hr), (.ref r), (.ref b1), (.ref b1)] (fun _ kq => XS.iconst X21.here hx rfl (hb hby at_219) kq) ?_
    refine own_GH.sk 221 [(.int (flag &&& (1 : Int32))), ot, ot, (.ref b22), ot, (.ref hr), (.ref r), (.ref b1), (.ref b1)] (fun _ kq => XS.iand X21.here hx rfl (hb hby at_220) rfl kq) ?_
    rcases Classical.em ((flag &&& (1 : Int32)) = (0 : Int32)) with hc221 | hc221
    · refine own_GH.sk 228 [ot, ot, (.ref b22), ot, (.ref hr), (.ref r), (.ref b1), (.ref b1)] (fun _ kq => XS.ifYes X21.here hx rfl (pc0 := 221) (pc' := 228) rfl (hb hby at_221) rfl ((if0 _ _).trans (teq hc221).1) (by decide) (by decide) kq) ?_
      refine own_GH.sk 229 [(.int 0), ot, ot, (.ref b22), ot, (.ref hr), (.ref r), (.ref b1), (.ref b1)] (fun _ kq => XS.iconst X21.here hx rfl (hb hby at_228) kq) ?_
      obtain ⟨_, _, ⟨T40, L40, k40, n40⟩, -, X40, sS40, gS40, ⟨Lc40, hQ40, l40, y40, z40, ch40⟩, st40⟩ := X21.specialBackS hx (y := own_y18) rfl hown (mvT hZ (W_ 113 rfl)) (mvT hZ (W_ 114 rfl)) (mvT hZ (W_ 115 rfl)) (by decide) (backOfSH (vm0 := tl_vm) (W := 1) (rm_linkinit l Z a0 hw [] b1 r hr ot b22 ot ot (0 : Int32) T21.heap n0 O38 rot rot rot F30 F31 F32 F33 F34 F35 F36 F37 g4) hZ (W_ 115 rfl) (W_ 92 rfl) (by decide) (by decide) ew hH) (g := (mkF m 229 #[iv sel, iv pos, iv ch, iv flag, .val (.long lng), .second, rv wd, iv md, iv nn, iv dr, rv r, iv xp, rv hr, .val ot, .unset] [(.int 0), ot, ot, (.ref b22), ot, (.ref hr), (.ref r), (.ref b1), (.ref b1)])) rfl (by rw [hml]; rfl) (Steps.refl _) (a := b1) (argsL := [(.ref r), (.ref hr), ot, (.ref b22), ot, ot, (.int 0)]) (rest := [(.ref b1)]) (lenOf pd__28Ljava_2flang_2fString_3bLjava_2flang_2fString_3bLjava_2flang_2fString_3bLjava_2flang_2fLong_3bLjava_2flang_2fString_3bLjava_2flang_2fString_3bZ_29V rfl) rfl (by show 2 * 0 + _ ≤ _; exact Nat.le_of_eq rfl) (hb hby at_229) (fun _ _ => ⟨rfl, rfl, (by decide : 18 + 4 ≤ _), (by decide : 3108 + 36 ≤ _)⟩)
      dsimp only [Pt.U, Pt.locs, Pt.cells, Pt.slots] at X40 l40 y40 z40 st40 hQ40 sS40 gS40 ch40
      subst l40 y40 z40
      obtain ⟨X40, hS, hZ, hown⟩ := rebS (vm0 := tl_vm) hS hkS X40 sS40 gS40 hZ hown
      have sf41 := ch40.safe F30.lt sf25
      have hR := hR.trans ch40
      have hH := ch40.1
      obtain ⟨rfl, Nq40, P42, P43, P44⟩ := hQ40
      have N40 := Fr.app N21 Nq40
      have hkS := Nat.le_trans hkS P42.1
      have F45 := F26.keep P42
      have F46 := F27.keep P42 (ninS ne2 nin0)
      have F47 := F28.keep P42 (ninS ne2 nin0)
      have F48 := F29.keep P42 (ninS ne3 nin0)
      have F49 := F30.keep P42
      have F50 := P24.keep P42
      have O51 := O38.keep P42 (allS g4 all0)
      have K52 := K39.trans P42 (allS (Or.inr z5) all0)
      have hkS : T40.heap.size ≤ T40.heap.size := Nat.le_refl _
      refine own_GH.st (T' := T40) 232 [(.ref b1)] (fun _ kq => st40.trans kq) ?_
      refine own_GH.si 234 [] (fun _ kq => XS.astore X40.here hx rfl (hb hby at_232) rfl rfl (l' := #[iv sel, iv pos, iv ch, iv flag, .val (.long lng), .second, rv wd, iv md, iv nn, iv dr, rv r, iv xp, rv hr, .val ot, rv b1]) rfl kq) ?_
      refine own_GH.sk 236 [(.ref b1)] (fun _ kq => XS.aload X40.here hx rfl (hb hby at_234) rfl rfl kq) ?_
      obtain ⟨cq53, kq53, q53a, q53b, q53c⟩ := isOf hZ rfl P43
      obtain ⟨_, _, ⟨T53, L53, k53, n53⟩, -, X53, sS53, gS53, ⟨Lc53, hQ53, l53, y53, z53, ch53⟩, st53⟩ := X40.virtualBackS hx (y := own_y19) (z := own_y19) hown (mvT hZ (W_ 142 rfl)) (mvT hZ (W_ 143 rfl)) (notFace_of_selects (args := #[]) (mvT hZ (W_ 145 rfl))) (mvT hZ (W_ 145 rfl)) (mvT hZ (W_ 144 rfl)) (by decide) (backOfSH (vm0 := T40.vm) (W := 0) (rm_isart l Z a0 hw [] b1 csz r t kb n vs cs T40.heap n0 O51 S_CS hcs P43 P44 F45 F46 F47 F48 hcod hbd hl2) hZ (W_ 146 rfl) (W_ 92 rfl) (by decide) (by decide) ew hH) q53a q53c (g := (mkF m 236 #[iv sel, iv pos, iv ch, iv flag, .val (.long lng), .second, rv wd, iv md, iv nn, iv dr, rv r, iv xp, rv hr, .val ot, rv b1] [(.ref b1)])) rfl (by rw [hml]; rfl) (Steps.refl _) (argsL := []) (rest := []) (lenOf pd__28_29Z rfl) rfl (by show 2 * 0 + _ ≤ _; exact Nat.le_of_eq rfl) (hb hby at_236) (fun _ _ => ⟨rfl, rfl, (by decide : 22 + 4 ≤ _), (by decide : 3144 + 72 ≤ _)⟩)
      dsimp only [Pt.U, Pt.locs, Pt.cells, Pt.slots] at X53 l53 y53 z53 st53 hQ53 sS53 gS53 ch53
      subst l53 y53 z53
      obtain ⟨X53, hS, hZ, hown⟩ := rebS (vm0 := T40.vm) hS hkS X53 sS53 gS53 hZ hown
      have sf54 := ch53.safe P43.lt sf41
      have hR := hR.trans ch53
      have hH := ch53.1
      obtain ⟨rfl, Nq53, P55⟩ := hQ53
      have N53 := Fr.app N40 Nq53
      have hkS := Nat.le_trans hkS P55.1
      have F56 := F45.keep P55
      have F57 := F46.keep P55 nin0
      have F58 := F47.keep P55 nin0
      have F59 := F48.keep P55 nin0
      have F60 := P43.keep P55
      have F61 := F50.keep P55
      have F62 := P44.keep P55 nin0
      have O63 := O51.keep P55 all0
      have K64 := K52.trans P55 all0
      have hkS : T53.heap.size ≤ T53.heap.size := Nat.le_refl _
      refine own_GH.st (T' := T53) 239 [(.int (own_art cs))] (fun _ kq => st53.trans kq) ?_
      refine own_GH.sk 241 [(.int xp), (.int (own_art cs))] (fun _ kq => XS.iload X53.here hx rfl (hb hby at_239) rfl kq) ?_
      have hc241 : (own_art cs) = xp := hex
      refine own_GH.sk 244 [] (fun _ kq => XS.icmpNo X53.here hx rfl (hb hby at_241) rfl (teq hc241).2 kq) ?_
      refine own_GH.sk 245 [(.int 1)] (fun _ kq => XS.iconst X53.here hx rfl (hb hby at_244) kq) ?_
      refine own_GH.sk 249 [(.int 1)] (fun _ kq => XS.goto X53.here hx rfl (pc0 := 245) (pc' := 249) rfl (hb hby at_245) (by decide) (by decide) kq) ?_
      exact own_retH X53 hS rfl hkS hZ ew hH hh hR (v := some (.int 1)) (fun h => by rw [Bd.returns] at h; cases h) Bd.notSynchronized ⟨rfl, N53⟩ (by decide) (by decide) (fun fs hr => retN X53 hx (t := .boolean) Bd.returns (by simp) (hb hby at_249) hr)
    · refine own_GH.sk 224 [ot, ot, (.ref b22), ot, (.ref hr), (.ref r), (.ref b1), (.ref b1)] (fun _ kq => XS.ifNo X21.here hx rfl (hb hby at_221) rfl ((if0 _ _).trans (feq hc221).1) kq) ?_
      refine own_GH.sk 225 [(.int 1), ot, ot, (.ref b22), ot, (.ref hr), (.ref r), (.ref b1), (.ref b1)] (fun _ kq => XS.iconst X21.here hx rfl (hb hby at_224) kq) ?_
      refine own_GH.sk 229 [(.int 1), ot, ot, (.ref b22), ot, (.ref hr), (.ref r), (.ref b1), (.ref b1)] (fun _ kq => XS.goto X21.here hx rfl (pc0 := 225) (pc' := 229) rfl (hb hby at_225) (by decide) (by decide) kq) ?_
      obtain ⟨_, _, ⟨T65, L65, k65, n65⟩, -, X65, sS65, gS65, ⟨Lc65, hQ65, l65, y65, z65, ch65⟩, st65⟩ := X21.specialBackS hx (y := own_y18) rfl hown (mvT hZ (W_ 113 rfl)) (mvT hZ (W_ 114 rfl)) (mvT hZ (W_ 115 rfl)) (by decide) (backOfSH (vm0 := tl_vm) (W := 1) (rm_linkinit l Z a0 hw [] b1 r hr ot b22 ot ot (1 : Int32) T21.heap n0 O38 rot rot rot F30 F31 F32 F33 F34 F35 F36 F37 g4) hZ (W_ 115 rfl) (W_ 92 rfl) (by decide) (by decide) ew hH) (g := (mkF m 229 #[iv sel, iv pos, iv ch, iv flag, .val (.long lng), .second, rv wd, iv md, iv nn, iv dr, rv r, iv xp, rv hr, .val ot, .unset] [(.int 1), ot, ot, (.ref b22), ot, (.ref hr), (.ref r), (.ref b1), (.ref b1)])) rfl (by rw [hml]; rfl) (Steps.refl _) (a := b1) (argsL := [(.ref r), (.ref hr), ot, (.ref b22), ot, ot, (.int 1)]) (rest := [(.ref b1)]) (lenOf pd__28Ljava_2flang_2fString_3bLjava_2flang_2fString_3bLjava_2flang_2fString_3bLjava_2flang_2fLong_3bLjava_2flang_2fString_3bLjava_2flang_2fString_3bZ_29V rfl) rfl (by show 2 * 0 + _ ≤ _; exact Nat.le_of_eq rfl) (hb hby at_229) (fun _ _ => ⟨rfl, rfl, (by decide : 18 + 4 ≤ _), (by decide : 3108 + 36 ≤ _)⟩)
      dsimp only [Pt.U, Pt.locs, Pt.cells, Pt.slots] at X65 l65 y65 z65 st65 hQ65 sS65 gS65 ch65
      subst l65 y65 z65
      obtain ⟨X65, hS, hZ, hown⟩ := rebS (vm0 := tl_vm) hS hkS X65 sS65 gS65 hZ hown
      have sf66 := ch65.safe F30.lt sf25
      have hR := hR.trans ch65
      have hH := ch65.1
      obtain ⟨rfl, Nq65, P67, P68, P69⟩ := hQ65
      have N65 := Fr.app N21 Nq65
      have hkS := Nat.le_trans hkS P67.1
      have F70 := F26.keep P67
      have F71 := F27.keep P67 (ninS ne2 nin0)
      have F72 := F28.keep P67 (ninS ne2 nin0)
      have F73 := F29.keep P67 (ninS ne3 nin0)
      have F74 := F30.keep P67
      have F75 := P24.keep P67
      have O76 := O38.keep P67 (allS g4 all0)
      have K77 := K39.trans P67 (allS (Or.inr z5) all0)
      have hkS : T65.heap.size ≤ T65.heap.size := Nat.le_refl _
      refine own_GH.st (T' := T65) 232 [(.ref b1)] (fun _ kq => st65.trans kq) ?_
      refine own_GH.si 234 [] (fun _ kq => XS.astore X65.here hx rfl (hb hby at_232) rfl rfl (l' := #[iv sel, iv pos, iv ch, iv flag, .val (.long lng), .second, rv wd, iv md, iv nn, iv dr, rv r, iv xp, rv hr, .val ot, rv b1]) rfl kq) ?_
      refine own_GH.sk 236 [(.ref b1)] (fun _ kq => XS.aload X65.here hx rfl (hb hby at_234) rfl rfl kq) ?_
      obtain ⟨cq78, kq78, q78a, q78b, q78c⟩ := isOf hZ rfl P68
      obtain ⟨_, _, ⟨T78, L78, k78, n78⟩, -, X78, sS78, gS78, ⟨Lc78, hQ78, l78, y78, z78, ch78⟩, st78⟩ := X65.virtualBackS hx (y := own_y19) (z := own_y19) hown (mvT hZ (W_ 142 rfl)) (mvT hZ (W_ 143 rfl)) (notFace_of_selects (args := #[]) (mvT hZ (W_ 145 rfl))) (mvT hZ (W_ 145 rfl)) (mvT hZ (W_ 144 rfl)) (by decide) (backOfSH (vm0 := T65.vm) (W := 0) (rm_isart l Z a0 hw [] b1 csz r t kb n vs cs T65.heap n0 O76 S_CS hcs P68 P69 F70 F71 F72 F73 hcod hbd hl2) hZ (W_ 146 rfl) (W_ 92 rfl) (by decide) (by decide) ew hH) q78a q78c (g := (mkF m 236 #[iv sel, iv pos, iv ch, iv flag, .val (.long lng), .second, rv wd, iv md, iv nn, iv dr, rv r, iv xp, rv hr, .val ot, rv b1] [(.ref b1)])) rfl (by rw [hml]; rfl) (Steps.refl _) (argsL := []) (rest := []) (lenOf pd__28_29Z rfl) rfl (by show 2 * 0 + _ ≤ _; exact Nat.le_of_eq rfl) (hb hby at_236) (fun _ _ => ⟨rfl, rfl, (by decide : 22 + 4 ≤ _), (by decide : 3144 + 72 ≤ _)⟩)
      dsimp only [Pt.U, Pt.locs, Pt.cells, Pt.slots] at X78 l78 y78 z78 st78 hQ78 sS78 gS78 ch78
      subst l78 y78 z78
      obtain ⟨X78, hS, hZ, hown⟩ := rebS (vm0 := T65.vm) hS hkS X78 sS78 gS78 hZ hown
      have sf79 := ch78.safe P68.lt sf66
      have hR := hR.trans ch78
      have hH := ch78.1
      obtain ⟨rfl, Nq78, P80⟩ := hQ78
      have N78 := Fr.app N65 Nq78
      have hkS := Nat.le_trans hkS P80.1
      have F81 := F70.keep P80
      have F82 := F71.keep P80 nin0
      have F83 := F72.keep P80 nin0
      have F84 := F73.keep P80 nin0
      have F85 := P68.keep P80
      have F86 := F75.keep P80
      have F87 := P69.keep P80 nin0
      have O88 := O76.keep P80 all0
      have K89 := K77.trans P80 all0
      have hkS : T78.heap.size ≤ T78.heap.size := Nat.le_refl _
      refine own_GH.st (T' := T78) 239 [(.int (own_art cs))] (fun _ kq => st78.trans kq) ?_
      refine own_GH.sk 241 [(.int xp), (.int (own_art cs))] (fun _ kq => XS.iload X78.here hx rfl (hb hby at_239) rfl kq) ?_
      have hc241 : (own_art cs) = xp := hex
      refine own_GH.sk 244 [] (fun _ kq => XS.icmpNo X78.here hx rfl (hb hby at_241) rfl (teq hc241).2 kq) ?_
      refine own_GH.sk 245 [(.int 1)] (fun _ kq => XS.iconst X78.here hx rfl (hb hby at_244) kq) ?_
      refine own_GH.sk 249 [(.int 1)] (fun _ kq => XS.goto X78.here hx rfl (pc0 := 245) (pc' := 249) rfl (hb hby at_245) (by decide) (by decide) kq) ?_
      exact own_retH X78 hS rfl hkS hZ ew hH hh hR (v := some (.int 1)) (fun h => by rw [Bd.returns] at h; cases h) Bd.notSynchronized ⟨rfl, N78⟩ (by decide) (by decide) (fun fs hr => retN X78 hx (t := .boolean) Bd.returns (by simp) (hb hby at_249) hr)
  have ta : ∀ (ta_T : State) (ta_h : Heap) (ta_L : List Loc) (ta_vm : Vm) (ta_k : Nat) (wd : Addr) (md : Int32) (nn : Int32) (dr : Int32) (r : Addr) (t : Addr) (kb : ClassId) (n : Int32) (vs : List Value) (cs : List Int32) (xp : Int32) (u1 : Int32) (u2 : Int32), (Stand p l e room_1 (s.setVm ta_vm) m #[(.int sel), (.int pos), (.int ch), (.int flag), (.long lng)] below meth c ta_T ta_L 14 3000) → (ta_T.heap = ta_h) → (s.Since ta_vm ta_k) → (ta_k ≤ ta_h.size) → (Z.Warmed39 (s.setVm ta_vm).vm) → ((s.setVm ta_vm).vm.findClass "com/example/termflow/termflow/feed/LinkIsArtefactPinLaw" = some m.cls) → (CHv Z own_EL ta_vm ta_h) → (CHr Z own_EL s.vm h0 ta_vm ta_h) → (Old Z n0 ta_h) → (Keep h0 ta_h []) → (Fr n0 ta_L) → (Exa Z ta_h r "java/lang/String") → (Fld Z ta_h r "java/lang/String" "value" "[B" (.ref t)) → (Fld Z ta_h r "java/lang/String" "coder" "B" (.int 0)) → (Arv Z ta_h t kb .byte n vs (.int 0)) → (StrChars.Road.CodA cs 0 n vs) → (∀ c ∈ cs, ¬ c < 0 ∧ ¬ (65535 : Int32) < c) → (cs.length ≤ 4000) → (own_art cs = xp) → own_GH Z own_EL p e below s 26 3216 (Q_law Z sel pos ch flag lng csz fm la lc h0 n0) ta_T (mkF m 172 #[iv sel, iv pos, iv ch, iv flag, .val (.long lng), .second, rv wd, iv md, iv nn, iv dr, rv r, iv xp, iv u1, iv u2, .unset] []) := by
    intro ta_T ta_h ta_L ta_vm ta_k wd md nn dr r t kb n vs cs xp u1 u2 ta_X ta_e hS hkS hZ hown hH hR ta_O ta_K ta_N ta_F0 ta_F1 ta_F2 ta_F3 hcod hbd hl2 hex
    refine own_GH.sk 173 [(.int flag)] (fun _ kq => XS.iloadN ta_X.here hx rfl (hb hby at_172) rfl kq) ?_
    refine own_GH.sk 174 [(.int 4), (.int flag)] (fun _ kq => XS.iconst ta_X.here hx rfl (hb hby at_173) kq) ?_
    refine own_GH.sk 175 [(.int ((flag.toUInt32 >>> ((4 : Int32) &&& 31).toUInt32).toInt32))] (fun _ kq => XS.iushr ta_X.here hx rfl (hb hby at_174) rfl kq) ?_
    refine own_GH.sk 178 [(.int 255), (.int ((flag.toUInt32 >>> ((4 : Int32) &&& 31).toUInt32).toInt32))] (fun _ kq => XS.sipush ta_X.here hx rfl (hb hby at_175) kq) ?_
    refine own_GH.sk 179 [(.int (((flag.toUInt32 >>> ((4 : Int32) &&& 31).toUInt32).toInt32) &&& (255 : Int32)))] (fun _ kq => XS.iand ta_X.here hx rfl (hb hby at_178) rfl kq) ?_
    refine own_GH.sk 180 [(.int ((((flag.toUInt32 >>> ((4 : Int32) &&& 31).toUInt32).toInt32) &&& (255 : Int32)).toUInt32.toUInt16.toUInt32.toInt32))] (fun _ kq => XS.i2c ta_X.here hx rfl (hb hby at_179) rfl kq) ?_
    obtain ⟨fc, hfc⟩ : ∃ z, z = ((((flag.toUInt32 >>> ((4 : Int32) &&& 31).toUInt32).toInt32) &&& (255 : Int32)).toUInt32.toUInt16.toUInt32.toInt32) := ⟨_, rfl⟩
    refine own_GH.cast (g' := (mkF m 180 #[iv sel, iv pos, iv ch, iv flag, .val (.long lng), .second, rv wd, iv md, iv nn, iv dr, rv r, iv xp, iv u1, iv u2, .unset] [(.int fc)])) (by rw [hfc]) ?_
    have hf2 : ¬ (255 : Int32) < fc := by rw [hfc]; exact (own_chrb _).2
    obtain ⟨_, _, ⟨T90, L90, k90, n90⟩, -, X90, ⟨Lc90, hQ90, l90, y90, z90⟩, st90⟩ := Jvm.LawKit.callS ta_X hx (y := own_y15) hown (mvT hZ (W_ 77 rfl)) (mvT hZ (W_ 78 rfl)) (mvT hZ (W_ 1 rfl)) (mvT hZ (W_ 79 rfl)) (by decide) (backOf (W := 0) (rm_vofc l Z a0 hw [] fc csz ta_h n0 ta_O S_CS hcs hf2) hZ (W_ 79 rfl) (W_ 1 rfl) (by decide) (by decide)) (g := (mkF m 180 #[iv sel, iv pos, iv ch, iv flag, .val (.long lng), .second, rv wd, iv md, iv nn, iv dr, rv r, iv xp, iv u1, iv u2, .unset] [(.int fc)])) rfl (by rw [hml]; rfl) (argsL := [(.int fc)]) (rest := []) (lenOf pd__28C_29Ljava_2flang_2fString_3b rfl) rfl (by show 2 * 0 + _ ≤ _; exact Nat.le_of_eq rfl) (hb hby at_180) (fun _ _ => ⟨rfl, ta_e, (by decide : 14 + 2 ≤ _), (by decide : 3000 + 5 ≤ _)⟩)
    dsimp only [Pt.U, Pt.locs, Pt.cells, Pt.slots] at X90 l90 y90 z90 st90 hQ90
    subst l90 y90 z90
    obtain ⟨b91, b92, x93, rfl, Nq90, P94, P95, P96, P97, P98, P99, P100⟩ := hQ90
    have N90 := Fr.app ta_N Nq90
    have ne101 : r ≠ b91 := Nat.ne_of_lt (Nat.lt_of_lt_of_le ta_F0.lt P95)
    have ne102 : t ≠ b91 := Nat.ne_of_lt (Nat.lt_of_lt_of_le ta_F3.lt P95)
    have g103 : n0 ≤ b91 := Nat.le_trans ta_O.le P95
    have z104 : h0.size ≤ b91 := Nat.le_trans ta_K.1 P95
    have sf105 : Safe Z own_EL ta_vm ta_h b91 := Safe.new P95
    have ne106 : r ≠ b92 := Nat.ne_of_lt (Nat.lt_of_lt_of_le ta_F0.lt P96)
    have ne107 : t ≠ b92 := Nat.ne_of_lt (Nat.lt_of_lt_of_le ta_F3.lt P96)
    have g108 : n0 ≤ b92 := Nat.le_trans ta_O.le P96
    have z109 : h0.size ≤ b92 := Nat.le_trans ta_K.1 P96
    have sf110 : Safe Z own_EL ta_vm ta_h b92 := Safe.new P96
    have hkS := Nat.le_trans hkS P94.1
    have sf111 := Safe.keep P94 sf0 hH sf105
    have sf112 := Safe.keep P94 sf0 hH sf110
    have hR := hR.trans (CHr.keep P94 sf0 hH)
    have hH := CHv.keep P94 sf0 hH
    have F113 := ta_F0.keep P94
    have F114 := ta_F1.keep P94 nin0
    have F115 := ta_F2.keep P94 nin0
    have F116 := ta_F3.keep P94 nin0
    have O117 := ta_O.keep P94 all0
    have K118 := ta_K.trans P94 all0
    refine own_GH.st (T' := T90) 183 [(.ref b91)] (fun _ kq => st90 _ kq) ?_
    refine own_GH.si 185 [] (fun _ kq => XS.astore X90.here hx rfl (hb hby at_183) rfl rfl (l' := #[iv sel, iv pos, iv ch, iv flag, .val (.long lng), .second, rv wd, iv md, iv nn, iv dr, rv r, iv xp, rv b91, iv u2, .unset]) rfl kq) ?_
    refine own_GH.sk 186 [(.int flag)] (fun _ kq => XS.iloadN X90.here hx rfl (hb hby at_185) rfl kq) ?_
    refine own_GH.sk 187 [(.int 2), (.int flag)] (fun _ kq => XS.iconst X90.here hx rfl (hb hby at_186) kq) ?_
    refine own_GH.sk 188 [(.int (flag &&& (2 : Int32)))] (fun _ kq => XS.iand X90.here hx rfl (hb hby at_187) rfl kq) ?_
    rcases Classical.em ((flag &&& (2 : Int32)) = (0 : Int32)) with hc188 | hc188
    · refine own_GH.sk 195 [] (fun _ kq => XS.ifYes X90.here hx rfl (pc0 := 188) (pc' := 195) rfl (hb hby at_188) rfl ((if0 _ _).trans (teq hc188).1) (by decide) (by decide) kq) ?_
      refine own_GH.sk 197 [(.ref b91)] (fun _ kq => XS.aload X90.here hx rfl (hb hby at_195) rfl rfl kq) ?_
      refine own_GH.si 199 [] (fun _ kq => XS.astore X90.here hx rfl (hb hby at_197) rfl rfl (l' := #[iv sel, iv pos, iv ch, iv flag, .val (.long lng), .second, rv wd, iv md, iv nn, iv dr, rv r, iv xp, rv b91, rv b91, .unset]) rfl kq) ?_
      exact tl _ _ _ _ _ wd md nn dr r t kb n vs cs xp b91 (.ref b91) (X90.mono (by decide) (by decide)) rfl hS hkS hZ hown hH hR O117 K118 N90 F113 F114 F115 F116 hcod hbd hl2 hex rfl
    · refine own_GH.sk 191 [] (fun _ kq => XS.ifNo X90.here hx rfl (hb hby at_188) rfl ((if0 _ _).trans (feq hc188).1) kq) ?_
      refine own_GH.sk 192 [.null] (fun _ kq => XS.aconstNull X90.here hx rfl (hb hby at_191) kq) ?_
      refine own_GH.sk 197 [.null] (fun _ kq => XS.goto X90.here hx rfl (pc0 := 192) (pc' := 197) rfl (hb hby at_192) (by decide) (by decide) kq) ?_
      refine own_GH.si 199 [] (fun _ kq => XS.astore X90.here hx rfl (hb hby at_197) rfl rfl (l' := #[iv sel, iv pos, iv ch, iv flag, .val (.long lng), .second, rv wd, iv md, iv nn, iv dr, rv r, iv xp, rv b91, .val .null, .unset]) rfl kq) ?_
      exact tl _ _ _ _ _ wd md nn dr r t kb n vs cs xp b91 .null (X90.mono (by decide) (by decide)) rfl hS hkS hZ hown hH hR O117 K118 N90 F113 F114 F115 F116 hcod hbd hl2 hex rfl
  have tb : ∀ (tb_T : State) (tb_h : Heap) (tb_L : List Loc) (tb_vm : Vm) (tb_k : Nat) (wd : Addr) (md : Int32) (nn : Int32) (dr : Int32) (r : Addr) (t : Addr) (kb : ClassId) (n : Int32) (vs : List Value) (cs : List Int32) (xp : Int32), (Stand p l e room_1 (s.setVm tb_vm) m #[(.int sel), (.int pos), (.int ch), (.int flag), (.long lng)] below meth c tb_T tb_L 14 3000) → (tb_T.heap = tb_h) → (s.Since tb_vm tb_k) → (tb_k ≤ tb_h.size) → (Z.Warmed39 (s.setVm tb_vm).vm) → ((s.setVm tb_vm).vm.findClass "com/example/termflow/termflow/feed/LinkIsArtefactPinLaw" = some m.cls) → (CHv Z own_EL tb_vm tb_h) → (CHr Z own_EL s.vm h0 tb_vm tb_h) → (Old Z n0 tb_h) → (Keep h0 tb_h []) → (Fr n0 tb_L) → (Exa Z tb_h r "java/lang/String") → (Fld Z tb_h r "java/lang/String" "value" "[B" (.ref t)) → (Fld Z tb_h r "java/lang/String" "coder" "B" (.int 0)) → (Arv Z tb_h t kb .byte n vs (.int 0)) → (StrChars.Road.CodA cs 0 n vs) → (∀ c ∈ cs, ¬ c < 0 ∧ ¬ (65535 : Int32) < c) → (cs.length ≤ 4000) → (own_art cs = xp) → own_GH Z own_EL p e below s 26 3216 (Q_law Z sel pos ch flag lng csz fm la lc h0 n0) tb_T (mkF m 172 #[iv sel, iv pos, iv ch, iv flag, .val (.long lng), .second, rv wd, iv md, iv nn, iv dr, rv r, iv xp, .unset, .unset, .unset] []) := by
    intro tb_T tb_h tb_L tb_vm tb_k wd md nn dr r t kb n vs cs xp tb_X tb_e hS hkS hZ hown hH hR tb_O tb_K tb_N tb_F0 tb_F1 tb_F2 tb_F3 hcod hbd hl2 hex
    refine own_GH.sk 173 [(.int flag)] (fun _ kq => XS.iloadN tb_X.here hx rfl (hb hby at_172) rfl kq) ?_
    refine own_GH.sk 174 [(.int 4), (.int flag)] (fun _ kq => XS.iconst tb_X.here hx rfl (hb hby at_173) kq) ?_
    refine own_GH.sk 175 [(.int ((flag.toUInt32 >>> ((4 : Int32) &&& 31).toUInt32).toInt32))] (fun _ kq => XS.iushr tb_X.here hx rfl (hb hby at_174) rfl kq) ?_
    refine own_GH.sk 178 [(.int 255), (.int ((flag.toUInt32 >>> ((4 : Int32) &&& 31).toUInt32).toInt32))] (fun _ kq => XS.sipush tb_X.here hx rfl (hb hby at_175) kq) ?_
    refine own_GH.sk 179 [(.int (((flag.toUInt32 >>> ((4 : Int32) &&& 31).toUInt32).toInt32) &&& (255 : Int32)))] (fun _ kq => XS.iand tb_X.here hx rfl (hb hby at_178) rfl kq) ?_
    refine own_GH.sk 180 [(.int ((((flag.toUInt32 >>> ((4 : Int32) &&& 31).toUInt32).toInt32) &&& (255 : Int32)).toUInt32.toUInt16.toUInt32.toInt32))] (fun _ kq => XS.i2c tb_X.here hx rfl (hb hby at_179) rfl kq) ?_
    obtain ⟨fc, hfc⟩ : ∃ z, z = ((((flag.toUInt32 >>> ((4 : Int32) &&& 31).toUInt32).toInt32) &&& (255 : Int32)).toUInt32.toUInt16.toUInt32.toInt32) := ⟨_, rfl⟩
    refine own_GH.cast (g' := (mkF m 180 #[iv sel, iv pos, iv ch, iv flag, .val (.long lng), .second, rv wd, iv md, iv nn, iv dr, rv r, iv xp, .unset, .unset, .unset] [(.int fc)])) (by rw [hfc]) ?_
    have hf2 : ¬ (255 : Int32) < fc := by rw [hfc]; exact (own_chrb _).2
    obtain ⟨_, _, ⟨T119, L119, k119, n119⟩, -, X119, ⟨Lc119, hQ119, l119, y119, z119⟩, st119⟩ := Jvm.LawKit.callS tb_X hx (y := own_y15) hown (mvT hZ (W_ 77 rfl)) (mvT hZ (W_ 78 rfl)) (mvT hZ (W_ 1 rfl)) (mvT hZ (W_ 79 rfl)) (by decide) (backOf (W := 0) (rm_vofc l Z a0 hw [] fc csz tb_h n0 tb_O S_CS hcs hf2) hZ (W_ 79 rfl) (W_ 1 rfl) (by decide) (by decide)) (g := (mkF m 180 #[iv sel, iv pos, iv ch, iv flag, .val (.long lng), .second, rv wd, iv md, iv nn, iv dr, rv r, iv xp, .unset, .unset, .unset] [(.int fc)])) rfl (by rw [hml]; rfl) (argsL := [(.int fc)]) (rest := []) (lenOf pd__28C_29Ljava_2flang_2fString_3b rfl) rfl (by show 2 * 0 + _ ≤ _; exact Nat.le_of_eq rfl) (hb hby at_180) (fun _ _ => ⟨rfl, tb_e, (by decide : 14 + 2 ≤ _), (by decide : 3000 + 5 ≤ _)⟩)
    dsimp only [Pt.U, Pt.locs, Pt.cells, Pt.slots] at X119 l119 y119 z119 st119 hQ119
    subst l119 y119 z119
    obtain ⟨b120, b121, x122, rfl, Nq119, P123, P124, P125, P126, P127, P128, P129⟩ := hQ119
    have N119 := Fr.app tb_N Nq119
    have ne130 : r ≠ b120 := Nat.ne_of_lt (Nat.lt_of_lt_of_le tb_F0.lt P124)
    have ne131 : t ≠ b120 := Nat.ne_of_lt (Nat.lt_of_lt_of_le tb_F3.lt P124)
    have g132 : n0 ≤ b120 := Nat.le_trans tb_O.le P124
    have z133 : h0.size ≤ b120 := Nat.le_trans tb_K.1 P124
    have sf134 : Safe Z own_EL tb_vm tb_h b120 := Safe.new P124
    have ne135 : r ≠ b121 := Nat.ne_of_lt (Nat.lt_of_lt_of_le tb_F0.lt P125)
    have ne136 : t ≠ b121 := Nat.ne_of_lt (Nat.lt_of_lt_of_le tb_F3.lt P125)
    have g137 : n0 ≤ b121 := Nat.le_trans tb_O.le P125
    have z138 : h0.size ≤ b121 := Nat.le_trans tb_K.1 P125
    have sf139 : Safe Z own_EL tb_vm tb_h b121 := Safe.new P125
    have hkS := Nat.le_trans hkS P123.1
    have sf140 := Safe.keep P123 sf0 hH sf134
    have sf141 := Safe.keep P123 sf0 hH sf139
    have hR := hR.trans (CHr.keep P123 sf0 hH)
    have hH := CHv.keep P123 sf0 hH
    have F142 := tb_F0.keep P123
    have F143 := tb_F1.keep P123 nin0
    have F144 := tb_F2.keep P123 nin0
    have F145 := tb_F3.keep P123 nin0
    have O146 := tb_O.keep P123 all0
    have K147 := tb_K.trans P123 all0
    refine own_GH.st (T' := T119) 183 [(.ref b120)] (fun _ kq => st119 _ kq) ?_
    refine own_GH.si 185 [] (fun _ kq => XS.astore X119.here hx rfl (hb hby at_183) rfl rfl (l' := #[iv sel, iv pos, iv ch, iv flag, .val (.long lng), .second, rv wd, iv md, iv nn, iv dr, rv r, iv xp, rv b120, .unset, .unset]) rfl kq) ?_
    refine own_GH.sk 186 [(.int flag)] (fun _ kq => XS.iloadN X119.here hx rfl (hb hby at_185) rfl kq) ?_
    refine own_GH.sk 187 [(.int 2), (.int flag)] (fun _ kq => XS.iconst X119.here hx rfl (hb hby at_186) kq) ?_
    refine own_GH.sk 188 [(.int (flag &&& (2 : Int32)))] (fun _ kq => XS.iand X119.here hx rfl (hb hby at_187) rfl kq) ?_
    rcases Classical.em ((flag &&& (2 : Int32)) = (0 : Int32)) with hc188 | hc188
    · refine own_GH.sk 195 [] (fun _ kq => XS.ifYes X119.here hx rfl (pc0 := 188) (pc' := 195) rfl (hb hby at_188) rfl ((if0 _ _).trans (teq hc188).1) (by decide) (by decide) kq) ?_
      refine own_GH.sk 197 [(.ref b120)] (fun _ kq => XS.aload X119.here hx rfl (hb hby at_195) rfl rfl kq) ?_
      refine own_GH.si 199 [] (fun _ kq => XS.astore X119.here hx rfl (hb hby at_197) rfl rfl (l' := #[iv sel, iv pos, iv ch, iv flag, .val (.long lng), .second, rv wd, iv md, iv nn, iv dr, rv r, iv xp, rv b120, rv b120, .unset]) rfl kq) ?_
      exact tl _ _ _ _ _ wd md nn dr r t kb n vs cs xp b120 (.ref b120) (X119.mono (by decide) (by decide)) rfl hS hkS hZ hown hH hR O146 K147 N119 F142 F143 F144 F145 hcod hbd hl2 hex rfl
    · refine own_GH.sk 191 [] (fun _ kq => XS.ifNo X119.here hx rfl (hb hby at_188) rfl ((if0 _ _).trans (feq hc188).1) kq) ?_
      refine own_GH.sk 192 [.null] (fun _ kq => XS.aconstNull X119.here hx rfl (hb hby at_191) kq) ?_
      refine own_GH.sk 197 [.null] (fun _ kq => XS.goto X119.here hx rfl (pc0 := 192) (pc' := 197) rfl (hb hby at_192) (by decide) (by decide) kq) ?_
      refine own_GH.si 199 [] (fun _ kq => XS.astore X119.here hx rfl (hb hby at_197) rfl rfl (l' := #[iv sel, iv pos, iv ch, iv flag, .val (.long lng), .second, rv wd, iv md, iv nn, iv dr, rv r, iv xp, rv b120, .val .null, .unset]) rfl kq) ?_
      exact tl _ _ _ _ _ wd md nn dr r t kb n vs cs xp b120 .null (X119.mono (by decide) (by decide)) rfl hS hkS hZ hown hH hR O146 K147 N119 F142 F143 F144 F145 hcod hbd hl2 hex rfl
  refine own_GH.sk 1 [(.int sel)] (fun _ kq => XS.iloadN X0.here hx rfl (hb hby at_0) rfl kq) ?_
  refine own_GH.sk 2 [(.int 1), (.int sel)] (fun _ kq => XS.iconst X0.here hx rfl (hb hby at_1) kq) ?_
  refine own_GH.sk 3 [(.int (sel &&& (1 : Int32)))] (fun _ kq => XS.iand X0.here hx rfl (hb hby at_2) rfl kq) ?_
  rcases Classical.em ((sel &&& (1 : Int32)) = (0 : Int32)) with hc3 | hc3
  · refine own_GH.sk 6 [] (fun _ kq => XS.ifNo X0.here hx rfl (hb hby at_3) rfl ((if0 _ _).trans (teq hc3).2) kq) ?_
    obtain ⟨a148, T148, h148, k148, b148, kb148, X148, e148, E148, hS, hkS, hZ, hown, Es148, Fc148, Fv148, Av148, lta148, ltb148, ch148, Li148, nq148, st148⟩ := ldcCH (vm0 := s.vm) X0 hx hZ hown (W_ 0 rfl) own_wS e0 hS hkS ew (by decide) hH (vs := [(.int 97), (.int 108), (.int 116), (.int 101), (.int 114), (.int 110), (.int 97), (.int 116), (.int 101)]) (z := (9 : Int32)) (by decide +kernel) (by decide) (by decide) (g := (mkF m 6 #[iv sel, iv pos, iv ch, iv flag, .val (.long lng), .second, .unset, .unset, .unset, .unset, .unset, .unset, .unset, .unset, .unset] [])) rfl (hb hby at_6) (n := 36) (by decide +kernel) (by decide) (by decide) (by decide)
    have hR := hR.trans ch148
    have hH := ch148.1
    have O149 := O0.ext E148
    have K150 := K0.ext E148
    refine own_GH.st (T' := T148) 8 [(.ref a148)] st148 ?_
    refine own_GH.sk 13 [(.ref a148)] (fun _ kq => XS.goto X148.here hx rfl (pc0 := 8) (pc' := 13) rfl (hb hby at_8) (by decide) (by decide) kq) ?_
    refine own_GH.si 15 [] (fun _ kq => XS.astore X148.here hx rfl (hb hby at_13) rfl rfl (l' := #[iv sel, iv pos, iv ch, iv flag, .val (.long lng), .second, rv a148, .unset, .unset, .unset, .unset, .unset, .unset, .unset, .unset]) rfl kq) ?_
    refine own_GH.sk 16 [(.int sel)] (fun _ kq => XS.iloadN X148.here hx rfl (hb hby at_15) rfl kq) ?_
    refine own_GH.sk 17 [(.int 1), (.int sel)] (fun _ kq => XS.iconst X148.here hx rfl (hb hby at_16) kq) ?_
    refine own_GH.sk 18 [(.int ((sel.toUInt32 >>> ((1 : Int32) &&& 31).toUInt32).toInt32))] (fun _ kq => XS.iushr X148.here hx rfl (hb hby at_17) rfl kq) ?_
    refine own_GH.sk 19 [(.int 3), (.int ((sel.toUInt32 >>> ((1 : Int32) &&& 31).toUInt32).toInt32))] (fun _ kq => XS.iconst X148.here hx rfl (hb hby at_18) kq) ?_
    refine own_GH.sk 20 [(.int (((sel.toUInt32 >>> ((1 : Int32) &&& 31).toUInt32).toInt32) &&& (3 : Int32)))] (fun _ kq => XS.iand X148.here hx rfl (hb hby at_19) rfl kq) ?_
    refine own_GH.si 22 [] (fun _ kq => XS.istore X148.here hx rfl (hb hby at_20) rfl (l' := #[iv sel, iv pos, iv ch, iv flag, .val (.long lng), .second, rv a148, .val (.int (((sel.toUInt32 >>> ((1 : Int32) &&& 31).toUInt32).toInt32) &&& (3 : Int32))), .unset, .unset, .unset, .unset, .unset, .unset, .unset]) rfl kq) ?_
    obtain ⟨md, hmd⟩ : ∃ z, z = (((sel.toUInt32 >>> ((1 : Int32) &&& 31).toUInt32).toInt32) &&& (3 : Int32)) := ⟨_, rfl⟩
    refine own_GH.cast (g' := (mkF m 22 #[iv sel, iv pos, iv ch, iv flag, .val (.long lng), .second, rv a148, iv md, .unset, .unset, .unset, .unset, .unset, .unset, .unset] [])) (by rw [hmd]) ?_
    have hm4 := own_four ((sel.toUInt32 >>> ((1 : Int32) &&& 31).toUInt32).toInt32)
    rw [← hmd] at hm4
    rcases hm4 with rfl | rfl | rfl | rfl
    · refine own_GH.sk 24 [(.ref a148)] (fun _ kq => XS.aload X148.here hx rfl (hb hby at_22) rfl rfl kq) ?_
      obtain ⟨cq151, kq151, q151a, q151b, q151c⟩ := isOf hZ e148 Es148
      obtain ⟨_, _, ⟨T151, L151, k151, n151⟩, -, X151, ⟨Lc151, hQ151, l151, y151, z151⟩, st151⟩ := X148.virtualBack hx (y := own_y7) (z := own_y7) hown (mvT hZ (W_ 8 rfl)) (mvT hZ (W_ 9 rfl)) (notFace_of_selects (args := #[]) (mvT hZ (W_ 11 rfl))) (mvT hZ (W_ 11 rfl)) (mvT hZ (W_ 10 rfl)) (by decide) (backOf (W := 0) (rm_strlen l Z a0 hw [] a148 csz b148 (9 : Int32) h148 n0 O149 S_CS hcs Fc148 Fv148 (own_Len.arv Av148) Es148) hZ (W_ 12 rfl) (W_ 1 rfl) (by decide) (by decide)) q151a q151c (g := (mkF m 24 #[iv sel, iv pos, iv ch, iv flag, .val (.long lng), .second, rv a148, iv 0, .unset, .unset, .unset, .unset, .unset, .unset, .unset] [(.ref a148)])) rfl (by rw [hml]; rfl) (Steps.refl _) (argsL := []) (rest := []) (lenOf pd__28_29I rfl) rfl (by show 2 * 0 + _ ≤ _; exact Nat.le_of_eq rfl) (hb hby at_24) (fun _ _ => ⟨rfl, e148, (by decide : 2 + 0 ≤ _), (by decide : 40 + 0 ≤ _)⟩)
      dsimp only [Pt.U, Pt.locs, Pt.cells, Pt.slots] at X151 l151 y151 z151 st151 hQ151
      subst l151 y151 z151
      obtain ⟨rfl, Nq151, P152⟩ := hQ151
      have N151 := Fr.app N0 Nq151
      refine own_GH.st (T' := T151) 27 [(.int 9)] (fun _ kq => st151.trans kq) ?_
      refine own_GH.si 29 [] (fun _ kq => XS.istore X151.here hx rfl (hb hby at_27) rfl (l' := #[iv sel, iv pos, iv ch, iv flag, .val (.long lng), .second, rv a148, iv 0, iv 9, .unset, .unset, .unset, .unset, .unset, .unset]) rfl kq) ?_
      refine own_GH.sk 30 [(.int ch)] (fun _ kq => XS.iloadN X151.here hx rfl (hb hby at_29) rfl kq) ?_
      refine own_GH.sk 33 [(.int 255), (.int ch)] (fun _ kq => XS.sipush X151.here hx rfl (hb hby at_30) kq) ?_
      refine own_GH.sk 34 [(.int (ch &&& (255 : Int32)))] (fun _ kq => XS.iand X151.here hx rfl (hb hby at_33) rfl kq) ?_
      refine own_GH.sk 35 [(.int ((ch &&& (255 : Int32)).toUInt32.toUInt16.toUInt32.toInt32))] (fun _ kq => XS.i2c X151.here hx rfl (hb hby at_34) rfl kq) ?_
      refine own_GH.si 37 [] (fun _ kq => XS.istore X151.here hx rfl (hb hby at_35) rfl (l' := #[iv sel, iv pos, iv ch, iv flag, .val (.long lng), .second, rv a148, iv 0, iv 9, .val (.int ((ch &&& (255 : Int32)).toUInt32.toUInt16.toUInt32.toInt32)), .unset, .unset, .unset, .unset, .unset]) rfl kq) ?_
      obtain ⟨dr, hdr⟩ : ∃ z, z = ((ch &&& (255 : Int32)).toUInt32.toUInt16.toUInt32.toInt32) := ⟨_, rfl⟩
      refine own_GH.cast (g' := (mkF m 37 #[iv sel, iv pos, iv ch, iv flag, .val (.long lng), .second, rv a148, iv 0, iv 9, iv dr, .unset, .unset, .unset, .unset, .unset] [])) (by rw [hdr]) ?_
      have hd : ¬ dr < (0 : Int32) ∧ ¬ (255 : Int32) < dr := by rw [hdr]; exact own_chrb _
      refine own_GH.sk 39 [(.int 0)] (fun _ kq => XS.iload X151.here hx rfl (hb hby at_37) rfl kq) ?_
      refine own_GH.sk 40 [(.int 3), (.int 0)] (fun _ kq => XS.iconst X151.here hx rfl (hb hby at_39) kq) ?_
      have hc40 : ¬ ((0 : Int32) = (3 : Int32)) := (by decide)
      refine own_GH.sk 78 [] (fun _ kq => XS.icmpYes X151.here hx rfl (pc0 := 40) (pc' := 78) rfl (hb hby at_40) rfl (feq hc40).2 (by decide) (by decide) kq) ?_
      refine own_GH.sk 80 [(.int 0)] (fun _ kq => XS.iload X151.here hx rfl (hb hby at_78) rfl kq) ?_
      refine own_GH.sk 81 [(.int 2), (.int 0)] (fun _ kq => XS.iconst X151.here hx rfl (hb hby at_80) kq) ?_
      have hc81 : ¬ ((0 : Int32) = (2 : Int32)) := (by decide)
      refine own_GH.sk 96 [] (fun _ kq => XS.icmpYes X151.here hx rfl (pc0 := 81) (pc' := 96) rfl (hb hby at_81) rfl (feq hc81).2 (by decide) (by decide) kq) ?_
      refine own_GH.sk 97 [(.int pos)] (fun _ kq => XS.iloadN X151.here hx rfl (hb hby at_96) rfl kq) ?_
      refine own_GH.sk 99 [(.int 2147483647), (.int pos)] (fun _ kq => X151.ldcInt hx hown (mvT hZ (W_ 21 rfl)) (g := (mkF m 97 #[iv sel, iv pos, iv ch, iv flag, .val (.long lng), .second, rv a148, iv 0, iv 9, iv dr, .unset, .unset, .unset, .unset, .unset] [(.int pos)])) rfl (hb hby at_97) _ kq) ?_
      refine own_GH.sk 100 [(.int (pos &&& (2147483647 : Int32)))] (fun _ kq => XS.iand X151.here hx rfl (hb hby at_99) rfl kq) ?_
      refine own_GH.sk 102 [(.int 9), (.int (pos &&& (2147483647 : Int32)))] (fun _ kq => XS.iload X151.here hx rfl (hb hby at_100) rfl kq) ?_
      refine own_GH.sk 103 [(.int ((pos &&& (2147483647 : Int32)) % (9 : Int32)))] (fun _ kq => iremM (g := (mkF m 102 #[iv sel, iv pos, iv ch, iv flag, .val (.long lng), .second, rv a148, iv 0, iv 9, iv dr, .unset, .unset, .unset, .unset, .unset] [(.int 9), (.int (pos &&& (2147483647 : Int32)))])) X151 hx rfl (hb hby at_102) rfl (by decide) kq) ?_
      refine own_GH.si 105 [] (fun _ kq => XS.istore X151.here hx rfl (hb hby at_103) rfl (l' := #[iv sel, iv pos, iv ch, iv flag, .val (.long lng), .second, rv a148, iv 0, iv 9, iv dr, .unset, .unset, .val (.int ((pos &&& (2147483647 : Int32)) % (9 : Int32))), .unset, .unset]) rfl kq) ?_
      obtain ⟨q, hq⟩ : ∃ z, z = ((pos &&& (2147483647 : Int32)) % (9 : Int32)) := ⟨_, rfl⟩
      refine own_GH.cast (g' := (mkF m 105 #[iv sel, iv pos, iv ch, iv flag, .val (.long lng), .second, rv a148, iv 0, iv 9, iv dr, .unset, .unset, iv q, .unset, .unset] [])) (by rw [hq]) ?_
      obtain ⟨hq1, hq2⟩ := own_mod9 pos
      rw [← hq] at hq1 hq2
      have tx : ∀ (tx_T : State) (tx_h : Heap) (tx_L : List Loc) (tx_vm : Vm) (tx_k : Nat) (x : Int32), (Stand p l e room_1 (s.setVm tx_vm) m #[(.int sel), (.int pos), (.int ch), (.int flag), (.long lng)] below meth c tx_T tx_L 2 40) → (tx_T.heap = tx_h) → (s.Since tx_vm tx_k) → (tx_k ≤ tx_h.size) → (Z.Warmed39 (s.setVm tx_vm).vm) → ((s.setVm tx_vm).vm.findClass "com/example/termflow/termflow/feed/LinkIsArtefactPinLaw" = some m.cls) → (CHv Z own_EL tx_vm tx_h) → (CHr Z own_EL s.vm h0 tx_vm tx_h) → (Old Z n0 tx_h) → (Keep h0 tx_h []) → (Fr n0 tx_L) → (Exa Z tx_h a148 "java/lang/String") → (Fld Z tx_h a148 "java/lang/String" "coder" "B" (.int 0)) → (Fld Z tx_h a148 "java/lang/String" "value" "[B" (.ref b148)) → (Arv Z tx_h b148 kb148 .byte (9 : Int32) [(.int 97), (.int 108), (.int 116), (.int 101), (.int 114), (.int 110), (.int 97), (.int 116), (.int 101)] (.int 0)) → (¬ x < (0 : Int32) ∧ ¬ (255 : Int32) < x) → own_GH Z own_EL p e below s 26 3216 (Q_law Z sel pos ch flag lng csz fm la lc h0 n0) tx_T (mkF m 135 #[iv sel, iv pos, iv ch, iv flag, .val (.long lng), .second, rv a148, iv 0, iv 9, iv dr, .unset, .unset, iv q, iv x, .unset] []) := by
        intro tx_T tx_h tx_L tx_vm tx_k x tx_X tx_e hS hkS hZ hown hH hR tx_O tx_K tx_N tx_F0 tx_F1 tx_F2 tx_F3 hxr
        refine own_GH.sk 137 [(.ref a148)] (fun _ kq => XS.aload tx_X.here hx rfl (hb hby at_135) rfl rfl kq) ?_
        refine own_GH.sk 139 [(.int 0), (.ref a148)] (fun _ kq => XS.iload tx_X.here hx rfl (hb hby at_137) rfl kq) ?_
        refine own_GH.sk 141 [(.int q), (.int 0), (.ref a148)] (fun _ kq => XS.iload tx_X.here hx rfl (hb hby at_139) rfl kq) ?_
        refine own_GH.sk 143 [(.int x), (.int q), (.int 0), (.ref a148)] (fun _ kq => XS.iload tx_X.here hx rfl (hb hby at_141) rfl kq) ?_
        obtain ⟨_, _, ⟨T153, L153, k153, n153⟩, -, X153, ⟨Lc153, hQ153, l153, y153, z153⟩, st153⟩ := Jvm.LawKit.callS tx_X hx (y := own_y23) hown (mvT hZ (W_ 48 rfl)) (mvT hZ (W_ 49 rfl)) (mvT hZ (W_ 50 rfl)) (mvT hZ (W_ 51 rfl)) (by decide) (backOf (W := 0) (rm_mka0 l Z a0 hw [] a148 q x csz fm b148 kb148 tx_h n0 tx_O S_CS hcs S_IO hio tx_F0 tx_F2 tx_F1 tx_F3 hxr) hZ (W_ 51 rfl) (W_ 50 rfl) (by decide) (by decide)) (g := (mkF m 143 #[iv sel, iv pos, iv ch, iv flag, .val (.long lng), .second, rv a148, iv 0, iv 9, iv dr, .unset, .unset, iv q, iv x, .unset] [(.int x), (.int q), (.int 0), (.ref a148)])) rfl (by rw [hml]; rfl) (argsL := [(.ref a148), (.int 0), (.int q), (.int x)]) (rest := []) (lenOf pd__28Ljava_2flang_2fString_3bIIC_29Ljava_2flang_2fString_3b rfl) rfl (by show 2 * 0 + _ ≤ _; exact Nat.le_of_eq rfl) (hb hby at_143) (fun _ _ => ⟨rfl, tx_e, (by decide : 2 + 3 ≤ _), (by decide : 40 + 22 ≤ _)⟩)
        dsimp only [Pt.U, Pt.locs, Pt.cells, Pt.slots] at X153 l153 y153 z153 st153 hQ153
        subst l153 y153 z153
        obtain ⟨b154, b155, x156, rfl, Nq153, P157, P158, P159, P160, P161, P162, P163, P164⟩ := hQ153
        have N153 := Fr.app tx_N Nq153
        have ne165 : a148 ≠ b154 := Nat.ne_of_lt (Nat.lt_of_lt_of_le tx_F0.lt P158)
        have ne166 : b148 ≠ b154 := Nat.ne_of_lt (Nat.lt_of_lt_of_le tx_F3.lt P158)
        have g167 : n0 ≤ b154 := Nat.le_trans tx_O.le P158
        have z168 : h0.size ≤ b154 := Nat.le_trans tx_K.1 P158
        have sf169 : Safe Z own_EL tx_vm tx_h b154 := Safe.new P158
        have ne170 : a148 ≠ b155 := Nat.ne_of_lt (Nat.lt_of_lt_of_le tx_F0.lt P159)
        have ne171 : b148 ≠ b155 := Nat.ne_of_lt (Nat.lt_of_lt_of_le tx_F3.lt P159)
        have g172 : n0 ≤ b155 := Nat.le_trans tx_O.le P159
        have z173 : h0.size ≤ b155 := Nat.le_trans tx_K.1 P159
        have sf174 : Safe Z own_EL tx_vm tx_h b155 := Safe.new P159
        have hkS := Nat.le_trans hkS P157.1
        have sf175 := Safe.keep P157 sf0 hH sf169
        have sf176 := Safe.keep P157 sf0 hH sf174
        have hR := hR.trans (CHr.keep P157 sf0 hH)
        have hH := CHv.keep P157 sf0 hH
        have F177 := tx_F0.keep P157
        have F178 := tx_F1.keep P157 nin0
        have F179 := tx_F2.keep P157 nin0
        have F180 := tx_F3.keep P157 nin0
        have O181 := tx_O.keep P157 all0
        have K182 := tx_K.trans P157 all0
        refine own_GH.st (T' := T153) 146 [(.ref b154)] (fun _ kq => st153 _ kq) ?_
        refine own_GH.si 148 [] (fun _ kq => XS.astore X153.here hx rfl (hb hby at_146) rfl rfl (l' := #[iv sel, iv pos, iv ch, iv flag, .val (.long lng), .second, rv a148, iv 0, iv 9, iv dr, rv b154, .unset, iv q, iv x, .unset]) rfl kq) ?_
        refine own_GH.sk 150 [(.int 0)] (fun _ kq => XS.iload X153.here hx rfl (hb hby at_148) rfl kq) ?_
        have hc150 : (0 : Int32) = (0 : Int32) := (by decide)
        refine own_GH.sk 153 [] (fun _ kq => XS.ifNo X153.here hx rfl (hb hby at_150) rfl ((if0 _ _).trans (teq hc150).2) kq) ?_
        refine own_GH.sk 155 [(.int x)] (fun _ kq => XS.iload X153.here hx rfl (hb hby at_153) rfl kq) ?_
        refine own_GH.sk 157 [(.ref a148), (.int x)] (fun _ kq => XS.aload X153.here hx rfl (hb hby at_155) rfl rfl kq) ?_
        refine own_GH.sk 159 [(.int q), (.ref a148), (.int x)] (fun _ kq => XS.iload X153.here hx rfl (hb hby at_157) rfl kq) ?_
        obtain ⟨cq183, kq183, q183a, q183b, q183c⟩ := isOf hZ rfl F177
        obtain ⟨_, _, ⟨T183, L183, k183, n183⟩, -, X183, ⟨Lc183, hQ183, l183, y183, z183⟩, st183⟩ := X153.virtualBack hx (y := own_y11) (z := own_y11) hown (mvT hZ (W_ 26 rfl)) (mvT hZ (W_ 27 rfl)) (notFace_of_selects (args := #[]) (mvT hZ (W_ 29 rfl))) (mvT hZ (W_ 29 rfl)) (mvT hZ (W_ 28 rfl)) (by decide) (backOf (W := 1) (rm_charAt l Z a0 hw [] a148 q csz fm b148 (9 : Int32) (own_alt.getD q.toNatClampNeg 0) T153.heap n0 O181 S_CS hcs S_IO hio F177 F179 F178 (own_Len.arv F180) (own_At.arv F180 ⟨hq1, hq2⟩ (own_getD own_alt _)) hq1 hq2) hZ (W_ 30 rfl) (W_ 1 rfl) (by decide) (by decide)) q183a q183c (g := (mkF m 159 #[iv sel, iv pos, iv ch, iv flag, .val (.long lng), .second, rv a148, iv 0, iv 9, iv dr, rv b154, .unset, iv q, iv x, .unset] [(.int q), (.ref a148), (.int x)])) rfl (by rw [hml]; rfl) (Steps.refl _) (argsL := [(.int q)]) (rest := [(.int x)]) (lenOf pd__28I_29C rfl) rfl (by show 2 * 0 + _ ≤ _; exact Nat.le_of_eq rfl) (hb hby at_159) (fun _ _ => ⟨rfl, rfl, (by decide : 5 + 0 ≤ _), (by decide : 62 + 0 ≤ _)⟩)
        dsimp only [Pt.U, Pt.locs, Pt.cells, Pt.slots] at X183 l183 y183 z183 st183 hQ183
        subst l183 y183 z183
        obtain ⟨rfl, Nq183, P184⟩ := hQ183
        have N183 := Fr.app N153 Nq183
        refine own_GH.st (T' := T183) 162 [(.int (own_chr (own_alt.getD q.toNatClampNeg 0))), (.int x)] (fun _ kq => st183.trans kq) ?_
        rcases Classical.em (x = (own_chr (own_alt.getD q.toNatClampNeg 0))) with hc162 | hc162
        · refine own_GH.sk 165 [] (fun _ kq => XS.icmpNo X183.here hx rfl (hb hby at_162) rfl (teq hc162).2 kq) ?_
          refine own_GH.sk 166 [(.int 1)] (fun _ kq => XS.iconst X183.here hx rfl (hb hby at_165) kq) ?_
          refine own_GH.sk 170 [(.int 1)] (fun _ kq => XS.goto X183.here hx rfl (pc0 := 166) (pc' := 170) rfl (hb hby at_166) (by decide) (by decide) kq) ?_
          refine own_GH.si 172 [] (fun _ kq => XS.istore X183.here hx rfl (hb hby at_170) rfl (l' := #[iv sel, iv pos, iv ch, iv flag, .val (.long lng), .second, rv a148, iv 0, iv 9, iv dr, rv b154, iv 1, iv q, iv x, .unset]) rfl kq) ?_
          exact ta _ _ _ _ _ a148 (0 : Int32) (9 : Int32) dr b154 b155 x156 (9 : Int32) _ [(kA 0 97 q x), (kA 1 108 q x), (kA 2 116 q x), (kA 3 101 q x), (kA 4 114 q x), (kA 5 110 q x), (kA 6 97 q x), (kA 7 116 q x), (kA 8 101 q x)] (1 : Int32) q x (X183.mono (by decide) (by decide)) P184 hS hkS hZ hown hH hR O181 K182 N183 P160 P162 P161 P164 (own_codl P163 rfl) (own_bdl P163) (by simp) ((own_m0a hq1 hq2 hxr).trans (if_pos hc162))
        · refine own_GH.sk 169 [] (fun _ kq => XS.icmpYes X183.here hx rfl (pc0 := 162) (pc' := 169) rfl (hb hby at_162) rfl (feq hc162).2 (by decide) (by decide) kq) ?_
          refine own_GH.sk 170 [(.int 0)] (fun _ kq => XS.iconst X183.here hx rfl (hb hby at_169) kq) ?_
          refine own_GH.si 172 [] (fun _ kq => XS.istore X183.here hx rfl (hb hby at_170) rfl (l' := #[iv sel, iv pos, iv ch, iv flag, .val (.long lng), .second, rv a148, iv 0, iv 9, iv dr, rv b154, iv 0, iv q, iv x, .unset]) rfl kq) ?_
          exact ta _ _ _ _ _ a148 (0 : Int32) (9 : Int32) dr b154 b155 x156 (9 : Int32) _ [(kA 0 97 q x), (kA 1 108 q x), (kA 2 116 q x), (kA 3 101 q x), (kA 4 114 q x), (kA 5 110 q x), (kA 6 97 q x), (kA 7 116 q x), (kA 8 101 q x)] (0 : Int32) q x (X183.mono (by decide) (by decide)) P184 hS hkS hZ hown hH hR O181 K182 N183 P160 P162 P161 P164 (own_codl P163 rfl) (own_bdl P163) (by simp) ((own_m0a hq1 hq2 hxr).trans (if_neg hc162))
      refine own_GH.sk 106 [(.int ch)] (fun _ kq => XS.iloadN X151.here hx rfl (hb hby at_105) rfl kq) ?_
      refine own_GH.sk 108 [(.int 8), (.int ch)] (fun _ kq => XS.bipush X151.here hx rfl (hb hby at_106) kq) ?_
      refine own_GH.sk 109 [(.int ((ch.toUInt32 >>> ((8 : Int32) &&& 31).toUInt32).toInt32))] (fun _ kq => XS.iushr X151.here hx rfl (hb hby at_108) rfl kq) ?_
      refine own_GH.sk 110 [(.int 1), (.int ((ch.toUInt32 >>> ((8 : Int32) &&& 31).toUInt32).toInt32))] (fun _ kq => XS.iconst X151.here hx rfl (hb hby at_109) kq) ?_
      refine own_GH.sk 111 [(.int (((ch.toUInt32 >>> ((8 : Int32) &&& 31).toUInt32).toInt32) &&& (1 : Int32)))] (fun _ kq => XS.iand X151.here hx rfl (hb hby at_110) rfl kq) ?_
      rcases Classical.em ((((ch.toUInt32 >>> ((8 : Int32) &&& 31).toUInt32).toInt32) &&& (1 : Int32)) = (0 : Int32)) with hc111 | hc111
      · refine own_GH.sk 114 [] (fun _ kq => XS.ifNo X151.here hx rfl (hb hby at_111) rfl ((if0 _ _).trans (teq hc111).2) kq) ?_
        refine own_GH.sk 116 [(.ref a148)] (fun _ kq => XS.aload X151.here hx rfl (hb hby at_114) rfl rfl kq) ?_
        refine own_GH.sk 118 [(.int q), (.ref a148)] (fun _ kq => XS.iload X151.here hx rfl (hb hby at_116) rfl kq) ?_
        refine own_GH.sk 120 [(.int 9), (.int q), (.ref a148)] (fun _ kq => XS.iload X151.here hx rfl (hb hby at_118) rfl kq) ?_
        refine own_GH.sk 121 [(.int 1), (.int 9), (.int q), (.ref a148)] (fun _ kq => XS.iconst X151.here hx rfl (hb hby at_120) kq) ?_
        refine own_GH.sk 122 [(.int ((9 : Int32) - (1 : Int32))), (.int q), (.ref a148)] (fun _ kq => XS.isub X151.here hx rfl (hb hby at_121) rfl kq) ?_
        have hl185 : ((9 : Int32) - (1 : Int32)) = (8 : Int32) := by decide
        refine own_GH.cast (g' := (mkF m 122 #[iv sel, iv pos, iv ch, iv flag, .val (.long lng), .second, rv a148, iv 0, iv 9, iv dr, .unset, .unset, iv q, .unset, .unset] [(.int 8), (.int q), (.ref a148)])) (by rw [hl185]) ?_
        obtain ⟨_, _, ⟨T186, L186, k186, n186⟩, -, X186, ⟨Lc186, hQ186, l186, y186, z186⟩, st186⟩ := Jvm.LawKit.callS X151 hx (y := own_y21) hown (mvT hZ (W_ 22 rfl)) (mvT hZ (W_ 23 rfl)) (mvT hZ (W_ 24 rfl)) (mvT hZ (W_ 25 rfl)) (by decide) (backOf (W := 1) (rm_min l Z a0 hw [] q (8 : Int32) h148 n0 O149 ) hZ (W_ 25 rfl) (W_ 24 rfl) (by decide) (by decide)) (g := (mkF m 122 #[iv sel, iv pos, iv ch, iv flag, .val (.long lng), .second, rv a148, iv 0, iv 9, iv dr, .unset, .unset, iv q, .unset, .unset] [(.int 8), (.int q), (.ref a148)])) rfl (by rw [hml]; rfl) (argsL := [(.int q), (.int 8)]) (rest := [(.ref a148)]) (lenOf pd__28II_29I rfl) rfl (by show 2 * 0 + _ ≤ _; exact Nat.le_of_eq rfl) (hb hby at_122) (fun _ _ => ⟨rfl, P152, (by decide : 2 + 0 ≤ _), (by decide : 40 + 0 ≤ _)⟩)
        dsimp only [Pt.U, Pt.locs, Pt.cells, Pt.slots] at X186 l186 y186 z186 st186 hQ186
        subst l186 y186 z186
        obtain ⟨rfl, Nq186, P187⟩ := hQ186
        have N186 := Fr.app N151 Nq186
        refine own_GH.st (T' := T186) 125 [(.int (own_min q (8 : Int32))), (.ref a148)] (fun _ kq => st186 _ kq) ?_
        obtain ⟨cq188, kq188, q188a, q188b, q188c⟩ := isOf hZ P187 Es148
        obtain ⟨_, _, ⟨T188, L188, k188, n188⟩, -, X188, ⟨Lc188, hQ188, l188, y188, z188⟩, st188⟩ := X186.virtualBack hx (y := own_y11) (z := own_y11) hown (mvT hZ (W_ 26 rfl)) (mvT hZ (W_ 27 rfl)) (notFace_of_selects (args := #[]) (mvT hZ (W_ 29 rfl))) (mvT hZ (W_ 29 rfl)) (mvT hZ (W_ 28 rfl)) (by decide) (backOf (W := 0) (rm_charAt l Z a0 hw [] a148 (own_min q (8 : Int32)) csz fm b148 (9 : Int32) (own_alt.getD (own_min q (8 : Int32)).toNatClampNeg 0) h148 n0 O149 S_CS hcs S_IO hio Es148 Fv148 Fc148 (own_Len.arv Av148) (own_At.arv Av148 ⟨(own_minb9 hq1).1, (own_minb9 hq1).2⟩ (own_getD own_alt _)) (own_minb9 hq1).1 (own_minb9 hq1).2) hZ (W_ 30 rfl) (W_ 1 rfl) (by decide) (by decide)) q188a q188c (g := (mkF m 125 #[iv sel, iv pos, iv ch, iv flag, .val (.long lng), .second, rv a148, iv 0, iv 9, iv dr, .unset, .unset, iv q, .unset, .unset] [(.int (own_min q (8 : Int32))), (.ref a148)])) rfl (by rw [hml]; rfl) (Steps.refl _) (argsL := [(.int (own_min q (8 : Int32)))]) (rest := []) (lenOf pd__28I_29C rfl) rfl (by show 2 * 0 + _ ≤ _; exact Nat.le_of_eq rfl) (hb hby at_125) (fun _ _ => ⟨rfl, P187, (by decide : 2 + 0 ≤ _), (by decide : 40 + 0 ≤ _)⟩)
        dsimp only [Pt.U, Pt.locs, Pt.cells, Pt.slots] at X188 l188 y188 z188 st188 hQ188
        subst l188 y188 z188
        obtain ⟨rfl, Nq188, P189⟩ := hQ188
        have N188 := Fr.app N186 Nq188
        refine own_GH.st (T' := T188) 128 [(.int (own_chr (own_alt.getD (own_min q (8 : Int32)).toNatClampNeg 0)))] (fun _ kq => st188.trans kq) ?_
        refine own_GH.sk 133 [(.int (own_chr (own_alt.getD (own_min q (8 : Int32)).toNatClampNeg 0)))] (fun _ kq => XS.goto X188.here hx rfl (pc0 := 128) (pc' := 133) rfl (hb hby at_128) (by decide) (by decide) kq) ?_
        refine own_GH.si 135 [] (fun _ kq => XS.istore X188.here hx rfl (hb hby at_133) rfl (l' := #[iv sel, iv pos, iv ch, iv flag, .val (.long lng), .second, rv a148, iv 0, iv 9, iv dr, .unset, .unset, iv q, .val (.int (own_chr (own_alt.getD (own_min q (8 : Int32)).toNatClampNeg 0))), .unset]) rfl kq) ?_
        exact tx _ _ _ _ _ (own_chr (own_alt.getD (own_min q (8 : Int32)).toNatClampNeg 0)) (X188.mono (by decide) (by decide)) P189 hS hkS hZ hown hH hR O149 K150 N188 Es148 Fc148 Fv148 Av148 (own_chrb _)
      · refine own_GH.sk 131 [] (fun _ kq => XS.ifYes X151.here hx rfl (pc0 := 111) (pc' := 131) rfl (hb hby at_111) rfl ((if0 _ _).trans (feq hc111).2) (by decide) (by decide) kq) ?_
        refine own_GH.sk 133 [(.int dr)] (fun _ kq => XS.iload X151.here hx rfl (hb hby at_131) rfl kq) ?_
        refine own_GH.si 135 [] (fun _ kq => XS.istore X151.here hx rfl (hb hby at_133) rfl (l' := #[iv sel, iv pos, iv ch, iv flag, .val (.long lng), .second, rv a148, iv 0, iv 9, iv dr, .unset, .unset, iv q, iv dr, .unset]) rfl kq) ?_
        exact tx _ _ _ _ _ dr (X151.mono (by decide) (by decide)) P152 hS hkS hZ hown hH hR O149 K150 N151 Es148 Fc148 Fv148 Av148 hd
    · refine own_GH.sk 24 [(.ref a148)] (fun _ kq => XS.aload X148.here hx rfl (hb hby at_22) rfl rfl kq) ?_
      obtain ⟨cq190, kq190, q190a, q190b, q190c⟩ := isOf hZ e148 Es148
      obtain ⟨_, _, ⟨T190, L190, k190, n190⟩, -, X190, ⟨Lc190, hQ190, l190, y190, z190⟩, st190⟩ := X148.virtualBack hx (y := own_y7) (z := own_y7) hown (mvT hZ (W_ 8 rfl)) (mvT hZ (W_ 9 rfl)) (notFace_of_selects (args := #[]) (mvT hZ (W_ 11 rfl))) (mvT hZ (W_ 11 rfl)) (mvT hZ (W_ 10 rfl)) (by decide) (backOf (W := 0) (rm_strlen l Z a0 hw [] a148 csz b148 (9 : Int32) h148 n0 O149 S_CS hcs Fc148 Fv148 (own_Len.arv Av148) Es148) hZ (W_ 12 rfl) (W_ 1 rfl) (by decide) (by decide)) q190a q190c (g := (mkF m 24 #[iv sel, iv pos, iv ch, iv flag, .val (.long lng), .second, rv a148, iv 1, .unset, .unset, .unset, .unset, .unset, .unset, .unset] [(.ref a148)])) rfl (by rw [hml]; rfl) (Steps.refl _) (argsL := []) (rest := []) (lenOf pd__28_29I rfl) rfl (by show 2 * 0 + _ ≤ _; exact Nat.le_of_eq rfl) (hb hby at_24) (fun _ _ => ⟨rfl, e148, (by decide : 2 + 0 ≤ _), (by decide : 40 + 0 ≤ _)⟩)
      dsimp only [Pt.U, Pt.locs, Pt.cells, Pt.slots] at X190 l190 y190 z190 st190 hQ190
      subst l190 y190 z190
      obtain ⟨rfl, Nq190, P191⟩ := hQ190
      have N190 := Fr.app N0 Nq190
      refine own_GH.st (T' := T190) 27 [(.int 9)] (fun _ kq => st190.trans kq) ?_
      refine own_GH.si 29 [] (fun _ kq => XS.istore X190.here hx rfl (hb hby at_27) rfl (l' := #[iv sel, iv pos, iv ch, iv flag, .val (.long lng), .second, rv a148, iv 1, iv 9, .unset, .unset, .unset, .unset, .unset, .unset]) rfl kq) ?_
      refine own_GH.sk 30 [(.int ch)] (fun _ kq => XS.iloadN X190.here hx rfl (hb hby at_29) rfl kq) ?_
      refine own_GH.sk 33 [(.int 255), (.int ch)] (fun _ kq => XS.sipush X190.here hx rfl (hb hby at_30) kq) ?_
      refine own_GH.sk 34 [(.int (ch &&& (255 : Int32)))] (fun _ kq => XS.iand X190.here hx rfl (hb hby at_33) rfl kq) ?_
      refine own_GH.sk 35 [(.int ((ch &&& (255 : Int32)).toUInt32.toUInt16.toUInt32.toInt32))] (fun _ kq => XS.i2c X190.here hx rfl (hb hby at_34) rfl kq) ?_
      refine own_GH.si 37 [] (fun _ kq => XS.istore X190.here hx rfl (hb hby at_35) rfl (l' := #[iv sel, iv pos, iv ch, iv flag, .val (.long lng), .second, rv a148, iv 1, iv 9, .val (.int ((ch &&& (255 : Int32)).toUInt32.toUInt16.toUInt32.toInt32)), .unset, .unset, .unset, .unset, .unset]) rfl kq) ?_
      obtain ⟨dr, hdr⟩ : ∃ z, z = ((ch &&& (255 : Int32)).toUInt32.toUInt16.toUInt32.toInt32) := ⟨_, rfl⟩
      refine own_GH.cast (g' := (mkF m 37 #[iv sel, iv pos, iv ch, iv flag, .val (.long lng), .second, rv a148, iv 1, iv 9, iv dr, .unset, .unset, .unset, .unset, .unset] [])) (by rw [hdr]) ?_
      have hd : ¬ dr < (0 : Int32) ∧ ¬ (255 : Int32) < dr := by rw [hdr]; exact own_chrb _
      refine own_GH.sk 39 [(.int 1)] (fun _ kq => XS.iload X190.here hx rfl (hb hby at_37) rfl kq) ?_
      refine own_GH.sk 40 [(.int 3), (.int 1)] (fun _ kq => XS.iconst X190.here hx rfl (hb hby at_39) kq) ?_
      have hc40 : ¬ ((1 : Int32) = (3 : Int32)) := (by decide)
      refine own_GH.sk 78 [] (fun _ kq => XS.icmpYes X190.here hx rfl (pc0 := 40) (pc' := 78) rfl (hb hby at_40) rfl (feq hc40).2 (by decide) (by decide) kq) ?_
      refine own_GH.sk 80 [(.int 1)] (fun _ kq => XS.iload X190.here hx rfl (hb hby at_78) rfl kq) ?_
      refine own_GH.sk 81 [(.int 2), (.int 1)] (fun _ kq => XS.iconst X190.here hx rfl (hb hby at_80) kq) ?_
      have hc81 : ¬ ((1 : Int32) = (2 : Int32)) := (by decide)
      refine own_GH.sk 96 [] (fun _ kq => XS.icmpYes X190.here hx rfl (pc0 := 81) (pc' := 96) rfl (hb hby at_81) rfl (feq hc81).2 (by decide) (by decide) kq) ?_
      refine own_GH.sk 97 [(.int pos)] (fun _ kq => XS.iloadN X190.here hx rfl (hb hby at_96) rfl kq) ?_
      refine own_GH.sk 99 [(.int 2147483647), (.int pos)] (fun _ kq => X190.ldcInt hx hown (mvT hZ (W_ 21 rfl)) (g := (mkF m 97 #[iv sel, iv pos, iv ch, iv flag, .val (.long lng), .second, rv a148, iv 1, iv 9, iv dr, .unset, .unset, .unset, .unset, .unset] [(.int pos)])) rfl (hb hby at_97) _ kq) ?_
      refine own_GH.sk 100 [(.int (pos &&& (2147483647 : Int32)))] (fun _ kq => XS.iand X190.here hx rfl (hb hby at_99) rfl kq) ?_
      refine own_GH.sk 102 [(.int 9), (.int (pos &&& (2147483647 : Int32)))] (fun _ kq => XS.iload X190.here hx rfl (hb hby at_100) rfl kq) ?_
      refine own_GH.sk 103 [(.int ((pos &&& (2147483647 : Int32)) % (9 : Int32)))] (fun _ kq => iremM (g := (mkF m 102 #[iv sel, iv pos, iv ch, iv flag, .val (.long lng), .second, rv a148, iv 1, iv 9, iv dr, .unset, .unset, .unset, .unset, .unset] [(.int 9), (.int (pos &&& (2147483647 : Int32)))])) X190 hx rfl (hb hby at_102) rfl (by decide) kq) ?_
      refine own_GH.si 105 [] (fun _ kq => XS.istore X190.here hx rfl (hb hby at_103) rfl (l' := #[iv sel, iv pos, iv ch, iv flag, .val (.long lng), .second, rv a148, iv 1, iv 9, iv dr, .unset, .unset, .val (.int ((pos &&& (2147483647 : Int32)) % (9 : Int32))), .unset, .unset]) rfl kq) ?_
      obtain ⟨q, hq⟩ : ∃ z, z = ((pos &&& (2147483647 : Int32)) % (9 : Int32)) := ⟨_, rfl⟩
      refine own_GH.cast (g' := (mkF m 105 #[iv sel, iv pos, iv ch, iv flag, .val (.long lng), .second, rv a148, iv 1, iv 9, iv dr, .unset, .unset, iv q, .unset, .unset] [])) (by rw [hq]) ?_
      obtain ⟨hq1, hq2⟩ := own_mod9 pos
      rw [← hq] at hq1 hq2
      have tx : ∀ (tx_T : State) (tx_h : Heap) (tx_L : List Loc) (tx_vm : Vm) (tx_k : Nat) (x : Int32), (Stand p l e room_1 (s.setVm tx_vm) m #[(.int sel), (.int pos), (.int ch), (.int flag), (.long lng)] below meth c tx_T tx_L 2 40) → (tx_T.heap = tx_h) → (s.Since tx_vm tx_k) → (tx_k ≤ tx_h.size) → (Z.Warmed39 (s.setVm tx_vm).vm) → ((s.setVm tx_vm).vm.findClass "com/example/termflow/termflow/feed/LinkIsArtefactPinLaw" = some m.cls) → (CHv Z own_EL tx_vm tx_h) → (CHr Z own_EL s.vm h0 tx_vm tx_h) → (Old Z n0 tx_h) → (Keep h0 tx_h []) → (Fr n0 tx_L) → (Exa Z tx_h a148 "java/lang/String") → (Fld Z tx_h a148 "java/lang/String" "coder" "B" (.int 0)) → (Fld Z tx_h a148 "java/lang/String" "value" "[B" (.ref b148)) → (Arv Z tx_h b148 kb148 .byte (9 : Int32) [(.int 97), (.int 108), (.int 116), (.int 101), (.int 114), (.int 110), (.int 97), (.int 116), (.int 101)] (.int 0)) → (¬ x < (0 : Int32) ∧ ¬ (255 : Int32) < x) → own_GH Z own_EL p e below s 26 3216 (Q_law Z sel pos ch flag lng csz fm la lc h0 n0) tx_T (mkF m 135 #[iv sel, iv pos, iv ch, iv flag, .val (.long lng), .second, rv a148, iv 1, iv 9, iv dr, .unset, .unset, iv q, iv x, .unset] []) := by
        intro tx_T tx_h tx_L tx_vm tx_k x tx_X tx_e hS hkS hZ hown hH hR tx_O tx_K tx_N tx_F0 tx_F1 tx_F2 tx_F3 hxr
        refine own_GH.sk 137 [(.ref a148)] (fun _ kq => XS.aload tx_X.here hx rfl (hb hby at_135) rfl rfl kq) ?_
        refine own_GH.sk 139 [(.int 1), (.ref a148)] (fun _ kq => XS.iload tx_X.here hx rfl (hb hby at_137) rfl kq) ?_
        refine own_GH.sk 141 [(.int q), (.int 1), (.ref a148)] (fun _ kq => XS.iload tx_X.here hx rfl (hb hby at_139) rfl kq) ?_
        refine own_GH.sk 143 [(.int x), (.int q), (.int 1), (.ref a148)] (fun _ kq => XS.iload tx_X.here hx rfl (hb hby at_141) rfl kq) ?_
        obtain ⟨_, _, ⟨T192, L192, k192, n192⟩, -, X192, ⟨Lc192, hQ192, l192, y192, z192⟩, st192⟩ := Jvm.LawKit.callS tx_X hx (y := own_y23) hown (mvT hZ (W_ 48 rfl)) (mvT hZ (W_ 49 rfl)) (mvT hZ (W_ 50 rfl)) (mvT hZ (W_ 51 rfl)) (by decide) (backOf (W := 0) (rm_mka1 l Z a0 hw [] a148 q x csz fm b148 kb148 tx_h n0 tx_O S_CS hcs S_IO hio tx_F0 tx_F2 tx_F1 tx_F3 hxr) hZ (W_ 51 rfl) (W_ 50 rfl) (by decide) (by decide)) (g := (mkF m 143 #[iv sel, iv pos, iv ch, iv flag, .val (.long lng), .second, rv a148, iv 1, iv 9, iv dr, .unset, .unset, iv q, iv x, .unset] [(.int x), (.int q), (.int 1), (.ref a148)])) rfl (by rw [hml]; rfl) (argsL := [(.ref a148), (.int 1), (.int q), (.int x)]) (rest := []) (lenOf pd__28Ljava_2flang_2fString_3bIIC_29Ljava_2flang_2fString_3b rfl) rfl (by show 2 * 0 + _ ≤ _; exact Nat.le_of_eq rfl) (hb hby at_143) (fun _ _ => ⟨rfl, tx_e, (by decide : 2 + 3 ≤ _), (by decide : 40 + 20 ≤ _)⟩)
        dsimp only [Pt.U, Pt.locs, Pt.cells, Pt.slots] at X192 l192 y192 z192 st192 hQ192
        subst l192 y192 z192
        obtain ⟨b193, b194, x195, rfl, Nq192, P196, P197, P198, P199, P200, P201, P202, P203⟩ := hQ192
        have N192 := Fr.app tx_N Nq192
        have ne204 : a148 ≠ b193 := Nat.ne_of_lt (Nat.lt_of_lt_of_le tx_F0.lt P197)
        have ne205 : b148 ≠ b193 := Nat.ne_of_lt (Nat.lt_of_lt_of_le tx_F3.lt P197)
        have g206 : n0 ≤ b193 := Nat.le_trans tx_O.le P197
        have z207 : h0.size ≤ b193 := Nat.le_trans tx_K.1 P197
        have sf208 : Safe Z own_EL tx_vm tx_h b193 := Safe.new P197
        have ne209 : a148 ≠ b194 := Nat.ne_of_lt (Nat.lt_of_lt_of_le tx_F0.lt P198)
        have ne210 : b148 ≠ b194 := Nat.ne_of_lt (Nat.lt_of_lt_of_le tx_F3.lt P198)
        have g211 : n0 ≤ b194 := Nat.le_trans tx_O.le P198
        have z212 : h0.size ≤ b194 := Nat.le_trans tx_K.1 P198
        have sf213 : Safe Z own_EL tx_vm tx_h b194 := Safe.new P198
        have hkS := Nat.le_trans hkS P196.1
        have sf214 := Safe.keep P196 sf0 hH sf208
        have sf215 := Safe.keep P196 sf0 hH sf213
        have hR := hR.trans (CHr.keep P196 sf0 hH)
        have hH := CHv.keep P196 sf0 hH
        have F216 := tx_F0.keep P196
        have F217 := tx_F1.keep P196 nin0
        have F218 := tx_F2.keep P196 nin0
        have F219 := tx_F3.keep P196 nin0
        have O220 := tx_O.keep P196 all0
        have K221 := tx_K.trans P196 all0
        refine own_GH.st (T' := T192) 146 [(.ref b193)] (fun _ kq => st192 _ kq) ?_
        refine own_GH.si 148 [] (fun _ kq => XS.astore X192.here hx rfl (hb hby at_146) rfl rfl (l' := #[iv sel, iv pos, iv ch, iv flag, .val (.long lng), .second, rv a148, iv 1, iv 9, iv dr, rv b193, .unset, iv q, iv x, .unset]) rfl kq) ?_
        refine own_GH.sk 150 [(.int 1)] (fun _ kq => XS.iload X192.here hx rfl (hb hby at_148) rfl kq) ?_
        have hc150 : ¬ ((1 : Int32) = (0 : Int32)) := (by decide)
        refine own_GH.sk 169 [] (fun _ kq => XS.ifYes X192.here hx rfl (pc0 := 150) (pc' := 169) rfl (hb hby at_150) rfl ((if0 _ _).trans (feq hc150).2) (by decide) (by decide) kq) ?_
        refine own_GH.sk 170 [(.int 0)] (fun _ kq => XS.iconst X192.here hx rfl (hb hby at_169) kq) ?_
        refine own_GH.si 172 [] (fun _ kq => XS.istore X192.here hx rfl (hb hby at_170) rfl (l' := #[iv sel, iv pos, iv ch, iv flag, .val (.long lng), .second, rv a148, iv 1, iv 9, iv dr, rv b193, iv 0, iv q, iv x, .unset]) rfl kq) ?_
        exact ta _ _ _ _ _ a148 (1 : Int32) (9 : Int32) dr b193 b194 x195 (8 : Int32) _ [(kB 0 97 108 q), (kB 1 108 116 q), (kB 2 116 101 q), (kB 3 101 114 q), (kB 4 114 110 q), (kB 5 110 97 q), (kB 6 97 116 q), (kB 7 116 101 q)] (0 : Int32) q x (X192.mono (by decide) (by decide)) rfl hS hkS hZ hown hH hR O220 K221 N192 P199 P201 P200 P203 (own_codl P202 rfl) (own_bdl P202) (by simp) (own_art_len (by simp) (by simp))
      refine own_GH.sk 106 [(.int ch)] (fun _ kq => XS.iloadN X190.here hx rfl (hb hby at_105) rfl kq) ?_
      refine own_GH.sk 108 [(.int 8), (.int ch)] (fun _ kq => XS.bipush X190.here hx rfl (hb hby at_106) kq) ?_
      refine own_GH.sk 109 [(.int ((ch.toUInt32 >>> ((8 : Int32) &&& 31).toUInt32).toInt32))] (fun _ kq => XS.iushr X190.here hx rfl (hb hby at_108) rfl kq) ?_
      refine own_GH.sk 110 [(.int 1), (.int ((ch.toUInt32 >>> ((8 : Int32) &&& 31).toUInt32).toInt32))] (fun _ kq => XS.iconst X190.here hx rfl (hb hby at_109) kq) ?_
      refine own_GH.sk 111 [(.int (((ch.toUInt32 >>> ((8 : Int32) &&& 31).toUInt32).toInt32) &&& (1 : Int32)))] (fun _ kq => XS.iand X190.here hx rfl (hb hby at_110) rfl kq) ?_
      rcases Classical.em ((((ch.toUInt32 >>> ((8 : Int32) &&& 31).toUInt32).toInt32) &&& (1 : Int32)) = (0 : Int32)) with hc111 | hc111
      · refine own_GH.sk 114 [] (fun _ kq => XS.ifNo X190.here hx rfl (hb hby at_111) rfl ((if0 _ _).trans (teq hc111).2) kq) ?_
        refine own_GH.sk 116 [(.ref a148)] (fun _ kq => XS.aload X190.here hx rfl (hb hby at_114) rfl rfl kq) ?_
        refine own_GH.sk 118 [(.int q), (.ref a148)] (fun _ kq => XS.iload X190.here hx rfl (hb hby at_116) rfl kq) ?_
        refine own_GH.sk 120 [(.int 9), (.int q), (.ref a148)] (fun _ kq => XS.iload X190.here hx rfl (hb hby at_118) rfl kq) ?_
        refine own_GH.sk 121 [(.int 1), (.int 9), (.int q), (.ref a148)] (fun _ kq => XS.iconst X190.here hx rfl (hb hby at_120) kq) ?_
        refine own_GH.sk 122 [(.int ((9 : Int32) - (1 : Int32))), (.int q), (.ref a148)] (fun _ kq => XS.isub X190.here hx rfl (hb hby at_121) rfl kq) ?_
        have hl222 : ((9 : Int32) - (1 : Int32)) = (8 : Int32) := by decide
        refine own_GH.cast (g' := (mkF m 122 #[iv sel, iv pos, iv ch, iv flag, .val (.long lng), .second, rv a148, iv 1, iv 9, iv dr, .unset, .unset, iv q, .unset, .unset] [(.int 8), (.int q), (.ref a148)])) (by rw [hl222]) ?_
        obtain ⟨_, _, ⟨T223, L223, k223, n223⟩, -, X223, ⟨Lc223, hQ223, l223, y223, z223⟩, st223⟩ := Jvm.LawKit.callS X190 hx (y := own_y21) hown (mvT hZ (W_ 22 rfl)) (mvT hZ (W_ 23 rfl)) (mvT hZ (W_ 24 rfl)) (mvT hZ (W_ 25 rfl)) (by decide) (backOf (W := 1) (rm_min l Z a0 hw [] q (8 : Int32) h148 n0 O149 ) hZ (W_ 25 rfl) (W_ 24 rfl) (by decide) (by decide)) (g := (mkF m 122 #[iv sel, iv pos, iv ch, iv flag, .val (.long lng), .second, rv a148, iv 1, iv 9, iv dr, .unset, .unset, iv q, .unset, .unset] [(.int 8), (.int q), (.ref a148)])) rfl (by rw [hml]; rfl) (argsL := [(.int q), (.int 8)]) (rest := [(.ref a148)]) (lenOf pd__28II_29I rfl) rfl (by show 2 * 0 + _ ≤ _; exact Nat.le_of_eq rfl) (hb hby at_122) (fun _ _ => ⟨rfl, P191, (by decide : 2 + 0 ≤ _), (by decide : 40 + 0 ≤ _)⟩)
        dsimp only [Pt.U, Pt.locs, Pt.cells, Pt.slots] at X223 l223 y223 z223 st223 hQ223
        subst l223 y223 z223
        obtain ⟨rfl, Nq223, P224⟩ := hQ223
        have N223 := Fr.app N190 Nq223
        refine own_GH.st (T' := T223) 125 [(.int (own_min q (8 : Int32))), (.ref a148)] (fun _ kq => st223 _ kq) ?_
        obtain ⟨cq225, kq225, q225a, q225b, q225c⟩ := isOf hZ P224 Es148
        obtain ⟨_, _, ⟨T225, L225, k225, n225⟩, -, X225, ⟨Lc225, hQ225, l225, y225, z225⟩, st225⟩ := X223.virtualBack hx (y := own_y11) (z := own_y11) hown (mvT hZ (W_ 26 rfl)) (mvT hZ (W_ 27 rfl)) (notFace_of_selects (args := #[]) (mvT hZ (W_ 29 rfl))) (mvT hZ (W_ 29 rfl)) (mvT hZ (W_ 28 rfl)) (by decide) (backOf (W := 0) (rm_charAt l Z a0 hw [] a148 (own_min q (8 : Int32)) csz fm b148 (9 : Int32) (own_alt.getD (own_min q (8 : Int32)).toNatClampNeg 0) h148 n0 O149 S_CS hcs S_IO hio Es148 Fv148 Fc148 (own_Len.arv Av148) (own_At.arv Av148 ⟨(own_minb9 hq1).1, (own_minb9 hq1).2⟩ (own_getD own_alt _)) (own_minb9 hq1).1 (own_minb9 hq1).2) hZ (W_ 30 rfl) (W_ 1 rfl) (by decide) (by decide)) q225a q225c (g := (mkF m 125 #[iv sel, iv pos, iv ch, iv flag, .val (.long lng), .second, rv a148, iv 1, iv 9, iv dr, .unset, .unset, iv q, .unset, .unset] [(.int (own_min q (8 : Int32))), (.ref a148)])) rfl (by rw [hml]; rfl) (Steps.refl _) (argsL := [(.int (own_min q (8 : Int32)))]) (rest := []) (lenOf pd__28I_29C rfl) rfl (by show 2 * 0 + _ ≤ _; exact Nat.le_of_eq rfl) (hb hby at_125) (fun _ _ => ⟨rfl, P224, (by decide : 2 + 0 ≤ _), (by decide : 40 + 0 ≤ _)⟩)
        dsimp only [Pt.U, Pt.locs, Pt.cells, Pt.slots] at X225 l225 y225 z225 st225 hQ225
        subst l225 y225 z225
        obtain ⟨rfl, Nq225, P226⟩ := hQ225
        have N225 := Fr.app N223 Nq225
        refine own_GH.st (T' := T225) 128 [(.int (own_chr (own_alt.getD (own_min q (8 : Int32)).toNatClampNeg 0)))] (fun _ kq => st225.trans kq) ?_
        refine own_GH.sk 133 [(.int (own_chr (own_alt.getD (own_min q (8 : Int32)).toNatClampNeg 0)))] (fun _ kq => XS.goto X225.here hx rfl (pc0 := 128) (pc' := 133) rfl (hb hby at_128) (by decide) (by decide) kq) ?_
        refine own_GH.si 135 [] (fun _ kq => XS.istore X225.here hx rfl (hb hby at_133) rfl (l' := #[iv sel, iv pos, iv ch, iv flag, .val (.long lng), .second, rv a148, iv 1, iv 9, iv dr, .unset, .unset, iv q, .val (.int (own_chr (own_alt.getD (own_min q (8 : Int32)).toNatClampNeg 0))), .unset]) rfl kq) ?_
        exact tx _ _ _ _ _ (own_chr (own_alt.getD (own_min q (8 : Int32)).toNatClampNeg 0)) (X225.mono (by decide) (by decide)) P226 hS hkS hZ hown hH hR O149 K150 N225 Es148 Fc148 Fv148 Av148 (own_chrb _)
      · refine own_GH.sk 131 [] (fun _ kq => XS.ifYes X190.here hx rfl (pc0 := 111) (pc' := 131) rfl (hb hby at_111) rfl ((if0 _ _).trans (feq hc111).2) (by decide) (by decide) kq) ?_
        refine own_GH.sk 133 [(.int dr)] (fun _ kq => XS.iload X190.here hx rfl (hb hby at_131) rfl kq) ?_
        refine own_GH.si 135 [] (fun _ kq => XS.istore X190.here hx rfl (hb hby at_133) rfl (l' := #[iv sel, iv pos, iv ch, iv flag, .val (.long lng), .second, rv a148, iv 1, iv 9, iv dr, .unset, .unset, iv q, iv dr, .unset]) rfl kq) ?_
        exact tx _ _ _ _ _ dr (X190.mono (by decide) (by decide)) P191 hS hkS hZ hown hH hR O149 K150 N190 Es148 Fc148 Fv148 Av148 hd
    · refine own_GH.sk 24 [(.ref a148)] (fun _ kq => XS.aload X148.here hx rfl (hb hby at_22) rfl rfl kq) ?_
      obtain ⟨cq227, kq227, q227a, q227b, q227c⟩ := isOf hZ e148 Es148
      obtain ⟨_, _, ⟨T227, L227, k227, n227⟩, -, X227, ⟨Lc227, hQ227, l227, y227, z227⟩, st227⟩ := X148.virtualBack hx (y := own_y7) (z := own_y7) hown (mvT hZ (W_ 8 rfl)) (mvT hZ (W_ 9 rfl)) (notFace_of_selects (args := #[]) (mvT hZ (W_ 11 rfl))) (mvT hZ (W_ 11 rfl)) (mvT hZ (W_ 10 rfl)) (by decide) (backOf (W := 0) (rm_strlen l Z a0 hw [] a148 csz b148 (9 : Int32) h148 n0 O149 S_CS hcs Fc148 Fv148 (own_Len.arv Av148) Es148) hZ (W_ 12 rfl) (W_ 1 rfl) (by decide) (by decide)) q227a q227c (g := (mkF m 24 #[iv sel, iv pos, iv ch, iv flag, .val (.long lng), .second, rv a148, iv 2, .unset, .unset, .unset, .unset, .unset, .unset, .unset] [(.ref a148)])) rfl (by rw [hml]; rfl) (Steps.refl _) (argsL := []) (rest := []) (lenOf pd__28_29I rfl) rfl (by show 2 * 0 + _ ≤ _; exact Nat.le_of_eq rfl) (hb hby at_24) (fun _ _ => ⟨rfl, e148, (by decide : 2 + 0 ≤ _), (by decide : 40 + 0 ≤ _)⟩)
      dsimp only [Pt.U, Pt.locs, Pt.cells, Pt.slots] at X227 l227 y227 z227 st227 hQ227
      subst l227 y227 z227
      obtain ⟨rfl, Nq227, P228⟩ := hQ227
      have N227 := Fr.app N0 Nq227
      refine own_GH.st (T' := T227) 27 [(.int 9)] (fun _ kq => st227.trans kq) ?_
      refine own_GH.si 29 [] (fun _ kq => XS.istore X227.here hx rfl (hb hby at_27) rfl (l' := #[iv sel, iv pos, iv ch, iv flag, .val (.long lng), .second, rv a148, iv 2, iv 9, .unset, .unset, .unset, .unset, .unset, .unset]) rfl kq) ?_
      refine own_GH.sk 30 [(.int ch)] (fun _ kq => XS.iloadN X227.here hx rfl (hb hby at_29) rfl kq) ?_
      refine own_GH.sk 33 [(.int 255), (.int ch)] (fun _ kq => XS.sipush X227.here hx rfl (hb hby at_30) kq) ?_
      refine own_GH.sk 34 [(.int (ch &&& (255 : Int32)))] (fun _ kq => XS.iand X227.here hx rfl (hb hby at_33) rfl kq) ?_
      refine own_GH.sk 35 [(.int ((ch &&& (255 : Int32)).toUInt32.toUInt16.toUInt32.toInt32))] (fun _ kq => XS.i2c X227.here hx rfl (hb hby at_34) rfl kq) ?_
      refine own_GH.si 37 [] (fun _ kq => XS.istore X227.here hx rfl (hb hby at_35) rfl (l' := #[iv sel, iv pos, iv ch, iv flag, .val (.long lng), .second, rv a148, iv 2, iv 9, .val (.int ((ch &&& (255 : Int32)).toUInt32.toUInt16.toUInt32.toInt32)), .unset, .unset, .unset, .unset, .unset]) rfl kq) ?_
      obtain ⟨dr, hdr⟩ : ∃ z, z = ((ch &&& (255 : Int32)).toUInt32.toUInt16.toUInt32.toInt32) := ⟨_, rfl⟩
      refine own_GH.cast (g' := (mkF m 37 #[iv sel, iv pos, iv ch, iv flag, .val (.long lng), .second, rv a148, iv 2, iv 9, iv dr, .unset, .unset, .unset, .unset, .unset] [])) (by rw [hdr]) ?_
      have hd : ¬ dr < (0 : Int32) ∧ ¬ (255 : Int32) < dr := by rw [hdr]; exact own_chrb _
      refine own_GH.sk 39 [(.int 2)] (fun _ kq => XS.iload X227.here hx rfl (hb hby at_37) rfl kq) ?_
      refine own_GH.sk 40 [(.int 3), (.int 2)] (fun _ kq => XS.iconst X227.here hx rfl (hb hby at_39) kq) ?_
      have hc40 : ¬ ((2 : Int32) = (3 : Int32)) := (by decide)
      refine own_GH.sk 78 [] (fun _ kq => XS.icmpYes X227.here hx rfl (pc0 := 40) (pc' := 78) rfl (hb hby at_40) rfl (feq hc40).2 (by decide) (by decide) kq) ?_
      refine own_GH.sk 80 [(.int 2)] (fun _ kq => XS.iload X227.here hx rfl (hb hby at_78) rfl kq) ?_
      refine own_GH.sk 81 [(.int 2), (.int 2)] (fun _ kq => XS.iconst X227.here hx rfl (hb hby at_80) kq) ?_
      have hc81 : (2 : Int32) = (2 : Int32) := (by decide)
      refine own_GH.sk 84 [] (fun _ kq => XS.icmpNo X227.here hx rfl (hb hby at_81) rfl (teq hc81).2 kq) ?_
      refine own_GH.sk 85 [(.int pos)] (fun _ kq => XS.iloadN X227.here hx rfl (hb hby at_84) rfl kq) ?_
      refine own_GH.sk 87 [(.int 2147483647), (.int pos)] (fun _ kq => X227.ldcInt hx hown (mvT hZ (W_ 21 rfl)) (g := (mkF m 85 #[iv sel, iv pos, iv ch, iv flag, .val (.long lng), .second, rv a148, iv 2, iv 9, iv dr, .unset, .unset, .unset, .unset, .unset] [(.int pos)])) rfl (hb hby at_85) _ kq) ?_
      refine own_GH.sk 88 [(.int (pos &&& (2147483647 : Int32)))] (fun _ kq => XS.iand X227.here hx rfl (hb hby at_87) rfl kq) ?_
      refine own_GH.sk 90 [(.int 9), (.int (pos &&& (2147483647 : Int32)))] (fun _ kq => XS.iload X227.here hx rfl (hb hby at_88) rfl kq) ?_
      refine own_GH.sk 91 [(.int 1), (.int 9), (.int (pos &&& (2147483647 : Int32)))] (fun _ kq => XS.iconst X227.here hx rfl (hb hby at_90) kq) ?_
      refine own_GH.sk 92 [(.int ((9 : Int32) + (1 : Int32))), (.int (pos &&& (2147483647 : Int32)))] (fun _ kq => XS.iadd X227.here hx rfl (hb hby at_91) rfl kq) ?_
      have hl229 : ((9 : Int32) + (1 : Int32)) = (10 : Int32) := by decide
      refine own_GH.cast (g' := (mkF m 92 #[iv sel, iv pos, iv ch, iv flag, .val (.long lng), .second, rv a148, iv 2, iv 9, iv dr, .unset, .unset, .unset, .unset, .unset] [(.int 10), (.int (pos &&& (2147483647 : Int32)))])) (by rw [hl229]) ?_
      refine own_GH.sk 93 [(.int ((pos &&& (2147483647 : Int32)) % (10 : Int32)))] (fun _ kq => iremM (g := (mkF m 92 #[iv sel, iv pos, iv ch, iv flag, .val (.long lng), .second, rv a148, iv 2, iv 9, iv dr, .unset, .unset, .unset, .unset, .unset] [(.int 10), (.int (pos &&& (2147483647 : Int32)))])) X227 hx rfl (hb hby at_92) rfl (by decide) kq) ?_
      refine own_GH.sk 103 [(.int ((pos &&& (2147483647 : Int32)) % (10 : Int32)))] (fun _ kq => XS.goto X227.here hx rfl (pc0 := 93) (pc' := 103) rfl (hb hby at_93) (by decide) (by decide) kq) ?_
      refine own_GH.si 105 [] (fun _ kq => XS.istore X227.here hx rfl (hb hby at_103) rfl (l' := #[iv sel, iv pos, iv ch, iv flag, .val (.long lng), .second, rv a148, iv 2, iv 9, iv dr, .unset, .unset, .val (.int ((pos &&& (2147483647 : Int32)) % (10 : Int32))), .unset, .unset]) rfl kq) ?_
      obtain ⟨q, hq⟩ : ∃ z, z = ((pos &&& (2147483647 : Int32)) % (10 : Int32)) := ⟨_, rfl⟩
      refine own_GH.cast (g' := (mkF m 105 #[iv sel, iv pos, iv ch, iv flag, .val (.long lng), .second, rv a148, iv 2, iv 9, iv dr, .unset, .unset, iv q, .unset, .unset] [])) (by rw [hq]) ?_
      obtain ⟨hq1, hq2⟩ := own_mod10 pos
      rw [← hq] at hq1 hq2
      have tx : ∀ (tx_T : State) (tx_h : Heap) (tx_L : List Loc) (tx_vm : Vm) (tx_k : Nat) (x : Int32), (Stand p l e room_1 (s.setVm tx_vm) m #[(.int sel), (.int pos), (.int ch), (.int flag), (.long lng)] below meth c tx_T tx_L 2 40) → (tx_T.heap = tx_h) → (s.Since tx_vm tx_k) → (tx_k ≤ tx_h.size) → (Z.Warmed39 (s.setVm tx_vm).vm) → ((s.setVm tx_vm).vm.findClass "com/example/termflow/termflow/feed/LinkIsArtefactPinLaw" = some m.cls) → (CHv Z own_EL tx_vm tx_h) → (CHr Z own_EL s.vm h0 tx_vm tx_h) → (Old Z n0 tx_h) → (Keep h0 tx_h []) → (Fr n0 tx_L) → (Exa Z tx_h a148 "java/lang/String") → (Fld Z tx_h a148 "java/lang/String" "coder" "B" (.int 0)) → (Fld Z tx_h a148 "java/lang/String" "value" "[B" (.ref b148)) → (Arv Z tx_h b148 kb148 .byte (9 : Int32) [(.int 97), (.int 108), (.int 116), (.int 101), (.int 114), (.int 110), (.int 97), (.int 116), (.int 101)] (.int 0)) → (¬ x < (0 : Int32) ∧ ¬ (255 : Int32) < x) → own_GH Z own_EL p e below s 26 3216 (Q_law Z sel pos ch flag lng csz fm la lc h0 n0) tx_T (mkF m 135 #[iv sel, iv pos, iv ch, iv flag, .val (.long lng), .second, rv a148, iv 2, iv 9, iv dr, .unset, .unset, iv q, iv x, .unset] []) := by
        intro tx_T tx_h tx_L tx_vm tx_k x tx_X tx_e hS hkS hZ hown hH hR tx_O tx_K tx_N tx_F0 tx_F1 tx_F2 tx_F3 hxr
        refine own_GH.sk 137 [(.ref a148)] (fun _ kq => XS.aload tx_X.here hx rfl (hb hby at_135) rfl rfl kq) ?_
        refine own_GH.sk 139 [(.int 2), (.ref a148)] (fun _ kq => XS.iload tx_X.here hx rfl (hb hby at_137) rfl kq) ?_
        refine own_GH.sk 141 [(.int q), (.int 2), (.ref a148)] (fun _ kq => XS.iload tx_X.here hx rfl (hb hby at_139) rfl kq) ?_
        refine own_GH.sk 143 [(.int x), (.int q), (.int 2), (.ref a148)] (fun _ kq => XS.iload tx_X.here hx rfl (hb hby at_141) rfl kq) ?_
        obtain ⟨_, _, ⟨T230, L230, k230, n230⟩, -, X230, ⟨Lc230, hQ230, l230, y230, z230⟩, st230⟩ := Jvm.LawKit.callS tx_X hx (y := own_y23) hown (mvT hZ (W_ 48 rfl)) (mvT hZ (W_ 49 rfl)) (mvT hZ (W_ 50 rfl)) (mvT hZ (W_ 51 rfl)) (by decide) (backOf (W := 0) (rm_mka2 l Z a0 hw [] a148 q x csz fm b148 kb148 tx_h n0 tx_O S_CS hcs S_IO hio tx_F0 tx_F2 tx_F1 tx_F3 hxr hq1 hq2) hZ (W_ 51 rfl) (W_ 50 rfl) (by decide) (by decide)) (g := (mkF m 143 #[iv sel, iv pos, iv ch, iv flag, .val (.long lng), .second, rv a148, iv 2, iv 9, iv dr, .unset, .unset, iv q, iv x, .unset] [(.int x), (.int q), (.int 2), (.ref a148)])) rfl (by rw [hml]; rfl) (argsL := [(.ref a148), (.int 2), (.int q), (.int x)]) (rest := []) (lenOf pd__28Ljava_2flang_2fString_3bIIC_29Ljava_2flang_2fString_3b rfl) rfl (by show 2 * 0 + _ ≤ _; exact Nat.le_of_eq rfl) (hb hby at_143) (fun _ _ => ⟨rfl, tx_e, (by decide : 2 + 3 ≤ _), (by decide : 40 + 24 ≤ _)⟩)
        dsimp only [Pt.U, Pt.locs, Pt.cells, Pt.slots] at X230 l230 y230 z230 st230 hQ230
        subst l230 y230 z230
        obtain ⟨b231, b232, x233, rfl, Nq230, P234, P235, P236, P237, P238, P239, P240, P241⟩ := hQ230
        have N230 := Fr.app tx_N Nq230
        have ne242 : a148 ≠ b231 := Nat.ne_of_lt (Nat.lt_of_lt_of_le tx_F0.lt P235)
        have ne243 : b148 ≠ b231 := Nat.ne_of_lt (Nat.lt_of_lt_of_le tx_F3.lt P235)
        have g244 : n0 ≤ b231 := Nat.le_trans tx_O.le P235
        have z245 : h0.size ≤ b231 := Nat.le_trans tx_K.1 P235
        have sf246 : Safe Z own_EL tx_vm tx_h b231 := Safe.new P235
        have ne247 : a148 ≠ b232 := Nat.ne_of_lt (Nat.lt_of_lt_of_le tx_F0.lt P236)
        have ne248 : b148 ≠ b232 := Nat.ne_of_lt (Nat.lt_of_lt_of_le tx_F3.lt P236)
        have g249 : n0 ≤ b232 := Nat.le_trans tx_O.le P236
        have z250 : h0.size ≤ b232 := Nat.le_trans tx_K.1 P236
        have sf251 : Safe Z own_EL tx_vm tx_h b232 := Safe.new P236
        have hkS := Nat.le_trans hkS P234.1
        have sf252 := Safe.keep P234 sf0 hH sf246
        have sf253 := Safe.keep P234 sf0 hH sf251
        have hR := hR.trans (CHr.keep P234 sf0 hH)
        have hH := CHv.keep P234 sf0 hH
        have F254 := tx_F0.keep P234
        have F255 := tx_F1.keep P234 nin0
        have F256 := tx_F2.keep P234 nin0
        have F257 := tx_F3.keep P234 nin0
        have O258 := tx_O.keep P234 all0
        have K259 := tx_K.trans P234 all0
        refine own_GH.st (T' := T230) 146 [(.ref b231)] (fun _ kq => st230 _ kq) ?_
        refine own_GH.si 148 [] (fun _ kq => XS.astore X230.here hx rfl (hb hby at_146) rfl rfl (l' := #[iv sel, iv pos, iv ch, iv flag, .val (.long lng), .second, rv a148, iv 2, iv 9, iv dr, rv b231, .unset, iv q, iv x, .unset]) rfl kq) ?_
        refine own_GH.sk 150 [(.int 2)] (fun _ kq => XS.iload X230.here hx rfl (hb hby at_148) rfl kq) ?_
        have hc150 : ¬ ((2 : Int32) = (0 : Int32)) := (by decide)
        refine own_GH.sk 169 [] (fun _ kq => XS.ifYes X230.here hx rfl (pc0 := 150) (pc' := 169) rfl (hb hby at_150) rfl ((if0 _ _).trans (feq hc150).2) (by decide) (by decide) kq) ?_
        refine own_GH.sk 170 [(.int 0)] (fun _ kq => XS.iconst X230.here hx rfl (hb hby at_169) kq) ?_
        refine own_GH.si 172 [] (fun _ kq => XS.istore X230.here hx rfl (hb hby at_170) rfl (l' := #[iv sel, iv pos, iv ch, iv flag, .val (.long lng), .second, rv a148, iv 2, iv 9, iv dr, rv b231, iv 0, iv q, iv x, .unset]) rfl kq) ?_
        exact ta _ _ _ _ _ a148 (2 : Int32) (9 : Int32) dr b231 b232 x233 (10 : Int32) _ [(kC 0 97 0 q x), (kC 1 108 97 q x), (kC 2 116 108 q x), (kC 3 101 116 q x), (kC 4 114 101 q x), (kC 5 110 114 q x), (kC 6 97 110 q x), (kC 7 116 97 q x), (kC 8 101 116 q x), (kC 9 0 101 q x)] (0 : Int32) q x (X230.mono (by decide) (by decide)) rfl hS hkS hZ hown hH hR O258 K259 N230 P237 P239 P238 P241 (own_codl P240 rfl) (own_bdl P240) (by simp) (own_art_len (by simp) (by simp))
      refine own_GH.sk 106 [(.int ch)] (fun _ kq => XS.iloadN X227.here hx rfl (hb hby at_105) rfl kq) ?_
      refine own_GH.sk 108 [(.int 8), (.int ch)] (fun _ kq => XS.bipush X227.here hx rfl (hb hby at_106) kq) ?_
      refine own_GH.sk 109 [(.int ((ch.toUInt32 >>> ((8 : Int32) &&& 31).toUInt32).toInt32))] (fun _ kq => XS.iushr X227.here hx rfl (hb hby at_108) rfl kq) ?_
      refine own_GH.sk 110 [(.int 1), (.int ((ch.toUInt32 >>> ((8 : Int32) &&& 31).toUInt32).toInt32))] (fun _ kq => XS.iconst X227.here hx rfl (hb hby at_109) kq) ?_
      refine own_GH.sk 111 [(.int (((ch.toUInt32 >>> ((8 : Int32) &&& 31).toUInt32).toInt32) &&& (1 : Int32)))] (fun _ kq => XS.iand X227.here hx rfl (hb hby at_110) rfl kq) ?_
      rcases Classical.em ((((ch.toUInt32 >>> ((8 : Int32) &&& 31).toUInt32).toInt32) &&& (1 : Int32)) = (0 : Int32)) with hc111 | hc111
      · refine own_GH.sk 114 [] (fun _ kq => XS.ifNo X227.here hx rfl (hb hby at_111) rfl ((if0 _ _).trans (teq hc111).2) kq) ?_
        refine own_GH.sk 116 [(.ref a148)] (fun _ kq => XS.aload X227.here hx rfl (hb hby at_114) rfl rfl kq) ?_
        refine own_GH.sk 118 [(.int q), (.ref a148)] (fun _ kq => XS.iload X227.here hx rfl (hb hby at_116) rfl kq) ?_
        refine own_GH.sk 120 [(.int 9), (.int q), (.ref a148)] (fun _ kq => XS.iload X227.here hx rfl (hb hby at_118) rfl kq) ?_
        refine own_GH.sk 121 [(.int 1), (.int 9), (.int q), (.ref a148)] (fun _ kq => XS.iconst X227.here hx rfl (hb hby at_120) kq) ?_
        refine own_GH.sk 122 [(.int ((9 : Int32) - (1 : Int32))), (.int q), (.ref a148)] (fun _ kq => XS.isub X227.here hx rfl (hb hby at_121) rfl kq) ?_
        have hl260 : ((9 : Int32) - (1 : Int32)) = (8 : Int32) := by decide
        refine own_GH.cast (g' := (mkF m 122 #[iv sel, iv pos, iv ch, iv flag, .val (.long lng), .second, rv a148, iv 2, iv 9, iv dr, .unset, .unset, iv q, .unset, .unset] [(.int 8), (.int q), (.ref a148)])) (by rw [hl260]) ?_
        obtain ⟨_, _, ⟨T261, L261, k261, n261⟩, -, X261, ⟨Lc261, hQ261, l261, y261, z261⟩, st261⟩ := Jvm.LawKit.callS X227 hx (y := own_y21) hown (mvT hZ (W_ 22 rfl)) (mvT hZ (W_ 23 rfl)) (mvT hZ (W_ 24 rfl)) (mvT hZ (W_ 25 rfl)) (by decide) (backOf (W := 1) (rm_min l Z a0 hw [] q (8 : Int32) h148 n0 O149 ) hZ (W_ 25 rfl) (W_ 24 rfl) (by decide) (by decide)) (g := (mkF m 122 #[iv sel, iv pos, iv ch, iv flag, .val (.long lng), .second, rv a148, iv 2, iv 9, iv dr, .unset, .unset, iv q, .unset, .unset] [(.int 8), (.int q), (.ref a148)])) rfl (by rw [hml]; rfl) (argsL := [(.int q), (.int 8)]) (rest := [(.ref a148)]) (lenOf pd__28II_29I rfl) rfl (by show 2 * 0 + _ ≤ _; exact Nat.le_of_eq rfl) (hb hby at_122) (fun _ _ => ⟨rfl, P228, (by decide : 2 + 0 ≤ _), (by decide : 40 + 0 ≤ _)⟩)
        dsimp only [Pt.U, Pt.locs, Pt.cells, Pt.slots] at X261 l261 y261 z261 st261 hQ261
        subst l261 y261 z261
        obtain ⟨rfl, Nq261, P262⟩ := hQ261
        have N261 := Fr.app N227 Nq261
        refine own_GH.st (T' := T261) 125 [(.int (own_min q (8 : Int32))), (.ref a148)] (fun _ kq => st261 _ kq) ?_
        obtain ⟨cq263, kq263, q263a, q263b, q263c⟩ := isOf hZ P262 Es148
        obtain ⟨_, _, ⟨T263, L263, k263, n263⟩, -, X263, ⟨Lc263, hQ263, l263, y263, z263⟩, st263⟩ := X261.virtualBack hx (y := own_y11) (z := own_y11) hown (mvT hZ (W_ 26 rfl)) (mvT hZ (W_ 27 rfl)) (notFace_of_selects (args := #[]) (mvT hZ (W_ 29 rfl))) (mvT hZ (W_ 29 rfl)) (mvT hZ (W_ 28 rfl)) (by decide) (backOf (W := 0) (rm_charAt l Z a0 hw [] a148 (own_min q (8 : Int32)) csz fm b148 (9 : Int32) (own_alt.getD (own_min q (8 : Int32)).toNatClampNeg 0) h148 n0 O149 S_CS hcs S_IO hio Es148 Fv148 Fc148 (own_Len.arv Av148) (own_At.arv Av148 ⟨(own_minb9 hq1).1, (own_minb9 hq1).2⟩ (own_getD own_alt _)) (own_minb9 hq1).1 (own_minb9 hq1).2) hZ (W_ 30 rfl) (W_ 1 rfl) (by decide) (by decide)) q263a q263c (g := (mkF m 125 #[iv sel, iv pos, iv ch, iv flag, .val (.long lng), .second, rv a148, iv 2, iv 9, iv dr, .unset, .unset, iv q, .unset, .unset] [(.int (own_min q (8 : Int32))), (.ref a148)])) rfl (by rw [hml]; rfl) (Steps.refl _) (argsL := [(.int (own_min q (8 : Int32)))]) (rest := []) (lenOf pd__28I_29C rfl) rfl (by show 2 * 0 + _ ≤ _; exact Nat.le_of_eq rfl) (hb hby at_125) (fun _ _ => ⟨rfl, P262, (by decide : 2 + 0 ≤ _), (by decide : 40 + 0 ≤ _)⟩)
        dsimp only [Pt.U, Pt.locs, Pt.cells, Pt.slots] at X263 l263 y263 z263 st263 hQ263
        subst l263 y263 z263
        obtain ⟨rfl, Nq263, P264⟩ := hQ263
        have N263 := Fr.app N261 Nq263
        refine own_GH.st (T' := T263) 128 [(.int (own_chr (own_alt.getD (own_min q (8 : Int32)).toNatClampNeg 0)))] (fun _ kq => st263.trans kq) ?_
        refine own_GH.sk 133 [(.int (own_chr (own_alt.getD (own_min q (8 : Int32)).toNatClampNeg 0)))] (fun _ kq => XS.goto X263.here hx rfl (pc0 := 128) (pc' := 133) rfl (hb hby at_128) (by decide) (by decide) kq) ?_
        refine own_GH.si 135 [] (fun _ kq => XS.istore X263.here hx rfl (hb hby at_133) rfl (l' := #[iv sel, iv pos, iv ch, iv flag, .val (.long lng), .second, rv a148, iv 2, iv 9, iv dr, .unset, .unset, iv q, .val (.int (own_chr (own_alt.getD (own_min q (8 : Int32)).toNatClampNeg 0))), .unset]) rfl kq) ?_
        exact tx _ _ _ _ _ (own_chr (own_alt.getD (own_min q (8 : Int32)).toNatClampNeg 0)) (X263.mono (by decide) (by decide)) P264 hS hkS hZ hown hH hR O149 K150 N263 Es148 Fc148 Fv148 Av148 (own_chrb _)
      · refine own_GH.sk 131 [] (fun _ kq => XS.ifYes X227.here hx rfl (pc0 := 111) (pc' := 131) rfl (hb hby at_111) rfl ((if0 _ _).trans (feq hc111).2) (by decide) (by decide) kq) ?_
        refine own_GH.sk 133 [(.int dr)] (fun _ kq => XS.iload X227.here hx rfl (hb hby at_131) rfl kq) ?_
        refine own_GH.si 135 [] (fun _ kq => XS.istore X227.here hx rfl (hb hby at_133) rfl (l' := #[iv sel, iv pos, iv ch, iv flag, .val (.long lng), .second, rv a148, iv 2, iv 9, iv dr, .unset, .unset, iv q, iv dr, .unset]) rfl kq) ?_
        exact tx _ _ _ _ _ dr (X227.mono (by decide) (by decide)) P228 hS hkS hZ hown hH hR O149 K150 N227 Es148 Fc148 Fv148 Av148 hd
    · refine own_GH.sk 24 [(.ref a148)] (fun _ kq => XS.aload X148.here hx rfl (hb hby at_22) rfl rfl kq) ?_
      obtain ⟨cq265, kq265, q265a, q265b, q265c⟩ := isOf hZ e148 Es148
      obtain ⟨_, _, ⟨T265, L265, k265, n265⟩, -, X265, ⟨Lc265, hQ265, l265, y265, z265⟩, st265⟩ := X148.virtualBack hx (y := own_y7) (z := own_y7) hown (mvT hZ (W_ 8 rfl)) (mvT hZ (W_ 9 rfl)) (notFace_of_selects (args := #[]) (mvT hZ (W_ 11 rfl))) (mvT hZ (W_ 11 rfl)) (mvT hZ (W_ 10 rfl)) (by decide) (backOf (W := 0) (rm_strlen l Z a0 hw [] a148 csz b148 (9 : Int32) h148 n0 O149 S_CS hcs Fc148 Fv148 (own_Len.arv Av148) Es148) hZ (W_ 12 rfl) (W_ 1 rfl) (by decide) (by decide)) q265a q265c (g := (mkF m 24 #[iv sel, iv pos, iv ch, iv flag, .val (.long lng), .second, rv a148, iv 3, .unset, .unset, .unset, .unset, .unset, .unset, .unset] [(.ref a148)])) rfl (by rw [hml]; rfl) (Steps.refl _) (argsL := []) (rest := []) (lenOf pd__28_29I rfl) rfl (by show 2 * 0 + _ ≤ _; exact Nat.le_of_eq rfl) (hb hby at_24) (fun _ _ => ⟨rfl, e148, (by decide : 2 + 0 ≤ _), (by decide : 40 + 0 ≤ _)⟩)
      dsimp only [Pt.U, Pt.locs, Pt.cells, Pt.slots] at X265 l265 y265 z265 st265 hQ265
      subst l265 y265 z265
      obtain ⟨rfl, Nq265, P266⟩ := hQ265
      have N265 := Fr.app N0 Nq265
      refine own_GH.st (T' := T265) 27 [(.int 9)] (fun _ kq => st265.trans kq) ?_
      refine own_GH.si 29 [] (fun _ kq => XS.istore X265.here hx rfl (hb hby at_27) rfl (l' := #[iv sel, iv pos, iv ch, iv flag, .val (.long lng), .second, rv a148, iv 3, iv 9, .unset, .unset, .unset, .unset, .unset, .unset]) rfl kq) ?_
      refine own_GH.sk 30 [(.int ch)] (fun _ kq => XS.iloadN X265.here hx rfl (hb hby at_29) rfl kq) ?_
      refine own_GH.sk 33 [(.int 255), (.int ch)] (fun _ kq => XS.sipush X265.here hx rfl (hb hby at_30) kq) ?_
      refine own_GH.sk 34 [(.int (ch &&& (255 : Int32)))] (fun _ kq => XS.iand X265.here hx rfl (hb hby at_33) rfl kq) ?_
      refine own_GH.sk 35 [(.int ((ch &&& (255 : Int32)).toUInt32.toUInt16.toUInt32.toInt32))] (fun _ kq => XS.i2c X265.here hx rfl (hb hby at_34) rfl kq) ?_
      refine own_GH.si 37 [] (fun _ kq => XS.istore X265.here hx rfl (hb hby at_35) rfl (l' := #[iv sel, iv pos, iv ch, iv flag, .val (.long lng), .second, rv a148, iv 3, iv 9, .val (.int ((ch &&& (255 : Int32)).toUInt32.toUInt16.toUInt32.toInt32)), .unset, .unset, .unset, .unset, .unset]) rfl kq) ?_
      obtain ⟨dr, hdr⟩ : ∃ z, z = ((ch &&& (255 : Int32)).toUInt32.toUInt16.toUInt32.toInt32) := ⟨_, rfl⟩
      refine own_GH.cast (g' := (mkF m 37 #[iv sel, iv pos, iv ch, iv flag, .val (.long lng), .second, rv a148, iv 3, iv 9, iv dr, .unset, .unset, .unset, .unset, .unset] [])) (by rw [hdr]) ?_
      have hd : ¬ dr < (0 : Int32) ∧ ¬ (255 : Int32) < dr := by rw [hdr]; exact own_chrb _
      refine own_GH.sk 39 [(.int 3)] (fun _ kq => XS.iload X265.here hx rfl (hb hby at_37) rfl kq) ?_
      refine own_GH.sk 40 [(.int 3), (.int 3)] (fun _ kq => XS.iconst X265.here hx rfl (hb hby at_39) kq) ?_
      have hc40 : (3 : Int32) = (3 : Int32) := (by decide)
      refine own_GH.sk 43 [] (fun _ kq => XS.icmpNo X265.here hx rfl (hb hby at_40) rfl (teq hc40).2 kq) ?_
      refine own_GH.sk 44 [(.int ch)] (fun _ kq => XS.iloadN X265.here hx rfl (hb hby at_43) rfl kq) ?_
      refine own_GH.sk 46 [(.int 9), (.int ch)] (fun _ kq => XS.bipush X265.here hx rfl (hb hby at_44) kq) ?_
      refine own_GH.sk 47 [(.int ((ch.toUInt32 >>> ((9 : Int32) &&& 31).toUInt32).toInt32))] (fun _ kq => XS.iushr X265.here hx rfl (hb hby at_46) rfl kq) ?_
      refine own_GH.sk 48 [(.int 1), (.int ((ch.toUInt32 >>> ((9 : Int32) &&& 31).toUInt32).toInt32))] (fun _ kq => XS.iconst X265.here hx rfl (hb hby at_47) kq) ?_
      refine own_GH.sk 49 [(.int (((ch.toUInt32 >>> ((9 : Int32) &&& 31).toUInt32).toInt32) &&& (1 : Int32)))] (fun _ kq => XS.iand X265.here hx rfl (hb hby at_48) rfl kq) ?_
      rcases Classical.em ((((ch.toUInt32 >>> ((9 : Int32) &&& 31).toUInt32).toInt32) &&& (1 : Int32)) = (0 : Int32)) with hc49 | hc49
      · refine own_GH.sk 52 [] (fun _ kq => XS.ifNo X265.here hx rfl (hb hby at_49) rfl ((if0 _ _).trans (teq hc49).2) kq) ?_
        refine own_GH.sk 54 [(.int dr)] (fun _ kq => XS.iload X265.here hx rfl (hb hby at_52) rfl kq) ?_
        obtain ⟨_, _, ⟨T267, L267, k267, n267⟩, -, X267, ⟨Lc267, hQ267, l267, y267, z267⟩, st267⟩ := Jvm.LawKit.callS X265 hx (y := own_y15) hown (mvT hZ (W_ 77 rfl)) (mvT hZ (W_ 78 rfl)) (mvT hZ (W_ 1 rfl)) (mvT hZ (W_ 79 rfl)) (by decide) (backOf (W := 0) (rm_vofc l Z a0 hw [] dr csz h148 n0 O149 S_CS hcs hd.2) hZ (W_ 79 rfl) (W_ 1 rfl) (by decide) (by decide)) (g := (mkF m 54 #[iv sel, iv pos, iv ch, iv flag, .val (.long lng), .second, rv a148, iv 3, iv 9, iv dr, .unset, .unset, .unset, .unset, .unset] [(.int dr)])) rfl (by rw [hml]; rfl) (argsL := [(.int dr)]) (rest := []) (lenOf pd__28C_29Ljava_2flang_2fString_3b rfl) rfl (by show 2 * 0 + _ ≤ _; exact Nat.le_of_eq rfl) (hb hby at_54) (fun _ _ => ⟨rfl, P266, (by decide : 2 + 2 ≤ _), (by decide : 40 + 5 ≤ _)⟩)
        dsimp only [Pt.U, Pt.locs, Pt.cells, Pt.slots] at X267 l267 y267 z267 st267 hQ267
        subst l267 y267 z267
        obtain ⟨b268, b269, x270, rfl, Nq267, P271, P272, P273, P274, P275, P276, P277⟩ := hQ267
        have N267 := Fr.app N265 Nq267
        have ne278 : a148 ≠ b268 := Nat.ne_of_lt (Nat.lt_of_lt_of_le Es148.lt P272)
        have ne279 : b148 ≠ b268 := Nat.ne_of_lt (Nat.lt_of_lt_of_le Av148.lt P272)
        have g280 : n0 ≤ b268 := Nat.le_trans O149.le P272
        have z281 : h0.size ≤ b268 := Nat.le_trans K150.1 P272
        have sf282 : Safe Z own_EL T148.vm h148 b268 := Safe.new P272
        have ne283 : a148 ≠ b269 := Nat.ne_of_lt (Nat.lt_of_lt_of_le Es148.lt P273)
        have ne284 : b148 ≠ b269 := Nat.ne_of_lt (Nat.lt_of_lt_of_le Av148.lt P273)
        have g285 : n0 ≤ b269 := Nat.le_trans O149.le P273
        have z286 : h0.size ≤ b269 := Nat.le_trans K150.1 P273
        have sf287 : Safe Z own_EL T148.vm h148 b269 := Safe.new P273
        have hkS := Nat.le_trans hkS P271.1
        have sf288 := Safe.keep P271 sf0 hH sf282
        have sf289 := Safe.keep P271 sf0 hH sf287
        have hR := hR.trans (CHr.keep P271 sf0 hH)
        have hH := CHv.keep P271 sf0 hH
        have F290 := Es148.keep P271
        have F291 := Fc148.keep P271 nin0
        have F292 := Fv148.keep P271 nin0
        have F293 := Av148.keep P271 nin0
        have O294 := O149.keep P271 all0
        have K295 := K150.trans P271 all0
        refine own_GH.st (T' := T267) 57 [(.ref b268)] (fun _ kq => st267 _ kq) ?_
        refine own_GH.sk 70 [(.ref b268)] (fun _ kq => XS.goto X267.here hx rfl (pc0 := 57) (pc' := 70) rfl (hb hby at_57) (by decide) (by decide) kq) ?_
        refine own_GH.si 72 [] (fun _ kq => XS.astore X267.here hx rfl (hb hby at_70) rfl rfl (l' := #[iv sel, iv pos, iv ch, iv flag, .val (.long lng), .second, rv a148, iv 3, iv 9, iv dr, rv b268, .unset, .unset, .unset, .unset]) rfl kq) ?_
        refine own_GH.sk 73 [(.int 0)] (fun _ kq => XS.iconst X267.here hx rfl (hb hby at_72) kq) ?_
        refine own_GH.si 75 [] (fun _ kq => XS.istore X267.here hx rfl (hb hby at_73) rfl (l' := #[iv sel, iv pos, iv ch, iv flag, .val (.long lng), .second, rv a148, iv 3, iv 9, iv dr, rv b268, iv 0, .unset, .unset, .unset]) rfl kq) ?_
        refine own_GH.sk 172 [] (fun _ kq => XS.goto X267.here hx rfl (pc0 := 75) (pc' := 172) rfl (hb hby at_75) (by decide) (by decide) kq) ?_
        exact tb _ _ _ _ _ a148 (3 : Int32) (9 : Int32) dr b268 b269 x270 (1 : Int32) _ [dr] (0 : Int32) (X267.mono (by decide) (by decide)) rfl hS hkS hZ hown hH hR O294 K295 N267 P274 P275 P276 P277 (own_codl (own_one hd) rfl) (own_bdl (own_one hd)) (by simp) (own_art_len (by simp) (by simp))
      · refine own_GH.sk 60 [] (fun _ kq => XS.ifYes X265.here hx rfl (pc0 := 49) (pc' := 60) rfl (hb hby at_49) rfl ((if0 _ _).trans (feq hc49).2) (by decide) (by decide) kq) ?_
        obtain ⟨T296, h296, X296, e296, E296, A296, D296, -, st296⟩ := newO X265 hx hZ hown (W_ 52 rfl) (W_ 2 rfl) (W_ 1 rfl) P266 (g := (mkF m 60 #[iv sel, iv pos, iv ch, iv flag, .val (.long lng), .second, rv a148, iv 3, iv 9, iv dr, .unset, .unset, .unset, .unset, .unset] [])) rfl (hb hby at_60) (by decide) (by decide)
        obtain ⟨b296, g296⟩ : ∃ z, z = h148.size := ⟨_, rfl⟩
        rw [← g296] at A296 D296 st296
        have ne297 : a148 ≠ b296 := Nat.ne_of_lt (Nat.lt_of_lt_of_le Es148.lt (Nat.le_of_eq g296.symm))
        have ne298 : b148 ≠ b296 := Nat.ne_of_lt (Nat.lt_of_lt_of_le Av148.lt (Nat.le_of_eq g296.symm))
        have g299 : n0 ≤ b296 := Nat.le_trans O149.le (Nat.le_of_eq g296.symm)
        have z300 : h0.size ≤ b296 := Nat.le_trans K150.1 (Nat.le_of_eq g296.symm)
        have sf301 : Safe Z own_EL T148.vm h148 b296 := Safe.new (Nat.le_of_eq g296.symm)
        have hkS := Nat.le_trans hkS E296.1
        have sf302 := Safe.ext E296 hH sf301
        have hR := hR.trans (CHr.ext E296 hH)
        have hH := CHv.ext E296 hH
        have F303 := Es148.ext E296
        have F304 := Fc148.ext E296
        have F305 := Fv148.ext E296
        have F306 := Av148.ext E296
        have O307 := O149.ext E296
        have K308 := K150.ext E296
        have F309 : Fld Z h296 b296 "java/lang/String" "value" "[B" .null := D296 (Or.inr (W_ 4 rfl)) (ty := (.array .byte)) (by decide)
        have F310 : Fld Z h296 b296 "java/lang/String" "coder" "B" (.int 0) := D296 (Or.inr (W_ 5 rfl)) (ty := .byte) (by decide)
        refine own_GH.st (T' := T296) 63 [(.ref b296)] st296 ?_
        refine own_GH.sk 64 [(.ref b296), (.ref b296)] (fun _ kq => XS.dup X296.here hx rfl (hb hby at_63) rfl rfl kq) ?_
        refine own_GH.sk 65 [(.int 0), (.ref b296), (.ref b296)] (fun _ kq => XS.iconst X296.here hx rfl (hb hby at_64) kq) ?_
        obtain ⟨T311, h311, k311, X311, e311, E311, A311, st311⟩ := newP X296 hx hZ (W_ 53 rfl) e296 (g := (mkF m 65 #[iv sel, iv pos, iv ch, iv flag, .val (.long lng), .second, rv a148, iv 3, iv 9, iv dr, .unset, .unset, .unset, .unset, .unset] [(.int 0), (.ref b296), (.ref b296)])) rfl (hb hby at_65) rfl (by decide) (cap := 0) (by decide) (by decide) (by decide) (by decide)
        obtain ⟨b311, g311⟩ : ∃ z, z = h296.size := ⟨_, rfl⟩
        rw [← g311] at A311 st311
        have ne312 : a148 ≠ b311 := Nat.ne_of_lt (Nat.lt_of_lt_of_le F303.lt (Nat.le_of_eq g311.symm))
        have ne313 : b148 ≠ b311 := Nat.ne_of_lt (Nat.lt_of_lt_of_le F306.lt (Nat.le_of_eq g311.symm))
        have ne314 : b296 ≠ b311 := Nat.ne_of_lt (Nat.lt_of_lt_of_le A296.lt (Nat.le_of_eq g311.symm))
        have g315 : n0 ≤ b311 := Nat.le_trans O307.le (Nat.le_of_eq g311.symm)
        have z316 : h0.size ≤ b311 := Nat.le_trans K308.1 (Nat.le_of_eq g311.symm)
        have sf317 : Safe Z own_EL T148.vm h296 b311 := Safe.new (Nat.le_of_eq g311.symm)
        have hkS := Nat.le_trans hkS E311.1
        have sf318 := Safe.ext E311 hH sf302
        have sf319 := Safe.ext E311 hH sf317
        have hR := hR.trans (CHr.ext E311 hH)
        have hH := CHv.ext E311 hH
        have F320 := F303.ext E311
        have F321 := F304.ext E311
        have F322 := F305.ext E311
        have F323 := F306.ext E311
        have F324 := A296.ext E311
        have F325 := F309.ext E311
        have F326 := F310.ext E311
        have O327 := O307.ext E311
        have K328 := K308.ext E311
        have F329 : Arv Z h311 b311 k311 .char (0 : Int32) [] (.int 0) := (Arv.new A311 (by decide)).pad (pad_rep [] (.int 0) 0)
        refine own_GH.st (T' := T311) 67 [(.ref b311), (.ref b296), (.ref b296)] st311 ?_
        obtain ⟨_, _, ⟨T330, L330, k330, n330⟩, -, X330, sS330, gS330, ⟨Lc330, hQ330, l330, y330, z330, ch330⟩, st330⟩ := X311.specialBackS hx (y := own_y17) rfl hown (mvT hZ (W_ 57 rfl)) (mvT hZ (W_ 58 rfl)) (mvT hZ (W_ 59 rfl)) (by decide) (backOfSH (vm0 := T148.vm) (W := 1) (rm_str0 l Z a0 hw [] b296 b311 h311 n0 O327 F324 F325 F326 g299 (own_Len.arv F329)) hZ (W_ 59 rfl) (W_ 1 rfl) (by decide) (by decide) ew hH) (g := (mkF m 67 #[iv sel, iv pos, iv ch, iv flag, .val (.long lng), .second, rv a148, iv 3, iv 9, iv dr, .unset, .unset, .unset, .unset, .unset] [(.ref b311), (.ref b296), (.ref b296)])) rfl (by rw [hml]; rfl) (Steps.refl _) (a := b296) (argsL := [(.ref b311)]) (rest := [(.ref b296)]) (lenOf pd__28_5bC_29V rfl) rfl (by show 2 * 0 + _ ≤ _; exact Nat.le_of_eq rfl) (hb hby at_67) (fun _ _ => ⟨rfl, e311, (by decide : 4 + 4 ≤ _), (by decide : 44 + 8 ≤ _)⟩)
        dsimp only [Pt.U, Pt.locs, Pt.cells, Pt.slots] at X330 l330 y330 z330 st330 hQ330 sS330 gS330 ch330
        subst l330 y330 z330
        obtain ⟨X330, hS, hZ, hown⟩ := rebS (vm0 := T148.vm) hS (by rw [e311]; exact hkS) X330 sS330 gS330 hZ hown
        have sf331 := ch330.safe F324.lt sf318
        have sf332 := ch330.safe F329.lt sf319
        have hR := hR.trans ch330
        have hH := ch330.1
        obtain ⟨b333, x334, rfl, Nq330, P335, P336, P337, P338, P339⟩ := hQ330
        have N330 := Fr.app N265 Nq330
        have hkS := Nat.le_trans hkS P335.1
        have F340 := F320.keep P335
        have F341 := F321.keep P335 (ninS ne297 nin0)
        have F342 := F322.keep P335 (ninS ne297 nin0)
        have F343 := F323.keep P335 (ninS ne298 nin0)
        have F344 := F324.keep P335
        have F345 := F329.keep P335 (ninS (Ne.symm ne314) nin0)
        have O346 := O327.keep P335 (allS g299 all0)
        have K347 := K328.trans P335 (allS (Or.inr z300) all0)
        have hkS : T330.heap.size ≤ T330.heap.size := Nat.le_refl _
        refine own_GH.st (T' := T330) 70 [(.ref b296)] (fun _ kq => st330.trans kq) ?_
        refine own_GH.si 72 [] (fun _ kq => XS.astore X330.here hx rfl (hb hby at_70) rfl rfl (l' := #[iv sel, iv pos, iv ch, iv flag, .val (.long lng), .second, rv a148, iv 3, iv 9, iv dr, rv b296, .unset, .unset, .unset, .unset]) rfl kq) ?_
        refine own_GH.sk 73 [(.int 0)] (fun _ kq => XS.iconst X330.here hx rfl (hb hby at_72) kq) ?_
        refine own_GH.si 75 [] (fun _ kq => XS.istore X330.here hx rfl (hb hby at_73) rfl (l' := #[iv sel, iv pos, iv ch, iv flag, .val (.long lng), .second, rv a148, iv 3, iv 9, iv dr, rv b296, iv 0, .unset, .unset, .unset]) rfl kq) ?_
        refine own_GH.sk 172 [] (fun _ kq => XS.goto X330.here hx rfl (pc0 := 75) (pc' := 172) rfl (hb hby at_75) (by decide) (by decide) kq) ?_
        exact tb _ _ _ _ _ a148 (3 : Int32) (9 : Int32) dr b296 b333 x334 (0 : Int32) _ [] (0 : Int32) (X330.mono (by decide) (by decide)) rfl hS hkS hZ hown hH hR O346 K347 N330 P336 P337 P338 P339 (own_codl own_nil rfl) (own_bdl own_nil) (by simp) (own_art_len (by simp) (by simp))
  · refine own_GH.sk 11 [] (fun _ kq => XS.ifYes X0.here hx rfl (pc0 := 3) (pc' := 11) rfl (hb hby at_3) rfl ((if0 _ _).trans (feq hc3).2) (by decide) (by decide) kq) ?_
    obtain ⟨a348, T348, h348, k348, b348, kb348, X348, e348, E348, hS, hkS, hZ, hown, Es348, Fc348, Fv348, Av348, lta348, ltb348, ch348, Li348, nq348, st348⟩ := ldcCH (vm0 := s.vm) X0 hx hZ hown (W_ 158 rfl) own_wS e0 hS hkS ew (by decide) hH (vs := [(.int 114), (.int 101), (.int 108), (.int 97), (.int 116), (.int 101), (.int 100)]) (z := (7 : Int32)) (by decide +kernel) (by decide) (by decide) (g := (mkF m 11 #[iv sel, iv pos, iv ch, iv flag, .val (.long lng), .second, .unset, .unset, .unset, .unset, .unset, .unset, .unset, .unset, .unset] [])) rfl (hb hby at_11) (n := 28) (by decide +kernel) (by decide) (by decide) (by decide)
    have hR := hR.trans ch348
    have hH := ch348.1
    have O349 := O0.ext E348
    have K350 := K0.ext E348
    refine own_GH.st (T' := T348) 13 [(.ref a348)] st348 ?_
    refine own_GH.si 15 [] (fun _ kq => XS.astore X348.here hx rfl (hb hby at_13) rfl rfl (l' := #[iv sel, iv pos, iv ch, iv flag, .val (.long lng), .second, rv a348, .unset, .unset, .unset, .unset, .unset, .unset, .unset, .unset]) rfl kq) ?_
    refine own_GH.sk 16 [(.int sel)] (fun _ kq => XS.iloadN X348.here hx rfl (hb hby at_15) rfl kq) ?_
    refine own_GH.sk 17 [(.int 1), (.int sel)] (fun _ kq => XS.iconst X348.here hx rfl (hb hby at_16) kq) ?_
    refine own_GH.sk 18 [(.int ((sel.toUInt32 >>> ((1 : Int32) &&& 31).toUInt32).toInt32))] (fun _ kq => XS.iushr X348.here hx rfl (hb hby at_17) rfl kq) ?_
    refine own_GH.sk 19 [(.int 3), (.int ((sel.toUInt32 >>> ((1 : Int32) &&& 31).toUInt32).toInt32))] (fun _ kq => XS.iconst X348.here hx rfl (hb hby at_18) kq) ?_
    refine own_GH.sk 20 [(.int (((sel.toUInt32 >>> ((1 : Int32) &&& 31).toUInt32).toInt32) &&& (3 : Int32)))] (fun _ kq => XS.iand X348.here hx rfl (hb hby at_19) rfl kq) ?_
    refine own_GH.si 22 [] (fun _ kq => XS.istore X348.here hx rfl (hb hby at_20) rfl (l' := #[iv sel, iv pos, iv ch, iv flag, .val (.long lng), .second, rv a348, .val (.int (((sel.toUInt32 >>> ((1 : Int32) &&& 31).toUInt32).toInt32) &&& (3 : Int32))), .unset, .unset, .unset, .unset, .unset, .unset, .unset]) rfl kq) ?_
    obtain ⟨md, hmd⟩ : ∃ z, z = (((sel.toUInt32 >>> ((1 : Int32) &&& 31).toUInt32).toInt32) &&& (3 : Int32)) := ⟨_, rfl⟩
    refine own_GH.cast (g' := (mkF m 22 #[iv sel, iv pos, iv ch, iv flag, .val (.long lng), .second, rv a348, iv md, .unset, .unset, .unset, .unset, .unset, .unset, .unset] [])) (by rw [hmd]) ?_
    have hm4 := own_four ((sel.toUInt32 >>> ((1 : Int32) &&& 31).toUInt32).toInt32)
    rw [← hmd] at hm4
    rcases hm4 with rfl | rfl | rfl | rfl
    · refine own_GH.sk 24 [(.ref a348)] (fun _ kq => XS.aload X348.here hx rfl (hb hby at_22) rfl rfl kq) ?_
      obtain ⟨cq351, kq351, q351a, q351b, q351c⟩ := isOf hZ e348 Es348
      obtain ⟨_, _, ⟨T351, L351, k351, n351⟩, -, X351, ⟨Lc351, hQ351, l351, y351, z351⟩, st351⟩ := X348.virtualBack hx (y := own_y7) (z := own_y7) hown (mvT hZ (W_ 8 rfl)) (mvT hZ (W_ 9 rfl)) (notFace_of_selects (args := #[]) (mvT hZ (W_ 11 rfl))) (mvT hZ (W_ 11 rfl)) (mvT hZ (W_ 10 rfl)) (by decide) (backOf (W := 0) (rm_strlen l Z a0 hw [] a348 csz b348 (7 : Int32) h348 n0 O349 S_CS hcs Fc348 Fv348 (own_Len.arv Av348) Es348) hZ (W_ 12 rfl) (W_ 1 rfl) (by decide) (by decide)) q351a q351c (g := (mkF m 24 #[iv sel, iv pos, iv ch, iv flag, .val (.long lng), .second, rv a348, iv 0, .unset, .unset, .unset, .unset, .unset, .unset, .unset] [(.ref a348)])) rfl (by rw [hml]; rfl) (Steps.refl _) (argsL := []) (rest := []) (lenOf pd__28_29I rfl) rfl (by show 2 * 0 + _ ≤ _; exact Nat.le_of_eq rfl) (hb hby at_24) (fun _ _ => ⟨rfl, e348, (by decide : 2 + 0 ≤ _), (by decide : 32 + 0 ≤ _)⟩)
      dsimp only [Pt.U, Pt.locs, Pt.cells, Pt.slots] at X351 l351 y351 z351 st351 hQ351
      subst l351 y351 z351
      obtain ⟨rfl, Nq351, P352⟩ := hQ351
      have N351 := Fr.app N0 Nq351
      refine own_GH.st (T' := T351) 27 [(.int 7)] (fun _ kq => st351.trans kq) ?_
      refine own_GH.si 29 [] (fun _ kq => XS.istore X351.here hx rfl (hb hby at_27) rfl (l' := #[iv sel, iv pos, iv ch, iv flag, .val (.long lng), .second, rv a348, iv 0, iv 7, .unset, .unset, .unset, .unset, .unset, .unset]) rfl kq) ?_
      refine own_GH.sk 30 [(.int ch)] (fun _ kq => XS.iloadN X351.here hx rfl (hb hby at_29) rfl kq) ?_
      refine own_GH.sk 33 [(.int 255), (.int ch)] (fun _ kq => XS.sipush X351.here hx rfl (hb hby at_30) kq) ?_
      refine own_GH.sk 34 [(.int (ch &&& (255 : Int32)))] (fun _ kq => XS.iand X351.here hx rfl (hb hby at_33) rfl kq) ?_
      refine own_GH.sk 35 [(.int ((ch &&& (255 : Int32)).toUInt32.toUInt16.toUInt32.toInt32))] (fun _ kq => XS.i2c X351.here hx rfl (hb hby at_34) rfl kq) ?_
      refine own_GH.si 37 [] (fun _ kq => XS.istore X351.here hx rfl (hb hby at_35) rfl (l' := #[iv sel, iv pos, iv ch, iv flag, .val (.long lng), .second, rv a348, iv 0, iv 7, .val (.int ((ch &&& (255 : Int32)).toUInt32.toUInt16.toUInt32.toInt32)), .unset, .unset, .unset, .unset, .unset]) rfl kq) ?_
      obtain ⟨dr, hdr⟩ : ∃ z, z = ((ch &&& (255 : Int32)).toUInt32.toUInt16.toUInt32.toInt32) := ⟨_, rfl⟩
      refine own_GH.cast (g' := (mkF m 37 #[iv sel, iv pos, iv ch, iv flag, .val (.long lng), .second, rv a348, iv 0, iv 7, iv dr, .unset, .unset, .unset, .unset, .unset] [])) (by rw [hdr]) ?_
      have hd : ¬ dr < (0 : Int32) ∧ ¬ (255 : Int32) < dr := by rw [hdr]; exact own_chrb _
      refine own_GH.sk 39 [(.int 0)] (fun _ kq => XS.iload X351.here hx rfl (hb hby at_37) rfl kq) ?_
      refine own_GH.sk 40 [(.int 3), (.int 0)] (fun _ kq => XS.iconst X351.here hx rfl (hb hby at_39) kq) ?_
      have hc40 : ¬ ((0 : Int32) = (3 : Int32)) := (by decide)
      refine own_GH.sk 78 [] (fun _ kq => XS.icmpYes X351.here hx rfl (pc0 := 40) (pc' := 78) rfl (hb hby at_40) rfl (feq hc40).2 (by decide) (by decide) kq) ?_
      refine own_GH.sk 80 [(.int 0)] (fun _ kq => XS.iload X351.here hx rfl (hb hby at_78) rfl kq) ?_
      refine own_GH.sk 81 [(.int 2), (.int 0)] (fun _ kq => XS.iconst X351.here hx rfl (hb hby at_80) kq) ?_
      have hc81 : ¬ ((0 : Int32) = (2 : Int32)) := (by decide)
      refine own_GH.sk 96 [] (fun _ kq => XS.icmpYes X351.here hx rfl (pc0 := 81) (pc' := 96) rfl (hb hby at_81) rfl (feq hc81).2 (by decide) (by decide) kq) ?_
      refine own_GH.sk 97 [(.int pos)] (fun _ kq => XS.iloadN X351.here hx rfl (hb hby at_96) rfl kq) ?_
      refine own_GH.sk 99 [(.int 2147483647), (.int pos)] (fun _ kq => X351.ldcInt hx hown (mvT hZ (W_ 21 rfl)) (g := (mkF m 97 #[iv sel, iv pos, iv ch, iv flag, .val (.long lng), .second, rv a348, iv 0, iv 7, iv dr, .unset, .unset, .unset, .unset, .unset] [(.int pos)])) rfl (hb hby at_97) _ kq) ?_
      refine own_GH.sk 100 [(.int (pos &&& (2147483647 : Int32)))] (fun _ kq => XS.iand X351.here hx rfl (hb hby at_99) rfl kq) ?_
      refine own_GH.sk 102 [(.int 7), (.int (pos &&& (2147483647 : Int32)))] (fun _ kq => XS.iload X351.here hx rfl (hb hby at_100) rfl kq) ?_
      refine own_GH.sk 103 [(.int ((pos &&& (2147483647 : Int32)) % (7 : Int32)))] (fun _ kq => iremM (g := (mkF m 102 #[iv sel, iv pos, iv ch, iv flag, .val (.long lng), .second, rv a348, iv 0, iv 7, iv dr, .unset, .unset, .unset, .unset, .unset] [(.int 7), (.int (pos &&& (2147483647 : Int32)))])) X351 hx rfl (hb hby at_102) rfl (by decide) kq) ?_
      refine own_GH.si 105 [] (fun _ kq => XS.istore X351.here hx rfl (hb hby at_103) rfl (l' := #[iv sel, iv pos, iv ch, iv flag, .val (.long lng), .second, rv a348, iv 0, iv 7, iv dr, .unset, .unset, .val (.int ((pos &&& (2147483647 : Int32)) % (7 : Int32))), .unset, .unset]) rfl kq) ?_
      obtain ⟨q, hq⟩ : ∃ z, z = ((pos &&& (2147483647 : Int32)) % (7 : Int32)) := ⟨_, rfl⟩
      refine own_GH.cast (g' := (mkF m 105 #[iv sel, iv pos, iv ch, iv flag, .val (.long lng), .second, rv a348, iv 0, iv 7, iv dr, .unset, .unset, iv q, .unset, .unset] [])) (by rw [hq]) ?_
      obtain ⟨hq1, hq2⟩ := own_mod7 pos
      rw [← hq] at hq1 hq2
      have tx : ∀ (tx_T : State) (tx_h : Heap) (tx_L : List Loc) (tx_vm : Vm) (tx_k : Nat) (x : Int32), (Stand p l e room_1 (s.setVm tx_vm) m #[(.int sel), (.int pos), (.int ch), (.int flag), (.long lng)] below meth c tx_T tx_L 2 32) → (tx_T.heap = tx_h) → (s.Since tx_vm tx_k) → (tx_k ≤ tx_h.size) → (Z.Warmed39 (s.setVm tx_vm).vm) → ((s.setVm tx_vm).vm.findClass "com/example/termflow/termflow/feed/LinkIsArtefactPinLaw" = some m.cls) → (CHv Z own_EL tx_vm tx_h) → (CHr Z own_EL s.vm h0 tx_vm tx_h) → (Old Z n0 tx_h) → (Keep h0 tx_h []) → (Fr n0 tx_L) → (Exa Z tx_h a348 "java/lang/String") → (Fld Z tx_h a348 "java/lang/String" "coder" "B" (.int 0)) → (Fld Z tx_h a348 "java/lang/String" "value" "[B" (.ref b348)) → (Arv Z tx_h b348 kb348 .byte (7 : Int32) [(.int 114), (.int 101), (.int 108), (.int 97), (.int 116), (.int 101), (.int 100)] (.int 0)) → (¬ x < (0 : Int32) ∧ ¬ (255 : Int32) < x) → own_GH Z own_EL p e below s 26 3216 (Q_law Z sel pos ch flag lng csz fm la lc h0 n0) tx_T (mkF m 135 #[iv sel, iv pos, iv ch, iv flag, .val (.long lng), .second, rv a348, iv 0, iv 7, iv dr, .unset, .unset, iv q, iv x, .unset] []) := by
        intro tx_T tx_h tx_L tx_vm tx_k x tx_X tx_e hS hkS hZ hown hH hR tx_O tx_K tx_N tx_F0 tx_F1 tx_F2 tx_F3 hxr
        refine own_GH.sk 137 [(.ref a348)] (fun _ kq => XS.aload tx_X.here hx rfl (hb hby at_135) rfl rfl kq) ?_
        refine own_GH.sk 139 [(.int 0), (.ref a348)] (fun _ kq => XS.iload tx_X.here hx rfl (hb hby at_137) rfl kq) ?_
        refine own_GH.sk 141 [(.int q), (.int 0), (.ref a348)] (fun _ kq => XS.iload tx_X.here hx rfl (hb hby at_139) rfl kq) ?_
        refine own_GH.sk 143 [(.int x), (.int q), (.int 0), (.ref a348)] (fun _ kq => XS.iload tx_X.here hx rfl (hb hby at_141) rfl kq) ?_
        obtain ⟨_, _, ⟨T353, L353, k353, n353⟩, -, X353, ⟨Lc353, hQ353, l353, y353, z353⟩, st353⟩ := Jvm.LawKit.callS tx_X hx (y := own_y23) hown (mvT hZ (W_ 48 rfl)) (mvT hZ (W_ 49 rfl)) (mvT hZ (W_ 50 rfl)) (mvT hZ (W_ 51 rfl)) (by decide) (backOf (W := 0) (rm_mkr0 l Z a0 hw [] a348 q x csz fm b348 kb348 tx_h n0 tx_O S_CS hcs S_IO hio tx_F0 tx_F2 tx_F1 tx_F3 hxr) hZ (W_ 51 rfl) (W_ 50 rfl) (by decide) (by decide)) (g := (mkF m 143 #[iv sel, iv pos, iv ch, iv flag, .val (.long lng), .second, rv a348, iv 0, iv 7, iv dr, .unset, .unset, iv q, iv x, .unset] [(.int x), (.int q), (.int 0), (.ref a348)])) rfl (by rw [hml]; rfl) (argsL := [(.ref a348), (.int 0), (.int q), (.int x)]) (rest := []) (lenOf pd__28Ljava_2flang_2fString_3bIIC_29Ljava_2flang_2fString_3b rfl) rfl (by show 2 * 0 + _ ≤ _; exact Nat.le_of_eq rfl) (hb hby at_143) (fun _ _ => ⟨rfl, tx_e, (by decide : 2 + 3 ≤ _), (by decide : 32 + 18 ≤ _)⟩)
        dsimp only [Pt.U, Pt.locs, Pt.cells, Pt.slots] at X353 l353 y353 z353 st353 hQ353
        subst l353 y353 z353
        obtain ⟨b354, b355, x356, rfl, Nq353, P357, P358, P359, P360, P361, P362, P363, P364⟩ := hQ353
        have N353 := Fr.app tx_N Nq353
        have ne365 : a348 ≠ b354 := Nat.ne_of_lt (Nat.lt_of_lt_of_le tx_F0.lt P358)
        have ne366 : b348 ≠ b354 := Nat.ne_of_lt (Nat.lt_of_lt_of_le tx_F3.lt P358)
        have g367 : n0 ≤ b354 := Nat.le_trans tx_O.le P358
        have z368 : h0.size ≤ b354 := Nat.le_trans tx_K.1 P358
        have sf369 : Safe Z own_EL tx_vm tx_h b354 := Safe.new P358
        have ne370 : a348 ≠ b355 := Nat.ne_of_lt (Nat.lt_of_lt_of_le tx_F0.lt P359)
        have ne371 : b348 ≠ b355 := Nat.ne_of_lt (Nat.lt_of_lt_of_le tx_F3.lt P359)
        have g372 : n0 ≤ b355 := Nat.le_trans tx_O.le P359
        have z373 : h0.size ≤ b355 := Nat.le_trans tx_K.1 P359
        have sf374 : Safe Z own_EL tx_vm tx_h b355 := Safe.new P359
        have hkS := Nat.le_trans hkS P357.1
        have sf375 := Safe.keep P357 sf0 hH sf369
        have sf376 := Safe.keep P357 sf0 hH sf374
        have hR := hR.trans (CHr.keep P357 sf0 hH)
        have hH := CHv.keep P357 sf0 hH
        have F377 := tx_F0.keep P357
        have F378 := tx_F1.keep P357 nin0
        have F379 := tx_F2.keep P357 nin0
        have F380 := tx_F3.keep P357 nin0
        have O381 := tx_O.keep P357 all0
        have K382 := tx_K.trans P357 all0
        refine own_GH.st (T' := T353) 146 [(.ref b354)] (fun _ kq => st353 _ kq) ?_
        refine own_GH.si 148 [] (fun _ kq => XS.astore X353.here hx rfl (hb hby at_146) rfl rfl (l' := #[iv sel, iv pos, iv ch, iv flag, .val (.long lng), .second, rv a348, iv 0, iv 7, iv dr, rv b354, .unset, iv q, iv x, .unset]) rfl kq) ?_
        refine own_GH.sk 150 [(.int 0)] (fun _ kq => XS.iload X353.here hx rfl (hb hby at_148) rfl kq) ?_
        have hc150 : (0 : Int32) = (0 : Int32) := (by decide)
        refine own_GH.sk 153 [] (fun _ kq => XS.ifNo X353.here hx rfl (hb hby at_150) rfl ((if0 _ _).trans (teq hc150).2) kq) ?_
        refine own_GH.sk 155 [(.int x)] (fun _ kq => XS.iload X353.here hx rfl (hb hby at_153) rfl kq) ?_
        refine own_GH.sk 157 [(.ref a348), (.int x)] (fun _ kq => XS.aload X353.here hx rfl (hb hby at_155) rfl rfl kq) ?_
        refine own_GH.sk 159 [(.int q), (.ref a348), (.int x)] (fun _ kq => XS.iload X353.here hx rfl (hb hby at_157) rfl kq) ?_
        obtain ⟨cq383, kq383, q383a, q383b, q383c⟩ := isOf hZ rfl F377
        obtain ⟨_, _, ⟨T383, L383, k383, n383⟩, -, X383, ⟨Lc383, hQ383, l383, y383, z383⟩, st383⟩ := X353.virtualBack hx (y := own_y11) (z := own_y11) hown (mvT hZ (W_ 26 rfl)) (mvT hZ (W_ 27 rfl)) (notFace_of_selects (args := #[]) (mvT hZ (W_ 29 rfl))) (mvT hZ (W_ 29 rfl)) (mvT hZ (W_ 28 rfl)) (by decide) (backOf (W := 1) (rm_charAt l Z a0 hw [] a348 q csz fm b348 (7 : Int32) (own_rel.getD q.toNatClampNeg 0) T353.heap n0 O381 S_CS hcs S_IO hio F377 F379 F378 (own_Len.arv F380) (own_At.arv F380 ⟨hq1, hq2⟩ (own_getD own_rel _)) hq1 hq2) hZ (W_ 30 rfl) (W_ 1 rfl) (by decide) (by decide)) q383a q383c (g := (mkF m 159 #[iv sel, iv pos, iv ch, iv flag, .val (.long lng), .second, rv a348, iv 0, iv 7, iv dr, rv b354, .unset, iv q, iv x, .unset] [(.int q), (.ref a348), (.int x)])) rfl (by rw [hml]; rfl) (Steps.refl _) (argsL := [(.int q)]) (rest := [(.int x)]) (lenOf pd__28I_29C rfl) rfl (by show 2 * 0 + _ ≤ _; exact Nat.le_of_eq rfl) (hb hby at_159) (fun _ _ => ⟨rfl, rfl, (by decide : 5 + 0 ≤ _), (by decide : 50 + 0 ≤ _)⟩)
        dsimp only [Pt.U, Pt.locs, Pt.cells, Pt.slots] at X383 l383 y383 z383 st383 hQ383
        subst l383 y383 z383
        obtain ⟨rfl, Nq383, P384⟩ := hQ383
        have N383 := Fr.app N353 Nq383
        refine own_GH.st (T' := T383) 162 [(.int (own_chr (own_rel.getD q.toNatClampNeg 0))), (.int x)] (fun _ kq => st383.trans kq) ?_
        rcases Classical.em (x = (own_chr (own_rel.getD q.toNatClampNeg 0))) with hc162 | hc162
        · refine own_GH.sk 165 [] (fun _ kq => XS.icmpNo X383.here hx rfl (hb hby at_162) rfl (teq hc162).2 kq) ?_
          refine own_GH.sk 166 [(.int 1)] (fun _ kq => XS.iconst X383.here hx rfl (hb hby at_165) kq) ?_
          refine own_GH.sk 170 [(.int 1)] (fun _ kq => XS.goto X383.here hx rfl (pc0 := 166) (pc' := 170) rfl (hb hby at_166) (by decide) (by decide) kq) ?_
          refine own_GH.si 172 [] (fun _ kq => XS.istore X383.here hx rfl (hb hby at_170) rfl (l' := #[iv sel, iv pos, iv ch, iv flag, .val (.long lng), .second, rv a348, iv 0, iv 7, iv dr, rv b354, iv 1, iv q, iv x, .unset]) rfl kq) ?_
          exact ta _ _ _ _ _ a348 (0 : Int32) (7 : Int32) dr b354 b355 x356 (7 : Int32) _ [(kA 0 114 q x), (kA 1 101 q x), (kA 2 108 q x), (kA 3 97 q x), (kA 4 116 q x), (kA 5 101 q x), (kA 6 100 q x)] (1 : Int32) q x (X383.mono (by decide) (by decide)) P384 hS hkS hZ hown hH hR O381 K382 N383 P360 P362 P361 P364 (own_codl P363 rfl) (own_bdl P363) (by simp) ((own_m0r hq1 hq2 hxr).trans (if_pos hc162))
        · refine own_GH.sk 169 [] (fun _ kq => XS.icmpYes X383.here hx rfl (pc0 := 162) (pc' := 169) rfl (hb hby at_162) rfl (feq hc162).2 (by decide) (by decide) kq) ?_
          refine own_GH.sk 170 [(.int 0)] (fun _ kq => XS.iconst X383.here hx rfl (hb hby at_169) kq) ?_
          refine own_GH.si 172 [] (fun _ kq => XS.istore X383.here hx rfl (hb hby at_170) rfl (l' := #[iv sel, iv pos, iv ch, iv flag, .val (.long lng), .second, rv a348, iv 0, iv 7, iv dr, rv b354, iv 0, iv q, iv x, .unset]) rfl kq) ?_
          exact ta _ _ _ _ _ a348 (0 : Int32) (7 : Int32) dr b354 b355 x356 (7 : Int32) _ [(kA 0 114 q x), (kA 1 101 q x), (kA 2 108 q x), (kA 3 97 q x), (kA 4 116 q x), (kA 5 101 q x), (kA 6 100 q x)] (0 : Int32) q x (X383.mono (by decide) (by decide)) P384 hS hkS hZ hown hH hR O381 K382 N383 P360 P362 P361 P364 (own_codl P363 rfl) (own_bdl P363) (by simp) ((own_m0r hq1 hq2 hxr).trans (if_neg hc162))
      refine own_GH.sk 106 [(.int ch)] (fun _ kq => XS.iloadN X351.here hx rfl (hb hby at_105) rfl kq) ?_
      refine own_GH.sk 108 [(.int 8), (.int ch)] (fun _ kq => XS.bipush X351.here hx rfl (hb hby at_106) kq) ?_
      refine own_GH.sk 109 [(.int ((ch.toUInt32 >>> ((8 : Int32) &&& 31).toUInt32).toInt32))] (fun _ kq => XS.iushr X351.here hx rfl (hb hby at_108) rfl kq) ?_
      refine own_GH.sk 110 [(.int 1), (.int ((ch.toUInt32 >>> ((8 : Int32) &&& 31).toUInt32).toInt32))] (fun _ kq => XS.iconst X351.here hx rfl (hb hby at_109) kq) ?_
      refine own_GH.sk 111 [(.int (((ch.toUInt32 >>> ((8 : Int32) &&& 31).toUInt32).toInt32) &&& (1 : Int32)))] (fun _ kq => XS.iand X351.here hx rfl (hb hby at_110) rfl kq) ?_
      rcases Classical.em ((((ch.toUInt32 >>> ((8 : Int32) &&& 31).toUInt32).toInt32) &&& (1 : Int32)) = (0 : Int32)) with hc111 | hc111
      · refine own_GH.sk 114 [] (fun _ kq => XS.ifNo X351.here hx rfl (hb hby at_111) rfl ((if0 _ _).trans (teq hc111).2) kq) ?_
        refine own_GH.sk 116 [(.ref a348)] (fun _ kq => XS.aload X351.here hx rfl (hb hby at_114) rfl rfl kq) ?_
        refine own_GH.sk 118 [(.int q), (.ref a348)] (fun _ kq => XS.iload X351.here hx rfl (hb hby at_116) rfl kq) ?_
        refine own_GH.sk 120 [(.int 7), (.int q), (.ref a348)] (fun _ kq => XS.iload X351.here hx rfl (hb hby at_118) rfl kq) ?_
        refine own_GH.sk 121 [(.int 1), (.int 7), (.int q), (.ref a348)] (fun _ kq => XS.iconst X351.here hx rfl (hb hby at_120) kq) ?_
        refine own_GH.sk 122 [(.int ((7 : Int32) - (1 : Int32))), (.int q), (.ref a348)] (fun _ kq => XS.isub X351.here hx rfl (hb hby at_121) rfl kq) ?_
        have hl385 : ((7 : Int32) - (1 : Int32)) = (6 : Int32) := by decide
        refine own_GH.cast (g' := (mkF m 122 #[iv sel, iv pos, iv ch, iv flag, .val (.long lng), .second, rv a348, iv 0, iv 7, iv dr, .unset, .unset, iv q, .unset, .unset] [(.int 6), (.int q), (.ref a348)])) (by rw [hl385]) ?_
        obtain ⟨_, _, ⟨T386, L386, k386, n386⟩, -, X386, ⟨Lc386, hQ386, l386, y386, z386⟩, st386⟩ := Jvm.LawKit.callS X351 hx (y := own_y21) hown (mvT hZ (W_ 22 rfl)) (mvT hZ (W_ 23 rfl)) (mvT hZ (W_ 24 rfl)) (mvT hZ (W_ 25 rfl)) (by decide) (backOf (W := 1) (rm_min l Z a0 hw [] q (6 : Int32) h348 n0 O349 ) hZ (W_ 25 rfl) (W_ 24 rfl) (by decide) (by decide)) (g := (mkF m 122 #[iv sel, iv pos, iv ch, iv flag, .val (.long lng), .second, rv a348, iv 0, iv 7, iv dr, .unset, .unset, iv q, .unset, .unset] [(.int 6), (.int q), (.ref a348)])) rfl (by rw [hml]; rfl) (argsL := [(.int q), (.int 6)]) (rest := [(.ref a348)]) (lenOf pd__28II_29I rfl) rfl (by show 2 * 0 + _ ≤ _; exact Nat.le_of_eq rfl) (hb hby at_122) (fun _ _ => ⟨rfl, P352, (by decide : 2 + 0 ≤ _), (by decide : 32 + 0 ≤ _)⟩)
        dsimp only [Pt.U, Pt.locs, Pt.cells, Pt.slots] at X386 l386 y386 z386 st386 hQ386
        subst l386 y386 z386
        obtain ⟨rfl, Nq386, P387⟩ := hQ386
        have N386 := Fr.app N351 Nq386
        refine own_GH.st (T' := T386) 125 [(.int (own_min q (6 : Int32))), (.ref a348)] (fun _ kq => st386 _ kq) ?_
        obtain ⟨cq388, kq388, q388a, q388b, q388c⟩ := isOf hZ P387 Es348
        obtain ⟨_, _, ⟨T388, L388, k388, n388⟩, -, X388, ⟨Lc388, hQ388, l388, y388, z388⟩, st388⟩ := X386.virtualBack hx (y := own_y11) (z := own_y11) hown (mvT hZ (W_ 26 rfl)) (mvT hZ (W_ 27 rfl)) (notFace_of_selects (args := #[]) (mvT hZ (W_ 29 rfl))) (mvT hZ (W_ 29 rfl)) (mvT hZ (W_ 28 rfl)) (by decide) (backOf (W := 0) (rm_charAt l Z a0 hw [] a348 (own_min q (6 : Int32)) csz fm b348 (7 : Int32) (own_rel.getD (own_min q (6 : Int32)).toNatClampNeg 0) h348 n0 O349 S_CS hcs S_IO hio Es348 Fv348 Fc348 (own_Len.arv Av348) (own_At.arv Av348 ⟨(own_minb7 hq1).1, (own_minb7 hq1).2⟩ (own_getD own_rel _)) (own_minb7 hq1).1 (own_minb7 hq1).2) hZ (W_ 30 rfl) (W_ 1 rfl) (by decide) (by decide)) q388a q388c (g := (mkF m 125 #[iv sel, iv pos, iv ch, iv flag, .val (.long lng), .second, rv a348, iv 0, iv 7, iv dr, .unset, .unset, iv q, .unset, .unset] [(.int (own_min q (6 : Int32))), (.ref a348)])) rfl (by rw [hml]; rfl) (Steps.refl _) (argsL := [(.int (own_min q (6 : Int32)))]) (rest := []) (lenOf pd__28I_29C rfl) rfl (by show 2 * 0 + _ ≤ _; exact Nat.le_of_eq rfl) (hb hby at_125) (fun _ _ => ⟨rfl, P387, (by decide : 2 + 0 ≤ _), (by decide : 32 + 0 ≤ _)⟩)
        dsimp only [Pt.U, Pt.locs, Pt.cells, Pt.slots] at X388 l388 y388 z388 st388 hQ388
        subst l388 y388 z388
        obtain ⟨rfl, Nq388, P389⟩ := hQ388
        have N388 := Fr.app N386 Nq388
        refine own_GH.st (T' := T388) 128 [(.int (own_chr (own_rel.getD (own_min q (6 : Int32)).toNatClampNeg 0)))] (fun _ kq => st388.trans kq) ?_
        refine own_GH.sk 133 [(.int (own_chr (own_rel.getD (own_min q (6 : Int32)).toNatClampNeg 0)))] (fun _ kq => XS.goto X388.here hx rfl (pc0 := 128) (pc' := 133) rfl (hb hby at_128) (by decide) (by decide) kq) ?_
        refine own_GH.si 135 [] (fun _ kq => XS.istore X388.here hx rfl (hb hby at_133) rfl (l' := #[iv sel, iv pos, iv ch, iv flag, .val (.long lng), .second, rv a348, iv 0, iv 7, iv dr, .unset, .unset, iv q, .val (.int (own_chr (own_rel.getD (own_min q (6 : Int32)).toNatClampNeg 0))), .unset]) rfl kq) ?_
        exact tx _ _ _ _ _ (own_chr (own_rel.getD (own_min q (6 : Int32)).toNatClampNeg 0)) (X388.mono (by decide) (by decide)) P389 hS hkS hZ hown hH hR O349 K350 N388 Es348 Fc348 Fv348 Av348 (own_chrb _)
      · refine own_GH.sk 131 [] (fun _ kq => XS.ifYes X351.here hx rfl (pc0 := 111) (pc' := 131) rfl (hb hby at_111) rfl ((if0 _ _).trans (feq hc111).2) (by decide) (by decide) kq) ?_
        refine own_GH.sk 133 [(.int dr)] (fun _ kq => XS.iload X351.here hx rfl (hb hby at_131) rfl kq) ?_
        refine own_GH.si 135 [] (fun _ kq => XS.istore X351.here hx rfl (hb hby at_133) rfl (l' := #[iv sel, iv pos, iv ch, iv flag, .val (.long lng), .second, rv a348, iv 0, iv 7, iv dr, .unset, .unset, iv q, iv dr, .unset]) rfl kq) ?_
        exact tx _ _ _ _ _ dr (X351.mono (by decide) (by decide)) P352 hS hkS hZ hown hH hR O349 K350 N351 Es348 Fc348 Fv348 Av348 hd
    · refine own_GH.sk 24 [(.ref a348)] (fun _ kq => XS.aload X348.here hx rfl (hb hby at_22) rfl rfl kq) ?_
      obtain ⟨cq390, kq390, q390a, q390b, q390c⟩ := isOf hZ e348 Es348
      obtain ⟨_, _, ⟨T390, L390, k390, n390⟩, -, X390, ⟨Lc390, hQ390, l390, y390, z390⟩, st390⟩ := X348.virtualBack hx (y := own_y7) (z := own_y7) hown (mvT hZ (W_ 8 rfl)) (mvT hZ (W_ 9 rfl)) (notFace_of_selects (args := #[]) (mvT hZ (W_ 11 rfl))) (mvT hZ (W_ 11 rfl)) (mvT hZ (W_ 10 rfl)) (by decide) (backOf (W := 0) (rm_strlen l Z a0 hw [] a348 csz b348 (7 : Int32) h348 n0 O349 S_CS hcs Fc348 Fv348 (own_Len.arv Av348) Es348) hZ (W_ 12 rfl) (W_ 1 rfl) (by decide) (by decide)) q390a q390c (g := (mkF m 24 #[iv sel, iv pos, iv ch, iv flag, .val (.long lng), .second, rv a348, iv 1, .unset, .unset, .unset, .unset, .unset, .unset, .unset] [(.ref a348)])) rfl (by rw [hml]; rfl) (Steps.refl _) (argsL := []) (rest := []) (lenOf pd__28_29I rfl) rfl (by show 2 * 0 + _ ≤ _; exact Nat.le_of_eq rfl) (hb hby at_24) (fun _ _ => ⟨rfl, e348, (by decide : 2 + 0 ≤ _), (by decide : 32 + 0 ≤ _)⟩)
      dsimp only [Pt.U, Pt.locs, Pt.cells, Pt.slots] at X390 l390 y390 z390 st390 hQ390
      subst l390 y390 z390
      obtain ⟨rfl, Nq390, P391⟩ := hQ390
      have N390 := Fr.app N0 Nq390
      refine own_GH.st (T' := T390) 27 [(.int 7)] (fun _ kq => st390.trans kq) ?_
      refine own_GH.si 29 [] (fun _ kq => XS.istore X390.here hx rfl (hb hby at_27) rfl (l' := #[iv sel, iv pos, iv ch, iv flag, .val (.long lng), .second, rv a348, iv 1, iv 7, .unset, .unset, .unset, .unset, .unset, .unset]) rfl kq) ?_
      refine own_GH.sk 30 [(.int ch)] (fun _ kq => XS.iloadN X390.here hx rfl (hb hby at_29) rfl kq) ?_
      refine own_GH.sk 33 [(.int 255), (.int ch)] (fun _ kq => XS.sipush X390.here hx rfl (hb hby at_30) kq) ?_
      refine own_GH.sk 34 [(.int (ch &&& (255 : Int32)))] (fun _ kq => XS.iand X390.here hx rfl (hb hby at_33) rfl kq) ?_
      refine own_GH.sk 35 [(.int ((ch &&& (255 : Int32)).toUInt32.toUInt16.toUInt32.toInt32))] (fun _ kq => XS.i2c X390.here hx rfl (hb hby at_34) rfl kq) ?_
      refine own_GH.si 37 [] (fun _ kq => XS.istore X390.here hx rfl (hb hby at_35) rfl (l' := #[iv sel, iv pos, iv ch, iv flag, .val (.long lng), .second, rv a348, iv 1, iv 7, .val (.int ((ch &&& (255 : Int32)).toUInt32.toUInt16.toUInt32.toInt32)), .unset, .unset, .unset, .unset, .unset]) rfl kq) ?_
      obtain ⟨dr, hdr⟩ : ∃ z, z = ((ch &&& (255 : Int32)).toUInt32.toUInt16.toUInt32.toInt32) := ⟨_, rfl⟩
      refine own_GH.cast (g' := (mkF m 37 #[iv sel, iv pos, iv ch, iv flag, .val (.long lng), .second, rv a348, iv 1, iv 7, iv dr, .unset, .unset, .unset, .unset, .unset] [])) (by rw [hdr]) ?_
      have hd : ¬ dr < (0 : Int32) ∧ ¬ (255 : Int32) < dr := by rw [hdr]; exact own_chrb _
      refine own_GH.sk 39 [(.int 1)] (fun _ kq => XS.iload X390.here hx rfl (hb hby at_37) rfl kq) ?_
      refine own_GH.sk 40 [(.int 3), (.int 1)] (fun _ kq => XS.iconst X390.here hx rfl (hb hby at_39) kq) ?_
      have hc40 : ¬ ((1 : Int32) = (3 : Int32)) := (by decide)
      refine own_GH.sk 78 [] (fun _ kq => XS.icmpYes X390.here hx rfl (pc0 := 40) (pc' := 78) rfl (hb hby at_40) rfl (feq hc40).2 (by decide) (by decide) kq) ?_
      refine own_GH.sk 80 [(.int 1)] (fun _ kq => XS.iload X390.here hx rfl (hb hby at_78) rfl kq) ?_
      refine own_GH.sk 81 [(.int 2), (.int 1)] (fun _ kq => XS.iconst X390.here hx rfl (hb hby at_80) kq) ?_
      have hc81 : ¬ ((1 : Int32) = (2 : Int32)) := (by decide)
      refine own_GH.sk 96 [] (fun _ kq => XS.icmpYes X390.here hx rfl (pc0 := 81) (pc' := 96) rfl (hb hby at_81) rfl (feq hc81).2 (by decide) (by decide) kq) ?_
      refine own_GH.sk 97 [(.int pos)] (fun _ kq => XS.iloadN X390.here hx rfl (hb hby at_96) rfl kq) ?_
      refine own_GH.sk 99 [(.int 2147483647), (.int pos)] (fun _ kq => X390.ldcInt hx hown (mvT hZ (W_ 21 rfl)) (g := (mkF m 97 #[iv sel, iv pos, iv ch, iv flag, .val (.long lng), .second, rv a348, iv 1, iv 7, iv dr, .unset, .unset, .unset, .unset, .unset] [(.int pos)])) rfl (hb hby at_97) _ kq) ?_
      refine own_GH.sk 100 [(.int (pos &&& (2147483647 : Int32)))] (fun _ kq => XS.iand X390.here hx rfl (hb hby at_99) rfl kq) ?_
      refine own_GH.sk 102 [(.int 7), (.int (pos &&& (2147483647 : Int32)))] (fun _ kq => XS.iload X390.here hx rfl (hb hby at_100) rfl kq) ?_
      refine own_GH.sk 103 [(.int ((pos &&& (2147483647 : Int32)) % (7 : Int32)))] (fun _ kq => iremM (g := (mkF m 102 #[iv sel, iv pos, iv ch, iv flag, .val (.long lng), .second, rv a348, iv 1, iv 7, iv dr, .unset, .unset, .unset, .unset, .unset] [(.int 7), (.int (pos &&& (2147483647 : Int32)))])) X390 hx rfl (hb hby at_102) rfl (by decide) kq) ?_
      refine own_GH.si 105 [] (fun _ kq => XS.istore X390.here hx rfl (hb hby at_103) rfl (l' := #[iv sel, iv pos, iv ch, iv flag, .val (.long lng), .second, rv a348, iv 1, iv 7, iv dr, .unset, .unset, .val (.int ((pos &&& (2147483647 : Int32)) % (7 : Int32))), .unset, .unset]) rfl kq) ?_
      obtain ⟨q, hq⟩ : ∃ z, z = ((pos &&& (2147483647 : Int32)) % (7 : Int32)) := ⟨_, rfl⟩
      refine own_GH.cast (g' := (mkF m 105 #[iv sel, iv pos, iv ch, iv flag, .val (.long lng), .second, rv a348, iv 1, iv 7, iv dr, .unset, .unset, iv q, .unset, .unset] [])) (by rw [hq]) ?_
      obtain ⟨hq1, hq2⟩ := own_mod7 pos
      rw [← hq] at hq1 hq2
      have tx : ∀ (tx_T : State) (tx_h : Heap) (tx_L : List Loc) (tx_vm : Vm) (tx_k : Nat) (x : Int32), (Stand p l e room_1 (s.setVm tx_vm) m #[(.int sel), (.int pos), (.int ch), (.int flag), (.long lng)] below meth c tx_T tx_L 2 32) → (tx_T.heap = tx_h) → (s.Since tx_vm tx_k) → (tx_k ≤ tx_h.size) → (Z.Warmed39 (s.setVm tx_vm).vm) → ((s.setVm tx_vm).vm.findClass "com/example/termflow/termflow/feed/LinkIsArtefactPinLaw" = some m.cls) → (CHv Z own_EL tx_vm tx_h) → (CHr Z own_EL s.vm h0 tx_vm tx_h) → (Old Z n0 tx_h) → (Keep h0 tx_h []) → (Fr n0 tx_L) → (Exa Z tx_h a348 "java/lang/String") → (Fld Z tx_h a348 "java/lang/String" "coder" "B" (.int 0)) → (Fld Z tx_h a348 "java/lang/String" "value" "[B" (.ref b348)) → (Arv Z tx_h b348 kb348 .byte (7 : Int32) [(.int 114), (.int 101), (.int 108), (.int 97), (.int 116), (.int 101), (.int 100)] (.int 0)) → (¬ x < (0 : Int32) ∧ ¬ (255 : Int32) < x) → own_GH Z own_EL p e below s 26 3216 (Q_law Z sel pos ch flag lng csz fm la lc h0 n0) tx_T (mkF m 135 #[iv sel, iv pos, iv ch, iv flag, .val (.long lng), .second, rv a348, iv 1, iv 7, iv dr, .unset, .unset, iv q, iv x, .unset] []) := by
        intro tx_T tx_h tx_L tx_vm tx_k x tx_X tx_e hS hkS hZ hown hH hR tx_O tx_K tx_N tx_F0 tx_F1 tx_F2 tx_F3 hxr
        refine own_GH.sk 137 [(.ref a348)] (fun _ kq => XS.aload tx_X.here hx rfl (hb hby at_135) rfl rfl kq) ?_
        refine own_GH.sk 139 [(.int 1), (.ref a348)] (fun _ kq => XS.iload tx_X.here hx rfl (hb hby at_137) rfl kq) ?_
        refine own_GH.sk 141 [(.int q), (.int 1), (.ref a348)] (fun _ kq => XS.iload tx_X.here hx rfl (hb hby at_139) rfl kq) ?_
        refine own_GH.sk 143 [(.int x), (.int q), (.int 1), (.ref a348)] (fun _ kq => XS.iload tx_X.here hx rfl (hb hby at_141) rfl kq) ?_
        obtain ⟨_, _, ⟨T392, L392, k392, n392⟩, -, X392, ⟨Lc392, hQ392, l392, y392, z392⟩, st392⟩ := Jvm.LawKit.callS tx_X hx (y := own_y23) hown (mvT hZ (W_ 48 rfl)) (mvT hZ (W_ 49 rfl)) (mvT hZ (W_ 50 rfl)) (mvT hZ (W_ 51 rfl)) (by decide) (backOf (W := 0) (rm_mkr1 l Z a0 hw [] a348 q x csz fm b348 kb348 tx_h n0 tx_O S_CS hcs S_IO hio tx_F0 tx_F2 tx_F1 tx_F3 hxr) hZ (W_ 51 rfl) (W_ 50 rfl) (by decide) (by decide)) (g := (mkF m 143 #[iv sel, iv pos, iv ch, iv flag, .val (.long lng), .second, rv a348, iv 1, iv 7, iv dr, .unset, .unset, iv q, iv x, .unset] [(.int x), (.int q), (.int 1), (.ref a348)])) rfl (by rw [hml]; rfl) (argsL := [(.ref a348), (.int 1), (.int q), (.int x)]) (rest := []) (lenOf pd__28Ljava_2flang_2fString_3bIIC_29Ljava_2flang_2fString_3b rfl) rfl (by show 2 * 0 + _ ≤ _; exact Nat.le_of_eq rfl) (hb hby at_143) (fun _ _ => ⟨rfl, tx_e, (by decide : 2 + 3 ≤ _), (by decide : 32 + 16 ≤ _)⟩)
        dsimp only [Pt.U, Pt.locs, Pt.cells, Pt.slots] at X392 l392 y392 z392 st392 hQ392
        subst l392 y392 z392
        obtain ⟨b393, b394, x395, rfl, Nq392, P396, P397, P398, P399, P400, P401, P402, P403⟩ := hQ392
        have N392 := Fr.app tx_N Nq392
        have ne404 : a348 ≠ b393 := Nat.ne_of_lt (Nat.lt_of_lt_of_le tx_F0.lt P397)
        have ne405 : b348 ≠ b393 := Nat.ne_of_lt (Nat.lt_of_lt_of_le tx_F3.lt P397)
        have g406 : n0 ≤ b393 := Nat.le_trans tx_O.le P397
        have z407 : h0.size ≤ b393 := Nat.le_trans tx_K.1 P397
        have sf408 : Safe Z own_EL tx_vm tx_h b393 := Safe.new P397
        have ne409 : a348 ≠ b394 := Nat.ne_of_lt (Nat.lt_of_lt_of_le tx_F0.lt P398)
        have ne410 : b348 ≠ b394 := Nat.ne_of_lt (Nat.lt_of_lt_of_le tx_F3.lt P398)
        have g411 : n0 ≤ b394 := Nat.le_trans tx_O.le P398
        have z412 : h0.size ≤ b394 := Nat.le_trans tx_K.1 P398
        have sf413 : Safe Z own_EL tx_vm tx_h b394 := Safe.new P398
        have hkS := Nat.le_trans hkS P396.1
        have sf414 := Safe.keep P396 sf0 hH sf408
        have sf415 := Safe.keep P396 sf0 hH sf413
        have hR := hR.trans (CHr.keep P396 sf0 hH)
        have hH := CHv.keep P396 sf0 hH
        have F416 := tx_F0.keep P396
        have F417 := tx_F1.keep P396 nin0
        have F418 := tx_F2.keep P396 nin0
        have F419 := tx_F3.keep P396 nin0
        have O420 := tx_O.keep P396 all0
        have K421 := tx_K.trans P396 all0
        refine own_GH.st (T' := T392) 146 [(.ref b393)] (fun _ kq => st392 _ kq) ?_
        refine own_GH.si 148 [] (fun _ kq => XS.astore X392.here hx rfl (hb hby at_146) rfl rfl (l' := #[iv sel, iv pos, iv ch, iv flag, .val (.long lng), .second, rv a348, iv 1, iv 7, iv dr, rv b393, .unset, iv q, iv x, .unset]) rfl kq) ?_
        refine own_GH.sk 150 [(.int 1)] (fun _ kq => XS.iload X392.here hx rfl (hb hby at_148) rfl kq) ?_
        have hc150 : ¬ ((1 : Int32) = (0 : Int32)) := (by decide)
        refine own_GH.sk 169 [] (fun _ kq => XS.ifYes X392.here hx rfl (pc0 := 150) (pc' := 169) rfl (hb hby at_150) rfl ((if0 _ _).trans (feq hc150).2) (by decide) (by decide) kq) ?_
        refine own_GH.sk 170 [(.int 0)] (fun _ kq => XS.iconst X392.here hx rfl (hb hby at_169) kq) ?_
        refine own_GH.si 172 [] (fun _ kq => XS.istore X392.here hx rfl (hb hby at_170) rfl (l' := #[iv sel, iv pos, iv ch, iv flag, .val (.long lng), .second, rv a348, iv 1, iv 7, iv dr, rv b393, iv 0, iv q, iv x, .unset]) rfl kq) ?_
        exact ta _ _ _ _ _ a348 (1 : Int32) (7 : Int32) dr b393 b394 x395 (6 : Int32) _ [(kB 0 114 101 q), (kB 1 101 108 q), (kB 2 108 97 q), (kB 3 97 116 q), (kB 4 116 101 q), (kB 5 101 100 q)] (0 : Int32) q x (X392.mono (by decide) (by decide)) rfl hS hkS hZ hown hH hR O420 K421 N392 P399 P401 P400 P403 (own_codl P402 rfl) (own_bdl P402) (by simp) (own_art_len (by simp) (by simp))
      refine own_GH.sk 106 [(.int ch)] (fun _ kq => XS.iloadN X390.here hx rfl (hb hby at_105) rfl kq) ?_
      refine own_GH.sk 108 [(.int 8), (.int ch)] (fun _ kq => XS.bipush X390.here hx rfl (hb hby at_106) kq) ?_
      refine own_GH.sk 109 [(.int ((ch.toUInt32 >>> ((8 : Int32) &&& 31).toUInt32).toInt32))] (fun _ kq => XS.iushr X390.here hx rfl (hb hby at_108) rfl kq) ?_
      refine own_GH.sk 110 [(.int 1), (.int ((ch.toUInt32 >>> ((8 : Int32) &&& 31).toUInt32).toInt32))] (fun _ kq => XS.iconst X390.here hx rfl (hb hby at_109) kq) ?_
      refine own_GH.sk 111 [(.int (((ch.toUInt32 >>> ((8 : Int32) &&& 31).toUInt32).toInt32) &&& (1 : Int32)))] (fun _ kq => XS.iand X390.here hx rfl (hb hby at_110) rfl kq) ?_
      rcases Classical.em ((((ch.toUInt32 >>> ((8 : Int32) &&& 31).toUInt32).toInt32) &&& (1 : Int32)) = (0 : Int32)) with hc111 | hc111
      · refine own_GH.sk 114 [] (fun _ kq => XS.ifNo X390.here hx rfl (hb hby at_111) rfl ((if0 _ _).trans (teq hc111).2) kq) ?_
        refine own_GH.sk 116 [(.ref a348)] (fun _ kq => XS.aload X390.here hx rfl (hb hby at_114) rfl rfl kq) ?_
        refine own_GH.sk 118 [(.int q), (.ref a348)] (fun _ kq => XS.iload X390.here hx rfl (hb hby at_116) rfl kq) ?_
        refine own_GH.sk 120 [(.int 7), (.int q), (.ref a348)] (fun _ kq => XS.iload X390.here hx rfl (hb hby at_118) rfl kq) ?_
        refine own_GH.sk 121 [(.int 1), (.int 7), (.int q), (.ref a348)] (fun _ kq => XS.iconst X390.here hx rfl (hb hby at_120) kq) ?_
        refine own_GH.sk 122 [(.int ((7 : Int32) - (1 : Int32))), (.int q), (.ref a348)] (fun _ kq => XS.isub X390.here hx rfl (hb hby at_121) rfl kq) ?_
        have hl422 : ((7 : Int32) - (1 : Int32)) = (6 : Int32) := by decide
        refine own_GH.cast (g' := (mkF m 122 #[iv sel, iv pos, iv ch, iv flag, .val (.long lng), .second, rv a348, iv 1, iv 7, iv dr, .unset, .unset, iv q, .unset, .unset] [(.int 6), (.int q), (.ref a348)])) (by rw [hl422]) ?_
        obtain ⟨_, _, ⟨T423, L423, k423, n423⟩, -, X423, ⟨Lc423, hQ423, l423, y423, z423⟩, st423⟩ := Jvm.LawKit.callS X390 hx (y := own_y21) hown (mvT hZ (W_ 22 rfl)) (mvT hZ (W_ 23 rfl)) (mvT hZ (W_ 24 rfl)) (mvT hZ (W_ 25 rfl)) (by decide) (backOf (W := 1) (rm_min l Z a0 hw [] q (6 : Int32) h348 n0 O349 ) hZ (W_ 25 rfl) (W_ 24 rfl) (by decide) (by decide)) (g := (mkF m 122 #[iv sel, iv pos, iv ch, iv flag, .val (.long lng), .second, rv a348, iv 1, iv 7, iv dr, .unset, .unset, iv q, .unset, .unset] [(.int 6), (.int q), (.ref a348)])) rfl (by rw [hml]; rfl) (argsL := [(.int q), (.int 6)]) (rest := [(.ref a348)]) (lenOf pd__28II_29I rfl) rfl (by show 2 * 0 + _ ≤ _; exact Nat.le_of_eq rfl) (hb hby at_122) (fun _ _ => ⟨rfl, P391, (by decide : 2 + 0 ≤ _), (by decide : 32 + 0 ≤ _)⟩)
        dsimp only [Pt.U, Pt.locs, Pt.cells, Pt.slots] at X423 l423 y423 z423 st423 hQ423
        subst l423 y423 z423
        obtain ⟨rfl, Nq423, P424⟩ := hQ423
        have N423 := Fr.app N390 Nq423
        refine own_GH.st (T' := T423) 125 [(.int (own_min q (6 : Int32))), (.ref a348)] (fun _ kq => st423 _ kq) ?_
        obtain ⟨cq425, kq425, q425a, q425b, q425c⟩ := isOf hZ P424 Es348
        obtain ⟨_, _, ⟨T425, L425, k425, n425⟩, -, X425, ⟨Lc425, hQ425, l425, y425, z425⟩, st425⟩ := X423.virtualBack hx (y := own_y11) (z := own_y11) hown (mvT hZ (W_ 26 rfl)) (mvT hZ (W_ 27 rfl)) (notFace_of_selects (args := #[]) (mvT hZ (W_ 29 rfl))) (mvT hZ (W_ 29 rfl)) (mvT hZ (W_ 28 rfl)) (by decide) (backOf (W := 0) (rm_charAt l Z a0 hw [] a348 (own_min q (6 : Int32)) csz fm b348 (7 : Int32) (own_rel.getD (own_min q (6 : Int32)).toNatClampNeg 0) h348 n0 O349 S_CS hcs S_IO hio Es348 Fv348 Fc348 (own_Len.arv Av348) (own_At.arv Av348 ⟨(own_minb7 hq1).1, (own_minb7 hq1).2⟩ (own_getD own_rel _)) (own_minb7 hq1).1 (own_minb7 hq1).2) hZ (W_ 30 rfl) (W_ 1 rfl) (by decide) (by decide)) q425a q425c (g := (mkF m 125 #[iv sel, iv pos, iv ch, iv flag, .val (.long lng), .second, rv a348, iv 1, iv 7, iv dr, .unset, .unset, iv q, .unset, .unset] [(.int (own_min q (6 : Int32))), (.ref a348)])) rfl (by rw [hml]; rfl) (Steps.refl _) (argsL := [(.int (own_min q (6 : Int32)))]) (rest := []) (lenOf pd__28I_29C rfl) rfl (by show 2 * 0 + _ ≤ _; exact Nat.le_of_eq rfl) (hb hby at_125) (fun _ _ => ⟨rfl, P424, (by decide : 2 + 0 ≤ _), (by decide : 32 + 0 ≤ _)⟩)
        dsimp only [Pt.U, Pt.locs, Pt.cells, Pt.slots] at X425 l425 y425 z425 st425 hQ425
        subst l425 y425 z425
        obtain ⟨rfl, Nq425, P426⟩ := hQ425
        have N425 := Fr.app N423 Nq425
        refine own_GH.st (T' := T425) 128 [(.int (own_chr (own_rel.getD (own_min q (6 : Int32)).toNatClampNeg 0)))] (fun _ kq => st425.trans kq) ?_
        refine own_GH.sk 133 [(.int (own_chr (own_rel.getD (own_min q (6 : Int32)).toNatClampNeg 0)))] (fun _ kq => XS.goto X425.here hx rfl (pc0 := 128) (pc' := 133) rfl (hb hby at_128) (by decide) (by decide) kq) ?_
        refine own_GH.si 135 [] (fun _ kq => XS.istore X425.here hx rfl (hb hby at_133) rfl (l' := #[iv sel, iv pos, iv ch, iv flag, .val (.long lng), .second, rv a348, iv 1, iv 7, iv dr, .unset, .unset, iv q, .val (.int (own_chr (own_rel.getD (own_min q (6 : Int32)).toNatClampNeg 0))), .unset]) rfl kq) ?_
        exact tx _ _ _ _ _ (own_chr (own_rel.getD (own_min q (6 : Int32)).toNatClampNeg 0)) (X425.mono (by decide) (by decide)) P426 hS hkS hZ hown hH hR O349 K350 N425 Es348 Fc348 Fv348 Av348 (own_chrb _)
      · refine own_GH.sk 131 [] (fun _ kq => XS.ifYes X390.here hx rfl (pc0 := 111) (pc' := 131) rfl (hb hby at_111) rfl ((if0 _ _).trans (feq hc111).2) (by decide) (by decide) kq) ?_
        refine own_GH.sk 133 [(.int dr)] (fun _ kq => XS.iload X390.here hx rfl (hb hby at_131) rfl kq) ?_
        refine own_GH.si 135 [] (fun _ kq => XS.istore X390.here hx rfl (hb hby at_133) rfl (l' := #[iv sel, iv pos, iv ch, iv flag, .val (.long lng), .second, rv a348, iv 1, iv 7, iv dr, .unset, .unset, iv q, iv dr, .unset]) rfl kq) ?_
        exact tx _ _ _ _ _ dr (X390.mono (by decide) (by decide)) P391 hS hkS hZ hown hH hR O349 K350 N390 Es348 Fc348 Fv348 Av348 hd
    · refine own_GH.sk 24 [(.ref a348)] (fun _ kq => XS.aload X348.here hx rfl (hb hby at_22) rfl rfl kq) ?_
      obtain ⟨cq427, kq427, q427a, q427b, q427c⟩ := isOf hZ e348 Es348
      obtain ⟨_, _, ⟨T427, L427, k427, n427⟩, -, X427, ⟨Lc427, hQ427, l427, y427, z427⟩, st427⟩ := X348.virtualBack hx (y := own_y7) (z := own_y7) hown (mvT hZ (W_ 8 rfl)) (mvT hZ (W_ 9 rfl)) (notFace_of_selects (args := #[]) (mvT hZ (W_ 11 rfl))) (mvT hZ (W_ 11 rfl)) (mvT hZ (W_ 10 rfl)) (by decide) (backOf (W := 0) (rm_strlen l Z a0 hw [] a348 csz b348 (7 : Int32) h348 n0 O349 S_CS hcs Fc348 Fv348 (own_Len.arv Av348) Es348) hZ (W_ 12 rfl) (W_ 1 rfl) (by decide) (by decide)) q427a q427c (g := (mkF m 24 #[iv sel, iv pos, iv ch, iv flag, .val (.long lng), .second, rv a348, iv 2, .unset, .unset, .unset, .unset, .unset, .unset, .unset] [(.ref a348)])) rfl (by rw [hml]; rfl) (Steps.refl _) (argsL := []) (rest := []) (lenOf pd__28_29I rfl) rfl (by show 2 * 0 + _ ≤ _; exact Nat.le_of_eq rfl) (hb hby at_24) (fun _ _ => ⟨rfl, e348, (by decide : 2 + 0 ≤ _), (by decide : 32 + 0 ≤ _)⟩)
      dsimp only [Pt.U, Pt.locs, Pt.cells, Pt.slots] at X427 l427 y427 z427 st427 hQ427
      subst l427 y427 z427
      obtain ⟨rfl, Nq427, P428⟩ := hQ427
      have N427 := Fr.app N0 Nq427
      refine own_GH.st (T' := T427) 27 [(.int 7)] (fun _ kq => st427.trans kq) ?_
      refine own_GH.si 29 [] (fun _ kq => XS.istore X427.here hx rfl (hb hby at_27) rfl (l' := #[iv sel, iv pos, iv ch, iv flag, .val (.long lng), .second, rv a348, iv 2, iv 7, .unset, .unset, .unset, .unset, .unset, .unset]) rfl kq) ?_
      refine own_GH.sk 30 [(.int ch)] (fun _ kq => XS.iloadN X427.here hx rfl (hb hby at_29) rfl kq) ?_
      refine own_GH.sk 33 [(.int 255), (.int ch)] (fun _ kq => XS.sipush X427.here hx rfl (hb hby at_30) kq) ?_
      refine own_GH.sk 34 [(.int (ch &&& (255 : Int32)))] (fun _ kq => XS.iand X427.here hx rfl (hb hby at_33) rfl kq) ?_
      refine own_GH.sk 35 [(.int ((ch &&& (255 : Int32)).toUInt32.toUInt16.toUInt32.toInt32))] (fun _ kq => XS.i2c X427.here hx rfl (hb hby at_34) rfl kq) ?_
      refine own_GH.si 37 [] (fun _ kq => XS.istore X427.here hx rfl (hb hby at_35) rfl (l' := #[iv sel, iv pos, iv ch, iv flag, .val (.long lng), .second, rv a348, iv 2, iv 7, .val (.int ((ch &&& (255 : Int32)).toUInt32.toUInt16.toUInt32.toInt32)), .unset, .unset, .unset, .unset, .unset]) rfl kq) ?_
      obtain ⟨dr, hdr⟩ : ∃ z, z = ((ch &&& (255 : Int32)).toUInt32.toUInt16.toUInt32.toInt32) := ⟨_, rfl⟩
      refine own_GH.cast (g' := (mkF m 37 #[iv sel, iv pos, iv ch, iv flag, .val (.long lng), .second, rv a348, iv 2, iv 7, iv dr, .unset, .unset, .unset, .unset, .unset] [])) (by rw [hdr]) ?_
      have hd : ¬ dr < (0 : Int32) ∧ ¬ (255 : Int32) < dr := by rw [hdr]; exact own_chrb _
      refine own_GH.sk 39 [(.int 2)] (fun _ kq => XS.iload X427.here hx rfl (hb hby at_37) rfl kq) ?_
      refine own_GH.sk 40 [(.int 3), (.int 2)] (fun _ kq => XS.iconst X427.here hx rfl (hb hby at_39) kq) ?_
      have hc40 : ¬ ((2 : Int32) = (3 : Int32)) := (by decide)
      refine own_GH.sk 78 [] (fun _ kq => XS.icmpYes X427.here hx rfl (pc0 := 40) (pc' := 78) rfl (hb hby at_40) rfl (feq hc40).2 (by decide) (by decide) kq) ?_
      refine own_GH.sk 80 [(.int 2)] (fun _ kq => XS.iload X427.here hx rfl (hb hby at_78) rfl kq) ?_
      refine own_GH.sk 81 [(.int 2), (.int 2)] (fun _ kq => XS.iconst X427.here hx rfl (hb hby at_80) kq) ?_
      have hc81 : (2 : Int32) = (2 : Int32) := (by decide)
      refine own_GH.sk 84 [] (fun _ kq => XS.icmpNo X427.here hx rfl (hb hby at_81) rfl (teq hc81).2 kq) ?_
      refine own_GH.sk 85 [(.int pos)] (fun _ kq => XS.iloadN X427.here hx rfl (hb hby at_84) rfl kq) ?_
      refine own_GH.sk 87 [(.int 2147483647), (.int pos)] (fun _ kq => X427.ldcInt hx hown (mvT hZ (W_ 21 rfl)) (g := (mkF m 85 #[iv sel, iv pos, iv ch, iv flag, .val (.long lng), .second, rv a348, iv 2, iv 7, iv dr, .unset, .unset, .unset, .unset, .unset] [(.int pos)])) rfl (hb hby at_85) _ kq) ?_
      refine own_GH.sk 88 [(.int (pos &&& (2147483647 : Int32)))] (fun _ kq => XS.iand X427.here hx rfl (hb hby at_87) rfl kq) ?_
      refine own_GH.sk 90 [(.int 7), (.int (pos &&& (2147483647 : Int32)))] (fun _ kq => XS.iload X427.here hx rfl (hb hby at_88) rfl kq) ?_
      refine own_GH.sk 91 [(.int 1), (.int 7), (.int (pos &&& (2147483647 : Int32)))] (fun _ kq => XS.iconst X427.here hx rfl (hb hby at_90) kq) ?_
      refine own_GH.sk 92 [(.int ((7 : Int32) + (1 : Int32))), (.int (pos &&& (2147483647 : Int32)))] (fun _ kq => XS.iadd X427.here hx rfl (hb hby at_91) rfl kq) ?_
      have hl429 : ((7 : Int32) + (1 : Int32)) = (8 : Int32) := by decide
      refine own_GH.cast (g' := (mkF m 92 #[iv sel, iv pos, iv ch, iv flag, .val (.long lng), .second, rv a348, iv 2, iv 7, iv dr, .unset, .unset, .unset, .unset, .unset] [(.int 8), (.int (pos &&& (2147483647 : Int32)))])) (by rw [hl429]) ?_
      refine own_GH.sk 93 [(.int ((pos &&& (2147483647 : Int32)) % (8 : Int32)))] (fun _ kq => iremM (g := (mkF m 92 #[iv sel, iv pos, iv ch, iv flag, .val (.long lng), .second, rv a348, iv 2, iv 7, iv dr, .unset, .unset, .unset, .unset, .unset] [(.int 8), (.int (pos &&& (2147483647 : Int32)))])) X427 hx rfl (hb hby at_92) rfl (by decide) kq) ?_
      refine own_GH.sk 103 [(.int ((pos &&& (2147483647 : Int32)) % (8 : Int32)))] (fun _ kq => XS.goto X427.here hx rfl (pc0 := 93) (pc' := 103) rfl (hb hby at_93) (by decide) (by decide) kq) ?_
      refine own_GH.si 105 [] (fun _ kq => XS.istore X427.here hx rfl (hb hby at_103) rfl (l' := #[iv sel, iv pos, iv ch, iv flag, .val (.long lng), .second, rv a348, iv 2, iv 7, iv dr, .unset, .unset, .val (.int ((pos &&& (2147483647 : Int32)) % (8 : Int32))), .unset, .unset]) rfl kq) ?_
      obtain ⟨q, hq⟩ : ∃ z, z = ((pos &&& (2147483647 : Int32)) % (8 : Int32)) := ⟨_, rfl⟩
      refine own_GH.cast (g' := (mkF m 105 #[iv sel, iv pos, iv ch, iv flag, .val (.long lng), .second, rv a348, iv 2, iv 7, iv dr, .unset, .unset, iv q, .unset, .unset] [])) (by rw [hq]) ?_
      obtain ⟨hq1, hq2⟩ := own_mod8 pos
      rw [← hq] at hq1 hq2
      have tx : ∀ (tx_T : State) (tx_h : Heap) (tx_L : List Loc) (tx_vm : Vm) (tx_k : Nat) (x : Int32), (Stand p l e room_1 (s.setVm tx_vm) m #[(.int sel), (.int pos), (.int ch), (.int flag), (.long lng)] below meth c tx_T tx_L 2 32) → (tx_T.heap = tx_h) → (s.Since tx_vm tx_k) → (tx_k ≤ tx_h.size) → (Z.Warmed39 (s.setVm tx_vm).vm) → ((s.setVm tx_vm).vm.findClass "com/example/termflow/termflow/feed/LinkIsArtefactPinLaw" = some m.cls) → (CHv Z own_EL tx_vm tx_h) → (CHr Z own_EL s.vm h0 tx_vm tx_h) → (Old Z n0 tx_h) → (Keep h0 tx_h []) → (Fr n0 tx_L) → (Exa Z tx_h a348 "java/lang/String") → (Fld Z tx_h a348 "java/lang/String" "coder" "B" (.int 0)) → (Fld Z tx_h a348 "java/lang/String" "value" "[B" (.ref b348)) → (Arv Z tx_h b348 kb348 .byte (7 : Int32) [(.int 114), (.int 101), (.int 108), (.int 97), (.int 116), (.int 101), (.int 100)] (.int 0)) → (¬ x < (0 : Int32) ∧ ¬ (255 : Int32) < x) → own_GH Z own_EL p e below s 26 3216 (Q_law Z sel pos ch flag lng csz fm la lc h0 n0) tx_T (mkF m 135 #[iv sel, iv pos, iv ch, iv flag, .val (.long lng), .second, rv a348, iv 2, iv 7, iv dr, .unset, .unset, iv q, iv x, .unset] []) := by
        intro tx_T tx_h tx_L tx_vm tx_k x tx_X tx_e hS hkS hZ hown hH hR tx_O tx_K tx_N tx_F0 tx_F1 tx_F2 tx_F3 hxr
        refine own_GH.sk 137 [(.ref a348)] (fun _ kq => XS.aload tx_X.here hx rfl (hb hby at_135) rfl rfl kq) ?_
        refine own_GH.sk 139 [(.int 2), (.ref a348)] (fun _ kq => XS.iload tx_X.here hx rfl (hb hby at_137) rfl kq) ?_
        refine own_GH.sk 141 [(.int q), (.int 2), (.ref a348)] (fun _ kq => XS.iload tx_X.here hx rfl (hb hby at_139) rfl kq) ?_
        refine own_GH.sk 143 [(.int x), (.int q), (.int 2), (.ref a348)] (fun _ kq => XS.iload tx_X.here hx rfl (hb hby at_141) rfl kq) ?_
        obtain ⟨_, _, ⟨T430, L430, k430, n430⟩, -, X430, ⟨Lc430, hQ430, l430, y430, z430⟩, st430⟩ := Jvm.LawKit.callS tx_X hx (y := own_y23) hown (mvT hZ (W_ 48 rfl)) (mvT hZ (W_ 49 rfl)) (mvT hZ (W_ 50 rfl)) (mvT hZ (W_ 51 rfl)) (by decide) (backOf (W := 0) (rm_mkr2 l Z a0 hw [] a348 q x csz fm b348 kb348 tx_h n0 tx_O S_CS hcs S_IO hio tx_F0 tx_F2 tx_F1 tx_F3 hxr hq1 hq2) hZ (W_ 51 rfl) (W_ 50 rfl) (by decide) (by decide)) (g := (mkF m 143 #[iv sel, iv pos, iv ch, iv flag, .val (.long lng), .second, rv a348, iv 2, iv 7, iv dr, .unset, .unset, iv q, iv x, .unset] [(.int x), (.int q), (.int 2), (.ref a348)])) rfl (by rw [hml]; rfl) (argsL := [(.ref a348), (.int 2), (.int q), (.int x)]) (rest := []) (lenOf pd__28Ljava_2flang_2fString_3bIIC_29Ljava_2flang_2fString_3b rfl) rfl (by show 2 * 0 + _ ≤ _; exact Nat.le_of_eq rfl) (hb hby at_143) (fun _ _ => ⟨rfl, tx_e, (by decide : 2 + 3 ≤ _), (by decide : 32 + 20 ≤ _)⟩)
        dsimp only [Pt.U, Pt.locs, Pt.cells, Pt.slots] at X430 l430 y430 z430 st430 hQ430
        subst l430 y430 z430
        obtain ⟨b431, b432, x433, rfl, Nq430, P434, P435, P436, P437, P438, P439, P440, P441⟩ := hQ430
        have N430 := Fr.app tx_N Nq430
        have ne442 : a348 ≠ b431 := Nat.ne_of_lt (Nat.lt_of_lt_of_le tx_F0.lt P435)
        have ne443 : b348 ≠ b431 := Nat.ne_of_lt (Nat.lt_of_lt_of_le tx_F3.lt P435)
        have g444 : n0 ≤ b431 := Nat.le_trans tx_O.le P435
        have z445 : h0.size ≤ b431 := Nat.le_trans tx_K.1 P435
        have sf446 : Safe Z own_EL tx_vm tx_h b431 := Safe.new P435
        have ne447 : a348 ≠ b432 := Nat.ne_of_lt (Nat.lt_of_lt_of_le tx_F0.lt P436)
        have ne448 : b348 ≠ b432 := Nat.ne_of_lt (Nat.lt_of_lt_of_le tx_F3.lt P436)
        have g449 : n0 ≤ b432 := Nat.le_trans tx_O.le P436
        have z450 : h0.size ≤ b432 := Nat.le_trans tx_K.1 P436
        have sf451 : Safe Z own_EL tx_vm tx_h b432 := Safe.new P436
        have hkS := Nat.le_trans hkS P434.1
        have sf452 := Safe.keep P434 sf0 hH sf446
        have sf453 := Safe.keep P434 sf0 hH sf451
        have hR := hR.trans (CHr.keep P434 sf0 hH)
        have hH := CHv.keep P434 sf0 hH
        have F454 := tx_F0.keep P434
        have F455 := tx_F1.keep P434 nin0
        have F456 := tx_F2.keep P434 nin0
        have F457 := tx_F3.keep P434 nin0
        have O458 := tx_O.keep P434 all0
        have K459 := tx_K.trans P434 all0
        refine own_GH.st (T' := T430) 146 [(.ref b431)] (fun _ kq => st430 _ kq) ?_
        refine own_GH.si 148 [] (fun _ kq => XS.astore X430.here hx rfl (hb hby at_146) rfl rfl (l' := #[iv sel, iv pos, iv ch, iv flag, .val (.long lng), .second, rv a348, iv 2, iv 7, iv dr, rv b431, .unset, iv q, iv x, .unset]) rfl kq) ?_
        refine own_GH.sk 150 [(.int 2)] (fun _ kq => XS.iload X430.here hx rfl (hb hby at_148) rfl kq) ?_
        have hc150 : ¬ ((2 : Int32) = (0 : Int32)) := (by decide)
        refine own_GH.sk 169 [] (fun _ kq => XS.ifYes X430.here hx rfl (pc0 := 150) (pc' := 169) rfl (hb hby at_150) rfl ((if0 _ _).trans (feq hc150).2) (by decide) (by decide) kq) ?_
        refine own_GH.sk 170 [(.int 0)] (fun _ kq => XS.iconst X430.here hx rfl (hb hby at_169) kq) ?_
        refine own_GH.si 172 [] (fun _ kq => XS.istore X430.here hx rfl (hb hby at_170) rfl (l' := #[iv sel, iv pos, iv ch, iv flag, .val (.long lng), .second, rv a348, iv 2, iv 7, iv dr, rv b431, iv 0, iv q, iv x, .unset]) rfl kq) ?_
        exact ta _ _ _ _ _ a348 (2 : Int32) (7 : Int32) dr b431 b432 x433 (8 : Int32) _ [(kC 0 114 0 q x), (kC 1 101 114 q x), (kC 2 108 101 q x), (kC 3 97 108 q x), (kC 4 116 97 q x), (kC 5 101 116 q x), (kC 6 100 101 q x), (kC 7 0 100 q x)] (0 : Int32) q x (X430.mono (by decide) (by decide)) rfl hS hkS hZ hown hH hR O458 K459 N430 P437 P439 P438 P441 (own_codl P440 rfl) (own_bdl P440) (by simp) (own_art_len (by simp) (by simp))
      refine own_GH.sk 106 [(.int ch)] (fun _ kq => XS.iloadN X427.here hx rfl (hb hby at_105) rfl kq) ?_
      refine own_GH.sk 108 [(.int 8), (.int ch)] (fun _ kq => XS.bipush X427.here hx rfl (hb hby at_106) kq) ?_
      refine own_GH.sk 109 [(.int ((ch.toUInt32 >>> ((8 : Int32) &&& 31).toUInt32).toInt32))] (fun _ kq => XS.iushr X427.here hx rfl (hb hby at_108) rfl kq) ?_
      refine own_GH.sk 110 [(.int 1), (.int ((ch.toUInt32 >>> ((8 : Int32) &&& 31).toUInt32).toInt32))] (fun _ kq => XS.iconst X427.here hx rfl (hb hby at_109) kq) ?_
      refine own_GH.sk 111 [(.int (((ch.toUInt32 >>> ((8 : Int32) &&& 31).toUInt32).toInt32) &&& (1 : Int32)))] (fun _ kq => XS.iand X427.here hx rfl (hb hby at_110) rfl kq) ?_
      rcases Classical.em ((((ch.toUInt32 >>> ((8 : Int32) &&& 31).toUInt32).toInt32) &&& (1 : Int32)) = (0 : Int32)) with hc111 | hc111
      · refine own_GH.sk 114 [] (fun _ kq => XS.ifNo X427.here hx rfl (hb hby at_111) rfl ((if0 _ _).trans (teq hc111).2) kq) ?_
        refine own_GH.sk 116 [(.ref a348)] (fun _ kq => XS.aload X427.here hx rfl (hb hby at_114) rfl rfl kq) ?_
        refine own_GH.sk 118 [(.int q), (.ref a348)] (fun _ kq => XS.iload X427.here hx rfl (hb hby at_116) rfl kq) ?_
        refine own_GH.sk 120 [(.int 7), (.int q), (.ref a348)] (fun _ kq => XS.iload X427.here hx rfl (hb hby at_118) rfl kq) ?_
        refine own_GH.sk 121 [(.int 1), (.int 7), (.int q), (.ref a348)] (fun _ kq => XS.iconst X427.here hx rfl (hb hby at_120) kq) ?_
        refine own_GH.sk 122 [(.int ((7 : Int32) - (1 : Int32))), (.int q), (.ref a348)] (fun _ kq => XS.isub X427.here hx rfl (hb hby at_121) rfl kq) ?_
        have hl460 : ((7 : Int32) - (1 : Int32)) = (6 : Int32) := by decide
        refine own_GH.cast (g' := (mkF m 122 #[iv sel, iv pos, iv ch, iv flag, .val (.long lng), .second, rv a348, iv 2, iv 7, iv dr, .unset, .unset, iv q, .unset, .unset] [(.int 6), (.int q), (.ref a348)])) (by rw [hl460]) ?_
        obtain ⟨_, _, ⟨T461, L461, k461, n461⟩, -, X461, ⟨Lc461, hQ461, l461, y461, z461⟩, st461⟩ := Jvm.LawKit.callS X427 hx (y := own_y21) hown (mvT hZ (W_ 22 rfl)) (mvT hZ (W_ 23 rfl)) (mvT hZ (W_ 24 rfl)) (mvT hZ (W_ 25 rfl)) (by decide) (backOf (W := 1) (rm_min l Z a0 hw [] q (6 : Int32) h348 n0 O349 ) hZ (W_ 25 rfl) (W_ 24 rfl) (by decide) (by decide)) (g := (mkF m 122 #[iv sel, iv pos, iv ch, iv flag, .val (.long lng), .second, rv a348, iv 2, iv 7, iv dr, .unset, .unset, iv q, .unset, .unset] [(.int 6), (.int q), (.ref a348)])) rfl (by rw [hml]; rfl) (argsL := [(.int q), (.int 6)]) (rest := [(.ref a348)]) (lenOf pd__28II_29I rfl) rfl (by show 2 * 0 + _ ≤ _; exact Nat.le_of_eq rfl) (hb hby at_122) (fun _ _ => ⟨rfl, P428, (by decide : 2 + 0 ≤ _), (by decide : 32 + 0 ≤ _)⟩)
        dsimp only [Pt.U, Pt.locs, Pt.cells, Pt.slots] at X461 l461 y461 z461 st461 hQ461
        subst l461 y461 z461
        obtain ⟨rfl, Nq461, P462⟩ := hQ461
        have N461 := Fr.app N427 Nq461
        refine own_GH.st (T' := T461) 125 [(.int (own_min q (6 : Int32))), (.ref a348)] (fun _ kq => st461 _ kq) ?_
        obtain ⟨cq463, kq463, q463a, q463b, q463c⟩ := isOf hZ P462 Es348
        obtain ⟨_, _, ⟨T463, L463, k463, n463⟩, -, X463, ⟨Lc463, hQ463, l463, y463, z463⟩, st463⟩ := X461.virtualBack hx (y := own_y11) (z := own_y11) hown (mvT hZ (W_ 26 rfl)) (mvT hZ (W_ 27 rfl)) (notFace_of_selects (args := #[]) (mvT hZ (W_ 29 rfl))) (mvT hZ (W_ 29 rfl)) (mvT hZ (W_ 28 rfl)) (by decide) (backOf (W := 0) (rm_charAt l Z a0 hw [] a348 (own_min q (6 : Int32)) csz fm b348 (7 : Int32) (own_rel.getD (own_min q (6 : Int32)).toNatClampNeg 0) h348 n0 O349 S_CS hcs S_IO hio Es348 Fv348 Fc348 (own_Len.arv Av348) (own_At.arv Av348 ⟨(own_minb7 hq1).1, (own_minb7 hq1).2⟩ (own_getD own_rel _)) (own_minb7 hq1).1 (own_minb7 hq1).2) hZ (W_ 30 rfl) (W_ 1 rfl) (by decide) (by decide)) q463a q463c (g := (mkF m 125 #[iv sel, iv pos, iv ch, iv flag, .val (.long lng), .second, rv a348, iv 2, iv 7, iv dr, .unset, .unset, iv q, .unset, .unset] [(.int (own_min q (6 : Int32))), (.ref a348)])) rfl (by rw [hml]; rfl) (Steps.refl _) (argsL := [(.int (own_min q (6 : Int32)))]) (rest := []) (lenOf pd__28I_29C rfl) rfl (by show 2 * 0 + _ ≤ _; exact Nat.le_of_eq rfl) (hb hby at_125) (fun _ _ => ⟨rfl, P462, (by decide : 2 + 0 ≤ _), (by decide : 32 + 0 ≤ _)⟩)
        dsimp only [Pt.U, Pt.locs, Pt.cells, Pt.slots] at X463 l463 y463 z463 st463 hQ463
        subst l463 y463 z463
        obtain ⟨rfl, Nq463, P464⟩ := hQ463
        have N463 := Fr.app N461 Nq463
        refine own_GH.st (T' := T463) 128 [(.int (own_chr (own_rel.getD (own_min q (6 : Int32)).toNatClampNeg 0)))] (fun _ kq => st463.trans kq) ?_
        refine own_GH.sk 133 [(.int (own_chr (own_rel.getD (own_min q (6 : Int32)).toNatClampNeg 0)))] (fun _ kq => XS.goto X463.here hx rfl (pc0 := 128) (pc' := 133) rfl (hb hby at_128) (by decide) (by decide) kq) ?_
        refine own_GH.si 135 [] (fun _ kq => XS.istore X463.here hx rfl (hb hby at_133) rfl (l' := #[iv sel, iv pos, iv ch, iv flag, .val (.long lng), .second, rv a348, iv 2, iv 7, iv dr, .unset, .unset, iv q, .val (.int (own_chr (own_rel.getD (own_min q (6 : Int32)).toNatClampNeg 0))), .unset]) rfl kq) ?_
        exact tx _ _ _ _ _ (own_chr (own_rel.getD (own_min q (6 : Int32)).toNatClampNeg 0)) (X463.mono (by decide) (by decide)) P464 hS hkS hZ hown hH hR O349 K350 N463 Es348 Fc348 Fv348 Av348 (own_chrb _)
      · refine own_GH.sk 131 [] (fun _ kq => XS.ifYes X427.here hx rfl (pc0 := 111) (pc' := 131) rfl (hb hby at_111) rfl ((if0 _ _).trans (feq hc111).2) (by decide) (by decide) kq) ?_
        refine own_GH.sk 133 [(.int dr)] (fun _ kq => XS.iload X427.here hx rfl (hb hby at_131) rfl kq) ?_
        refine own_GH.si 135 [] (fun _ kq => XS.istore X427.here hx rfl (hb hby at_133) rfl (l' := #[iv sel, iv pos, iv ch, iv flag, .val (.long lng), .second, rv a348, iv 2, iv 7, iv dr, .unset, .unset, iv q, iv dr, .unset]) rfl kq) ?_
        exact tx _ _ _ _ _ dr (X427.mono (by decide) (by decide)) P428 hS hkS hZ hown hH hR O349 K350 N427 Es348 Fc348 Fv348 Av348 hd
    · refine own_GH.sk 24 [(.ref a348)] (fun _ kq => XS.aload X348.here hx rfl (hb hby at_22) rfl rfl kq) ?_
      obtain ⟨cq465, kq465, q465a, q465b, q465c⟩ := isOf hZ e348 Es348
      obtain ⟨_, _, ⟨T465, L465, k465, n465⟩, -, X465, ⟨Lc465, hQ465, l465, y465, z465⟩, st465⟩ := X348.virtualBack hx (y := own_y7) (z := own_y7) hown (mvT hZ (W_ 8 rfl)) (mvT hZ (W_ 9 rfl)) (notFace_of_selects (args := #[]) (mvT hZ (W_ 11 rfl))) (mvT hZ (W_ 11 rfl)) (mvT hZ (W_ 10 rfl)) (by decide) (backOf (W := 0) (rm_strlen l Z a0 hw [] a348 csz b348 (7 : Int32) h348 n0 O349 S_CS hcs Fc348 Fv348 (own_Len.arv Av348) Es348) hZ (W_ 12 rfl) (W_ 1 rfl) (by decide) (by decide)) q465a q465c (g := (mkF m 24 #[iv sel, iv pos, iv ch, iv flag, .val (.long lng), .second, rv a348, iv 3, .unset, .unset, .unset, .unset, .unset, .unset, .unset] [(.ref a348)])) rfl (by rw [hml]; rfl) (Steps.refl _) (argsL := []) (rest := []) (lenOf pd__28_29I rfl) rfl (by show 2 * 0 + _ ≤ _; exact Nat.le_of_eq rfl) (hb hby at_24) (fun _ _ => ⟨rfl, e348, (by decide : 2 + 0 ≤ _), (by decide : 32 + 0 ≤ _)⟩)
      dsimp only [Pt.U, Pt.locs, Pt.cells, Pt.slots] at X465 l465 y465 z465 st465 hQ465
      subst l465 y465 z465
      obtain ⟨rfl, Nq465, P466⟩ := hQ465
      have N465 := Fr.app N0 Nq465
      refine own_GH.st (T' := T465) 27 [(.int 7)] (fun _ kq => st465.trans kq) ?_
      refine own_GH.si 29 [] (fun _ kq => XS.istore X465.here hx rfl (hb hby at_27) rfl (l' := #[iv sel, iv pos, iv ch, iv flag, .val (.long lng), .second, rv a348, iv 3, iv 7, .unset, .unset, .unset, .unset, .unset, .unset]) rfl kq) ?_
      refine own_GH.sk 30 [(.int ch)] (fun _ kq => XS.iloadN X465.here hx rfl (hb hby at_29) rfl kq) ?_
      refine own_GH.sk 33 [(.int 255), (.int ch)] (fun _ kq => XS.sipush X465.here hx rfl (hb hby at_30) kq) ?_
      refine own_GH.sk 34 [(.int (ch &&& (255 : Int32)))] (fun _ kq => XS.iand X465.here hx rfl (hb hby at_33) rfl kq) ?_
      refine own_GH.sk 35 [(.int ((ch &&& (255 : Int32)).toUInt32.toUInt16.toUInt32.toInt32))] (fun _ kq => XS.i2c X465.here hx rfl (hb hby at_34) rfl kq) ?_
      refine own_GH.si 37 [] (fun _ kq => XS.istore X465.here hx rfl (hb hby at_35) rfl (l' := #[iv sel, iv pos, iv ch, iv flag, .val (.long lng), .second, rv a348, iv 3, iv 7, .val (.int ((ch &&& (255 : Int32)).toUInt32.toUInt16.toUInt32.toInt32)), .unset, .unset, .unset, .unset, .unset]) rfl kq) ?_
      obtain ⟨dr, hdr⟩ : ∃ z, z = ((ch &&& (255 : Int32)).toUInt32.toUInt16.toUInt32.toInt32) := ⟨_, rfl⟩
      refine own_GH.cast (g' := (mkF m 37 #[iv sel, iv pos, iv ch, iv flag, .val (.long lng), .second, rv a348, iv 3, iv 7, iv dr, .unset, .unset, .unset, .unset, .unset] [])) (by rw [hdr]) ?_
      have hd : ¬ dr < (0 : Int32) ∧ ¬ (255 : Int32) < dr := by rw [hdr]; exact own_chrb _
      refine own_GH.sk 39 [(.int 3)] (fun _ kq => XS.iload X465.here hx rfl (hb hby at_37) rfl kq) ?_
      refine own_GH.sk 40 [(.int 3), (.int 3)] (fun _ kq => XS.iconst X465.here hx rfl (hb hby at_39) kq) ?_
      have hc40 : (3 : Int32) = (3 : Int32) := (by decide)
      refine own_GH.sk 43 [] (fun _ kq => XS.icmpNo X465.here hx rfl (hb hby at_40) rfl (teq hc40).2 kq) ?_
      refine own_GH.sk 44 [(.int ch)] (fun _ kq => XS.iloadN X465.here hx rfl (hb hby at_43) rfl kq) ?_
      refine own_GH.sk 46 [(.int 9), (.int ch)] (fun _ kq => XS.bipush X465.here hx rfl (hb hby at_44) kq) ?_
      refine own_GH.sk 47 [(.int ((ch.toUInt32 >>> ((9 : Int32) &&& 31).toUInt32).toInt32))] (fun _ kq => XS.iushr X465.here hx rfl (hb hby at_46) rfl kq) ?_
      refine own_GH.sk 48 [(.int 1), (.int ((ch.toUInt32 >>> ((9 : Int32) &&& 31).toUInt32).toInt32))] (fun _ kq => XS.iconst X465.here hx rfl (hb hby at_47) kq) ?_
      refine own_GH.sk 49 [(.int (((ch.toUInt32 >>> ((9 : Int32) &&& 31).toUInt32).toInt32) &&& (1 : Int32)))] (fun _ kq => XS.iand X465.here hx rfl (hb hby at_48) rfl kq) ?_
      rcases Classical.em ((((ch.toUInt32 >>> ((9 : Int32) &&& 31).toUInt32).toInt32) &&& (1 : Int32)) = (0 : Int32)) with hc49 | hc49
      · refine own_GH.sk 52 [] (fun _ kq => XS.ifNo X465.here hx rfl (hb hby at_49) rfl ((if0 _ _).trans (teq hc49).2) kq) ?_
        refine own_GH.sk 54 [(.int dr)] (fun _ kq => XS.iload X465.here hx rfl (hb hby at_52) rfl kq) ?_
        obtain ⟨_, _, ⟨T467, L467, k467, n467⟩, -, X467, ⟨Lc467, hQ467, l467, y467, z467⟩, st467⟩ := Jvm.LawKit.callS X465 hx (y := own_y15) hown (mvT hZ (W_ 77 rfl)) (mvT hZ (W_ 78 rfl)) (mvT hZ (W_ 1 rfl)) (mvT hZ (W_ 79 rfl)) (by decide) (backOf (W := 0) (rm_vofc l Z a0 hw [] dr csz h348 n0 O349 S_CS hcs hd.2) hZ (W_ 79 rfl) (W_ 1 rfl) (by decide) (by decide)) (g := (mkF m 54 #[iv sel, iv pos, iv ch, iv flag, .val (.long lng), .second, rv a348, iv 3, iv 7, iv dr, .unset, .unset, .unset, .unset, .unset] [(.int dr)])) rfl (by rw [hml]; rfl) (argsL := [(.int dr)]) (rest := []) (lenOf pd__28C_29Ljava_2flang_2fString_3b rfl) rfl (by show 2 * 0 + _ ≤ _; exact Nat.le_of_eq rfl) (hb hby at_54) (fun _ _ => ⟨rfl, P466, (by decide : 2 + 2 ≤ _), (by decide : 32 + 5 ≤ _)⟩)
        dsimp only [Pt.U, Pt.locs, Pt.cells, Pt.slots] at X467 l467 y467 z467 st467 hQ467
        subst l467 y467 z467
        obtain ⟨b468, b469, x470, rfl, Nq467, P471, P472, P473, P474, P475, P476, P477⟩ := hQ467
        have N467 := Fr.app N465 Nq467
        have ne478 : a348 ≠ b468 := Nat.ne_of_lt (Nat.lt_of_lt_of_le Es348.lt P472)
        have ne479 : b348 ≠ b468 := Nat.ne_of_lt (Nat.lt_of_lt_of_le Av348.lt P472)
        have g480 : n0 ≤ b468 := Nat.le_trans O349.le P472
        have z481 : h0.size ≤ b468 := Nat.le_trans K350.1 P472
        have sf482 : Safe Z own_EL T348.vm h348 b468 := Safe.new P472
        have ne483 : a348 ≠ b469 := Nat.ne_of_lt (Nat.lt_of_lt_of_le Es348.lt P473)
        have ne484 : b348 ≠ b469 := Nat.ne_of_lt (Nat.lt_of_lt_of_le Av348.lt P473)
        have g485 : n0 ≤ b469 := Nat.le_trans O349.le P473
        have z486 : h0.size ≤ b469 := Nat.le_trans K350.1 P473
        have sf487 : Safe Z own_EL T348.vm h348 b469 := Safe.new P473
        have hkS := Nat.le_trans hkS P471.1
        have sf488 := Safe.keep P471 sf0 hH sf482
        have sf489 := Safe.keep P471 sf0 hH sf487
        have hR := hR.trans (CHr.keep P471 sf0 hH)
        have hH := CHv.keep P471 sf0 hH
        have F490 := Es348.keep P471
        have F491 := Fc348.keep P471 nin0
        have F492 := Fv348.keep P471 nin0
        have F493 := Av348.keep P471 nin0
        have O494 := O349.keep P471 all0
        have K495 := K350.trans P471 all0
        refine own_GH.st (T' := T467) 57 [(.ref b468)] (fun _ kq => st467 _ kq) ?_
        refine own_GH.sk 70 [(.ref b468)] (fun _ kq => XS.goto X467.here hx rfl (pc0 := 57) (pc' := 70) rfl (hb hby at_57) (by decide) (by decide) kq) ?_
        refine own_GH.si 72 [] (fun _ kq => XS.astore X467.here hx rfl (hb hby at_70) rfl rfl (l' := #[iv sel, iv pos, iv ch, iv flag, .val (.long lng), .second, rv a348, iv 3, iv 7, iv dr, rv b468, .unset, .unset, .unset, .unset]) rfl kq) ?_
        refine own_GH.sk 73 [(.int 0)] (fun _ kq => XS.iconst X467.here hx rfl (hb hby at_72) kq) ?_
        refine own_GH.si 75 [] (fun _ kq => XS.istore X467.here hx rfl (hb hby at_73) rfl (l' := #[iv sel, iv pos, iv ch, iv flag, .val (.long lng), .second, rv a348, iv 3, iv 7, iv dr, rv b468, iv 0, .unset, .unset, .unset]) rfl kq) ?_
        refine own_GH.sk 172 [] (fun _ kq => XS.goto X467.here hx rfl (pc0 := 75) (pc' := 172) rfl (hb hby at_75) (by decide) (by decide) kq) ?_
        exact tb _ _ _ _ _ a348 (3 : Int32) (7 : Int32) dr b468 b469 x470 (1 : Int32) _ [dr] (0 : Int32) (X467.mono (by decide) (by decide)) rfl hS hkS hZ hown hH hR O494 K495 N467 P474 P475 P476 P477 (own_codl (own_one hd) rfl) (own_bdl (own_one hd)) (by simp) (own_art_len (by simp) (by simp))
      · refine own_GH.sk 60 [] (fun _ kq => XS.ifYes X465.here hx rfl (pc0 := 49) (pc' := 60) rfl (hb hby at_49) rfl ((if0 _ _).trans (feq hc49).2) (by decide) (by decide) kq) ?_
        obtain ⟨T496, h496, X496, e496, E496, A496, D496, -, st496⟩ := newO X465 hx hZ hown (W_ 52 rfl) (W_ 2 rfl) (W_ 1 rfl) P466 (g := (mkF m 60 #[iv sel, iv pos, iv ch, iv flag, .val (.long lng), .second, rv a348, iv 3, iv 7, iv dr, .unset, .unset, .unset, .unset, .unset] [])) rfl (hb hby at_60) (by decide) (by decide)
        obtain ⟨b496, g496⟩ : ∃ z, z = h348.size := ⟨_, rfl⟩
        rw [← g496] at A496 D496 st496
        have ne497 : a348 ≠ b496 := Nat.ne_of_lt (Nat.lt_of_lt_of_le Es348.lt (Nat.le_of_eq g496.symm))
        have ne498 : b348 ≠ b496 := Nat.ne_of_lt (Nat.lt_of_lt_of_le Av348.lt (Nat.le_of_eq g496.symm))
        have g499 : n0 ≤ b496 := Nat.le_trans O349.le (Nat.le_of_eq g496.symm)
        have z500 : h0.size ≤ b496 := Nat.le_trans K350.1 (Nat.le_of_eq g496.symm)
        have sf501 : Safe Z own_EL T348.vm h348 b496 := Safe.new (Nat.le_of_eq g496.symm)
        have hkS := Nat.le_trans hkS E496.1
        have sf502 := Safe.ext E496 hH sf501
        have hR := hR.trans (CHr.ext E496 hH)
        have hH := CHv.ext E496 hH
        have F503 := Es348.ext E496
        have F504 := Fc348.ext E496
        have F505 := Fv348.ext E496
        have F506 := Av348.ext E496
        have O507 := O349.ext E496
        have K508 := K350.ext E496
        have F509 : Fld Z h496 b496 "java/lang/String" "value" "[B" .null := D496 (Or.inr (W_ 4 rfl)) (ty := (.array .byte)) (by decide)
        have F510 : Fld Z h496 b496 "java/lang/String" "coder" "B" (.int 0) := D496 (Or.inr (W_ 5 rfl)) (ty := .byte) (by decide)
        refine own_GH.st (T' := T496) 63 [(.ref b496)] st496 ?_
        refine own_GH.sk 64 [(.ref b496), (.ref b496)] (fun _ kq => XS.dup X496.here hx rfl (hb hby at_63) rfl rfl kq) ?_
        refine own_GH.sk 65 [(.int 0), (.ref b496), (.ref b496)] (fun _ kq => XS.iconst X496.here hx rfl (hb hby at_64) kq) ?_
        obtain ⟨T511, h511, k511, X511, e511, E511, A511, st511⟩ := newP X496 hx hZ (W_ 53 rfl) e496 (g := (mkF m 65 #[iv sel, iv pos, iv ch, iv flag, .val (.long lng), .second, rv a348, iv 3, iv 7, iv dr, .unset, .unset, .unset, .unset, .unset] [(.int 0), (.ref b496), (.ref b496)])) rfl (hb hby at_65) rfl (by decide) (cap := 0) (by decide) (by decide) (by decide) (by decide)
        obtain ⟨b511, g511⟩ : ∃ z, z = h496.size := ⟨_, rfl⟩
        rw [← g511] at A511 st511
        have ne512 : a348 ≠ b511 := Nat.ne_of_lt (Nat.lt_of_lt_of_le F503.lt (Nat.le_of_eq g511.symm))
        have ne513 : b348 ≠ b511 := Nat.ne_of_lt (Nat.lt_of_lt_of_le F506.lt (Nat.le_of_eq g511.symm))
        have ne514 : b496 ≠ b511 := Nat.ne_of_lt (Nat.lt_of_lt_of_le A496.lt (Nat.le_of_eq g511.symm))
        have g515 : n0 ≤ b511 := Nat.le_trans O507.le (Nat.le_of_eq g511.symm)
        have z516 : h0.size ≤ b511 := Nat.le_trans K508.1 (Nat.le_of_eq g511.symm)
        have sf517 : Safe Z own_EL T348.vm h496 b511 := Safe.new (Nat.le_of_eq g511.symm)
        have hkS := Nat.le_trans hkS E511.1
        have sf518 := Safe.ext E511 hH sf502
        have sf519 := Safe.ext E511 hH sf517
        have hR := hR.trans (CHr.ext E511 hH)
        have hH := CHv.ext E511 hH
        have F520 := F503.ext E511
        have F521 := F504.ext E511
        have F522 := F505.ext E511
        have F523 := F506.ext E511
        have F524 := A496.ext E511
        have F525 := F509.ext E511
        have F526 := F510.ext E511
        have O527 := O507.ext E511
        have K528 := K508.ext E511
        have F529 : Arv Z h511 b511 k511 .char (0 : Int32) [] (.int 0) := (Arv.new A511 (by decide)).pad (pad_rep [] (.int 0) 0)
        refine own_GH.st (T' := T511) 67 [(.ref b511), (.ref b496), (.ref b496)] st511 ?_
        obtain ⟨_, _, ⟨T530, L530, k530, n530⟩, -, X530, sS530, gS530, ⟨Lc530, hQ530, l530, y530, z530, ch530⟩, st530⟩ := X511.specialBackS hx (y := own_y17) rfl hown (mvT hZ (W_ 57 rfl)) (mvT hZ (W_ 58 rfl)) (mvT hZ (W_ 59 rfl)) (by decide) (backOfSH (vm0 := T348.vm) (W := 1) (rm_str0 l Z a0 hw [] b496 b511 h511 n0 O527 F524 F525 F526 g499 (own_Len.arv F529)) hZ (W_ 59 rfl) (W_ 1 rfl) (by decide) (by decide) ew hH) (g := (mkF m 67 #[iv sel, iv pos, iv ch, iv flag, .val (.long lng), .second, rv a348, iv 3, iv 7, iv dr, .unset, .unset, .unset, .unset, .unset] [(.ref b511), (.ref b496), (.ref b496)])) rfl (by rw [hml]; rfl) (Steps.refl _) (a := b496) (argsL := [(.ref b511)]) (rest := [(.ref b496)]) (lenOf pd__28_5bC_29V rfl) rfl (by show 2 * 0 + _ ≤ _; exact Nat.le_of_eq rfl) (hb hby at_67) (fun _ _ => ⟨rfl, e511, (by decide : 4 + 4 ≤ _), (by decide : 36 + 8 ≤ _)⟩)
        dsimp only [Pt.U, Pt.locs, Pt.cells, Pt.slots] at X530 l530 y530 z530 st530 hQ530 sS530 gS530 ch530
        subst l530 y530 z530
        obtain ⟨X530, hS, hZ, hown⟩ := rebS (vm0 := T348.vm) hS (by rw [e511]; exact hkS) X530 sS530 gS530 hZ hown
        have sf531 := ch530.safe F524.lt sf518
        have sf532 := ch530.safe F529.lt sf519
        have hR := hR.trans ch530
        have hH := ch530.1
        obtain ⟨b533, x534, rfl, Nq530, P535, P536, P537, P538, P539⟩ := hQ530
        have N530 := Fr.app N465 Nq530
        have hkS := Nat.le_trans hkS P535.1
        have F540 := F520.keep P535
        have F541 := F521.keep P535 (ninS ne497 nin0)
        have F542 := F522.keep P535 (ninS ne497 nin0)
        have F543 := F523.keep P535 (ninS ne498 nin0)
        have F544 := F524.keep P535
        have F545 := F529.keep P535 (ninS (Ne.symm ne514) nin0)
        have O546 := O527.keep P535 (allS g499 all0)
        have K547 := K528.trans P535 (allS (Or.inr z500) all0)
        have hkS : T530.heap.size ≤ T530.heap.size := Nat.le_refl _
        refine own_GH.st (T' := T530) 70 [(.ref b496)] (fun _ kq => st530.trans kq) ?_
        refine own_GH.si 72 [] (fun _ kq => XS.astore X530.here hx rfl (hb hby at_70) rfl rfl (l' := #[iv sel, iv pos, iv ch, iv flag, .val (.long lng), .second, rv a348, iv 3, iv 7, iv dr, rv b496, .unset, .unset, .unset, .unset]) rfl kq) ?_
        refine own_GH.sk 73 [(.int 0)] (fun _ kq => XS.iconst X530.here hx rfl (hb hby at_72) kq) ?_
        refine own_GH.si 75 [] (fun _ kq => XS.istore X530.here hx rfl (hb hby at_73) rfl (l' := #[iv sel, iv pos, iv ch, iv flag, .val (.long lng), .second, rv a348, iv 3, iv 7, iv dr, rv b496, iv 0, .unset, .unset, .unset]) rfl kq) ?_
        refine own_GH.sk 172 [] (fun _ kq => XS.goto X530.here hx rfl (pc0 := 75) (pc' := 172) rfl (hb hby at_75) (by decide) (by decide) kq) ?_
        exact tb _ _ _ _ _ a348 (3 : Int32) (7 : Int32) dr b496 b533 x534 (0 : Int32) _ [] (0 : Int32) (X530.mono (by decide) (by decide)) rfl hS hkS hZ hown hH hR O546 K547 N530 P536 P537 P538 P539 (own_codl own_nil rfl) (own_bdl own_nil) (by simp) (own_art_len (by simp) (by simp))
set_option maxRecDepth 65536 in
set_option maxHeartbeats 40000000 in
theorem comes_1 {Post : Tables → Env → Array Value → State → Outcome → State → Prop} (hpost : ∀ tb e args s v u, (limb_1_1.after args s (.returned v) u = true ∧ limb_1_2.after args s (.returned v) u = true ∧ True) → ReturnedEndW s (.returned v) u (Jvm.fieldLocs frame_1_writes args s ++ Jvm.arrayLocs frame_1_arrays args s ++ Jvm.staticLocs frame_1_statics s) 40 7360 → Post tb e args s (.returned v) u) :
    ArmFor flags0 classFile x code maxLocals ret World_1 tables_1 room_1 Calls_1 rest_1 Pre_1 Post := by
  intro l hfl _ _ p e ha hc hk s m args below hf hA hF happ hP
  obtain ⟨hcalls, hrest, hpre⟩ := hP
  obtain ⟨-, -, -, hnamed, -, -, -, hat⟩ := (Spec.applies_iff hf).mp happ
  obtain ⟨hg, hn⟩ := and_e (Cond.before_iff.mp (show (Jvm.Cond.and given_1 narrow_1).before args s = true from hpre))
  obtain ⟨gz1, gz2⟩ := and_e hg
  obtain ⟨gz3, gz4⟩ := and_e gz2
  obtain ⟨gz5, gz6⟩ := and_e gz4
  obtain ⟨gz7, gz8⟩ := and_e gz6
  obtain ⟨gz9, gz10⟩ := and_e gz8
  obtain ⟨u0, u1, u2, u3, u4, rfl⟩ : ∃ u0 u1 u2 u3 u4 : Value, args = #[u0, u1, u2, u3, u4] := by
    have hs : args.size = 5 := by simpa [Cond.value, given_1] using gz1
    obtain ⟨L⟩ := args
    match L, hs with
    | [u0, u1, u2, u3, u4], _ => exact ⟨u0, u1, u2, u3, u4, rfl⟩
  have hw := fun d (hd : d ∈ tables_1) => atoms_spec (ws := Jvm.Cond.code x code maxLocals ret :: tables_1) hat d (List.mem_cons_of_mem _ hd)
  have W_ : ∀ {d : Jvm.Cond} (i : Nat), tables_1[i]? = some d → d.before _ s = true := fun i h => hw _ (List.mem_of_getElem? h)
  have hfit : Fit s := fun {y c} hc i hi => by
    obtain ⟨ha, rfl⟩ := Array.getElem?_eq_some_iff.mp hc
    have q := List.all_eq_true.mp ((Array.all_eq_true_iff_forall_mem.mp hF) _ (Array.getElem_mem ha)) i (List.mem_range.mpr hi)
    simpa [Array.getElem?_eq_getElem hi] using q
  obtain ⟨hsets, hown0⟩ := atoms_of _ (rest_1_c_eq ▸ (show rest_1_c.before _ s = true from hrest))
  have hr0 := Cond.before_iff.mp hown0
  obtain ⟨i0, ei0⟩ := is_v gz3
  obtain rfl : u0 = (.int i0) := Option.some.inj ei0
  obtain ⟨i1, ei1⟩ := is_v gz5
  obtain rfl : u1 = (.int i1) := Option.some.inj ei1
  obtain ⟨i2, ei2⟩ := is_v gz7
  obtain rfl : u2 = (.int i2) := Option.some.inj ei2
  obtain ⟨i3, ei3⟩ := is_v gz9
  obtain rfl : u3 = (.int i3) := Option.some.inj ei3
  obtain ⟨i4, ei4⟩ := isL_v gz10
  obtain rfl : u4 = (.long i4) := Option.some.inj ei4
  obtain ⟨csz, ev_csz⟩ := is_v (Cond.before_iff.mp (hsets _ (List.mem_of_getElem? (i := 1) rfl)))
  have S_CS : Sta s s.heap "java/lang/String" "COMPACT_STRINGS" "Z" (.int csz) := Sta.start ev_csz (Or.inl (hsets _ (List.mem_of_getElem? (i := 0) rfl)))
  have hcs : ¬ csz = (0 : Int32) := gotF (Cond.eq_ints ev_csz (Term.int_eval (0))) (not_v (Cond.before_iff.mp (hsets _ (List.mem_of_getElem? (i := 2) rfl))))
  obtain ⟨fm, ev_fm, hio⟩ := isR_v (Cond.before_iff.mp (hsets _ (List.mem_of_getElem? (i := 8) rfl)))
  have S_IO : Sta s s.heap "jdk/internal/util/Preconditions" "SIOOBE_FORMATTER" "Ljava/util/function/BiFunction;" fm := Sta.start ev_fm (Or.inl (hsets _ (List.mem_of_getElem? (i := 7) rfl)))
  have hl_arr := Cond.before_iff.mp (hsets _ (List.mem_of_getElem? (i := 11) rfl))
  obtain ⟨la, ev_la⟩ := arr_v hl_arr
  have S_lcache : Sta s s.heap "java/lang/Long$LongCache" "cache" "[Ljava/lang/Long;" (.ref la) := Sta.start ev_la (Or.inl (hsets _ (List.mem_of_getElem? (i := 10) rfl)))
  obtain ⟨lc, Alc⟩ := Arr.start ev_la hl_arr
  have hl_len := eqv_i (Term.int_eval (256 : Int32)) (Cond.before_iff.mp (hsets _ (List.mem_of_getElem? (i := 13) rfl)))
  obtain ⟨hl_lt, hl_eq⟩ := own_len ev_la (Alc.fin (Vm.Alike.refl _)) hl_len
  have LX : Bxs s la lc "java/lang/Long" "J" (256 : Int32) (fun j => .long (j - 128).toInt64) := Bxs.start (F := .op1 .i2l (.sub (.index 0) (.int 128))) (fun idx => ev_la) Alc hl_lt hl_eq (by decide) (Cond.before_iff.mp (hsets _ (List.mem_of_getElem? (i := 14) rfl))) (fun X j hj hv => eqv_l (i2l_at (own_sub (own_idx hj))) hv)
  have hcc : ∀ q ∈ consts_1, Jvm.Lit.constHeld s q.1 q.2 := And.left hcalls
  have hCH : CHv s own_EL s.vm s.heap := CHv.start (own_EW s _ hw) (fun p hp => hcc p ((by decide : ∀ p ∈ own_EL, p ∈ consts_1) p hp)) (hsets _ (List.mem_of_getElem? (i := 2) rfl)) (W_ 3 rfl) (W_ 2 rfl)
  obtain ⟨n, o, h1, h2, h3, _, L, rfl, ⟨rfl, N⟩, -, hq⟩ := rm_law l s _ hw tables_1 i0 i1 i2 i3 i4 csz fm la lc s.heap s.heap.size (Old.start s) S_CS hcs S_IO hio S_lcache LX p e ha hc hk s m _ below hf ((Spec.applies_iff_loose hf).mp happ).1 ⟨rfl, State.Warmed39.refl s, rfl, hCH⟩ trivial
  refine ⟨n, _, h1, h2, h3, hpost _ _ _ _ _ _ ⟨Cond.after_iff.mpr rfl, Cond.after_iff.mpr (eq_i res_at (Term.int_eval (1)) rfl), trivial⟩ ⟨hq.1, hq.2.1, hq.2.2.1, (hq.2.2.2.sift fun y hy => Or.inr (N y hy)).mono (by decide) (by decide)⟩⟩
theorem main_1_1 : Claimed_1_1 := comes_1 fun _ _ _ _ _ _ h hF => ⟨h.1, hF⟩
theorem main_1_2 : Claimed_1_2 := comes_1 fun _ _ _ _ _ _ h hF => ⟨h.2.1, hF⟩
end Jvm.Pilot.@@N@@
namespace Jvm.Pilot.@@N@@
open Jvm Jvm.ClassFile Sem Op Lib Jvm.Free Jvm.Stand Jvm.Pilot.@@N@@.Jvm.D
/-! MADE BY PROGRAM (witnessworld.py) out of the Statement's table words and the real class files: 27 classes; the members and pool entries that the words name. The judged class is class 1, her method 3. -/
namespace start1
open Jvm.ClassFile
def u (s : String) : CpInfo := .utf8 (stringToUtf16 s)
/-- a pool by its gaps: so many unusable entries, then the entry; so many at the end -/
def gap : Nat → List CpInfo → List CpInfo
  | 0, r => r
  | n + 1, r => .unusable :: gap n r
def poolList (es : List (Nat × CpInfo)) (last : Nat) : List CpInfo := es.foldr (fun e r => gap e.1 (e.2 :: r)) (gap last [])
def pool (es : List (Nat × CpInfo)) (last : Nat) : Array CpInfo := ⟨poolList es last⟩
def fileOf (pool : Array CpInfo) (this : Nat) (attrs : Array Attribute := #[]) (ms : Array MethodInfo := #[]) (fl : Nat := 33) (sup : Nat := 0) (ifs : Array Nat := #[]) (fds : Array FieldInfo := #[]) : ClassFile where
  minorVersion := 0
  majorVersion := 65
  constantPool := pool
  accessFlags := fl
  thisClass := this
  superClass := sup
  interfaces := ifs
  fields := fds
  methods := ms
  attributes := attrs
def plain (name : String) (sup : Option ClassId) : Class where
  name := name
  kind := .ordinary
  loader := none
  accessFlags := 33
  super := sup
  interfaces := #[]
  cf := none
  fields := #[]
  methods := #[]
  instanceTypes := #[]
  staticTypes := #[]
  resolved := #[]
  callSites := []
  init := .initialized
  statics := none
  mirror := none

def pool0 : Array CpInfo := pool [(5, u "<init>"), (0, u "()V"), (1, .class_ 10), (1, u "java/lang/Object")] 113

def k0c0 : Code := { maxStack := 0, maxLocals := 1, code := object_method_1_code, exceptionTable := #[], attributes := #[] }
def k0m0 : Method := { name := "<init>", desc := "()V", sig := { parameters := [], returnType := none }, accessFlags := 1, code := some k0c0 }
/-- java/lang/Object -/
def k0 : Class := { plain "java/lang/Object" none with
  accessFlags := 33
  interfaces := #[]
  cf := some (fileOf pool0 8 #[] #[{ accessFlags := 1, nameIndex := 5, descriptorIndex := 6, attributes := #[] }] 33 0 #[] #[])
  fields := #[]
  methods := #[k0m0]
  instanceTypes := #[]
  staticTypes := #[]
  resolved := Array.replicate 124 none
  statics := none }

def pool1 : Array CpInfo := pool [(2, .class_ 4), (1, u "java/lang/Object"), (0, u "<init>"), (0, u "()V"), (0, .methodref 8 9), (0, .class_ 10), (0, .nameAndType 11 12), (0, u "java/lang/String"), (0, u "charAt"), (0, u "(I)C"), (0, .methodref 8 14), (0, .nameAndType 15 16), (0, u "length"), (0, u "()I"), (0, .methodref 18 19), (0, .class_ 20), (0, .nameAndType 21 22), (0, u "com/example/termflow/termflow/feed/LinkIsArtefactPinLaw"), (0, u "g"), (0, u "(Ljava/lang/String;IICI)C"), (0, .methodref 8 24), (0, .nameAndType 5 25), (0, u "([C)V"), (0, .string 27), (0, u "alternate"), (0, .string 29), (0, u "related"), (0, .methodref 8 31), (0, .nameAndType 32 33), (0, u "valueOf"), (0, u "(C)Ljava/lang/String;"), (0, .integer 2147483647), (0, .methodref 36 37), (0, .class_ 38), (0, .nameAndType 39 40), (0, u "java/lang/Math"), (0, u "min"), (0, u "(II)I"), (0, .methodref 18 42), (0, .nameAndType 43 44), (0, u "mk"), (0, u "(Ljava/lang/String;IIC)Ljava/lang/String;"), (0, .class_ 46), (0, u "com/example/termflow/termflow/feed/Link"), (0, .methodref 48 49), (0, .class_ 50), (0, .nameAndType 32 51), (0, u "java/lang/Long"), (0, u "(J)Ljava/lang/Long;"), (0, .methodref 45 53), (0, .nameAndType 5 54), (0, u "(Ljava/lang/String;Ljava/lang/String;Ljava/lang/String;Ljava/lang/Long;Ljava/lang/String;Ljava/lang/String;Z)V"), (0, .methodref 45 56), (0, .nameAndType 57 58), (0, u "isArtefact"), (0, u "()Z"), (3, u "law"), (0, u "(IIIIJ)Z")] 2

def k1m0 : Method := { name := "<init>", desc := "()V", sig := { parameters := [], returnType := none }, accessFlags := 2, code := none }
def k1c1 : Code := { maxStack := 3, maxLocals := 5, code := method_2_code, exceptionTable := #[], attributes := #[] }
def k1m1 : Method := { name := "g", desc := "(Ljava/lang/String;IICI)C", sig := { parameters := [(.object "java/lang/String"), .int, .int, .char, .int], returnType := some .char }, accessFlags := 10, code := some k1c1 }
def k1c2 : Code := { maxStack := 10, maxLocals := 6, code := method_3_code, exceptionTable := #[], attributes := #[] }
def k1m2 : Method := { name := "mk", desc := "(Ljava/lang/String;IIC)Ljava/lang/String;", sig := { parameters := [(.object "java/lang/String"), .int, .int, .char], returnType := some (.object "java/lang/String") }, accessFlags := 10, code := some k1c2 }
def k1c3 : Code := { maxStack := 10, maxLocals := 15, code := code, exceptionTable := #[], attributes := #[] }
def k1m3 : Method := { name := "law", desc := "(IIIIJ)Z", sig := { parameters := [.int, .int, .int, .int, .long], returnType := some .boolean }, accessFlags := 9, code := some k1c3 }
/-- com/example/termflow/termflow/feed/LinkIsArtefactPinLaw -/
def k1 : Class := { plain "com/example/termflow/termflow/feed/LinkIsArtefactPinLaw" (some 0) with
  accessFlags := 49
  interfaces := #[]
  cf := some (fileOf pool1 18 #[] #[{ accessFlags := 2, nameIndex := 5, descriptorIndex := 6, attributes := #[] }, { accessFlags := 10, nameIndex := 21, descriptorIndex := 22, attributes := #[] }, { accessFlags := 10, nameIndex := 43, descriptorIndex := 44, attributes := #[] }, { accessFlags := 9, nameIndex := 62, descriptorIndex := 63, attributes := #[] }] 49 2 #[] #[])
  fields := #[]
  methods := #[k1m0, k1m1, k1m2, k1m3]
  instanceTypes := #[]
  staticTypes := #[]
  resolved := Array.replicate 66 none
  statics := none }

def pool2 : Array CpInfo := pool [(1, .class_ 2), (0, u "java/io/Serializable"), (0, .class_ 4), (0, u "java/lang/Object")] 2

/-- java/io/Serializable -/
def k2 : Class := { plain "java/io/Serializable" (some 0) with
  accessFlags := 1537
  interfaces := #[]
  cf := some (fileOf pool2 1 #[] #[] 1537 3 #[] #[])
  fields := #[]
  methods := #[]
  instanceTypes := #[]
  staticTypes := #[]
  resolved := Array.replicate 7 none
  statics := none }

def pool3 : Array CpInfo := pool [(1, .class_ 2), (0, u "java/lang/Comparable"), (0, .class_ 4), (0, u "java/lang/Object")] 7

/-- java/lang/Comparable -/
def k3 : Class := { plain "java/lang/Comparable" (some 0) with
  accessFlags := 1537
  interfaces := #[]
  cf := some (fileOf pool3 1 #[] #[] 1537 3 #[] #[])
  fields := #[]
  methods := #[]
  instanceTypes := #[]
  staticTypes := #[]
  resolved := Array.replicate 12 none
  statics := none }

def pool4 : Array CpInfo := pool [(2, .class_ 4), (1, u "java/lang/CharSequence"), (42, .class_ 48), (0, u "java/lang/CharSequence$1CodePointIterator"), (10, .class_ 60), (0, u "java/lang/CharSequence$1CharIterator"), (5, .class_ 67), (0, u "java/lang/Object")] 63

/-- java/lang/CharSequence -/
def k4 : Class := { plain "java/lang/CharSequence" (some 0) with
  accessFlags := 1537
  interfaces := #[]
  cf := some (fileOf pool4 2 #[.nestMembers #[47, 59]] #[] 1537 66 #[] #[])
  fields := #[]
  methods := #[]
  instanceTypes := #[]
  staticTypes := #[]
  resolved := Array.replicate 131 none
  statics := none }

def pool5 : Array CpInfo := pool [(1, .class_ 2), (0, u "java/lang/constant/Constable"), (0, .class_ 4), (0, u "java/lang/Object")] 6

/-- java/lang/constant/Constable -/
def k5 : Class := { plain "java/lang/constant/Constable" (some 0) with
  accessFlags := 1537
  interfaces := #[]
  cf := some (fileOf pool5 1 #[] #[] 1537 3 #[] #[])
  fields := #[]
  methods := #[]
  instanceTypes := #[]
  staticTypes := #[]
  resolved := Array.replicate 11 none
  statics := none }

def pool6 : Array CpInfo := pool [(1, .class_ 2), (0, u "java/lang/constant/ConstantDesc"), (0, .class_ 4), (0, u "java/lang/Object")] 32

/-- java/lang/constant/ConstantDesc -/
def k6 : Class := { plain "java/lang/constant/ConstantDesc" (some 0) with
  accessFlags := 1537
  interfaces := #[]
  cf := some (fileOf pool6 1 #[] #[] 1537 3 #[] #[])
  fields := #[]
  methods := #[]
  instanceTypes := #[]
  staticTypes := #[]
  resolved := Array.replicate 37 none
  statics := none }

def pool7 : Array CpInfo := pool [(1, .methodref 2 3), (0, .class_ 4), (0, .nameAndType 5 6), (0, u "java/lang/Object"), (0, u "<init>"), (0, u "()V"), (0, .string 8), (0, u ""), (0, .fieldref 10 11), (0, .class_ 12), (0, .nameAndType 13 14), (0, u "java/lang/String"), (0, u "value"), (0, u "[B"), (0, .fieldref 10 16), (0, .nameAndType 17 18), (0, u "coder"), (0, u "B"), (2, u "hash"), (0, u "I"), (2, u "hashIsZero"), (0, u "Z"), (0, .methodref 10 28), (0, .nameAndType 5 29), (0, u "([CIILjava/lang/Void;)V"), (8, .fieldref 10 39), (0, .nameAndType 40 26), (0, u "COMPACT_STRINGS"), (1, .class_ 44), (1, u "java/lang/StringUTF16"), (0, u "compress"), (1, .methodref 42 48), (0, .nameAndType 49 50), (0, u "coderFromArrayLen"), (0, u "([BI)B"), (2, u "toBytes"), (53, .class_ 109), (1, u "java/lang/StringLatin1"), (32, u "()Z"), (34, .methodref 42 178), (0, .nameAndType 45 179), (0, u "([CII)[B"), (29, .methodref 10 210), (0, .nameAndType 5 211), (0, u "([BB)V"), (122, u "()I"), (0, .methodref 10 336), (0, .nameAndType 17 337), (0, u "()B"), (25, u "([BI)C"), (5, u "(C)Z"), (21, u "(II)V"), (35, u "(I)C"), (64, .methodref 10 493), (0, .nameAndType 494 142), (0, u "isLatin1"), (0, .methodref 107 496), (0, .nameAndType 497 363), (0, u "charAt"), (3, u "checkIndex"), (5, u "length"), (33, .methodref 107 542), (0, .nameAndType 543 544), (0, u "equals"), (0, u "([B[B)Z"), (28, u "(Ljava/lang/Object;)Z"), (1, .class_ 576), (0, u "java/lang/CharSequence"), (22, u "CASE_INSENSITIVE_ORDER"), (0, u "Ljava/util/Comparator;"), (181, u "valueOf"), (0, u "(C)Ljava/lang/String;"), (226, u "([C)V"), (4, .methodref 107 1016), (0, .nameAndType 1017 369), (0, u "canEncode"), (0, .methodref 107 1019), (0, .nameAndType 53 1020), (0, u "(C)[B"), (32, .fieldref 1054 1055), (0, .class_ 1056), (0, .nameAndType 1057 1058), (0, u "jdk/internal/util/Preconditions"), (0, u "SIOOBE_FORMATTER"), (0, u "Ljava/util/function/BiFunction;"), (0, .methodref 1054 1060), (0, .nameAndType 501 1061), (0, u "(IILjava/util/function/BiFunction;)I"), (39, u "serialPersistentFields"), (0, u "[Ljava/io/ObjectStreamField;"), (0, .class_ 1104), (0, u "java/lang/String$CaseInsensitiveComparator"), (1, .class_ 1107), (0, u "java/io/Serializable"), (0, .class_ 1109), (0, u "java/lang/Comparable"), (0, .class_ 1111), (0, u "java/lang/constant/Constable"), (0, .class_ 1113), (0, u "java/lang/constant/ConstantDesc"), (2, u "serialVersionUID"), (0, u "J"), (3, u "REPL"), (0, u "C"), (2, u "LATIN1"), (1, u "UTF16")] 323

def k7m0 : Method := { name := "<init>", desc := "()V", sig := { parameters := [], returnType := none }, accessFlags := 1, code := none }
def k7c1 : Code := { maxStack := 5, maxLocals := 2, code := jdk_42_method_3_code, exceptionTable := #[], attributes := #[] }
def k7m1 : Method := { name := "<init>", desc := "([C)V", sig := { parameters := [(.array .char)], returnType := none }, accessFlags := 1, code := some k7c1 }
def k7c2 : Code := { maxStack := 2, maxLocals := 1, code := jdk_42_method_54_code, exceptionTable := #[], attributes := #[] }
def k7m2 : Method := { name := "length", desc := "()I", sig := { parameters := [], returnType := some .int }, accessFlags := 1, code := some k7c2 }
def k7c3 : Code := { maxStack := 2, maxLocals := 2, code := jdk_42_method_56_code, exceptionTable := #[], attributes := #[] }
def k7m3 : Method := { name := "charAt", desc := "(I)C", sig := { parameters := [.int], returnType := some .char }, accessFlags := 1, code := some k7c3 }
def k7c4 : Code := { maxStack := 2, maxLocals := 3, code := jdk_42_method_66_code, exceptionTable := #[], attributes := #[] }
def k7m4 : Method := { name := "equals", desc := "(Ljava/lang/Object;)Z", sig := { parameters := [(.object "java/lang/Object")], returnType := some .boolean }, accessFlags := 1, code := some k7c4 }
def k7c5 : Code := { maxStack := 4, maxLocals := 1, code := jdk_42_method_139_code, exceptionTable := #[], attributes := #[] }
def k7m5 : Method := { name := "valueOf", desc := "(C)Ljava/lang/String;", sig := { parameters := [.char], returnType := some (.object "java/lang/String") }, accessFlags := 9, code := some k7c5 }
def k7c6 : Code := { maxStack := 4, maxLocals := 6, code := jdk_42_method_149_code, exceptionTable := #[], attributes := #[] }
def k7m6 : Method := { name := "<init>", desc := "([CIILjava/lang/Void;)V", sig := { parameters := [(.array .char), .int, .int, (.object "java/lang/Void")], returnType := none }, accessFlags := 2, code := some k7c6 }
def k7c7 : Code := { maxStack := 2, maxLocals := 3, code := jdk_42_method_151_code, exceptionTable := #[], attributes := #[] }
def k7m7 : Method := { name := "<init>", desc := "([BB)V", sig := { parameters := [(.array .byte), .byte], returnType := none }, accessFlags := 0, code := some k7c7 }
def k7c8 : Code := { maxStack := 1, maxLocals := 1, code := jdk_42_method_152_code, exceptionTable := #[], attributes := #[] }
def k7m8 : Method := { name := "coder", desc := "()B", sig := { parameters := [], returnType := some .byte }, accessFlags := 0, code := some k7c8 }
def k7c9 : Code := { maxStack := 1, maxLocals := 1, code := jdk_42_method_154_code, exceptionTable := #[], attributes := #[] }
def k7m9 : Method := { name := "isLatin1", desc := "()Z", sig := { parameters := [], returnType := some .boolean }, accessFlags := 0, code := some k7c9 }
def k7c10 : Code := { maxStack := 3, maxLocals := 2, code := jdk_42_method_155_code, exceptionTable := #[], attributes := #[] }
def k7m10 : Method := { name := "checkIndex", desc := "(II)V", sig := { parameters := [.int, .int], returnType := none }, accessFlags := 8, code := some k7c10 }
/-- java/lang/String -/
def k7 : Class := { plain "java/lang/String" (some 0) with
  accessFlags := 49
  interfaces := #[2, 3, 4, 5, 6]
  cf := some (fileOf pool7 10 #[.nestMembers #[1103]] #[{ accessFlags := 1, nameIndex := 5, descriptorIndex := 6, attributes := #[] }, { accessFlags := 1, nameIndex := 5, descriptorIndex := 1010, attributes := #[] }, { accessFlags := 1, nameIndex := 507, descriptorIndex := 334, attributes := #[] }, { accessFlags := 1, nameIndex := 497, descriptorIndex := 427, attributes := #[] }, { accessFlags := 1, nameIndex := 543, descriptorIndex := 573, attributes := #[] }, { accessFlags := 9, nameIndex := 782, descriptorIndex := 783, attributes := #[] }, { accessFlags := 2, nameIndex := 5, descriptorIndex := 29, attributes := #[] }, { accessFlags := 0, nameIndex := 5, descriptorIndex := 211, attributes := #[] }, { accessFlags := 0, nameIndex := 17, descriptorIndex := 337, attributes := #[] }, { accessFlags := 0, nameIndex := 494, descriptorIndex := 142, attributes := #[] }, { accessFlags := 8, nameIndex := 501, descriptorIndex := 391, attributes := #[] }] 49 2 #[1106, 1108, 575, 1110, 1112] #[{ accessFlags := 18, nameIndex := 13, descriptorIndex := 14, attributes := #[] }, { accessFlags := 18, nameIndex := 17, descriptorIndex := 18, attributes := #[] }, { accessFlags := 2, nameIndex := 21, descriptorIndex := 22, attributes := #[] }, { accessFlags := 2, nameIndex := 25, descriptorIndex := 26, attributes := #[] }, { accessFlags := 26, nameIndex := 1116, descriptorIndex := 1117, attributes := #[] }, { accessFlags := 24, nameIndex := 40, descriptorIndex := 26, attributes := #[] }, { accessFlags := 26, nameIndex := 1101, descriptorIndex := 1102, attributes := #[] }, { accessFlags := 26, nameIndex := 1121, descriptorIndex := 1122, attributes := #[] }, { accessFlags := 25, nameIndex := 599, descriptorIndex := 600, attributes := #[] }, { accessFlags := 24, nameIndex := 1125, descriptorIndex := 18, attributes := #[] }, { accessFlags := 24, nameIndex := 1127, descriptorIndex := 18, attributes := #[] }])
  fields := #[{ name := "value", type := (.array .byte), accessFlags := 18, slot := 0, constantValue := 0 }, { name := "coder", type := .byte, accessFlags := 18, slot := 1, constantValue := 0 }, { name := "hash", type := .int, accessFlags := 2, slot := 2, constantValue := 0 }, { name := "hashIsZero", type := .boolean, accessFlags := 2, slot := 3, constantValue := 0 }, { name := "serialVersionUID", type := .long, accessFlags := 26, slot := 0, constantValue := 0 }, { name := "COMPACT_STRINGS", type := .boolean, accessFlags := 24, slot := 1, constantValue := 0 }, { name := "serialPersistentFields", type := (.array (.object "java/io/ObjectStreamField")), accessFlags := 26, slot := 2, constantValue := 0 }, { name := "REPL", type := .char, accessFlags := 26, slot := 3, constantValue := 0 }, { name := "CASE_INSENSITIVE_ORDER", type := (.object "java/util/Comparator"), accessFlags := 25, slot := 4, constantValue := 0 }, { name := "LATIN1", type := .byte, accessFlags := 24, slot := 5, constantValue := 0 }, { name := "UTF16", type := .byte, accessFlags := 24, slot := 6, constantValue := 0 }]
  methods := #[k7m0, k7m1, k7m2, k7m3, k7m4, k7m5, k7m6, k7m7, k7m8, k7m9, k7m10]
  instanceTypes := #[(.array .byte), .byte, .int, .boolean]
  staticTypes := #[.long, .boolean, (.array (.object "java/io/ObjectStreamField")), .char, (.object "java/util/Comparator"), .byte, .byte]
  resolved := Array.replicate 1451 none
  statics := some 0 }

def pool8 : Array CpInfo := pool [(1, .class_ 2), (0, u "java/lang/Math"), (1, .class_ 6), (1, u "java/lang/Object"), (0, u "<init>"), (0, u "()V"), (89, .class_ 100), (1, u "java/lang/Math$RandomNumberGeneratorHolder"), (71, u "negativeZeroFloatBits"), (0, u "J"), (2, u "negativeZeroDoubleBits"), (24, u "min"), (43, u "$assertionsDisabled"), (0, u "Z"), (88, u "(II)I"), (2, u "twoToTheDoubleScaleDown"), (0, u "D"), (4, u "twoToTheDoubleScaleUp"), (9, u "E"), (3, u "PI"), (2, u "TAU"), (2, u "DEGREES_TO_RADIANS"), (0, u "RADIANS_TO_DEGREES")] 94

def k8m0 : Method := { name := "<init>", desc := "()V", sig := { parameters := [], returnType := none }, accessFlags := 2, code := none }
def k8c1 : Code := { maxStack := 2, maxLocals := 2, code := jdk_29_method_69_code, exceptionTable := #[], attributes := #[] }
def k8m1 : Method := { name := "min", desc := "(II)I", sig := { parameters := [.int, .int], returnType := some .int }, accessFlags := 9, code := some k8c1 }
/-- java/lang/Math -/
def k8 : Class := { plain "java/lang/Math" (some 0) with
  accessFlags := 49
  interfaces := #[]
  cf := some (fileOf pool8 1 #[.nestMembers #[98]] #[{ accessFlags := 2, nameIndex := 7, descriptorIndex := 8, attributes := #[] }, { accessFlags := 9, nameIndex := 201, descriptorIndex := 335, attributes := #[] }] 49 4 #[] #[{ accessFlags := 25, nameIndex := 354, descriptorIndex := 339, attributes := #[] }, { accessFlags := 25, nameIndex := 358, descriptorIndex := 339, attributes := #[] }, { accessFlags := 25, nameIndex := 361, descriptorIndex := 339, attributes := #[] }, { accessFlags := 26, nameIndex := 364, descriptorIndex := 339, attributes := #[] }, { accessFlags := 26, nameIndex := 365, descriptorIndex := 339, attributes := #[] }, { accessFlags := 26, nameIndex := 172, descriptorIndex := 173, attributes := #[] }, { accessFlags := 26, nameIndex := 176, descriptorIndex := 173, attributes := #[] }, { accessFlags := 8, nameIndex := 344, descriptorIndex := 339, attributes := #[] }, { accessFlags := 8, nameIndex := 338, descriptorIndex := 339, attributes := #[] }, { accessFlags := 4120, nameIndex := 245, descriptorIndex := 246, attributes := #[] }])
  fields := #[{ name := "E", type := .double, accessFlags := 25, slot := 0, constantValue := 0 }, { name := "PI", type := .double, accessFlags := 25, slot := 1, constantValue := 0 }, { name := "TAU", type := .double, accessFlags := 25, slot := 2, constantValue := 0 }, { name := "DEGREES_TO_RADIANS", type := .double, accessFlags := 26, slot := 3, constantValue := 0 }, { name := "RADIANS_TO_DEGREES", type := .double, accessFlags := 26, slot := 4, constantValue := 0 }, { name := "negativeZeroFloatBits", type := .long, accessFlags := 26, slot := 5, constantValue := 0 }, { name := "negativeZeroDoubleBits", type := .long, accessFlags := 26, slot := 6, constantValue := 0 }, { name := "twoToTheDoubleScaleUp", type := .double, accessFlags := 8, slot := 7, constantValue := 0 }, { name := "twoToTheDoubleScaleDown", type := .double, accessFlags := 8, slot := 8, constantValue := 0 }, { name := "$assertionsDisabled", type := .boolean, accessFlags := 4120, slot := 9, constantValue := 0 }]
  methods := #[k8m0, k8m1]
  instanceTypes := #[]
  staticTypes := #[.double, .double, .double, .double, .double, .long, .long, .double, .double, .boolean]
  resolved := Array.replicate 460 none
  statics := none }

def pool9 : Array CpInfo := pool [(1, .class_ 2), (0, u "java/lang/String"), (1, .class_ 6), (1, u "java/lang/Object"), (0, u "<init>"), (0, u "()V"), (0, .methodref 1 10), (0, .nameAndType 11 12), (0, u "checkIndex"), (0, u "(II)V"), (1, .class_ 16), (1, u "java/lang/StringLatin1"), (36, u "([BI)C"), (36, u "canEncode"), (14, u "(C)Z"), (15, u "$assertionsDisabled"), (0, u "Z"), (98, .class_ 223), (1, u "java/lang/StringLatin1$LinesSpliterator"), (28, u "charAt"), (28, u "equals"), (0, u "([B[B)Z"), (97, u "toBytes"), (1, u "(C)[B"), (7, .class_ 391), (0, u "java/lang/StringLatin1$CharsSpliterator")] 3

def k9m0 : Method := { name := "<init>", desc := "()V", sig := { parameters := [], returnType := none }, accessFlags := 0, code := none }
def k9c1 : Code := { maxStack := 2, maxLocals := 2, code := jdk_43_method_2_code, exceptionTable := #[], attributes := #[] }
def k9m1 : Method := { name := "charAt", desc := "([BI)C", sig := { parameters := [(.array .byte), .int], returnType := some .char }, accessFlags := 9, code := some k9c1 }
def k9c2 : Code := { maxStack := 2, maxLocals := 1, code := jdk_43_method_3_code, exceptionTable := #[], attributes := #[] }
def k9m2 : Method := { name := "canEncode", desc := "(C)Z", sig := { parameters := [.char], returnType := some .boolean }, accessFlags := 9, code := some k9c2 }
def k9c3 : Code := { maxStack := 3, maxLocals := 3, code := jdk_43_method_13_code, exceptionTable := #[], attributes := #[] }
def k9m3 : Method := { name := "equals", desc := "([B[B)Z", sig := { parameters := [(.array .byte), (.array .byte)], returnType := some .boolean }, accessFlags := 9, code := some k9c3 }
def k9c4 : Code := { maxStack := 4, maxLocals := 1, code := jdk_43_method_46_code, exceptionTable := #[], attributes := #[] }
def k9m4 : Method := { name := "toBytes", desc := "(C)[B", sig := { parameters := [.char], returnType := some (.array .byte) }, accessFlags := 9, code := some k9c4 }
/-- java/lang/StringLatin1 -/
def k9 : Class := { plain "java/lang/StringLatin1" (some 0) with
  accessFlags := 48
  interfaces := #[]
  cf := some (fileOf pool9 14 #[.nestMembers #[390, 221]] #[{ accessFlags := 0, nameIndex := 7, descriptorIndex := 8, attributes := #[] }, { accessFlags := 9, nameIndex := 252, descriptorIndex := 53, attributes := #[] }, { accessFlags := 9, nameIndex := 90, descriptorIndex := 105, attributes := #[] }, { accessFlags := 9, nameIndex := 281, descriptorIndex := 282, attributes := #[] }, { accessFlags := 9, nameIndex := 380, descriptorIndex := 382, attributes := #[] }] 48 4 #[] #[{ accessFlags := 4120, nameIndex := 121, descriptorIndex := 122, attributes := #[] }])
  fields := #[{ name := "$assertionsDisabled", type := .boolean, accessFlags := 4120, slot := 0, constantValue := 0 }]
  methods := #[k9m0, k9m1, k9m2, k9m3, k9m4]
  instanceTypes := #[]
  staticTypes := #[.boolean]
  resolved := Array.replicate 395 none
  statics := none }

def pool10 : Array CpInfo := pool [(2, .class_ 4), (1, u "java/lang/Object"), (0, u "<init>"), (0, u "()V"), (17, .class_ 26), (1, u "jdk/internal/util/Preconditions"), (6, u "checkIndex"), (21, .class_ 56), (0, u "jdk/internal/util/Preconditions$4"), (57, .class_ 115), (0, u "jdk/internal/util/Preconditions$1"), (7, u "SIOOBE_FORMATTER"), (0, u "Ljava/util/function/BiFunction;"), (0, .class_ 126), (0, u "jdk/internal/util/Preconditions$2"), (3, u "AIOOBE_FORMATTER"), (0, .class_ 132), (0, u "jdk/internal/util/Preconditions$3"), (3, u "IOOBE_FORMATTER"), (41, u "(IILjava/util/function/BiFunction;)I")] 15

def k10m0 : Method := { name := "<init>", desc := "()V", sig := { parameters := [], returnType := none }, accessFlags := 1, code := none }
def k10c1 : Code := { maxStack := 3, maxLocals := 3, code := jdk_41_method_11_code, exceptionTable := #[], attributes := #[] }
def k10m1 : Method := { name := "checkIndex", desc := "(IILjava/util/function/BiFunction;)I", sig := { parameters := [.int, .int, (.object "java/util/function/BiFunction")], returnType := some .int }, accessFlags := 9, code := some k10c1 }
/-- jdk/internal/util/Preconditions -/
def k10 : Class := { plain "jdk/internal/util/Preconditions" (some 0) with
  accessFlags := 33
  interfaces := #[]
  cf := some (fileOf pool10 24 #[.nestMembers #[55, 131, 125, 114]] #[{ accessFlags := 1, nameIndex := 5, descriptorIndex := 6, attributes := #[] }, { accessFlags := 9, nameIndex := 33, descriptorIndex := 178, attributes := #[] }] 33 2 #[] #[{ accessFlags := 25, nameIndex := 123, descriptorIndex := 124, attributes := #[] }, { accessFlags := 25, nameIndex := 130, descriptorIndex := 124, attributes := #[] }, { accessFlags := 25, nameIndex := 136, descriptorIndex := 124, attributes := #[] }])
  fields := #[{ name := "SIOOBE_FORMATTER", type := (.object "java/util/function/BiFunction"), accessFlags := 25, slot := 0, constantValue := 0 }, { name := "AIOOBE_FORMATTER", type := (.object "java/util/function/BiFunction"), accessFlags := 25, slot := 1, constantValue := 0 }, { name := "IOOBE_FORMATTER", type := (.object "java/util/function/BiFunction"), accessFlags := 25, slot := 2, constantValue := 0 }]
  methods := #[k10m0, k10m1]
  instanceTypes := #[]
  staticTypes := #[(.object "java/util/function/BiFunction"), (.object "java/util/function/BiFunction"), (.object "java/util/function/BiFunction")]
  resolved := Array.replicate 194 none
  statics := some 1 }

def pool11 : Array CpInfo := pool [(6, .class_ 8), (1, u "java/lang/Object"), (0, u "<init>"), (0, u "()V"), (1, .class_ 14), (1, u "java/lang/StringUTF16"), (31, u "$assertionsDisabled"), (0, u "Z"), (13, u "HI_BYTE_SHIFT"), (0, u "I"), (2, u "LO_BYTE_SHIFT"), (49, .methodref 12 116), (0, .nameAndType 117 118), (0, u "compress"), (0, u "([CI[BII)I"), (3, u "([CII)[B"), (138, u "coderFromArrayLen"), (0, u "([BI)B"), (106, .class_ 371), (1, u "java/lang/StringUTF16$LinesSpliterator"), (58, u "MAX_LENGTH"), (196, .class_ 628), (0, u "java/lang/StringUTF16$CodePointsSpliterator"), (0, .class_ 630), (0, u "java/lang/StringUTF16$CharsSpliterator")] 4

def k11m0 : Method := { name := "<init>", desc := "()V", sig := { parameters := [], returnType := none }, accessFlags := 0, code := none }
def k11c1 : Code := { maxStack := 2, maxLocals := 2, code := jdk_52_method_15_code, exceptionTable := #[], attributes := #[] }
def k11m1 : Method := { name := "coderFromArrayLen", desc := "([BI)B", sig := { parameters := [(.array .byte), .int], returnType := some .byte }, accessFlags := 8, code := some k11c1 }
def k11c2 : Code := { maxStack := 5, maxLocals := 6, code := jdk_52_method_16_code, exceptionTable := #[], attributes := #[] }
def k11m2 : Method := { name := "compress", desc := "([CII)[B", sig := { parameters := [(.array .char), .int, .int], returnType := some (.array .byte) }, accessFlags := 9, code := some k11c2 }
def k11c3 : Code := { maxStack := 3, maxLocals := 7, code := jdk_52_method_21_code, exceptionTable := #[], attributes := #[] }
def k11m3 : Method := { name := "compress", desc := "([CI[BII)I", sig := { parameters := [(.array .char), .int, (.array .byte), .int, .int], returnType := some .int }, accessFlags := 9, code := some k11c3 }
/-- java/lang/StringUTF16 -/
def k11 : Class := { plain "java/lang/StringUTF16" (some 0) with
  accessFlags := 48
  interfaces := #[]
  cf := some (fileOf pool11 12 #[.nestMembers #[627, 629, 369]] #[{ accessFlags := 0, nameIndex := 9, descriptorIndex := 10, attributes := #[] }, { accessFlags := 8, nameIndex := 261, descriptorIndex := 262, attributes := #[] }, { accessFlags := 9, nameIndex := 117, descriptorIndex := 122, attributes := #[] }, { accessFlags := 9, nameIndex := 117, descriptorIndex := 118, attributes := #[] }] 48 6 #[] #[{ accessFlags := 26, nameIndex := 61, descriptorIndex := 62, attributes := #[] }, { accessFlags := 26, nameIndex := 65, descriptorIndex := 62, attributes := #[] }, { accessFlags := 24, nameIndex := 430, descriptorIndex := 62, attributes := #[] }, { accessFlags := 4120, nameIndex := 46, descriptorIndex := 47, attributes := #[] }])
  fields := #[{ name := "HI_BYTE_SHIFT", type := .int, accessFlags := 26, slot := 0, constantValue := 0 }, { name := "LO_BYTE_SHIFT", type := .int, accessFlags := 26, slot := 1, constantValue := 0 }, { name := "MAX_LENGTH", type := .int, accessFlags := 24, slot := 2, constantValue := 0 }, { name := "$assertionsDisabled", type := .boolean, accessFlags := 4120, slot := 3, constantValue := 0 }]
  methods := #[k11m0, k11m1, k11m2, k11m3]
  instanceTypes := #[]
  staticTypes := #[.int, .int, .int, .boolean]
  resolved := Array.replicate 635 none
  statics := none }

def pool12 : Array CpInfo := pool [(1, .methodref 2 3), (0, .class_ 4), (0, .nameAndType 5 6), (0, u "java/lang/Object"), (0, u "<init>"), (0, u "()V"), (0, .class_ 8), (0, u "java/lang/Record")] 13

def k12c0 : Code := { maxStack := 1, maxLocals := 1, code := jdk_30_method_1_code, exceptionTable := #[], attributes := #[] }
def k12m0 : Method := { name := "<init>", desc := "()V", sig := { parameters := [], returnType := none }, accessFlags := 4, code := some k12c0 }
/-- java/lang/Record -/
def k12 : Class := { plain "java/lang/Record" (some 0) with
  accessFlags := 1057
  interfaces := #[]
  cf := some (fileOf pool12 7 #[] #[{ accessFlags := 4, nameIndex := 5, descriptorIndex := 6, attributes := #[] }] 1057 2 #[] #[])
  fields := #[]
  methods := #[k12m0]
  instanceTypes := #[]
  staticTypes := #[]
  resolved := Array.replicate 22 none
  statics := none }

def pool13 : Array CpInfo := pool [(1, .methodref 2 3), (0, .class_ 4), (0, .nameAndType 5 6), (0, u "java/lang/Record"), (0, u "<init>"), (0, u "()V"), (0, .string 8), (0, u "rel"), (0, .methodref 10 11), (0, .class_ 12), (0, .nameAndType 13 14), (0, u "java/util/Objects"), (0, u "requireNonNull"), (0, u "(Ljava/lang/Object;Ljava/lang/String;)Ljava/lang/Object;"), (0, .string 16), (0, u "href"), (0, .fieldref 18 19), (0, .class_ 20), (0, .nameAndType 8 21), (0, u "com/example/termflow/termflow/feed/Link"), (0, u "Ljava/lang/String;"), (0, .fieldref 18 23), (0, .nameAndType 16 21), (0, .fieldref 18 25), (0, .nameAndType 26 21), (0, u "type"), (0, .fieldref 18 28), (0, .nameAndType 29 30), (0, u "length"), (0, u "Ljava/lang/Long;"), (0, .fieldref 18 32), (0, .nameAndType 33 21), (0, u "sha256"), (0, .fieldref 18 35), (0, .nameAndType 36 21), (0, u "md5"), (0, .fieldref 18 38), (0, .nameAndType 39 40), (0, u "validated"), (0, u "Z"), (0, .string 42), (0, u "alternate"), (0, .methodref 44 45), (0, .class_ 46), (0, .nameAndType 47 48), (0, u "java/lang/String"), (0, u "equals"), (0, u "(Ljava/lang/Object;)Z"), (0, .string 50), (0, u "related"), (0, .class_ 52), (0, u "com/example/termflow/termflow/feed/Link$Builder"), (33, u "(Ljava/lang/String;Ljava/lang/String;Ljava/lang/String;Ljava/lang/Long;Ljava/lang/String;Ljava/lang/String;Z)V"), (3, u "isArtefact"), (0, u "()Z")] 33

def k13c0 : Code := { maxStack := 2, maxLocals := 8, code := prog_24_method_1_code, exceptionTable := #[], attributes := #[] }
def k13m0 : Method := { name := "<init>", desc := "(Ljava/lang/String;Ljava/lang/String;Ljava/lang/String;Ljava/lang/Long;Ljava/lang/String;Ljava/lang/String;Z)V", sig := { parameters := [(.object "java/lang/String"), (.object "java/lang/String"), (.object "java/lang/String"), (.object "java/lang/Long"), (.object "java/lang/String"), (.object "java/lang/String"), .boolean], returnType := none }, accessFlags := 1, code := some k13c0 }
def k13c1 : Code := { maxStack := 2, maxLocals := 1, code := prog_24_method_2_code, exceptionTable := #[], attributes := #[] }
def k13m1 : Method := { name := "isArtefact", desc := "()Z", sig := { parameters := [], returnType := some .boolean }, accessFlags := 1, code := some k13c1 }
/-- com/example/termflow/termflow/feed/Link -/
def k13 : Class := { plain "com/example/termflow/termflow/feed/Link" (some 12) with
  accessFlags := 49
  interfaces := #[]
  cf := some (fileOf pool13 18 #[.nestMembers #[51]] #[{ accessFlags := 1, nameIndex := 5, descriptorIndex := 86, attributes := #[] }, { accessFlags := 1, nameIndex := 90, descriptorIndex := 91, attributes := #[] }] 49 2 #[] #[{ accessFlags := 18, nameIndex := 8, descriptorIndex := 21, attributes := #[] }, { accessFlags := 18, nameIndex := 16, descriptorIndex := 21, attributes := #[] }, { accessFlags := 18, nameIndex := 26, descriptorIndex := 21, attributes := #[] }, { accessFlags := 18, nameIndex := 29, descriptorIndex := 30, attributes := #[] }, { accessFlags := 18, nameIndex := 33, descriptorIndex := 21, attributes := #[] }, { accessFlags := 18, nameIndex := 36, descriptorIndex := 21, attributes := #[] }, { accessFlags := 18, nameIndex := 39, descriptorIndex := 40, attributes := #[] }])
  fields := #[{ name := "rel", type := (.object "java/lang/String"), accessFlags := 18, slot := 0, constantValue := 0 }, { name := "href", type := (.object "java/lang/String"), accessFlags := 18, slot := 1, constantValue := 0 }, { name := "type", type := (.object "java/lang/String"), accessFlags := 18, slot := 2, constantValue := 0 }, { name := "length", type := (.object "java/lang/Long"), accessFlags := 18, slot := 3, constantValue := 0 }, { name := "sha256", type := (.object "java/lang/String"), accessFlags := 18, slot := 4, constantValue := 0 }, { name := "md5", type := (.object "java/lang/String"), accessFlags := 18, slot := 5, constantValue := 0 }, { name := "validated", type := .boolean, accessFlags := 18, slot := 6, constantValue := 0 }]
  methods := #[k13m0, k13m1]
  instanceTypes := #[(.object "java/lang/String"), (.object "java/lang/String"), (.object "java/lang/String"), (.object "java/lang/Long"), (.object "java/lang/String"), (.object "java/lang/String"), .boolean]
  staticTypes := #[]
  resolved := Array.replicate 125 none
  statics := none }

def pool14 : Array CpInfo := pool [(1, .methodref 2 3), (0, .class_ 4), (0, .nameAndType 5 6), (0, u "java/lang/Object"), (0, u "<init>"), (0, u "()V"), (1, .class_ 10), (1, u "java/lang/Number"), (2, .class_ 14), (0, u "java/io/Serializable"), (0, u "serialVersionUID"), (0, u "J")] 20

def k14c0 : Code := { maxStack := 1, maxLocals := 1, code := jdk_18_method_1_code, exceptionTable := #[], attributes := #[] }
def k14m0 : Method := { name := "<init>", desc := "()V", sig := { parameters := [], returnType := none }, accessFlags := 1, code := some k14c0 }
/-- java/lang/Number -/
def k14 : Class := { plain "java/lang/Number" (some 0) with
  accessFlags := 1057
  interfaces := #[2]
  cf := some (fileOf pool14 8 #[] #[{ accessFlags := 1, nameIndex := 5, descriptorIndex := 6, attributes := #[] }] 1057 2 #[13] #[{ accessFlags := 26, nameIndex := 15, descriptorIndex := 16, attributes := #[] }])
  fields := #[{ name := "serialVersionUID", type := .long, accessFlags := 26, slot := 0, constantValue := 0 }]
  methods := #[k14m0]
  instanceTypes := #[]
  staticTypes := #[.long]
  resolved := Array.replicate 37 none
  statics := none }

def pool15 : Array CpInfo := pool [(1, .class_ 2), (0, u "java/lang/Long"), (55, .nameAndType 59 60), (0, u "<init>"), (0, u "()V"), (24, u "valueOf"), (143, u "(J)Ljava/lang/Long;"), (0, .long 18446744073709551488), (1, .long 127), (1, .fieldref 235 236), (0, .class_ 237), (0, .nameAndType 238 239), (0, u "java/lang/Long$LongCache"), (0, u "cache"), (0, u "[Ljava/lang/Long;"), (0, .methodref 1 241), (0, .nameAndType 59 242), (0, u "(J)V"), (27, .methodref 271 58), (0, .class_ 272), (0, u "java/lang/Number"), (0, .fieldref 1 274), (0, .nameAndType 275 276), (0, u "value"), (0, u "J"), (84, u "TYPE"), (0, u "Ljava/lang/Class;"), (0, .class_ 364), (0, u "java/lang/Comparable"), (0, .class_ 366), (0, u "java/lang/constant/Constable"), (0, .class_ 368), (0, u "java/lang/constant/ConstantDesc"), (0, u "MIN_VALUE"), (1, u "MAX_VALUE"), (4, u "SIZE"), (0, u "I"), (1, u "BYTES"), (1, u "serialVersionUID")] 142

def k15c0 : Code := { maxStack := 4, maxLocals := 3, code := jdk_35_method_24_code, exceptionTable := #[], attributes := #[] }
def k15m0 : Method := { name := "valueOf", desc := "(J)Ljava/lang/Long;", sig := { parameters := [.long], returnType := some (.object "java/lang/Long") }, accessFlags := 9, code := some k15c0 }
def k15c1 : Code := { maxStack := 3, maxLocals := 3, code := jdk_35_method_26_code, exceptionTable := #[], attributes := #[] }
def k15m1 : Method := { name := "<init>", desc := "(J)V", sig := { parameters := [.long], returnType := none }, accessFlags := 1, code := some k15c1 }
/-- java/lang/Long -/
def k15 : Class := { plain "java/lang/Long" (some 14) with
  accessFlags := 49
  interfaces := #[3, 5, 6]
  cf := some (fileOf pool15 1 #[.nestMembers #[235]] #[{ accessFlags := 9, nameIndex := 85, descriptorIndex := 229, attributes := #[] }, { accessFlags := 1, nameIndex := 59, descriptorIndex := 242, attributes := #[] }] 49 271 #[363, 365, 367] #[{ accessFlags := 25, nameIndex := 369, descriptorIndex := 276, attributes := #[] }, { accessFlags := 25, nameIndex := 371, descriptorIndex := 276, attributes := #[] }, { accessFlags := 25, nameIndex := 361, descriptorIndex := 362, attributes := #[] }, { accessFlags := 18, nameIndex := 275, descriptorIndex := 276, attributes := #[] }, { accessFlags := 25, nameIndex := 376, descriptorIndex := 377, attributes := #[] }, { accessFlags := 25, nameIndex := 379, descriptorIndex := 377, attributes := #[] }, { accessFlags := 26, nameIndex := 381, descriptorIndex := 276, attributes := #[] }])
  fields := #[{ name := "MIN_VALUE", type := .long, accessFlags := 25, slot := 0, constantValue := 0 }, { name := "MAX_VALUE", type := .long, accessFlags := 25, slot := 1, constantValue := 0 }, { name := "TYPE", type := (.object "java/lang/Class"), accessFlags := 25, slot := 2, constantValue := 0 }, { name := "value", type := .long, accessFlags := 18, slot := 0, constantValue := 0 }, { name := "SIZE", type := .int, accessFlags := 25, slot := 3, constantValue := 0 }, { name := "BYTES", type := .int, accessFlags := 25, slot := 4, constantValue := 0 }, { name := "serialVersionUID", type := .long, accessFlags := 26, slot := 5, constantValue := 0 }]
  methods := #[k15m0, k15m1]
  instanceTypes := #[.long]
  staticTypes := #[.long, .long, (.object "java/lang/Class"), .int, .int, .long]
  resolved := Array.replicate 524 none
  statics := none }

def pool16 : Array CpInfo := pool [(2, .class_ 4), (1, u "java/lang/Object"), (0, u "<init>"), (0, u "()V"), (35, .class_ 44), (1, u "java/util/Objects"), (0, u "requireNonNull"), (48, u "(Ljava/lang/Object;Ljava/lang/String;)Ljava/lang/Object;")] 89

def k16m0 : Method := { name := "<init>", desc := "()V", sig := { parameters := [], returnType := none }, accessFlags := 2, code := none }
def k16c1 : Code := { maxStack := 3, maxLocals := 2, code := jdk_31_method_11_code, exceptionTable := #[], attributes := #[] }
def k16m1 : Method := { name := "requireNonNull", desc := "(Ljava/lang/Object;Ljava/lang/String;)Ljava/lang/Object;", sig := { parameters := [(.object "java/lang/Object"), (.object "java/lang/String")], returnType := some (.object "java/lang/Object") }, accessFlags := 9, code := some k16c1 }
/-- java/util/Objects -/
def k16 : Class := { plain "java/util/Objects" (some 0) with
  accessFlags := 49
  interfaces := #[]
  cf := some (fileOf pool16 42 #[] #[{ accessFlags := 2, nameIndex := 5, descriptorIndex := 6, attributes := #[] }, { accessFlags := 9, nameIndex := 45, descriptorIndex := 94, attributes := #[] }] 49 2 #[] #[])
  fields := #[]
  methods := #[k16m0, k16m1]
  instanceTypes := #[]
  staticTypes := #[]
  resolved := Array.replicate 184 none
  statics := none }

def pool17 : Array CpInfo := pool [(2, .class_ 4), (1, u "java/lang/Object"), (0, u "<init>"), (0, u "()V"), (0, .class_ 8), (0, u "java/lang/Long"), (7, .class_ 18), (1, u "java/lang/Long$LongCache"), (0, u "$assertionsDisabled"), (0, u "Z"), (8, u "archivedCache"), (0, u "[Ljava/lang/Long;"), (7, u "cache")] 24

def k17m0 : Method := { name := "<init>", desc := "()V", sig := { parameters := [], returnType := none }, accessFlags := 2, code := none }
/-- java/lang/Long$LongCache -/
def k17 : Class := { plain "java/lang/Long$LongCache" (some 0) with
  accessFlags := 48
  interfaces := #[]
  cf := some (fileOf pool17 16 #[.nestHost 7] #[{ accessFlags := 2, nameIndex := 5, descriptorIndex := 6, attributes := #[] }] 48 2 #[] #[{ accessFlags := 24, nameIndex := 38, descriptorIndex := 30, attributes := #[] }, { accessFlags := 8, nameIndex := 29, descriptorIndex := 30, attributes := #[] }, { accessFlags := 4120, nameIndex := 19, descriptorIndex := 20, attributes := #[] }])
  fields := #[{ name := "cache", type := (.array (.object "java/lang/Long")), accessFlags := 24, slot := 0, constantValue := 0 }, { name := "archivedCache", type := (.array (.object "java/lang/Long")), accessFlags := 8, slot := 1, constantValue := 0 }, { name := "$assertionsDisabled", type := .boolean, accessFlags := 4120, slot := 2, constantValue := 0 }]
  methods := #[k17m0]
  instanceTypes := #[]
  staticTypes := #[(.array (.object "java/lang/Long")), (.array (.object "java/lang/Long")), .boolean]
  resolved := Array.replicate 63 none
  statics := some 2 }

def pool18 : Array CpInfo := pool [(9, u "<init>"), (6, .class_ 18), (1, u "java/lang/Object"), (0, u "()V"), (1, .class_ 23), (1, u "jdk/internal/util/ArraysSupport"), (0, u "LOG2_ARRAY_LONG_INDEX_SCALE"), (0, u "I"), (2, u "U"), (0, u "Ljdk/internal/misc/Unsafe;"), (8, u "BIG_ENDIAN"), (0, u "Z"), (8, u "LOG2_BYTE_BIT_SIZE"), (4, u "LOG2_ARRAY_INT_INDEX_SCALE"), (54, u "JLA"), (0, u "Ljdk/internal/access/JavaLangAccess;"), (11, u "LOG2_ARRAY_BOOLEAN_INDEX_SCALE"), (9, u "LOG2_ARRAY_BYTE_INDEX_SCALE"), (5, u "LOG2_ARRAY_CHAR_INDEX_SCALE"), (5, u "LOG2_ARRAY_SHORT_INDEX_SCALE"), (18, u "LOG2_ARRAY_FLOAT_INDEX_SCALE"), (24, u "LOG2_ARRAY_DOUBLE_INDEX_SCALE"), (89, u "T_BOOLEAN"), (2, u "T_CHAR"), (1, u "T_FLOAT"), (1, u "T_DOUBLE"), (1, u "T_BYTE"), (1, u "T_SHORT"), (1, u "T_INT"), (1, u "T_LONG"), (1, u "SOFT_MAX_ARRAY_LENGTH")] 83

def k18m0 : Method := { name := "<init>", desc := "()V", sig := { parameters := [], returnType := none }, accessFlags := 2, code := none }
/-- jdk/internal/util/ArraysSupport -/
def k18 : Class := { plain "jdk/internal/util/ArraysSupport" (some 0) with
  accessFlags := 33
  interfaces := #[]
  cf := some (fileOf pool18 21 #[] #[{ accessFlags := 2, nameIndex := 9, descriptorIndex := 19, attributes := #[] }] 33 16 #[] #[{ accessFlags := 24, nameIndex := 28, descriptorIndex := 29, attributes := #[] }, { accessFlags := 26, nameIndex := 38, descriptorIndex := 39, attributes := #[] }, { accessFlags := 25, nameIndex := 121, descriptorIndex := 25, attributes := #[] }, { accessFlags := 25, nameIndex := 131, descriptorIndex := 25, attributes := #[] }, { accessFlags := 25, nameIndex := 137, descriptorIndex := 25, attributes := #[] }, { accessFlags := 25, nameIndex := 143, descriptorIndex := 25, attributes := #[] }, { accessFlags := 25, nameIndex := 53, descriptorIndex := 25, attributes := #[] }, { accessFlags := 25, nameIndex := 24, descriptorIndex := 25, attributes := #[] }, { accessFlags := 25, nameIndex := 162, descriptorIndex := 25, attributes := #[] }, { accessFlags := 25, nameIndex := 187, descriptorIndex := 25, attributes := #[] }, { accessFlags := 26, nameIndex := 48, descriptorIndex := 25, attributes := #[] }, { accessFlags := 25, nameIndex := 277, descriptorIndex := 25, attributes := #[] }, { accessFlags := 25, nameIndex := 280, descriptorIndex := 25, attributes := #[] }, { accessFlags := 25, nameIndex := 282, descriptorIndex := 25, attributes := #[] }, { accessFlags := 25, nameIndex := 284, descriptorIndex := 25, attributes := #[] }, { accessFlags := 25, nameIndex := 286, descriptorIndex := 25, attributes := #[] }, { accessFlags := 25, nameIndex := 288, descriptorIndex := 25, attributes := #[] }, { accessFlags := 25, nameIndex := 290, descriptorIndex := 25, attributes := #[] }, { accessFlags := 25, nameIndex := 292, descriptorIndex := 25, attributes := #[] }, { accessFlags := 26, nameIndex := 108, descriptorIndex := 109, attributes := #[] }, { accessFlags := 25, nameIndex := 294, descriptorIndex := 25, attributes := #[] }])
  fields := #[{ name := "U", type := (.object "jdk/internal/misc/Unsafe"), accessFlags := 24, slot := 0, constantValue := 0 }, { name := "BIG_ENDIAN", type := .boolean, accessFlags := 26, slot := 1, constantValue := 0 }, { name := "LOG2_ARRAY_BOOLEAN_INDEX_SCALE", type := .int, accessFlags := 25, slot := 2, constantValue := 0 }, { name := "LOG2_ARRAY_BYTE_INDEX_SCALE", type := .int, accessFlags := 25, slot := 3, constantValue := 0 }, { name := "LOG2_ARRAY_CHAR_INDEX_SCALE", type := .int, accessFlags := 25, slot := 4, constantValue := 0 }, { name := "LOG2_ARRAY_SHORT_INDEX_SCALE", type := .int, accessFlags := 25, slot := 5, constantValue := 0 }, { name := "LOG2_ARRAY_INT_INDEX_SCALE", type := .int, accessFlags := 25, slot := 6, constantValue := 0 }, { name := "LOG2_ARRAY_LONG_INDEX_SCALE", type := .int, accessFlags := 25, slot := 7, constantValue := 0 }, { name := "LOG2_ARRAY_FLOAT_INDEX_SCALE", type := .int, accessFlags := 25, slot := 8, constantValue := 0 }, { name := "LOG2_ARRAY_DOUBLE_INDEX_SCALE", type := .int, accessFlags := 25, slot := 9, constantValue := 0 }, { name := "LOG2_BYTE_BIT_SIZE", type := .int, accessFlags := 26, slot := 10, constantValue := 0 }, { name := "T_BOOLEAN", type := .int, accessFlags := 25, slot := 11, constantValue := 0 }, { name := "T_CHAR", type := .int, accessFlags := 25, slot := 12, constantValue := 0 }, { name := "T_FLOAT", type := .int, accessFlags := 25, slot := 13, constantValue := 0 }, { name := "T_DOUBLE", type := .int, accessFlags := 25, slot := 14, constantValue := 0 }, { name := "T_BYTE", type := .int, accessFlags := 25, slot := 15, constantValue := 0 }, { name := "T_SHORT", type := .int, accessFlags := 25, slot := 16, constantValue := 0 }, { name := "T_INT", type := .int, accessFlags := 25, slot := 17, constantValue := 0 }, { name := "T_LONG", type := .int, accessFlags := 25, slot := 18, constantValue := 0 }, { name := "JLA", type := (.object "jdk/internal/access/JavaLangAccess"), accessFlags := 26, slot := 19, constantValue := 0 }, { name := "SOFT_MAX_ARRAY_LENGTH", type := .int, accessFlags := 25, slot := 20, constantValue := 0 }]
  methods := #[k18m0]
  instanceTypes := #[]
  staticTypes := #[(.object "jdk/internal/misc/Unsafe"), .boolean, .int, .int, .int, .int, .int, .int, .int, .int, .int, .int, .int, .int, .int, .int, .int, .int, .int, (.object "jdk/internal/access/JavaLangAccess"), .int]
  resolved := Array.replicate 378 none
  statics := none }

def pool19 : Array CpInfo := pool [(1, u "java/lang/Cloneable"), (0, .class_ 1), (0, u "java/lang/Object"), (0, .class_ 3)] 3

/-- java/lang/Cloneable -/
def k19 : Class := { plain "java/lang/Cloneable" (some 0) with
  accessFlags := 1537
  interfaces := #[]
  cf := some (fileOf pool19 2 #[] #[] 1537 4 #[] #[])
  fields := #[]
  methods := #[]
  instanceTypes := #[]
  staticTypes := #[]
  resolved := Array.replicate 8 none
  statics := none }

/-- the primitive byte -/
def k20 : Class := { plain "byte" none with kind := .primitive 'B', accessFlags := 0x411 }
/-- [B -/
def k21 : Class := { plain "[B" (some 0) with kind := .array 20 .byte, interfaces := #[19, 2], accessFlags := 1041 }

/-- the primitive char -/
def k22 : Class := { plain "char" none with kind := .primitive 'C', accessFlags := 0x411 }
/-- [C -/
def k23 : Class := { plain "[C" (some 0) with kind := .array 22 .char, interfaces := #[19, 2], accessFlags := 1041 }

/-- the primitive int -/
def k24 : Class := { plain "int" none with kind := .primitive 'I', accessFlags := 0x411 }
/-- [I -/
def k25 : Class := { plain "[I" (some 0) with kind := .array 24 .int, interfaces := #[19, 2], accessFlags := 1041 }

/-- [Ljava/lang/Long; -/
def k26 : Class := { plain "[Ljava/lang/Long;" (some 0) with kind := .array 15 (.object "java/lang/Long"), interfaces := #[19, 2], accessFlags := 1041 }

def heap : Heap := #[{ cls := 7, slots := #[.long 0, .int 1, .null, .int 0, .null, .int 0, .int 0], vm := .statics 7 },
  { cls := 10, slots := #[.null, .null, .null], vm := .statics 10 },
  { cls := 17, slots := #[.ref 3, .null, .int 0], vm := .statics 17 },
  { cls := 26, slots := #[.ref 4, .ref 5, .ref 6, .ref 7, .ref 8, .ref 9, .ref 10, .ref 11, .ref 12, .ref 13, .ref 14, .ref 15, .ref 16, .ref 17, .ref 18, .ref 19, .ref 20, .ref 21, .ref 22, .ref 23, .ref 24, .ref 25, .ref 26, .ref 27, .ref 28, .ref 29, .ref 30, .ref 31, .ref 32, .ref 33, .ref 34, .ref 35, .ref 36, .ref 37, .ref 38, .ref 39, .ref 40, .ref 41, .ref 42, .ref 43, .ref 44, .ref 45, .ref 46, .ref 47, .ref 48, .ref 49, .ref 50, .ref 51, .ref 52, .ref 53, .ref 54, .ref 55, .ref 56, .ref 57, .ref 58, .ref 59, .ref 60, .ref 61, .ref 62, .ref 63, .ref 64, .ref 65, .ref 66, .ref 67, .ref 68, .ref 69, .ref 70, .ref 71, .ref 72, .ref 73, .ref 74, .ref 75, .ref 76, .ref 77, .ref 78, .ref 79, .ref 80, .ref 81, .ref 82, .ref 83, .ref 84, .ref 85, .ref 86, .ref 87, .ref 88, .ref 89, .ref 90, .ref 91, .ref 92, .ref 93, .ref 94, .ref 95, .ref 96, .ref 97, .ref 98, .ref 99, .ref 100, .ref 101, .ref 102, .ref 103, .ref 104, .ref 105, .ref 106, .ref 107, .ref 108, .ref 109, .ref 110, .ref 111, .ref 112, .ref 113, .ref 114, .ref 115, .ref 116, .ref 117, .ref 118, .ref 119, .ref 120, .ref 121, .ref 122, .ref 123, .ref 124, .ref 125, .ref 126, .ref 127, .ref 128, .ref 129, .ref 130, .ref 131, .ref 132, .ref 133, .ref 134, .ref 135, .ref 136, .ref 137, .ref 138, .ref 139, .ref 140, .ref 141, .ref 142, .ref 143, .ref 144, .ref 145, .ref 146, .ref 147, .ref 148, .ref 149, .ref 150, .ref 151, .ref 152, .ref 153, .ref 154, .ref 155, .ref 156, .ref 157, .ref 158, .ref 159, .ref 160, .ref 161, .ref 162, .ref 163, .ref 164, .ref 165, .ref 166, .ref 167, .ref 168, .ref 169, .ref 170, .ref 171, .ref 172, .ref 173, .ref 174, .ref 175, .ref 176, .ref 177, .ref 178, .ref 179, .ref 180, .ref 181, .ref 182, .ref 183, .ref 184, .ref 185, .ref 186, .ref 187, .ref 188, .ref 189, .ref 190, .ref 191, .ref 192, .ref 193, .ref 194, .ref 195, .ref 196, .ref 197, .ref 198, .ref 199, .ref 200, .ref 201, .ref 202, .ref 203, .ref 204, .ref 205, .ref 206, .ref 207, .ref 208, .ref 209, .ref 210, .ref 211, .ref 212, .ref 213, .ref 214, .ref 215, .ref 216, .ref 217, .ref 218, .ref 219, .ref 220, .ref 221, .ref 222, .ref 223, .ref 224, .ref 225, .ref 226, .ref 227, .ref 228, .ref 229, .ref 230, .ref 231, .ref 232, .ref 233, .ref 234, .ref 235, .ref 236, .ref 237, .ref 238, .ref 239, .ref 240, .ref 241, .ref 242, .ref 243, .ref 244, .ref 245, .ref 246, .ref 247, .ref 248, .ref 249, .ref 250, .ref 251, .ref 252, .ref 253, .ref 254, .ref 255, .ref 256, .ref 257, .ref 258, .ref 259], vm := .none },
  { cls := 15, slots := #[.long (-128)], vm := .none },
  { cls := 15, slots := #[.long (-127)], vm := .none },
  { cls := 15, slots := #[.long (-126)], vm := .none },
  { cls := 15, slots := #[.long (-125)], vm := .none },
  { cls := 15, slots := #[.long (-124)], vm := .none },
  { cls := 15, slots := #[.long (-123)], vm := .none },
  { cls := 15, slots := #[.long (-122)], vm := .none },
  { cls := 15, slots := #[.long (-121)], vm := .none },
  { cls := 15, slots := #[.long (-120)], vm := .none },
  { cls := 15, slots := #[.long (-119)], vm := .none },
  { cls := 15, slots := #[.long (-118)], vm := .none },
  { cls := 15, slots := #[.long (-117)], vm := .none },
  { cls := 15, slots := #[.long (-116)], vm := .none },
  { cls := 15, slots := #[.long (-115)], vm := .none },
  { cls := 15, slots := #[.long (-114)], vm := .none },
  { cls := 15, slots := #[.long (-113)], vm := .none },
  { cls := 15, slots := #[.long (-112)], vm := .none },
  { cls := 15, slots := #[.long (-111)], vm := .none },
  { cls := 15, slots := #[.long (-110)], vm := .none },
  { cls := 15, slots := #[.long (-109)], vm := .none },
  { cls := 15, slots := #[.long (-108)], vm := .none },
  { cls := 15, slots := #[.long (-107)], vm := .none },
  { cls := 15, slots := #[.long (-106)], vm := .none },
  { cls := 15, slots := #[.long (-105)], vm := .none },
  { cls := 15, slots := #[.long (-104)], vm := .none },
  { cls := 15, slots := #[.long (-103)], vm := .none },
  { cls := 15, slots := #[.long (-102)], vm := .none },
  { cls := 15, slots := #[.long (-101)], vm := .none },
  { cls := 15, slots := #[.long (-100)], vm := .none },
  { cls := 15, slots := #[.long (-99)], vm := .none },
  { cls := 15, slots := #[.long (-98)], vm := .none },
  { cls := 15, slots := #[.long (-97)], vm := .none },
  { cls := 15, slots := #[.long (-96)], vm := .none },
  { cls := 15, slots := #[.long (-95)], vm := .none },
  { cls := 15, slots := #[.long (-94)], vm := .none },
  { cls := 15, slots := #[.long (-93)], vm := .none },
  { cls := 15, slots := #[.long (-92)], vm := .none },
  { cls := 15, slots := #[.long (-91)], vm := .none },
  { cls := 15, slots := #[.long (-90)], vm := .none },
  { cls := 15, slots := #[.long (-89)], vm := .none },
  { cls := 15, slots := #[.long (-88)], vm := .none },
  { cls := 15, slots := #[.long (-87)], vm := .none },
  { cls := 15, slots := #[.long (-86)], vm := .none },
  { cls := 15, slots := #[.long (-85)], vm := .none },
  { cls := 15, slots := #[.long (-84)], vm := .none },
  { cls := 15, slots := #[.long (-83)], vm := .none },
  { cls := 15, slots := #[.long (-82)], vm := .none },
  { cls := 15, slots := #[.long (-81)], vm := .none },
  { cls := 15, slots := #[.long (-80)], vm := .none },
  { cls := 15, slots := #[.long (-79)], vm := .none },
  { cls := 15, slots := #[.long (-78)], vm := .none },
  { cls := 15, slots := #[.long (-77)], vm := .none },
  { cls := 15, slots := #[.long (-76)], vm := .none },
  { cls := 15, slots := #[.long (-75)], vm := .none },
  { cls := 15, slots := #[.long (-74)], vm := .none },
  { cls := 15, slots := #[.long (-73)], vm := .none },
  { cls := 15, slots := #[.long (-72)], vm := .none },
  { cls := 15, slots := #[.long (-71)], vm := .none },
  { cls := 15, slots := #[.long (-70)], vm := .none },
  { cls := 15, slots := #[.long (-69)], vm := .none },
  { cls := 15, slots := #[.long (-68)], vm := .none },
  { cls := 15, slots := #[.long (-67)], vm := .none },
  { cls := 15, slots := #[.long (-66)], vm := .none },
  { cls := 15, slots := #[.long (-65)], vm := .none },
  { cls := 15, slots := #[.long (-64)], vm := .none },
  { cls := 15, slots := #[.long (-63)], vm := .none },
  { cls := 15, slots := #[.long (-62)], vm := .none },
  { cls := 15, slots := #[.long (-61)], vm := .none },
  { cls := 15, slots := #[.long (-60)], vm := .none },
  { cls := 15, slots := #[.long (-59)], vm := .none },
  { cls := 15, slots := #[.long (-58)], vm := .none },
  { cls := 15, slots := #[.long (-57)], vm := .none },
  { cls := 15, slots := #[.long (-56)], vm := .none },
  { cls := 15, slots := #[.long (-55)], vm := .none },
  { cls := 15, slots := #[.long (-54)], vm := .none },
  { cls := 15, slots := #[.long (-53)], vm := .none },
  { cls := 15, slots := #[.long (-52)], vm := .none },
  { cls := 15, slots := #[.long (-51)], vm := .none },
  { cls := 15, slots := #[.long (-50)], vm := .none },
  { cls := 15, slots := #[.long (-49)], vm := .none },
  { cls := 15, slots := #[.long (-48)], vm := .none },
  { cls := 15, slots := #[.long (-47)], vm := .none },
  { cls := 15, slots := #[.long (-46)], vm := .none },
  { cls := 15, slots := #[.long (-45)], vm := .none },
  { cls := 15, slots := #[.long (-44)], vm := .none },
  { cls := 15, slots := #[.long (-43)], vm := .none },
  { cls := 15, slots := #[.long (-42)], vm := .none },
  { cls := 15, slots := #[.long (-41)], vm := .none },
  { cls := 15, slots := #[.long (-40)], vm := .none },
  { cls := 15, slots := #[.long (-39)], vm := .none },
  { cls := 15, slots := #[.long (-38)], vm := .none },
  { cls := 15, slots := #[.long (-37)], vm := .none },
  { cls := 15, slots := #[.long (-36)], vm := .none },
  { cls := 15, slots := #[.long (-35)], vm := .none },
  { cls := 15, slots := #[.long (-34)], vm := .none },
  { cls := 15, slots := #[.long (-33)], vm := .none },
  { cls := 15, slots := #[.long (-32)], vm := .none },
  { cls := 15, slots := #[.long (-31)], vm := .none },
  { cls := 15, slots := #[.long (-30)], vm := .none },
  { cls := 15, slots := #[.long (-29)], vm := .none },
  { cls := 15, slots := #[.long (-28)], vm := .none },
  { cls := 15, slots := #[.long (-27)], vm := .none },
  { cls := 15, slots := #[.long (-26)], vm := .none },
  { cls := 15, slots := #[.long (-25)], vm := .none },
  { cls := 15, slots := #[.long (-24)], vm := .none },
  { cls := 15, slots := #[.long (-23)], vm := .none },
  { cls := 15, slots := #[.long (-22)], vm := .none },
  { cls := 15, slots := #[.long (-21)], vm := .none },
  { cls := 15, slots := #[.long (-20)], vm := .none },
  { cls := 15, slots := #[.long (-19)], vm := .none },
  { cls := 15, slots := #[.long (-18)], vm := .none },
  { cls := 15, slots := #[.long (-17)], vm := .none },
  { cls := 15, slots := #[.long (-16)], vm := .none },
  { cls := 15, slots := #[.long (-15)], vm := .none },
  { cls := 15, slots := #[.long (-14)], vm := .none },
  { cls := 15, slots := #[.long (-13)], vm := .none },
  { cls := 15, slots := #[.long (-12)], vm := .none },
  { cls := 15, slots := #[.long (-11)], vm := .none },
  { cls := 15, slots := #[.long (-10)], vm := .none },
  { cls := 15, slots := #[.long (-9)], vm := .none },
  { cls := 15, slots := #[.long (-8)], vm := .none },
  { cls := 15, slots := #[.long (-7)], vm := .none },
  { cls := 15, slots := #[.long (-6)], vm := .none },
  { cls := 15, slots := #[.long (-5)], vm := .none },
  { cls := 15, slots := #[.long (-4)], vm := .none },
  { cls := 15, slots := #[.long (-3)], vm := .none },
  { cls := 15, slots := #[.long (-2)], vm := .none },
  { cls := 15, slots := #[.long (-1)], vm := .none },
  { cls := 15, slots := #[.long (0)], vm := .none },
  { cls := 15, slots := #[.long (1)], vm := .none },
  { cls := 15, slots := #[.long (2)], vm := .none },
  { cls := 15, slots := #[.long (3)], vm := .none },
  { cls := 15, slots := #[.long (4)], vm := .none },
  { cls := 15, slots := #[.long (5)], vm := .none },
  { cls := 15, slots := #[.long (6)], vm := .none },
  { cls := 15, slots := #[.long (7)], vm := .none },
  { cls := 15, slots := #[.long (8)], vm := .none },
  { cls := 15, slots := #[.long (9)], vm := .none },
  { cls := 15, slots := #[.long (10)], vm := .none },
  { cls := 15, slots := #[.long (11)], vm := .none },
  { cls := 15, slots := #[.long (12)], vm := .none },
  { cls := 15, slots := #[.long (13)], vm := .none },
  { cls := 15, slots := #[.long (14)], vm := .none },
  { cls := 15, slots := #[.long (15)], vm := .none },
  { cls := 15, slots := #[.long (16)], vm := .none },
  { cls := 15, slots := #[.long (17)], vm := .none },
  { cls := 15, slots := #[.long (18)], vm := .none },
  { cls := 15, slots := #[.long (19)], vm := .none },
  { cls := 15, slots := #[.long (20)], vm := .none },
  { cls := 15, slots := #[.long (21)], vm := .none },
  { cls := 15, slots := #[.long (22)], vm := .none },
  { cls := 15, slots := #[.long (23)], vm := .none },
  { cls := 15, slots := #[.long (24)], vm := .none },
  { cls := 15, slots := #[.long (25)], vm := .none },
  { cls := 15, slots := #[.long (26)], vm := .none },
  { cls := 15, slots := #[.long (27)], vm := .none },
  { cls := 15, slots := #[.long (28)], vm := .none },
  { cls := 15, slots := #[.long (29)], vm := .none },
  { cls := 15, slots := #[.long (30)], vm := .none },
  { cls := 15, slots := #[.long (31)], vm := .none },
  { cls := 15, slots := #[.long (32)], vm := .none },
  { cls := 15, slots := #[.long (33)], vm := .none },
  { cls := 15, slots := #[.long (34)], vm := .none },
  { cls := 15, slots := #[.long (35)], vm := .none },
  { cls := 15, slots := #[.long (36)], vm := .none },
  { cls := 15, slots := #[.long (37)], vm := .none },
  { cls := 15, slots := #[.long (38)], vm := .none },
  { cls := 15, slots := #[.long (39)], vm := .none },
  { cls := 15, slots := #[.long (40)], vm := .none },
  { cls := 15, slots := #[.long (41)], vm := .none },
  { cls := 15, slots := #[.long (42)], vm := .none },
  { cls := 15, slots := #[.long (43)], vm := .none },
  { cls := 15, slots := #[.long (44)], vm := .none },
  { cls := 15, slots := #[.long (45)], vm := .none },
  { cls := 15, slots := #[.long (46)], vm := .none },
  { cls := 15, slots := #[.long (47)], vm := .none },
  { cls := 15, slots := #[.long (48)], vm := .none },
  { cls := 15, slots := #[.long (49)], vm := .none },
  { cls := 15, slots := #[.long (50)], vm := .none },
  { cls := 15, slots := #[.long (51)], vm := .none },
  { cls := 15, slots := #[.long (52)], vm := .none },
  { cls := 15, slots := #[.long (53)], vm := .none },
  { cls := 15, slots := #[.long (54)], vm := .none },
  { cls := 15, slots := #[.long (55)], vm := .none },
  { cls := 15, slots := #[.long (56)], vm := .none },
  { cls := 15, slots := #[.long (57)], vm := .none },
  { cls := 15, slots := #[.long (58)], vm := .none },
  { cls := 15, slots := #[.long (59)], vm := .none },
  { cls := 15, slots := #[.long (60)], vm := .none },
  { cls := 15, slots := #[.long (61)], vm := .none },
  { cls := 15, slots := #[.long (62)], vm := .none },
  { cls := 15, slots := #[.long (63)], vm := .none },
  { cls := 15, slots := #[.long (64)], vm := .none },
  { cls := 15, slots := #[.long (65)], vm := .none },
  { cls := 15, slots := #[.long (66)], vm := .none },
  { cls := 15, slots := #[.long (67)], vm := .none },
  { cls := 15, slots := #[.long (68)], vm := .none },
  { cls := 15, slots := #[.long (69)], vm := .none },
  { cls := 15, slots := #[.long (70)], vm := .none },
  { cls := 15, slots := #[.long (71)], vm := .none },
  { cls := 15, slots := #[.long (72)], vm := .none },
  { cls := 15, slots := #[.long (73)], vm := .none },
  { cls := 15, slots := #[.long (74)], vm := .none },
  { cls := 15, slots := #[.long (75)], vm := .none },
  { cls := 15, slots := #[.long (76)], vm := .none },
  { cls := 15, slots := #[.long (77)], vm := .none },
  { cls := 15, slots := #[.long (78)], vm := .none },
  { cls := 15, slots := #[.long (79)], vm := .none },
  { cls := 15, slots := #[.long (80)], vm := .none },
  { cls := 15, slots := #[.long (81)], vm := .none },
  { cls := 15, slots := #[.long (82)], vm := .none },
  { cls := 15, slots := #[.long (83)], vm := .none },
  { cls := 15, slots := #[.long (84)], vm := .none },
  { cls := 15, slots := #[.long (85)], vm := .none },
  { cls := 15, slots := #[.long (86)], vm := .none },
  { cls := 15, slots := #[.long (87)], vm := .none },
  { cls := 15, slots := #[.long (88)], vm := .none },
  { cls := 15, slots := #[.long (89)], vm := .none },
  { cls := 15, slots := #[.long (90)], vm := .none },
  { cls := 15, slots := #[.long (91)], vm := .none },
  { cls := 15, slots := #[.long (92)], vm := .none },
  { cls := 15, slots := #[.long (93)], vm := .none },
  { cls := 15, slots := #[.long (94)], vm := .none },
  { cls := 15, slots := #[.long (95)], vm := .none },
  { cls := 15, slots := #[.long (96)], vm := .none },
  { cls := 15, slots := #[.long (97)], vm := .none },
  { cls := 15, slots := #[.long (98)], vm := .none },
  { cls := 15, slots := #[.long (99)], vm := .none },
  { cls := 15, slots := #[.long (100)], vm := .none },
  { cls := 15, slots := #[.long (101)], vm := .none },
  { cls := 15, slots := #[.long (102)], vm := .none },
  { cls := 15, slots := #[.long (103)], vm := .none },
  { cls := 15, slots := #[.long (104)], vm := .none },
  { cls := 15, slots := #[.long (105)], vm := .none },
  { cls := 15, slots := #[.long (106)], vm := .none },
  { cls := 15, slots := #[.long (107)], vm := .none },
  { cls := 15, slots := #[.long (108)], vm := .none },
  { cls := 15, slots := #[.long (109)], vm := .none },
  { cls := 15, slots := #[.long (110)], vm := .none },
  { cls := 15, slots := #[.long (111)], vm := .none },
  { cls := 15, slots := #[.long (112)], vm := .none },
  { cls := 15, slots := #[.long (113)], vm := .none },
  { cls := 15, slots := #[.long (114)], vm := .none },
  { cls := 15, slots := #[.long (115)], vm := .none },
  { cls := 15, slots := #[.long (116)], vm := .none },
  { cls := 15, slots := #[.long (117)], vm := .none },
  { cls := 15, slots := #[.long (118)], vm := .none },
  { cls := 15, slots := #[.long (119)], vm := .none },
  { cls := 15, slots := #[.long (120)], vm := .none },
  { cls := 15, slots := #[.long (121)], vm := .none },
  { cls := 15, slots := #[.long (122)], vm := .none },
  { cls := 15, slots := #[.long (123)], vm := .none },
  { cls := 15, slots := #[.long (124)], vm := .none },
  { cls := 15, slots := #[.long (125)], vm := .none },
  { cls := 15, slots := #[.long (126)], vm := .none },
  { cls := 15, slots := #[.long (127)], vm := .none }]
def classes : Array Class := #[k0, k1, k2, k3, k4, k5, k6, k7, k8, k9, k10, k11, k12, k13, k14, k15, k16, k17, k18, k19, k20, k21, k22, k23, k24, k25, k26]
def interned : List (Array UInt16 × Addr) := []
def slotsUsed : Nat := 525
def theMethod : MethodId := ⟨1, 3⟩
def args0 : Array Value := #[.int 0, .int 0, .int 65, .int 0, .long 5]
def aboutOver (below : List Frame) : State where
  vm := { classes := classes, interned := interned.toArray }
  heap := heap
  slotsUsed := slotsUsed
  threads := #[{ frames := .invoking theMethod args0 :: below }]
def below0 : List Frame := [.native { method := ⟨0, 0⟩, args := #[] }]
def about1 : State := aboutOver below0
def p0 : Program := .bare "" "" ""
def e0 : Env := launch0.env 0 0 0
theorem w_frames : about1.frames = Frame.invoking theMethod args0 :: below0 := rfl
set_option maxRecDepth 65536 in
theorem w_args : argsFit about1.vm theMethod args0 = true := by decide +kernel
set_option maxRecDepth 65536 in
theorem w_heap : heapFits about1 = true := by decide +kernel
set_option maxRecDepth 65536 in
theorem w_runnable : about1.curStatus? = some .runnable := by decide +kernel
set_option maxRecDepth 65536 in
theorem w_alone : about1.alone = true := by decide +kernel
set_option maxRecDepth 65536 in
theorem w_named : about1.methodNamed? x = some theMethod := by decide +kernel
set_option maxRecDepth 65536 in
theorem w_hears : about1.hears theMethod below0 = true := by decide +kernel
set_option maxRecDepth 65536 in
theorem w_ripe : about1.ripe theMethod args0 below0 = true := by decide +kernel
theorem w_running : about1.status = .running := rfl
set_option maxRecDepth 65536 in
theorem w_room : about1.hasRoom e0.platform room_1 = true :=
  launch0.hasRoom_least _ room_1 (by decide +kernel) (by decide +kernel) (by decide +kernel) (by decide +kernel) (by decide +kernel) (by decide +kernel)
theorem allAtoms_all (ts : List Jvm.Cond) (a : Array Jvm.Value) (st : Jvm.State) : (allAtoms ts).before a st = ts.all (fun c => c.before a st) := by
  induction ts with
  | nil => rfl
  | cons c t ih =>
    show (Jvm.Cond.and c (allAtoms t)).before a st = _
    rw [Jvm.Cond.before_and, ih, List.all_cons]
def words1 : List Jvm.Cond := Jvm.Cond.code x code maxLocals ret :: tables_1
/-- a 'code' word, met by the world's own term for the bytes: nothing is compared byte by byte -/
theorem code_word {y : MethodName} {bytes : ByteArray} {mx : Nat} {rt : Option FieldType} {a : Array Value} {s : State} {m : MethodId} {meth : Method} {c : Code} (h1 : s.methodNamed? y = some m) (h2 : s.vm.method? m = some meth) (h3 : meth.code = some c) (h4 : c.code = bytes)
    (h5 : (c.maxLocals == mx && c.exceptionTable.isEmpty && decide (c.maxStack ≤ mostOperands) && decide (meth.sig.returnType = rt) && !meth.locks && decide (parseMethodDescriptor y.desc = some meth.sig)) = true) : (Jvm.Cond.code y bytes mx rt).before a s = true := by
  simp only [Bool.and_eq_true, beq_iff_eq, Bool.not_eq_true', decide_eq_true_eq] at h5
  obtain ⟨⟨⟨⟨⟨g1, g2⟩, g3⟩, g4⟩, g5⟩, g6⟩ := h5
  simp [Cond.before, Cond.holds, Cond.value, h1, h2, h3, h4, g1, g2, g3, g4, g5, g6]
def isCode : Jvm.Cond → Bool
  | .code _ _ _ _ => true
  | _ => false
theorem all_split {L : List Jvm.Cond} {P : Jvm.Cond → Bool} (h1 : L.all (fun c => isCode c || P c) = true) (h2 : ∀ c ∈ L.filter isCode, P c = true) : L.all P = true := by
  refine List.all_eq_true.mpr fun c hc => ?_
  have h := List.all_eq_true.mp h1 c hc
  rcases Bool.eq_false_or_eq_true (isCode c) with hi | hi
  · exact h2 c (List.mem_filter.mpr ⟨hc, hi⟩)
  · simpa [hi] using h
set_option maxRecDepth 65536 in
theorem w_c0 : (Jvm.Cond.code x code maxLocals ret).before args0 about1 = true := code_word (m := ⟨1, 3⟩) (meth := k1m3) (c := k1c3) (by decide +kernel) rfl rfl rfl (by decide +kernel)
set_option maxRecDepth 65536 in
theorem w_c1 : (Jvm.Cond.code ({ cls := "java/lang/String", name := "length", desc := "()I" } : Jvm.MethodName) jdk_42_method_54_code (1 : Nat) (Option.some Jvm.ClassFile.FieldType.int)).before args0 about1 = true := code_word (m := ⟨7, 2⟩) (meth := k7m2) (c := k7c2) (by decide +kernel) rfl rfl rfl (by decide +kernel)
set_option maxRecDepth 65536 in
theorem w_c2 : (Jvm.Cond.code ({ cls := "java/lang/String", name := "coder", desc := "()B" } : Jvm.MethodName) jdk_42_method_152_code (1 : Nat) (Option.some Jvm.ClassFile.FieldType.byte)).before args0 about1 = true := code_word (m := ⟨7, 8⟩) (meth := k7m8) (c := k7c8) (by decide +kernel) rfl rfl rfl (by decide +kernel)
set_option maxRecDepth 65536 in
theorem w_c3 : (Jvm.Cond.code ({ cls := "java/lang/Math", name := "min", desc := "(II)I" } : Jvm.MethodName) jdk_29_method_69_code (2 : Nat) (Option.some Jvm.ClassFile.FieldType.int)).before args0 about1 = true := code_word (m := ⟨8, 1⟩) (meth := k8m1) (c := k8c1) (by decide +kernel) rfl rfl rfl (by decide +kernel)
set_option maxRecDepth 65536 in
theorem w_c4 : (Jvm.Cond.code ({ cls := "java/lang/String", name := "charAt", desc := "(I)C" } : Jvm.MethodName) jdk_42_method_56_code (2 : Nat) (Option.some Jvm.ClassFile.FieldType.char)).before args0 about1 = true := code_word (m := ⟨7, 3⟩) (meth := k7m3) (c := k7c3) (by decide +kernel) rfl rfl rfl (by decide +kernel)
set_option maxRecDepth 65536 in
theorem w_c5 : (Jvm.Cond.code ({ cls := "java/lang/String", name := "isLatin1", desc := "()Z" } : Jvm.MethodName) jdk_42_method_154_code (1 : Nat) (Option.some Jvm.ClassFile.FieldType.boolean)).before args0 about1 = true := code_word (m := ⟨7, 9⟩) (meth := k7m9) (c := k7c9) (by decide +kernel) rfl rfl rfl (by decide +kernel)
set_option maxRecDepth 65536 in
theorem w_c6 : (Jvm.Cond.code ({ cls := "java/lang/StringLatin1", name := "charAt", desc := "([BI)C" } : Jvm.MethodName) jdk_43_method_2_code (2 : Nat) (Option.some Jvm.ClassFile.FieldType.char)).before args0 about1 = true := code_word (m := ⟨9, 1⟩) (meth := k9m1) (c := k9c1) (by decide +kernel) rfl rfl rfl (by decide +kernel)
set_option maxRecDepth 65536 in
theorem w_c7 : (Jvm.Cond.code ({ cls := "java/lang/String", name := "checkIndex", desc := "(II)V" } : Jvm.MethodName) jdk_42_method_155_code (2 : Nat) (Option.none : Option Jvm.ClassFile.FieldType)).before args0 about1 = true := code_word (m := ⟨7, 10⟩) (meth := k7m10) (c := k7c10) (by decide +kernel) rfl rfl rfl (by decide +kernel)
set_option maxRecDepth 65536 in
theorem w_c8 : (Jvm.Cond.code ({ cls := "jdk/internal/util/Preconditions", name := "checkIndex", desc := "(IILjava/util/function/BiFunction;)I" } : Jvm.MethodName) jdk_41_method_11_code (3 : Nat) (Option.some Jvm.ClassFile.FieldType.int)).before args0 about1 = true := code_word (m := ⟨10, 1⟩) (meth := k10m1) (c := k10c1) (by decide +kernel) rfl rfl rfl (by decide +kernel)
set_option maxRecDepth 65536 in
theorem w_c9 : (Jvm.Cond.code ({ cls := "com/example/termflow/termflow/feed/LinkIsArtefactPinLaw", name := "mk", desc := "(Ljava/lang/String;IIC)Ljava/lang/String;" } : Jvm.MethodName) method_3_code (6 : Nat) (Option.some (Jvm.ClassFile.FieldType.object "java/lang/String"))).before args0 about1 = true := code_word (m := ⟨1, 2⟩) (meth := k1m2) (c := k1c2) (by decide +kernel) rfl rfl rfl (by decide +kernel)
set_option maxRecDepth 65536 in
theorem w_c10 : (Jvm.Cond.code ({ cls := "com/example/termflow/termflow/feed/LinkIsArtefactPinLaw", name := "g", desc := "(Ljava/lang/String;IICI)C" } : Jvm.MethodName) method_2_code (5 : Nat) (Option.some Jvm.ClassFile.FieldType.char)).before args0 about1 = true := code_word (m := ⟨1, 1⟩) (meth := k1m1) (c := k1c1) (by decide +kernel) rfl rfl rfl (by decide +kernel)
set_option maxRecDepth 65536 in
theorem w_c11 : (Jvm.Cond.code ({ cls := "java/lang/String", name := "<init>", desc := "([C)V" } : Jvm.MethodName) jdk_42_method_3_code (2 : Nat) (Option.none : Option Jvm.ClassFile.FieldType)).before args0 about1 = true := code_word (m := ⟨7, 1⟩) (meth := k7m1) (c := k7c1) (by decide +kernel) rfl rfl rfl (by decide +kernel)
set_option maxRecDepth 65536 in
theorem w_c12 : (Jvm.Cond.code ({ cls := "java/lang/String", name := "<init>", desc := "([CIILjava/lang/Void;)V" } : Jvm.MethodName) jdk_42_method_149_code (6 : Nat) (Option.none : Option Jvm.ClassFile.FieldType)).before args0 about1 = true := code_word (m := ⟨7, 6⟩) (meth := k7m6) (c := k7c6) (by decide +kernel) rfl rfl rfl (by decide +kernel)
set_option maxRecDepth 65536 in
theorem w_c13 : (Jvm.Cond.code ({ cls := "java/lang/Object", name := "<init>", desc := "()V" } : Jvm.MethodName) object_method_1_code (1 : Nat) (Option.none : Option Jvm.ClassFile.FieldType)).before args0 about1 = true := code_word (m := ⟨0, 0⟩) (meth := k0m0) (c := k0c0) (by decide +kernel) rfl rfl rfl (by decide +kernel)
set_option maxRecDepth 65536 in
theorem w_c14 : (Jvm.Cond.code ({ cls := "java/lang/StringUTF16", name := "compress", desc := "([CII)[B" } : Jvm.MethodName) jdk_52_method_16_code (6 : Nat) (Option.some (Jvm.ClassFile.FieldType.array Jvm.ClassFile.FieldType.byte))).before args0 about1 = true := code_word (m := ⟨11, 2⟩) (meth := k11m2) (c := k11c2) (by decide +kernel) rfl rfl rfl (by decide +kernel)
set_option maxRecDepth 65536 in
theorem w_c15 : (Jvm.Cond.code ({ cls := "java/lang/StringUTF16", name := "compress", desc := "([CI[BII)I" } : Jvm.MethodName) jdk_52_method_21_code (7 : Nat) (Option.some Jvm.ClassFile.FieldType.int)).before args0 about1 = true := code_word (m := ⟨11, 3⟩) (meth := k11m3) (c := k11c3) (by decide +kernel) rfl rfl rfl (by decide +kernel)
set_option maxRecDepth 65536 in
theorem w_c16 : (Jvm.Cond.code ({ cls := "java/lang/StringUTF16", name := "coderFromArrayLen", desc := "([BI)B" } : Jvm.MethodName) jdk_52_method_15_code (2 : Nat) (Option.some Jvm.ClassFile.FieldType.byte)).before args0 about1 = true := code_word (m := ⟨11, 1⟩) (meth := k11m1) (c := k11c1) (by decide +kernel) rfl rfl rfl (by decide +kernel)
set_option maxRecDepth 65536 in
theorem w_c17 : (Jvm.Cond.code ({ cls := "java/lang/String", name := "valueOf", desc := "(C)Ljava/lang/String;" } : Jvm.MethodName) jdk_42_method_139_code (1 : Nat) (Option.some (Jvm.ClassFile.FieldType.object "java/lang/String"))).before args0 about1 = true := code_word (m := ⟨7, 5⟩) (meth := k7m5) (c := k7c5) (by decide +kernel) rfl rfl rfl (by decide +kernel)
set_option maxRecDepth 65536 in
theorem w_c18 : (Jvm.Cond.code ({ cls := "java/lang/StringLatin1", name := "canEncode", desc := "(C)Z" } : Jvm.MethodName) jdk_43_method_3_code (1 : Nat) (Option.some Jvm.ClassFile.FieldType.boolean)).before args0 about1 = true := code_word (m := ⟨9, 2⟩) (meth := k9m2) (c := k9c2) (by decide +kernel) rfl rfl rfl (by decide +kernel)
set_option maxRecDepth 65536 in
theorem w_c19 : (Jvm.Cond.code ({ cls := "java/lang/StringLatin1", name := "toBytes", desc := "(C)[B" } : Jvm.MethodName) jdk_43_method_46_code (1 : Nat) (Option.some (Jvm.ClassFile.FieldType.array Jvm.ClassFile.FieldType.byte))).before args0 about1 = true := code_word (m := ⟨9, 4⟩) (meth := k9m4) (c := k9c4) (by decide +kernel) rfl rfl rfl (by decide +kernel)
set_option maxRecDepth 65536 in
theorem w_c20 : (Jvm.Cond.code ({ cls := "java/lang/String", name := "<init>", desc := "([BB)V" } : Jvm.MethodName) jdk_42_method_151_code (3 : Nat) (Option.none : Option Jvm.ClassFile.FieldType)).before args0 about1 = true := code_word (m := ⟨7, 7⟩) (meth := k7m7) (c := k7c7) (by decide +kernel) rfl rfl rfl (by decide +kernel)
set_option maxRecDepth 65536 in
theorem w_c21 : (Jvm.Cond.code ({ cls := "java/lang/Long", name := "valueOf", desc := "(J)Ljava/lang/Long;" } : Jvm.MethodName) jdk_35_method_24_code (3 : Nat) (Option.some (Jvm.ClassFile.FieldType.object "java/lang/Long"))).before args0 about1 = true := code_word (m := ⟨15, 0⟩) (meth := k15m0) (c := k15c0) (by decide +kernel) rfl rfl rfl (by decide +kernel)
set_option maxRecDepth 65536 in
theorem w_c22 : (Jvm.Cond.code ({ cls := "java/lang/Long", name := "<init>", desc := "(J)V" } : Jvm.MethodName) jdk_35_method_26_code (3 : Nat) (Option.none : Option Jvm.ClassFile.FieldType)).before args0 about1 = true := code_word (m := ⟨15, 1⟩) (meth := k15m1) (c := k15c1) (by decide +kernel) rfl rfl rfl (by decide +kernel)
set_option maxRecDepth 65536 in
theorem w_c23 : (Jvm.Cond.code ({ cls := "java/lang/Number", name := "<init>", desc := "()V" } : Jvm.MethodName) jdk_18_method_1_code (1 : Nat) (Option.none : Option Jvm.ClassFile.FieldType)).before args0 about1 = true := code_word (m := ⟨14, 0⟩) (meth := k14m0) (c := k14c0) (by decide +kernel) rfl rfl rfl (by decide +kernel)
set_option maxRecDepth 65536 in
theorem w_c24 : (Jvm.Cond.code ({ cls := "com/example/termflow/termflow/feed/Link", name := "<init>", desc := "(Ljava/lang/String;Ljava/lang/String;Ljava/lang/String;Ljava/lang/Long;Ljava/lang/String;Ljava/lang/String;Z)V" } : Jvm.MethodName) prog_24_method_1_code (8 : Nat) (Option.none : Option Jvm.ClassFile.FieldType)).before args0 about1 = true := code_word (m := ⟨13, 0⟩) (meth := k13m0) (c := k13c0) (by decide +kernel) rfl rfl rfl (by decide +kernel)
set_option maxRecDepth 65536 in
theorem w_c25 : (Jvm.Cond.code ({ cls := "java/lang/Record", name := "<init>", desc := "()V" } : Jvm.MethodName) jdk_30_method_1_code (1 : Nat) (Option.none : Option Jvm.ClassFile.FieldType)).before args0 about1 = true := code_word (m := ⟨12, 0⟩) (meth := k12m0) (c := k12c0) (by decide +kernel) rfl rfl rfl (by decide +kernel)
set_option maxRecDepth 65536 in
theorem w_c26 : (Jvm.Cond.code ({ cls := "java/util/Objects", name := "requireNonNull", desc := "(Ljava/lang/Object;Ljava/lang/String;)Ljava/lang/Object;" } : Jvm.MethodName) jdk_31_method_11_code (2 : Nat) (Option.some (Jvm.ClassFile.FieldType.object "java/lang/Object"))).before args0 about1 = true := code_word (m := ⟨16, 1⟩) (meth := k16m1) (c := k16c1) (by decide +kernel) rfl rfl rfl (by decide +kernel)
set_option maxRecDepth 65536 in
theorem w_c27 : (Jvm.Cond.code ({ cls := "com/example/termflow/termflow/feed/Link", name := "isArtefact", desc := "()Z" } : Jvm.MethodName) prog_24_method_2_code (1 : Nat) (Option.some Jvm.ClassFile.FieldType.boolean)).before args0 about1 = true := code_word (m := ⟨13, 1⟩) (meth := k13m1) (c := k13c1) (by decide +kernel) rfl rfl rfl (by decide +kernel)
set_option maxRecDepth 65536 in
theorem w_c28 : (Jvm.Cond.code ({ cls := "java/lang/String", name := "equals", desc := "(Ljava/lang/Object;)Z" } : Jvm.MethodName) jdk_42_method_66_code (3 : Nat) (Option.some Jvm.ClassFile.FieldType.boolean)).before args0 about1 = true := code_word (m := ⟨7, 4⟩) (meth := k7m4) (c := k7c4) (by decide +kernel) rfl rfl rfl (by decide +kernel)
set_option maxRecDepth 65536 in
theorem w_c29 : (Jvm.Cond.code ({ cls := "java/lang/StringLatin1", name := "equals", desc := "([B[B)Z" } : Jvm.MethodName) jdk_43_method_13_code (3 : Nat) (Option.some Jvm.ClassFile.FieldType.boolean)).before args0 about1 = true := code_word (m := ⟨9, 3⟩) (meth := k9m3) (c := k9c3) (by decide +kernel) rfl rfl rfl (by decide +kernel)
def codes1 : List Jvm.Cond := [Jvm.Cond.code x code maxLocals ret, Jvm.Cond.code ({ cls := "java/lang/String", name := "length", desc := "()I" } : Jvm.MethodName) jdk_42_method_54_code (1 : Nat) (Option.some Jvm.ClassFile.FieldType.int), Jvm.Cond.code ({ cls := "java/lang/String", name := "coder", desc := "()B" } : Jvm.MethodName) jdk_42_method_152_code (1 : Nat) (Option.some Jvm.ClassFile.FieldType.byte), Jvm.Cond.code ({ cls := "java/lang/Math", name := "min", desc := "(II)I" } : Jvm.MethodName) jdk_29_method_69_code (2 : Nat) (Option.some Jvm.ClassFile.FieldType.int), Jvm.Cond.code ({ cls := "java/lang/String", name := "charAt", desc := "(I)C" } : Jvm.MethodName) jdk_42_method_56_code (2 : Nat) (Option.some Jvm.ClassFile.FieldType.char), Jvm.Cond.code ({ cls := "java/lang/String", name := "isLatin1", desc := "()Z" } : Jvm.MethodName) jdk_42_method_154_code (1 : Nat) (Option.some Jvm.ClassFile.FieldType.boolean), Jvm.Cond.code ({ cls := "java/lang/StringLatin1", name := "charAt", desc := "([BI)C" } : Jvm.MethodName) jdk_43_method_2_code (2 : Nat) (Option.some Jvm.ClassFile.FieldType.char), Jvm.Cond.code ({ cls := "java/lang/String", name := "checkIndex", desc := "(II)V" } : Jvm.MethodName) jdk_42_method_155_code (2 : Nat) (Option.none : Option Jvm.ClassFile.FieldType), Jvm.Cond.code ({ cls := "jdk/internal/util/Preconditions", name := "checkIndex", desc := "(IILjava/util/function/BiFunction;)I" } : Jvm.MethodName) jdk_41_method_11_code (3 : Nat) (Option.some Jvm.ClassFile.FieldType.int), Jvm.Cond.code ({ cls := "com/example/termflow/termflow/feed/LinkIsArtefactPinLaw", name := "mk", desc := "(Ljava/lang/String;IIC)Ljava/lang/String;" } : Jvm.MethodName) method_3_code (6 : Nat) (Option.some (Jvm.ClassFile.FieldType.object "java/lang/String")), Jvm.Cond.code ({ cls := "com/example/termflow/termflow/feed/LinkIsArtefactPinLaw", name := "g", desc := "(Ljava/lang/String;IICI)C" } : Jvm.MethodName) method_2_code (5 : Nat) (Option.some Jvm.ClassFile.FieldType.char), Jvm.Cond.code ({ cls := "java/lang/String", name := "<init>", desc := "([C)V" } : Jvm.MethodName) jdk_42_method_3_code (2 : Nat) (Option.none : Option Jvm.ClassFile.FieldType), Jvm.Cond.code ({ cls := "java/lang/String", name := "<init>", desc := "([CIILjava/lang/Void;)V" } : Jvm.MethodName) jdk_42_method_149_code (6 : Nat) (Option.none : Option Jvm.ClassFile.FieldType), Jvm.Cond.code ({ cls := "java/lang/Object", name := "<init>", desc := "()V" } : Jvm.MethodName) object_method_1_code (1 : Nat) (Option.none : Option Jvm.ClassFile.FieldType), Jvm.Cond.code ({ cls := "java/lang/StringUTF16", name := "compress", desc := "([CII)[B" } : Jvm.MethodName) jdk_52_method_16_code (6 : Nat) (Option.some (Jvm.ClassFile.FieldType.array Jvm.ClassFile.FieldType.byte)), Jvm.Cond.code ({ cls := "java/lang/StringUTF16", name := "compress", desc := "([CI[BII)I" } : Jvm.MethodName) jdk_52_method_21_code (7 : Nat) (Option.some Jvm.ClassFile.FieldType.int), Jvm.Cond.code ({ cls := "java/lang/StringUTF16", name := "coderFromArrayLen", desc := "([BI)B" } : Jvm.MethodName) jdk_52_method_15_code (2 : Nat) (Option.some Jvm.ClassFile.FieldType.byte), Jvm.Cond.code ({ cls := "java/lang/String", name := "valueOf", desc := "(C)Ljava/lang/String;" } : Jvm.MethodName) jdk_42_method_139_code (1 : Nat) (Option.some (Jvm.ClassFile.FieldType.object "java/lang/String")), Jvm.Cond.code ({ cls := "java/lang/StringLatin1", name := "canEncode", desc := "(C)Z" } : Jvm.MethodName) jdk_43_method_3_code (1 : Nat) (Option.some Jvm.ClassFile.FieldType.boolean), Jvm.Cond.code ({ cls := "java/lang/StringLatin1", name := "toBytes", desc := "(C)[B" } : Jvm.MethodName) jdk_43_method_46_code (1 : Nat) (Option.some (Jvm.ClassFile.FieldType.array Jvm.ClassFile.FieldType.byte)), Jvm.Cond.code ({ cls := "java/lang/String", name := "<init>", desc := "([BB)V" } : Jvm.MethodName) jdk_42_method_151_code (3 : Nat) (Option.none : Option Jvm.ClassFile.FieldType), Jvm.Cond.code ({ cls := "java/lang/Long", name := "valueOf", desc := "(J)Ljava/lang/Long;" } : Jvm.MethodName) jdk_35_method_24_code (3 : Nat) (Option.some (Jvm.ClassFile.FieldType.object "java/lang/Long")), Jvm.Cond.code ({ cls := "java/lang/Long", name := "<init>", desc := "(J)V" } : Jvm.MethodName) jdk_35_method_26_code (3 : Nat) (Option.none : Option Jvm.ClassFile.FieldType), Jvm.Cond.code ({ cls := "java/lang/Number", name := "<init>", desc := "()V" } : Jvm.MethodName) jdk_18_method_1_code (1 : Nat) (Option.none : Option Jvm.ClassFile.FieldType), Jvm.Cond.code ({ cls := "com/example/termflow/termflow/feed/Link", name := "<init>", desc := "(Ljava/lang/String;Ljava/lang/String;Ljava/lang/String;Ljava/lang/Long;Ljava/lang/String;Ljava/lang/String;Z)V" } : Jvm.MethodName) prog_24_method_1_code (8 : Nat) (Option.none : Option Jvm.ClassFile.FieldType), Jvm.Cond.code ({ cls := "java/lang/Record", name := "<init>", desc := "()V" } : Jvm.MethodName) jdk_30_method_1_code (1 : Nat) (Option.none : Option Jvm.ClassFile.FieldType), Jvm.Cond.code ({ cls := "java/util/Objects", name := "requireNonNull", desc := "(Ljava/lang/Object;Ljava/lang/String;)Ljava/lang/Object;" } : Jvm.MethodName) jdk_31_method_11_code (2 : Nat) (Option.some (Jvm.ClassFile.FieldType.object "java/lang/Object")), Jvm.Cond.code ({ cls := "com/example/termflow/termflow/feed/Link", name := "isArtefact", desc := "()Z" } : Jvm.MethodName) prog_24_method_2_code (1 : Nat) (Option.some Jvm.ClassFile.FieldType.boolean), Jvm.Cond.code ({ cls := "java/lang/String", name := "equals", desc := "(Ljava/lang/Object;)Z" } : Jvm.MethodName) jdk_42_method_66_code (3 : Nat) (Option.some Jvm.ClassFile.FieldType.boolean), Jvm.Cond.code ({ cls := "java/lang/StringLatin1", name := "equals", desc := "([B[B)Z" } : Jvm.MethodName) jdk_43_method_13_code (3 : Nat) (Option.some Jvm.ClassFile.FieldType.boolean)]
set_option maxRecDepth 65536 in
theorem codes_eq : words1.filter isCode = codes1 := rfl
theorem w_codes : ∀ c ∈ words1.filter isCode, c.before args0 about1 = true := by
  rw [codes_eq]
  intro c hc
  simp only [codes1, List.mem_cons, List.not_mem_nil, or_false] at hc
  rcases hc with rfl | rfl | rfl | rfl | rfl | rfl | rfl | rfl | rfl | rfl | rfl | rfl | rfl | rfl | rfl | rfl | rfl | rfl | rfl | rfl | rfl | rfl | rfl | rfl | rfl | rfl | rfl | rfl | rfl | rfl
  · exact w_c0
  · exact w_c1
  · exact w_c2
  · exact w_c3
  · exact w_c4
  · exact w_c5
  · exact w_c6
  · exact w_c7
  · exact w_c8
  · exact w_c9
  · exact w_c10
  · exact w_c11
  · exact w_c12
  · exact w_c13
  · exact w_c14
  · exact w_c15
  · exact w_c16
  · exact w_c17
  · exact w_c18
  · exact w_c19
  · exact w_c20
  · exact w_c21
  · exact w_c22
  · exact w_c23
  · exact w_c24
  · exact w_c25
  · exact w_c26
  · exact w_c27
  · exact w_c28
  · exact w_c29
set_option maxRecDepth 65536 in
theorem w_t1 : (words1.take 24).all (fun c => isCode c || c.before args0 about1) = true := by decide +kernel
set_option maxRecDepth 65536 in
theorem w_t2 : ((words1.drop 24).take 24).all (fun c => isCode c || c.before args0 about1) = true := by decide +kernel
set_option maxRecDepth 65536 in
theorem w_t3 : (((words1.drop 24).drop 24).take 24).all (fun c => isCode c || c.before args0 about1) = true := by decide +kernel
set_option maxRecDepth 65536 in
theorem w_t4 : ((((words1.drop 24).drop 24).drop 24).take 24).all (fun c => isCode c || c.before args0 about1) = true := by decide +kernel
set_option maxRecDepth 65536 in
theorem w_t5 : (((((words1.drop 24).drop 24).drop 24).drop 24).take 24).all (fun c => isCode c || c.before args0 about1) = true := by decide +kernel
set_option maxRecDepth 65536 in
theorem w_t6 : ((((((words1.drop 24).drop 24).drop 24).drop 24).drop 24).take 24).all (fun c => isCode c || c.before args0 about1) = true := by decide +kernel
set_option maxRecDepth 65536 in
theorem w_t7 : ((((((words1.drop 24).drop 24).drop 24).drop 24).drop 24).drop 24).all (fun c => isCode c || c.before args0 about1) = true := by decide +kernel
theorem w_tables : (allAtoms (Jvm.Cond.code x code maxLocals ret :: tables_1)).before args0 about1 = true := by
  rw [allAtoms_all]
  show words1.all (fun c => c.before args0 about1) = true
  refine all_split ?_ w_codes
  rw [← List.take_append_drop 24 words1, List.all_append, w_t1, ← List.take_append_drop 24 (words1.drop 24), List.all_append, w_t2, ← List.take_append_drop 24 ((words1.drop 24).drop 24), List.all_append, w_t3, ← List.take_append_drop 24 (((words1.drop 24).drop 24).drop 24), List.all_append, w_t4, ← List.take_append_drop 24 ((((words1.drop 24).drop 24).drop 24).drop 24), List.all_append, w_t5, ← List.take_append_drop 24 (((((words1.drop 24).drop 24).drop 24).drop 24).drop 24), List.all_append, w_t6, w_t7]
  rfl
set_option maxRecDepth 65536 in
theorem w_rest : rest_1_c.before args0 about1 = true := by decide +kernel
set_option maxRecDepth 65536 in
theorem w_case : (Jvm.Cond.and given_1 narrow_1).before args0 about1 = true := by decide +kernel
set_option maxRecDepth 65536 in
theorem w_consts : constsHeld consts_1 about1 := Jvm.Lit.constsHeldB_iff.mp (by decide +kernel)
theorem w_applies : (headSpec (Jvm.Cond.code x code maxLocals ret :: tables_1) room_1).applies x e0.platform about1 = true :=
  (Spec.applies_iff w_frames).mpr ⟨w_running, w_runnable, w_alone, w_named, w_hears, w_ripe, w_room, w_tables⟩
theorem atStart : AtStart classFile x code maxLocals ret World_1 tables_1 room_1 Calls_1 rest_1 Pre_1 launch0 p0 e0 about1 theMethod args0 below0 :=
  ⟨lists_1, trivial, launch0.admits_env _ _ _, launch0.least_env, fairChoices_fair.cas, fairChoices_fair.clock, w_frames, w_args, w_heap, w_applies, ⟨w_consts, trivial⟩, w_rest, w_case⟩
end start1
theorem witness_1 : WitnessClaimed_1 := ⟨start1.p0, start1.e0, start1.about1, start1.theMethod, start1.args0, start1.below0, start1.atStart⟩
end Jvm.Pilot.@@N@@
