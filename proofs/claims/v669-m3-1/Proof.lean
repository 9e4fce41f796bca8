import JvmDerived
import JvmDerived.Pilot.@@N@@Statement
import JvmDerived.Pilot.@@N@@Code
set_option linter.unusedVariables false
set_option linter.unusedSimpArgs false
namespace Jvm.RoadKit
open Sem ClassFile Op Lib Jvm.Stand Jvm.Free Jvm.LawKit
section New
variable {p : Program} {l : Launch} {e : Env} {R : Room} {s : State} {m : MethodId} {args : Array Value} {below : List Frame} {meth : Method} {c : Code} {T : State} {locs : List Loc} {cells slots : Nat}
theorem retI (X : Stand p l e R s m args below meth c T locs cells slots) (hx : p.tables.exec = Jvm.exec) {pc : Nat} {Ls : Array Slot} {z : Int32} {rest : List Value} (hret : meth.sig.returnType = some .int) (hd : decode c.code pc = .ok (.ireturn, 1)) {fs : List Frame}
    (hl : ∀ (f : JFrame) (acts : List Action), f.method = m → f.locked = none → f.entered = [] → (doReturn e (T.setTop f) acts (some (.int z))).1 = T.setFrames fs) : Steps p.tables e below (T.setTop (mkF m pc Ls (.int z :: rest))) (T.setFrames fs) := by
  have hm' : T.vm.method? m = some meth := X.method'
  have hn : narrow .int (.int z) = .int z := rfl
  show Steps p.tables e below (T.setTop { method := m, pc := pc, locals := Ls, stack := _ :: rest, locked := none }) _
  jvm_step X.here [X.here.top, hx, hd, hm', hret, hn]
  first | (intro acts; rw [hl _ acts rfl rfl rfl]) | rw [hl _ _ rfl rfl rfl]
  exact Steps.refl _
/-- the return of a reference, null or not -/
theorem own_retR (X : Stand p l e R s m args below meth c T locs cells slots) (hx : p.tables.exec = Jvm.exec) {pc : Nat} {Ls : Array Slot} {w : Value} {ty : FieldType} {rest : List Value} (hret : meth.sig.returnType = some ty) (ht : ty.isReference = true) (hw : w.isRef = true) (hd : decode c.code pc = .ok (.areturn, 1)) {fs : List Frame}
    (hl : ∀ (f : JFrame) (acts : List Action), f.method = m → f.locked = none → f.entered = [] → (doReturn e (T.setTop f) acts (some w)).1 = T.setFrames fs) : Steps p.tables e below (T.setTop (mkF m pc Ls (w :: rest))) (T.setFrames fs) := by
  have hm' : T.vm.method? m = some meth := X.method'
  show Steps p.tables e below (T.setTop { method := m, pc := pc, locals := Ls, stack := _ :: rest, locked := none }) _
  rcases ref_cases hw with rfl | ⟨z, rfl⟩
  all_goals
    jvm_step X.here [X.here.top, hx, hd, hm', hret, ht, Value.isRef]
    first | (intro acts; rw [hl _ acts rfl rfl rfl]) | rw [hl _ _ rfl rfl rfl]
    exact Steps.refl _
/-- what a walk owes from a state and a frame on -/
def own_G (p : Program) (e : Env) (below : List Frame) (s : State) (C N : Nat) (Q : Option Value → Heap → List Loc → Prop) (T : State) (g : JFrame) : Prop :=
  ∃ s₂ o, Steps p.tables e below (T.setTop g) s₂ ∧ s₂.status = .running ∧ Ended s₂ below o ∧ ∃ v L, o = .returned v ∧ Q v s₂.heap L ∧ FrameEnd s o s₂ L C N
variable {C N : Nat} {Q : Option Value → Heap → List Loc → Prop} {T' : State} {g g' : JFrame} {h : Heap}
theorem own_G.step (k : ∀ t, Steps p.tables e below (T'.setTop g') t → Steps p.tables e below (T.setTop g) t) (H : own_G p e below s C N Q T' g') : own_G p e below s C N Q T g := by
  obtain ⟨s₂, o, h1, r⟩ := H
  exact ⟨s₂, o, k _ h1, r⟩
theorem own_G.cast (q : g = g') (H : own_G p e below s C N Q T g') : own_G p e below s C N Q T g := by
  subst q
  exact H
theorem own_G.start (q : g = g') (H : own_G p e below s C N Q T g') : ∃ s₂ o, Steps p.tables e below (T.setTop g) s₂ ∧ s₂.status = .running ∧ Ended s₂ below o ∧ ∃ v L, o = .returned v ∧ Q v s₂.heap L ∧ FrameEnd s o s₂ L C N := by
  subst q
  exact H
theorem own_ret (X : Stand p l e R s m args below meth c T locs cells slots) (eT : T.heap = h) {v : Option Value} (hv : meth.sig.returnType = none → v = none) (hlk : meth.locks = false) (hq : Q v h locs) (hc : cells ≤ C) (hn : slots ≤ N)
    (st : ∀ fs, (∀ (f : JFrame) (acts : List Action), f.method = m → f.locked = none → f.entered = [] → (doReturn e (T.setTop f) acts v).1 = T.setFrames fs) → Steps p.tables e below (T.setTop g) (T.setFrames fs)) : own_G p e below s C N Q T g := by
  obtain ⟨fs, hr, hrun, hended, hW, hsame⟩ := X.leave (v := v) hv hlk
  subst eT
  exact ⟨_, _, st fs hr, hrun, hended, _, _, rfl, hq, ⟨_, rfl⟩, hW, hsame.mono hc hn⟩
/-- the same where String constants may be made on the way -/
def own_GW (p : Program) (e : Env) (below : List Frame) (s : State) (C N : Nat) (Q : Option Value → Heap → List Loc → Prop) (T : State) (g : JFrame) : Prop :=
  ∃ s₂ o, Steps p.tables e below (T.setTop g) s₂ ∧ s₂.status = .running ∧ Ended s₂ below o ∧ ∃ v L, o = .returned v ∧ Q v s₂.heap L ∧ ReturnedEndW s o s₂ L C N
theorem own_GW.step (k : ∀ t, Steps p.tables e below (T'.setTop g') t → Steps p.tables e below (T.setTop g) t) (H : own_GW p e below s C N Q T' g') : own_GW p e below s C N Q T g := by
  obtain ⟨s₂, o, h1, r⟩ := H
  exact ⟨s₂, o, k _ h1, r⟩
theorem own_GW.cast (q : g = g') (H : own_GW p e below s C N Q T g') : own_GW p e below s C N Q T g := by
  subst q
  exact H
theorem own_GW.start (q : g = g') (H : own_GW p e below s C N Q T g') : ∃ s₂ o, Steps p.tables e below (T.setTop g) s₂ ∧ s₂.status = .running ∧ Ended s₂ below o ∧ ∃ v L, o = .returned v ∧ Q v s₂.heap L ∧ ReturnedEndW s o s₂ L C N := by
  subst q
  exact H
theorem own_retW {vm₁ : Vm} {k : Nat} (X : Stand p l e R (s.setVm vm₁) m args below meth c T locs cells slots) (hS : s.Since vm₁ k) (eT : T.heap = h) (hk : k ≤ h.size) {v : Option Value} (hv : meth.sig.returnType = none → v = none) (hlk : meth.locks = false) (hq : Q v h locs) (hc : cells ≤ C) (hn : slots ≤ N)
    (st : ∀ fs, (∀ (f : JFrame) (acts : List Action), f.method = m → f.locked = none → f.entered = [] → (doReturn e (T.setTop f) acts v).1 = T.setFrames fs) → Steps p.tables e below (T.setTop g) (T.setFrames fs)) : own_GW p e below s C N Q T g := by
  obtain ⟨fs, hr, hrun, hended, hW, hsame⟩ := X.leave (v := v) hv hlk
  subst eT
  obtain ⟨a, b, d⟩ := hS.ended (U := T.setFrames fs) hW hk hsame
  exact ⟨_, _, st fs hr, hrun, hended, _, _, rfl, hq, ⟨_, rfl⟩, a, b, d.mono hc hn⟩
/-- the same where the held String constants are kept too -/
def own_GH (Z : State) (EL : List (String × Nat)) (p : Program) (e : Env) (below : List Frame) (s : State) (C N : Nat) (Q : Option Value → Heap → List Loc → Prop) (T : State) (g : JFrame) : Prop :=
  ∃ s₂ o, Steps p.tables e below (T.setTop g) s₂ ∧ s₂.status = .running ∧ Ended s₂ below o ∧ ∃ v L, o = .returned v ∧ Q v s₂.heap L ∧ CHr Z EL s.vm s.heap s₂.vm s₂.heap ∧ ReturnedEndW s o s₂ L C N
section HeldEnd
variable {Z : State} {EL : List (String × Nat)}
theorem own_GH.step (k : ∀ t, Steps p.tables e below (T'.setTop g') t → Steps p.tables e below (T.setTop g) t) (H : own_GH Z EL p e below s C N Q T' g') : own_GH Z EL p e below s C N Q T g := by
  obtain ⟨s₂, o, h1, r⟩ := H
  exact ⟨s₂, o, k _ h1, r⟩
theorem own_GH.cast (q : g = g') (H : own_GH Z EL p e below s C N Q T g') : own_GH Z EL p e below s C N Q T g := by
  subst q
  exact H
theorem own_GH.start (q : g = g') (H : own_GH Z EL p e below s C N Q T g') : ∃ s₂ o, Steps p.tables e below (T.setTop g) s₂ ∧ s₂.status = .running ∧ Ended s₂ below o ∧ ∃ v L, o = .returned v ∧ Q v s₂.heap L ∧ CHr Z EL s.vm s.heap s₂.vm s₂.heap ∧ ReturnedEndW s o s₂ L C N := by
  subst q
  exact H
theorem own_retH {vm₁ : Vm} {k : Nat} {h0 : Heap} {a0 : Array Value} (X : Stand p l e R (s.setVm vm₁) m args below meth c T locs cells slots) (hS : s.Since vm₁ k) (eT : T.heap = h) (hk : k ≤ h.size) (hZ : Z.Warmed39 vm₁) (ew : EW Z a0 EL) (hH : CHv Z EL vm₁ h) (hh : s.heap = h0) (hR : CHr Z EL s.vm h0 vm₁ h) {v : Option Value} (hv : meth.sig.returnType = none → v = none) (hlk : meth.locks = false) (hq : Q v h locs) (hc : cells ≤ C) (hn : slots ≤ N)
    (st : ∀ fs, (∀ (f : JFrame) (acts : List Action), f.method = m → f.locked = none → f.entered = [] → (doReturn e (T.setTop f) acts v).1 = T.setFrames fs) → Steps p.tables e below (T.setTop g) (T.setFrames fs)) : own_GH Z EL p e below s C N Q T g := by
  obtain ⟨fs, hr, hrun, hended, hW, hsame⟩ := X.leave (v := v) hv hlk
  subst eT
  subst hh
  have q := CHv.at X hZ ew hH
  obtain ⟨a, b, d⟩ := hS.ended (U := T.setFrames fs) hW hk hsame
  exact ⟨_, _, st fs hr, hrun, hended, _, _, rfl, hq, (show CHr Z EL s.vm s.heap (T.setFrames fs).vm (T.setFrames fs).heap from hR.trans q), ⟨_, rfl⟩, a, b, d.mono hc hn⟩
end HeldEnd
/-- an array of that length -/
def own_Len (Z : State) (h : Heap) (a : Addr) (n : Int32) : Prop := ∃ (c : Cell) (ty : FieldType), Arr Z h a c ty ∧ c.slots.size = n.toNatClampNeg ∧ ¬ n < 0
theorem own_Len.lt {Z : State} {a : Addr} {n : Int32} (F : own_Len Z h a n) : a < h.size := by
  obtain ⟨c, ty, A, -⟩ := F
  exact A.lt
theorem own_Len.ext {Z : State} {h' : Heap} {a : Addr} {n : Int32} (F : own_Len Z h a n) (E : Ext h h') : own_Len Z h' a n := by
  obtain ⟨c, ty, A, r⟩ := F
  exact ⟨c, ty, A.ext E, r⟩
theorem own_Len.other {Z : State} {h' : Heap} {a b : Addr} {n : Int32} {sl : Nat} {v : Value} (F : own_Len Z h b n) (W : Wr h h' a sl v) (q : b ≠ a) : own_Len Z h' b n := by
  obtain ⟨c, ty, A, r⟩ := F
  exact ⟨c, ty, A.other W q, r⟩
theorem own_Len.keep {Z : State} {h' : Heap} {a : Addr} {n : Int32} {ws : List Addr} (F : own_Len Z h a n) (K : Keep h h' ws) (q : a ∉ ws) : own_Len Z h' a n := by
  obtain ⟨c, ty, A, r⟩ := F
  exact ⟨c, ty, ⟨K.2.1 _ _ A.1 q, A.2⟩, r⟩
theorem own_Len.arv {Z : State} {a : Addr} {k : ClassId} {ty : FieldType} {n : Int32} {vs : List Value} {d : Value} (F : Arv Z h a k ty n vs d) : own_Len Z h a n := by
  obtain ⟨c, A, -, S, N, -⟩ := F
  exact ⟨c, ty, A, S, N⟩
theorem own_Len.start {Z : State} {a : Addr} {c : Cell} {ty : FieldType} {z : Int32} (A : Arr Z h a c ty) (q : c.slots.size < 2 ^ 31) (e : c.slots.size.toInt32 = z) (hz : ¬ z < 0) : own_Len Z h a z :=
  ⟨c, ty, A, by rw [← e]; simp only [Int32.toNatClampNeg, len_toInt q]; rfl, hz⟩
theorem own_join {α : Sort _} {P : α → Prop} {G : JFrame → Prop} {g : JFrame} (F : α → JFrame) (h1 : ∀ t, P t → G (F t)) (h2 : (∀ t, P t → G (F t)) → G g) : G g := h2 h1
/-- a byte of a byte[] -/
def own_At (Z : State) (h : Heap) (a : Addr) (i b : Int32) : Prop := ∃ c : Cell, Arr Z h a c .byte ∧ ¬ (i < 0 ∨ c.slots.size ≤ i.toNatClampNeg) ∧ c.slots[i.toNatClampNeg]? = some (.int b)
theorem own_At.arv {Z : State} {a : Addr} {k : ClassId} {n i b : Int32} {vs : List Value} {d : Value} (F : Arv Z h a k .byte n vs d) (h1 : ¬ i < 0 ∧ i < n) (h2 : vs.getD i.toNatClampNeg d = .int b) : own_At Z h a i b := by
  obtain ⟨c, A, -, S, N, H, -⟩ := F
  exact ⟨c, A, inb_of S h1, H.at (inb_of S h1) h2⟩
theorem own_cat {v : Value} (hv : v.isRef = true) : v.category = 1 := by rcases ref_cases hv with rfl | ⟨z, rfl⟩ <;> rfl
theorem own_fits {v : Value} {ty : FieldType} (hv : v.isRef = true) (ht : ty.isReference = true) : fits ty v = true := by
  rcases ref_cases hv with rfl | ⟨z, rfl⟩ <;> cases ty <;> first | rfl | (cases ht; done) | simp [fits]
theorem own_narrow {v : Value} {ty : FieldType} (hv : v.isRef = true) (ht : ty.isReference = true) : narrow ty v = v := by
  rcases ref_cases hv with rfl | ⟨z, rfl⟩ <;> cases ty <;> first | rfl | (cases ht; done)
theorem Old.le {Z : State} {n0 : Nat} (X : Old Z n0 h) : n0 ≤ h.size := X.1 ▸ X.2.1
end New
end Jvm.RoadKit
/- laws to paste: Road.backV (cut by pick.py; bodies as the Statement names them) -/
namespace Jvm.Pilot.@@N@@
namespace StrChars
open Jvm Sem ClassFile Op Lib Jvm.Stand Jvm.Free.XT Jvm.Free.ALB Jvm.Free.JM Jvm.Free
open Jvm.Lib.Cold (StaticIs)
/-- a char array whose places are chars -/
def Ch (a : Addr) (A : Cell) (U : State) : Prop := Arr .char a A U ∧ Typed .char A
theorem Ch.mv {a : Addr} {A : Cell} {U U' : State} (h : Ch a A U) (hal : U.vm.Alike U'.vm) (hh : U'.heap = U.heap) : Ch a A U' := ⟨h.1.mv hal hh, h.2⟩
theorem Ch.keep {a : Addr} {A : Cell} {U U' : State} (h : Ch a A U) (hal : U.vm.Alike U'.vm) (hk : U'.heap[a]? = some A) : Ch a A U' := ⟨h.1.keep hal hk, h.2⟩
/-- what place i of a char[]'s cell holds -/
def cv (A : Cell) (i : Nat) : Int32 := match A.slots[i]? with | some (.int x) => x | _ => 0
theorem Ch.get {a : Addr} {A : Cell} {U : State} (h : Ch a A U) {i : Nat} (hi : i < A.slots.size) : A.slots[i]? = some (.int (cv A i)) := by
  have e := Array.getElem?_eq_getElem hi
  have f := h.2 i _ e
  unfold cv; rw [e]
  generalize A.slots[i] = v at f
  cases v <;> simp [fits] at f ⊢
/-- the byte that i2b leaves of a char -/
def lo8 (x : Int32) : Int32 := x.toInt8.toInt32
theorem fits_lo8 (y : Int32) : fits .byte (.int (lo8 y)) = true := by
  have h1 := y.toInt8.le_toInt
  have h2 := y.toInt8.toInt_lt
  simp only [lo8, fits, Bool.and_eq_true, decide_eq_true_eq, Int32.le_iff_toInt_le, Int8.toInt_toInt32, show (-128 : Int32).toInt = -128 from by decide, show (127 : Int32).toInt = 127 from by decide]
  omega
/-- A' is A but that each place j of lo .. hi - 1 holds f j -/
def Laid (A A' : Cell) (lo hi : Nat) (f : Nat → Value) : Prop := A'.cls = A.cls ∧ A'.vm = A.vm ∧ A'.slots.size = A.slots.size ∧ ∀ i, A'.slots[i]? = if lo ≤ i ∧ i < hi then some (f i) else A.slots[i]?
theorem Laid.zero (A : Cell) (lo : Nat) (f : Nat → Value) : Laid A A lo (lo + 0) f := ⟨rfl, rfl, rfl, fun i => by rw [if_neg (by omega)]⟩
theorem Laid.step {A Ak : Cell} {lo k : Nat} {f : Nat → Value} {v : Value} (h : Laid A Ak lo k f) (hlo : lo ≤ k) (hk : k < Ak.slots.size) (hv : v = f k) : Laid A (Ak.setSlot k v) lo (k + 1) f := by
  refine ⟨h.1, h.2.1, by simpa [Cell.setSlot] using h.2.2.1, fun i => ?_⟩
  by_cases e : k = i
  · subst e; rw [Cell.slots_setSlot_self v hk, if_pos (by omega), hv]
  · rw [Cell.slots_setSlot_ne v e, h.2.2.2 i]
    by_cases q : lo ≤ i ∧ i < k
    · rw [if_pos q, if_pos (by omega)]
    · rw [if_neg q, if_neg (by omega)]
def U16 : String := "java/lang/StringUTF16"
namespace Cmp5
def yN : MethodName := ⟨"java/lang/StringUTF16", "compress", "([CI[BII)I"⟩
abbrev yB : ByteArray := jdk_52_method_21_code
theorem d0 : decode yB 0 = .ok (.iconst 0, 1) := by decide +kernel
theorem d1 : decode yB 1 = .ok (.istore 5, 2) := by decide +kernel
theorem d3 : decode yB 3 = .ok (.iload 5, 2) := by decide +kernel
theorem d5 : decode yB 5 = .ok (.iload 4, 2) := by decide +kernel
theorem d7 : decode yB 7 = .ok (.if_icmp (.ge) 37, 3) := by decide +kernel
theorem d10 : decode yB 10 = .ok (.aload_n 0, 1) := by decide +kernel
theorem d11 : decode yB 11 = .ok (.iload_n 1, 1) := by decide +kernel
theorem d12 : decode yB 12 = .ok (.caload, 1) := by decide +kernel
theorem d13 : decode yB 13 = .ok (.istore 6, 2) := by decide +kernel
theorem d15 : decode yB 15 = .ok (.iload 6, 2) := by decide +kernel
theorem d17 : decode yB 17 = .ok (.sipush 255, 3) := by decide +kernel
theorem d20 : decode yB 20 = .ok (.if_icmp (.le) 6, 3) := by decide +kernel
theorem d26 : decode yB 26 = .ok (.aload_n 2, 1) := by decide +kernel
theorem d27 : decode yB 27 = .ok (.iload_n 3, 1) := by decide +kernel
theorem d28 : decode yB 28 = .ok (.iload 6, 2) := by decide +kernel
theorem d30 : decode yB 30 = .ok (.i2b, 1) := by decide +kernel
theorem d31 : decode yB 31 = .ok (.bastore, 1) := by decide +kernel
theorem d32 : decode yB 32 = .ok (.iinc 1 1, 3) := by decide +kernel
theorem d35 : decode yB 35 = .ok (.iinc 3 1, 3) := by decide +kernel
theorem d38 : decode yB 38 = .ok (.iinc 5 1, 3) := by decide +kernel
theorem d41 : decode yB 41 = .ok (.goto (-38), 3) := by decide +kernel
theorem d44 : decode yB 44 = .ok (.iload 4, 2) := by decide +kernel
theorem d46 : decode yB 46 = .ok (.ireturn, 1) := by decide +kernel
def site : List Cond := []
def tab : Cond := tabOf yN yB 7 (some .int) site
def P (b : Addr) (A : Cell) (d : Addr) (B : Cell) (o q len : Nat) (args : Array Value) (s : State) : Prop := args = #[.ref b, .int (Int32.ofNat o), .ref d, .int (Int32.ofNat q), .int (Int32.ofNat len)] ∧ Ch b A s ∧ Arr .byte d B s ∧ b ≠ d ∧ o + len ≤ A.slots.size ∧ q + len ≤ B.slots.size ∧ ∀ i, i < len → ¬ 255 < cv A (o + i)
def E (b : Addr) (A : Cell) (d : Addr) (B : Cell) (o q len : Nat) (r : Option Value) (s u : State) : Prop := r = some (.int (Int32.ofNat len)) ∧ ∃ B', Put d B' s u ∧ Laid B B' q (q + len) (fun j => Value.int (lo8 (cv A (o + (j - q)))))
/-- no char of the range above 255: len; the places written hold each char's low byte -/
theorem law (l : Launch) (b : Addr) (A : Cell) (d : Addr) (B : Cell) (o q len : Nat) : Law l yN 5 5 0 0 yB 7 (some .int) site (P b A d B o q len) (E b A d B o q len) (copyLocs d q len) 0 0 := by
  refine Law.of_walk (plainFor_of_name (by decide +kernel)) (by decide +kernel) (by decide +kernel) (by decide) (fun _ _ h => by rw [h.1]; rfl) (fun _ U U' hal hh h => ⟨h.1, h.2.1.mv hal hh, h.2.2.1.mv hal hh, h.2.2.2⟩) (fun r U U' V V' h1 hal h2 h => ⟨h.1, h.2.elim fun B' q => ⟨B', q.1.mv h1 h2, q.2⟩⟩) ?_
  intro p e s m args below meth c s₁ X0 hexec hbytes hml hret hlk hnm hown hh0 W hP
  obtain ⟨rfl, hA, hB, hne, l1, l2, hp⟩ := hP
  have c1 : Steps p.tables e below (s₁.setTop (entryFrame m #[.ref b, .int (Int32.ofNat o), .ref d, .int (Int32.ofNat q), .int (Int32.ofNat len)] 7)) (s₁.setTop (mkF m 0 #[.val (.ref b), .val (.int (Int32.ofNat o)), .val (.ref d), .val (.int (Int32.ofNat q)), .val (.int (Int32.ofNat len)), .unset, .unset] [])) := entry rfl
  have hA0 := hA.1.mv X0.warmed.alike hh0
  have hB0 := hB.mv X0.warmed.alike hh0
  have a31 := hA.1.2.2.2
  have c2 : Steps p.tables e below (s₁.setTop (entryFrame m #[.ref b, .int (Int32.ofNat o), .ref d, .int (Int32.ofNat q), .int (Int32.ofNat len)] 7)) (s₁.setTop (mkF m 3 #[.val (.ref b), .val (.int (Int32.ofNat o)), .val (.ref d), .val (.int (Int32.ofNat q)), .val (.int (Int32.ofNat len)), .val (.int 0), .unset] [])) := c1.trans (by
    refine iconstV X0.here hexec rfl 0 (hb hbytes d0) (by decide) ?_
    refine XS.istore X0.here hexec rfl (hb hbytes d1) rfl rfl ?_
    exact Steps.refl _)
  have loop : ∀ (r i : Nat), i + r = len → ∀ (z : Slot), (z = .unset ∨ ∃ w, z = .val w ∧ w.category = 1) → ∀ (Tl : State) (Bk : Cell), Stand p l e { frames := 0, locals := 0, cells := 0, slots := 0 } s m #[.ref b, .int (Int32.ofNat o), .ref d, .int (Int32.ofNat q), .int (Int32.ofNat len)] below meth c Tl ([] ++ copyLocs d q i) 0 0 → Put d Bk s₁ Tl → Laid B Bk q (q + i) (fun j => Value.int (lo8 (cv A (o + (j - q))))) →
      Steps p.tables e below (s₁.setTop (entryFrame m #[.ref b, .int (Int32.ofNat o), .ref d, .int (Int32.ofNat q), .int (Int32.ofNat len)] 7)) (Tl.setTop (mkF m 3 #[.val (.ref b), .val (.int (Int32.ofNat (o + i))), .val (.ref d), .val (.int (Int32.ofNat (q + i))), .val (.int (Int32.ofNat len)), .val (.int (Int32.ofNat i)), z] [])) → ∃ (T' : State) (B' : Cell) (z' : Slot), Stand p l e { frames := 0, locals := 0, cells := 0, slots := 0 } s m #[.ref b, .int (Int32.ofNat o), .ref d, .int (Int32.ofNat q), .int (Int32.ofNat len)] below meth c T' ([] ++ copyLocs d q len) 0 0 ∧ Put d B' s₁ T' ∧ Laid B B' q (q + len) (fun j => Value.int (lo8 (cv A (o + (j - q))))) ∧
      Steps p.tables e below (s₁.setTop (entryFrame m #[.ref b, .int (Int32.ofNat o), .ref d, .int (Int32.ofNat q), .int (Int32.ofNat len)] 7)) (T'.setTop (mkF m 3 #[.val (.ref b), .val (.int (Int32.ofNat (o + len))), .val (.ref d), .val (.int (Int32.ofNat (q + len))), .val (.int (Int32.ofNat len)), .val (.int (Int32.ofNat len)), z'] [])) := by
    intro r
    induction r with
    | zero =>
      intro i hi z hz Tl Bk Xl pl fl cl
      have hil : i = len := by omega
      rw [hil] at Xl fl cl
      exact ⟨Tl, Bk, z, Xl, pl, fl, cl⟩
    | succ r ih =>
      intro i hi z hz Tl Bk Xl pl fl cl
      have all := X0.warmed.alike.symm.trans Xl.warmed.alike
      have hAl := hA0.keep all (pl.other hne hA0.1)
      have hBk := hB0.like all pl.1 fl.1 fl.2.1 fl.2.2.1
      have hlt : q + i < Bk.slots.size := by rw [fl.2.2.1]; omega
      have c3 : Steps p.tables e below (s₁.setTop (entryFrame m #[.ref b, .int (Int32.ofNat o), .ref d, .int (Int32.ofNat q), .int (Int32.ofNat len)] 7)) (Tl.setTop (mkF m 12 #[.val (.ref b), .val (.int (Int32.ofNat (o + i))), .val (.ref d), .val (.int (Int32.ofNat (q + i))), .val (.int (Int32.ofNat len)), .val (.int (Int32.ofNat i)), z] [.int (Int32.ofNat (o + i)), .ref b])) := cl.trans (by
        refine XS.iload Xl.here hexec rfl (hb hbytes d3) rfl ?_
        refine XS.iload Xl.here hexec rfl (hb hbytes d5) rfl ?_
        refine XS.icmpNo Xl.here hexec rfl (hb hbytes d7) rfl (ii_ge_f (lt32 (by omega) (by omega))) ?_
        refine XS.aloadN Xl.here hexec rfl (hb hbytes d10) rfl rfl ?_
        refine XS.iloadN Xl.here hexec rfl (hb hbytes d11) rfl ?_
        exact Steps.refl _)
      have c4 : Steps p.tables e below (s₁.setTop (entryFrame m #[.ref b, .int (Int32.ofNat o), .ref d, .int (Int32.ofNat q), .int (Int32.ofNat len)] 7)) (Tl.setTop (mkF m 13 #[.val (.ref b), .val (.int (Int32.ofNat (o + i))), .val (.ref d), .val (.int (Int32.ofNat (q + i))), .val (.int (Int32.ofNat len)), .val (.int (Int32.ofNat i)), z] [.int (cv A (o + i))])) := c3.trans (by
        refine Xl.aget hexec hAl rfl (hA.get (i := o + i) (by omega)) rfl rfl (hb hbytes d12) ?_
        exact Steps.refl _)
      have c5 : Steps p.tables e below (s₁.setTop (entryFrame m #[.ref b, .int (Int32.ofNat o), .ref d, .int (Int32.ofNat q), .int (Int32.ofNat len)] 7)) (Tl.setTop (mkF m 15 #[.val (.ref b), .val (.int (Int32.ofNat (o + i))), .val (.ref d), .val (.int (Int32.ofNat (q + i))), .val (.int (Int32.ofNat len)), .val (.int (Int32.ofNat i)), .val (.int (cv A (o + i)))] [])) := c4.trans (by
        refine XS.istoreS Xl.here hexec rfl (hb hbytes d13) rfl rfl hz ?_
        exact Steps.refl _)
      have c6 : Steps p.tables e below (s₁.setTop (entryFrame m #[.ref b, .int (Int32.ofNat o), .ref d, .int (Int32.ofNat q), .int (Int32.ofNat len)] 7)) (Tl.setTop (mkF m 31 #[.val (.ref b), .val (.int (Int32.ofNat (o + i))), .val (.ref d), .val (.int (Int32.ofNat (q + i))), .val (.int (Int32.ofNat len)), .val (.int (Int32.ofNat i)), .val (.int (cv A (o + i)))] [.int (lo8 (cv A (o + i))), .int (Int32.ofNat (q + i)), .ref d])) := c5.trans (by
        refine XS.iload Xl.here hexec rfl (hb hbytes d15) rfl ?_
        refine sipushV Xl.here hexec rfl 255 (hb hbytes d17) (by decide) ?_
        refine XS.icmpYes Xl.here hexec rfl (pc0 := 20) rfl (hb hbytes d20) rfl (ii_le_t (hp i (by omega))) (by decide) rfl ?_
        refine XS.aloadN Xl.here hexec rfl (hb hbytes d26) rfl rfl ?_
        refine XS.iloadN Xl.here hexec rfl (hb hbytes d27) rfl ?_
        refine XS.iload Xl.here hexec rfl (hb hbytes d28) rfl ?_
        refine i2b Xl.here hexec rfl (hb hbytes d30) rfl ?_
        exact Steps.refl _)
      obtain ⟨T7, X7, p7, st7⟩ := Xl.aput hexec hBk rfl hlt rfl (fits_lo8 (cv A (o + i))) (g := (mkF m 31 #[.val (.ref b), .val (.int (Int32.ofNat (o + i))), .val (.ref d), .val (.int (Int32.ofNat (q + i))), .val (.int (Int32.ofNat len)), .val (.int (Int32.ofNat i)), .val (.int (cv A (o + i)))] [.int (lo8 (cv A (o + i))), .int (Int32.ofNat (q + i)), .ref d])) rfl (rest := []) rfl (hb hbytes d31)
      have c8 : Steps p.tables e below (s₁.setTop (entryFrame m #[.ref b, .int (Int32.ofNat o), .ref d, .int (Int32.ofNat q), .int (Int32.ofNat len)] 7)) (T7.setTop (mkF m 32 #[.val (.ref b), .val (.int (Int32.ofNat (o + i))), .val (.ref d), .val (.int (Int32.ofNat (q + i))), .val (.int (Int32.ofNat len)), .val (.int (Int32.ofNat i)), .val (.int (cv A (o + i)))] [])) := c6.trans (st7 _ (Steps.refl _))
      have c9 : Steps p.tables e below (s₁.setTop (entryFrame m #[.ref b, .int (Int32.ofNat o), .ref d, .int (Int32.ofNat q), .int (Int32.ofNat len)] 7)) (T7.setTop (mkF m 3 #[.val (.ref b), .val (.int (Int32.ofNat (o + i) + 1)), .val (.ref d), .val (.int (Int32.ofNat (q + i) + 1)), .val (.int (Int32.ofNat len)), .val (.int (Int32.ofNat i + 1)), .val (.int (cv A (o + i)))] [])) := c8.trans (by
        refine iincV X7.here hexec rfl 1 (hb hbytes d32) (by decide) rfl rfl ?_
        refine iincV X7.here hexec rfl 1 (hb hbytes d35) (by decide) rfl rfl ?_
        refine iincV X7.here hexec rfl 1 (hb hbytes d38) (by decide) rfl rfl ?_
        refine XS.goto X7.here hexec rfl (pc0 := 41) rfl (hb hbytes d41) (by decide) rfl ?_
        exact Steps.refl _)
      have c10 : Steps p.tables e below (s₁.setTop (entryFrame m #[.ref b, .int (Int32.ofNat o), .ref d, .int (Int32.ofNat q), .int (Int32.ofNat len)] 7)) (T7.setTop (mkF m 3 #[.val (.ref b), .val (.int (Int32.ofNat (o + (i + 1)))), .val (.ref d), .val (.int (Int32.ofNat (q + (i + 1)))), .val (.int (Int32.ofNat len)), .val (.int (Int32.ofNat (i + 1))), .val (.int (cv A (o + i)))] [])) := by
        have := c9
        rw [succ32, succ32, succ32] at this
        exact this
      exact ih (i + 1) (by omega) _ (Or.inr ⟨_, rfl, rfl⟩) T7 _ (by rw [copyLocs_step, ← List.append_assoc]; exact X7) (pl.trans p7) (fl.step (by omega) hlt (by simp)) c10
  obtain ⟨T9, B9, z9, X9, p9, f9, g9⟩ := loop len 0 (by omega) .unset (Or.inl rfl) s₁ B (by simpa [copyLocs] using X0) ⟨hB0.1, fun _ _ => rfl, rfl⟩ (Laid.zero _ _ _) c2
  have c11 : Steps p.tables e below (s₁.setTop (entryFrame m #[.ref b, .int (Int32.ofNat o), .ref d, .int (Int32.ofNat q), .int (Int32.ofNat len)] 7)) (T9.setTop (mkF m 46 #[.val (.ref b), .val (.int (Int32.ofNat (o + len))), .val (.ref d), .val (.int (Int32.ofNat (q + len))), .val (.int (Int32.ofNat len)), .val (.int (Int32.ofNat len)), z9] [.int (Int32.ofNat len)])) := g9.trans (by
    refine XS.iload X9.here hexec rfl (hb hbytes d3) rfl ?_
    refine XS.iload X9.here hexec rfl (hb hbytes d5) rfl ?_
    refine XS.icmpYes X9.here hexec rfl (pc0 := 7) rfl (hb hbytes d7) rfl (ii_ge_t (nlt32 (by omega) (Nat.le_refl _))) (by decide) rfl ?_
    refine XS.iload X9.here hexec rfl (hb hbytes d44) rfl ?_
    exact Steps.refl _)
  exact ⟨T9, some (.int (Int32.ofNat len)), _, _, _, X9, by simp, rfl, rfl, (fun h => by cases h), ⟨rfl, B9, p9.from hh0, f9⟩, fun fs hl => c11.trans (X9.ireturnOut hexec hret rfl (Or.inl rfl) (hb hbytes d46) hl)⟩
end Cmp5
namespace Cmp3
def yN : MethodName := ⟨"java/lang/StringUTF16", "compress", "([CII)[B"⟩
abbrev yB : ByteArray := jdk_52_method_16_code
theorem d0 : decode yB 0 = .ok (.iload_n 2, 1) := by decide +kernel
theorem d1 : decode yB 1 = .ok (.newarray .byte, 2) := by decide +kernel
theorem d3 : decode yB 3 = .ok (.astore_n 3, 1) := by decide +kernel
theorem d4 : decode yB 4 = .ok (.aload_n 0, 1) := by decide +kernel
theorem d5 : decode yB 5 = .ok (.iload_n 1, 1) := by decide +kernel
theorem d6 : decode yB 6 = .ok (.aload_n 3, 1) := by decide +kernel
theorem d7 : decode yB 7 = .ok (.iconst 0, 1) := by decide +kernel
theorem d8 : decode yB 8 = .ok (.iload_n 2, 1) := by decide +kernel
theorem d9 : decode yB 9 = .ok (.invokestatic 115, 3) := by decide +kernel
theorem d12 : decode yB 12 = .ok (.istore 4, 2) := by decide +kernel
theorem d14 : decode yB 14 = .ok (.iload 4, 2) := by decide +kernel
theorem d16 : decode yB 16 = .ok (.iload_n 2, 1) := by decide +kernel
theorem d17 : decode yB 17 = .ok (.if_icmp (.eq) 40, 3) := by decide +kernel
theorem d57 : decode yB 57 = .ok (.aload_n 3, 1) := by decide +kernel
theorem d58 : decode yB 58 = .ok (.areturn, 1) := by decide +kernel
def site : List Cond := [.arrayClass .byte, Cmp5.tab] ++ staticW U16 115 Cmp5.yN
def tab : Cond := tabOf yN yB 6 (some (.array .byte)) site
def P (b : Addr) (A : Cell) (o len : Nat) (args : Array Value) (s : State) : Prop := args = #[.ref b, .int (Int32.ofNat o), .int (Int32.ofNat len)] ∧ Ch b A s ∧ o + len ≤ A.slots.size ∧ len ≤ 536870912 ∧ ∀ i, i < len → ¬ 255 < cv A (o + i)
def E (b : Addr) (A : Cell) (o len : Nat) (r : Option Value) (s u : State) : Prop := NewArr .byte "[B" len (fun j => .int (lo8 (cv A (o + j)))) r s u ∧ u.heap.size = s.heap.size + 1
/-- no char of the range above 255: a new byte[] of their low bytes -/
theorem law (l : Launch) (b : Addr) (A : Cell) (o len : Nat) : Law l yN 3 3 1 18 yB 6 (some (.array .byte)) site (P b A o len) (E b A o len) [] 1 len := by
  refine Law.of_walk (plainFor_of_name (by decide +kernel)) (by decide +kernel) (by decide +kernel) (by decide) (fun _ _ h => by rw [h.1]; rfl) (fun _ U U' hal hh h => ⟨h.1, h.2.1.mv hal hh, h.2.2⟩) (fun r U U' V V' h1 hal h2 h => ⟨NewArr.mv r U U' V V' h1 hal h2 h.1, by rw [h1, h2]; exact h.2⟩) ?_
  intro p e s m args below meth c s₁ X0 hexec hbytes hml hret hlk hnm hown hh0 W hP
  obtain ⟨rfl, hA, l1, l2, hp⟩ := hP
  have a31 := hA.1.2.2.2
  have c1 : Steps p.tables e below (s₁.setTop (entryFrame m #[.ref b, .int (Int32.ofNat o), .int (Int32.ofNat len)] 6)) (s₁.setTop (mkF m 0 #[.val (.ref b), .val (.int (Int32.ofNat o)), .val (.int (Int32.ofNat len)), .unset, .unset, .unset] [])) := entry rfl
  have c2 : Steps p.tables e below (s₁.setTop (entryFrame m #[.ref b, .int (Int32.ofNat o), .int (Int32.ofNat len)] 6)) (s₁.setTop (mkF m 1 #[.val (.ref b), .val (.int (Int32.ofNat o)), .val (.int (Int32.ofNat len)), .unset, .unset, .unset] [.int (Int32.ofNat len)])) := c1.trans (by
    refine XS.iloadN X0.here hexec rfl (hb hbytes d0) rfl ?_
    exact Steps.refl _)
  obtain ⟨T3, B3, X3, ba3, bs3, bv3, bh3, bf3, st3⟩ := X0.anew hexec (atype := .byte) (wk W (.arrayClass .byte)) rfl (by show len * 1 ≤ _; omega) (by omega) (g := (mkF m 1 #[.val (.ref b), .val (.int (Int32.ofNat o)), .val (.int (Int32.ofNat len)), .unset, .unset, .unset] [.int (Int32.ofNat len)])) rfl (hb hbytes d1) (rest := []) rfl (Nat.le_refl _) (by show 0 + len ≤ len; omega)
  rw [hh0] at ba3 st3
  have kp3 : XT.Kept s T3 := (XT.Kept.of_eq hh0).push bh3
  have hA3 := hA.keep X3.warmed.alike (kp3 _ _ hA.1.1)
  have hne : b ≠ s.heap.size := hA.1.ne
  have c4 : Steps p.tables e below (s₁.setTop (entryFrame m #[.ref b, .int (Int32.ofNat o), .int (Int32.ofNat len)] 6)) (T3.setTop (mkF m 3 #[.val (.ref b), .val (.int (Int32.ofNat o)), .val (.int (Int32.ofNat len)), .unset, .unset, .unset] [.ref s.heap.size])) := c2.trans (st3 _ (Steps.refl _))
  have c5 : Steps p.tables e below (s₁.setTop (entryFrame m #[.ref b, .int (Int32.ofNat o), .int (Int32.ofNat len)] 6)) (T3.setTop (mkF m 9 #[.val (.ref b), .val (.int (Int32.ofNat o)), .val (.int (Int32.ofNat len)), .val (.ref s.heap.size), .unset, .unset] [.int (Int32.ofNat len), .int 0, .ref s.heap.size, .int (Int32.ofNat o), .ref b])) := c4.trans (by
    refine XS.astoreN X3.here hexec rfl (hb hbytes d3) rfl rfl rfl ?_
    refine XS.aloadN X3.here hexec rfl (hb hbytes d4) rfl rfl ?_
    refine XS.iloadN X3.here hexec rfl (hb hbytes d5) rfl ?_
    refine XS.aloadN X3.here hexec rfl (hb hbytes d6) rfl rfl ?_
    refine iconstV X3.here hexec rfl 0 (hb hbytes d7) (by decide) ?_
    refine XS.iloadN X3.here hexec rfl (hb hbytes d8) rfl ?_
    exact Steps.refl _)
  obtain ⟨v6, T6, X6, E6, g6⟩ := X3.callS hexec (Cmp5.law l b A s.heap.size B3 o 0 len) hown (wks W (staticW U16 115 Cmp5.yN)) (wk W Cmp5.tab) (W := 0) (Nat.le_of_ble_eq_true rfl) (Nat.le_of_ble_eq_true rfl) (Nat.le_refl _) (by show 0 + len + 0 ≤ len; omega) (g := (mkF m 9 #[.val (.ref b), .val (.int (Int32.ofNat o)), .val (.int (Int32.ofNat len)), .val (.ref s.heap.size), .unset, .unset] [.int (Int32.ofNat len), .int (Int32.ofNat 0), .ref s.heap.size, .int (Int32.ofNat o), .ref b])) rfl (by rw [hml]; rfl) c5 (argsL := [.ref b, .int (Int32.ofNat o), .ref s.heap.size, .int (Int32.ofNat 0), .int (Int32.ofNat len)]) (rest := []) rfl rfl (by show 2 * 0 + 0 ≤ _; decide) (hb hbytes d9) (⟨rfl, hA3, ba3, hne, l1, by rw [bs3]; simp, hp⟩)
  obtain ⟨rfl, B6, p6, f6⟩ := E6
  have c7 : Steps p.tables e below (s₁.setTop (entryFrame m #[.ref b, .int (Int32.ofNat o), .int (Int32.ofNat len)] 6)) (T6.setTop (mkF m 12 #[.val (.ref b), .val (.int (Int32.ofNat o)), .val (.int (Int32.ofNat len)), .val (.ref s.heap.size), .unset, .unset] [.int (Int32.ofNat len)])) := g6
  have c8 : Steps p.tables e below (s₁.setTop (entryFrame m #[.ref b, .int (Int32.ofNat o), .int (Int32.ofNat len)] 6)) (T6.setTop (mkF m 58 #[.val (.ref b), .val (.int (Int32.ofNat o)), .val (.int (Int32.ofNat len)), .val (.ref s.heap.size), .val (.int (Int32.ofNat len)), .unset] [.ref s.heap.size])) := c7.trans (by
    refine XS.istore X6.here hexec rfl (hb hbytes d12) rfl rfl ?_
    refine XS.iload X6.here hexec rfl (hb hbytes d14) rfl ?_
    refine XS.iloadN X6.here hexec rfl (hb hbytes d16) rfl ?_
    refine XS.icmpYes X6.here hexec rfl (pc0 := 17) rfl (hb hbytes d17) rfl (ii_eq_t rfl) (by decide) rfl ?_
    refine XS.aloadN X6.here hexec rfl (hb hbytes d57) rfl rfl ?_
    exact Steps.refl _)
  have X8 := X6.wide (L' := []) (cells' := 1) (slots' := len) (fun x hx hlt => by
    simp only [List.nil_append, copyLocs, List.mem_map, List.mem_range] at hx
    obtain ⟨i, -, rfl⟩ := hx
    exact absurd hlt (Nat.lt_irrefl _)) (Nat.le_refl _) (by omega)
  exact ⟨T6, some (.ref s.heap.size), _, _, _, X8, rfl, rfl, rfl, (fun h => by cases h), ⟨⟨rfl, B6, ba3.like (X3.warmed.alike.symm.trans X6.warmed.alike) p6.1 f6.1 f6.2.1 f6.2.2.1, f6.2.1.trans bv3, by rw [X6.warmed.alike.findClass, f6.1]; exact bf3, by rw [f6.2.2.1, bs3]; simp, fun j hj => by rw [f6.2.2.2 j, if_pos (by omega)]; rfl, kp3.put p6 (Nat.le_refl _)⟩, by rw [p6.2.2, bh3, hh0]; simp⟩, fun fs hl => c8.trans (X8.areturnOut hexec rfl hret rfl (hb hbytes d58) hl)⟩
end Cmp3
namespace CodL
def yN : MethodName := ⟨"java/lang/StringUTF16", "coderFromArrayLen", "([BI)B"⟩
abbrev yB : ByteArray := jdk_52_method_15_code
theorem d0 : decode yB 0 = .ok (.iload_n 1, 1) := by decide +kernel
theorem d1 : decode yB 1 = .ok (.aload_n 0, 1) := by decide +kernel
theorem d2 : decode yB 2 = .ok (.arraylength, 1) := by decide +kernel
theorem d3 : decode yB 3 = .ok (.isub, 1) := by decide +kernel
theorem d4 : decode yB 4 = .ok (.bipush 31, 2) := by decide +kernel
theorem d6 : decode yB 6 = .ok (.iushr, 1) := by decide +kernel
theorem d7 : decode yB 7 = .ok (.i2b, 1) := by decide +kernel
theorem d8 : decode yB 8 = .ok (.ireturn, 1) := by decide +kernel
def site : List Cond := []
def tab : Cond := tabOf yN yB 2 (some .byte) site
def P (d : Addr) (B : Cell) (args : Array Value) (s : State) : Prop := args = #[.ref d, .int (Int32.ofNat B.slots.size)] ∧ Arr .byte d B s
def E (r : Option Value) (s u : State) : Prop := XT.PureE (some (.int 0)) r s u
/-- an array as long as the number of chars: LATIN1 -/
theorem law (l : Launch) (d : Addr) (B : Cell) : Law l yN 2 2 0 0 yB 2 (some .byte) site (P d B) E [] 0 0 := by
  refine Law.of_walk (plainFor_of_name (by decide +kernel)) (by decide +kernel) (by decide +kernel) (by decide) (fun _ _ h => by rw [h.1]; rfl) (fun _ U U' hal hh h => ⟨h.1, h.2.mv hal hh⟩) (fun r U U' V V' h1 hal h2 h => XT.PureE.mv r U U' V V' h1 hal h2 h) ?_
  intro p e s m args below meth c s₁ X0 hexec hbytes hml hret hlk hnm hown hh0 W hP
  obtain ⟨rfl, hB⟩ := hP
  have hB0 := hB.mv X0.warmed.alike hh0
  have c1 : Steps p.tables e below (s₁.setTop (entryFrame m #[.ref d, .int (Int32.ofNat B.slots.size)] 2)) (s₁.setTop (mkF m 0 #[.val (.ref d), .val (.int (Int32.ofNat B.slots.size))] [])) := entry rfl
  have c2 : Steps p.tables e below (s₁.setTop (entryFrame m #[.ref d, .int (Int32.ofNat B.slots.size)] 2)) (s₁.setTop (mkF m 2 #[.val (.ref d), .val (.int (Int32.ofNat B.slots.size))] [.ref d, .int (Int32.ofNat B.slots.size)])) := c1.trans (by
    refine XS.iloadN X0.here hexec rfl (hb hbytes d0) rfl ?_
    refine XS.aloadN X0.here hexec rfl (hb hbytes d1) rfl rfl ?_
    exact Steps.refl _)
  have c3 : Steps p.tables e below (s₁.setTop (entryFrame m #[.ref d, .int (Int32.ofNat B.slots.size)] 2)) (s₁.setTop (mkF m 8 #[.val (.ref d), .val (.int (Int32.ofNat B.slots.size))] [.int (lo8 (ushr (Int32.ofNat B.slots.size - Int32.ofNat B.slots.size) 31))])) := c2.trans (by
    refine X0.alen hexec hB0 rfl rfl (hb hbytes d2) ?_
    refine XS.isub X0.here hexec rfl (hb hbytes d3) rfl ?_
    refine bipushV X0.here hexec rfl 31 (hb hbytes d4) (by decide) ?_
    refine iushr X0.here hexec rfl (hb hbytes d6) rfl ?_
    refine i2b X0.here hexec rfl (hb hbytes d7) rfl ?_
    exact Steps.refl _)
  have e0 : lo8 (ushr (Int32.ofNat B.slots.size - Int32.ofNat B.slots.size) 31) = 0 := by rw [Int32.sub_self]; decide
  rw [e0] at c3
  exact ⟨s₁, some (.int 0), _, _, _, X0, rfl, rfl, rfl, (fun h => by cases h), ⟨rfl, hh0⟩, fun fs hl => c3.trans (X0.ireturnOut hexec hret rfl (Or.inr (Or.inr (Or.inl rfl))) (hb hbytes d8) hl)⟩
end CodL
/-- the String at a is Latin-1 over a new byte[] (the heap's one new cell): the low bytes of the len chars of A from o on; every cell but a is kept -/
def Got (a : Addr) (D : Cell) (fV fC : Field) (A : Cell) (o len : Nat) (r : Option Value) (s u : State) : Prop := r = none ∧ ∃ D' V : Cell, Blank "java/lang/String" a D' u ∧ Same D D' [fV.slot, fC.slot] ∧ D'.slots[fV.slot]? = some (.ref s.heap.size) ∧ D'.slots[fC.slot]? = some (.int 0) ∧ Arr .byte s.heap.size V u ∧ V.vm = .none ∧ u.vm.findClass "[B" = some V.cls ∧ V.slots.size = len ∧ (∀ j, j < len → V.slots[j]? = some (.int (lo8 (cv A (o + j))))) ∧ (∀ (y : Addr) (c : Cell), y ≠ a → s.heap[y]? = some c → u.heap[y]? = some c) ∧ u.heap.size = s.heap.size + 1
theorem Got.mv {a : Addr} {D A : Cell} {fV fC : Field} {o len : Nat} : ∀ r (U U' V V' : State), U'.heap = U.heap → V.vm.Alike V'.vm → V'.heap = V.heap → Got a D fV fC A o len r U V → Got a D fV fC A o len r U' V' :=
  fun r U U' V V' h1 hal h2 ⟨e0, D', X, a1, a2, a3, a4, a5, a6, a7, a8, a9, a10, a11⟩ => ⟨e0, D', X, a1.mv hal h2, a2, by rw [h1]; exact a3, a4, by rw [h1]; exact a5.mv hal h2, a6, by rw [hal.findClass]; exact a7, a8, a9, by rw [h1, h2]; exact a10, by rw [h1, h2]; exact a11⟩
namespace New4
def yN : MethodName := ⟨"java/lang/String", "<init>", "([CIILjava/lang/Void;)V"⟩
abbrev yB : ByteArray := jdk_42_method_149_code
theorem d0 : decode yB 0 = .ok (.aload_n 0, 1) := by decide +kernel
theorem d1 : decode yB 1 = .ok (.invokespecial 1, 3) := by decide +kernel
theorem d4 : decode yB 4 = .ok (.iload_n 3, 1) := by decide +kernel
theorem d5 : decode yB 5 = .ok (.ifCond (.ne) 22, 3) := by decide +kernel
theorem d27 : decode yB 27 = .ok (.getstatic 38, 3) := by decide +kernel
theorem d30 : decode yB 30 = .ok (.ifCond (.eq) 28, 3) := by decide +kernel
theorem d33 : decode yB 33 = .ok (.aload_n 1, 1) := by decide +kernel
theorem d34 : decode yB 34 = .ok (.iload_n 2, 1) := by decide +kernel
theorem d35 : decode yB 35 = .ok (.iload_n 3, 1) := by decide +kernel
theorem d36 : decode yB 36 = .ok (.invokestatic 177, 3) := by decide +kernel
theorem d39 : decode yB 39 = .ok (.astore 5, 2) := by decide +kernel
theorem d41 : decode yB 41 = .ok (.aload_n 0, 1) := by decide +kernel
theorem d42 : decode yB 42 = .ok (.aload 5, 2) := by decide +kernel
theorem d44 : decode yB 44 = .ok (.iload_n 3, 1) := by decide +kernel
theorem d45 : decode yB 45 = .ok (.invokestatic 47, 3) := by decide +kernel
theorem d48 : decode yB 48 = .ok (.putfield 15, 3) := by decide +kernel
theorem d51 : decode yB 51 = .ok (.aload_n 0, 1) := by decide +kernel
theorem d52 : decode yB 52 = .ok (.aload 5, 2) := by decide +kernel
theorem d54 : decode yB 54 = .ok (.putfield 9, 3) := by decide +kernel
theorem d57 : decode yB 57 = .ok (.return_, 1) := by decide +kernel
def site : List Cond := [.fieldLink "java/lang/String" 38 "java/lang/String" "COMPACT_STRINGS" "Z", Cmp3.tab, CodL.tab, .laysFinal "java/lang/String" "java/lang/String" "value" "[B", .fieldLink "java/lang/String" 9 "java/lang/String" "value" "[B", .laysFinal "java/lang/String" "java/lang/String" "coder" "B", .fieldLink "java/lang/String" 15 "java/lang/String" "coder" "B"] ++ objW "java/lang/String" 1 ++ staticW "java/lang/String" 177 Cmp3.yN ++ staticW "java/lang/String" 47 CodL.yN
def tab : Cond := tabOf yN yB 6 none site
def P (a : Addr) (D : Cell) (fV fC : Field) (b : Addr) (A : Cell) (z : Int32) (o len : Nat) (args : Array Value) (s : State) : Prop := args = #[.ref a, .ref b, .int (Int32.ofNat o), .int (Int32.ofNat len), .null] ∧ Blank "java/lang/String" a D s ∧ Found "java/lang/String" "value" "[B" fV s ∧ Found "java/lang/String" "coder" "B" fC s ∧ Ch b A s ∧ StaticIs s "java/lang/String" "COMPACT_STRINGS" "Z" (.int z) ∧ ¬ z = 0 ∧ 0 < len ∧ o + len ≤ A.slots.size ∧ len ≤ 536870912 ∧ ∀ i, i < len → ¬ 255 < cv A (o + i)
def E (a : Addr) (D : Cell) (fV fC : Field) (A : Cell) (o len : Nat) (r : Option Value) (s u : State) : Prop := Got a D fV fC A o len r s u
/-- len > 0, no char of the range above 255: a Latin-1 String of their low bytes -/
theorem law (l : Launch) (a : Addr) (D : Cell) (fV fC : Field) (b : Addr) (A : Cell) (z : Int32) (o len : Nat) : Law l yN 5 4 2 35 yB 6 none site (P a D fV fC b A z o len) (E a D fV fC A o len) [⟨a, fC.slot⟩, ⟨a, fV.slot⟩] 1 len := by
  refine Law.of_walk (plainFor_of_name (by decide +kernel)) (by decide +kernel) (by decide +kernel) (by decide) (fun _ _ h => by rw [h.1]; rfl) (fun _ U U' hal hh h => ⟨h.1, h.2.1.mv hal hh, h.2.2.1.al hal, h.2.2.2.1.al hal, h.2.2.2.2.1.mv hal hh, h.2.2.2.2.2.1.there hal hh, h.2.2.2.2.2.2⟩) (fun r U U' V V' h1 hal h2 h => Got.mv r U U' V V' h1 hal h2 h) ?_
  intro p e s m args below meth c s₁ X0 hexec hbytes hml hret hlk hnm hown hh0 W hP
  obtain ⟨rfl, hB, f1, f2, hA, s1, hz, l0, l1, l2, hp⟩ := hP
  have a31 := hA.1.2.2.2
  have c1 : Steps p.tables e below (s₁.setTop (entryFrame m #[.ref a, .ref b, .int (Int32.ofNat o), .int (Int32.ofNat len), .null] 6)) (s₁.setTop (mkF m 0 #[.val (.ref a), .val (.ref b), .val (.int (Int32.ofNat o)), .val (.int (Int32.ofNat len)), .val .null, .unset] [])) := entry rfl
  have c2 : Steps p.tables e below (s₁.setTop (entryFrame m #[.ref a, .ref b, .int (Int32.ofNat o), .int (Int32.ofNat len), .null] 6)) (s₁.setTop (mkF m 1 #[.val (.ref a), .val (.ref b), .val (.int (Int32.ofNat o)), .val (.int (Int32.ofNat len)), .val .null, .unset] [.ref a])) := c1.trans (by
    refine XS.aloadN X0.here hexec rfl (hb hbytes d0) rfl rfl ?_
    exact Steps.refl _)
  obtain ⟨T3, X3, q3, st3⟩ := X0.oinit hexec hown (wks W (objW "java/lang/String" 1)) (g := (mkF m 1 #[.val (.ref a), .val (.ref b), .val (.int (Int32.ofNat o)), .val (.int (Int32.ofNat len)), .val .null, .unset] [.ref a])) rfl (by rw [hml]; rfl) (rest := []) rfl (hb hbytes d1) (W := 0) (by show 2 * 0 + 0 ≤ _; decide) (Nat.le_of_ble_eq_true rfl) (Nat.le_of_ble_eq_true rfl)
  have hh3 := q3.trans hh0
  have c4 : Steps p.tables e below (s₁.setTop (entryFrame m #[.ref a, .ref b, .int (Int32.ofNat o), .int (Int32.ofNat len), .null] 6)) (T3.setTop (mkF m 27 #[.val (.ref a), .val (.ref b), .val (.int (Int32.ofNat o)), .val (.int (Int32.ofNat len)), .val .null, .unset] [])) := (c2.trans (st3 _ (Steps.refl _))).trans (by
    refine XS.iloadN X3.here hexec rfl (hb hbytes d4) rfl ?_
    refine XS.ifYes X3.here hexec rfl (pc0 := 5) rfl (hb hbytes d5) rfl (i0_ne_t (nz32 (by omega) l0)) (by decide) rfl ?_
    exact Steps.refl _)
  obtain ⟨T5, X5, q5, st5⟩ := X3.sget hexec hown (wk W (.fieldLink "java/lang/String" 38 "java/lang/String" "COMPACT_STRINGS" "Z")) s1 (fun _ _ h => by rw [hh3]; exact h) (g := (mkF m 27 #[.val (.ref a), .val (.ref b), .val (.int (Int32.ofNat o)), .val (.int (Int32.ofNat len)), .val .null, .unset] [])) rfl (hb hbytes d27)
  have hh5 := q5.trans hh3
  have c6 : Steps p.tables e below (s₁.setTop (entryFrame m #[.ref a, .ref b, .int (Int32.ofNat o), .int (Int32.ofNat len), .null] 6)) (T5.setTop (mkF m 30 #[.val (.ref a), .val (.ref b), .val (.int (Int32.ofNat o)), .val (.int (Int32.ofNat len)), .val .null, .unset] [.int z])) := c4.trans (st5 _ (Steps.refl _))
  have c7 : Steps p.tables e below (s₁.setTop (entryFrame m #[.ref a, .ref b, .int (Int32.ofNat o), .int (Int32.ofNat len), .null] 6)) (T5.setTop (mkF m 36 #[.val (.ref a), .val (.ref b), .val (.int (Int32.ofNat o)), .val (.int (Int32.ofNat len)), .val .null, .unset] [.int (Int32.ofNat len), .int (Int32.ofNat o), .ref b])) := c6.trans (by
    refine XS.ifNo X5.here hexec rfl (hb hbytes d30) rfl (i0_eq_f hz) ?_
    refine XS.aloadN X5.here hexec rfl (hb hbytes d33) rfl rfl ?_
    refine XS.iloadN X5.here hexec rfl (hb hbytes d34) rfl ?_
    refine XS.iloadN X5.here hexec rfl (hb hbytes d35) rfl ?_
    exact Steps.refl _)
  obtain ⟨v8, T8, X8, E8, g8⟩ := X5.callS hexec (Cmp3.law l b A o len) hown (wks W (staticW "java/lang/String" 177 Cmp3.yN)) (wk W Cmp3.tab) (W := 0) (Nat.le_of_ble_eq_true rfl) (Nat.le_of_ble_eq_true rfl) (Nat.le_refl _) (by show 0 + len ≤ len; omega) (g := (mkF m 36 #[.val (.ref a), .val (.ref b), .val (.int (Int32.ofNat o)), .val (.int (Int32.ofNat len)), .val .null, .unset] [.int (Int32.ofNat len), .int (Int32.ofNat o), .ref b])) rfl (by rw [hml]; rfl) c7 (argsL := [.ref b, .int (Int32.ofNat o), .int (Int32.ofNat len)]) (rest := []) rfl rfl (by show 2 * 0 + 0 ≤ _; decide) (hb hbytes d36) (⟨rfl, hA.mv X5.warmed.alike hh5, l1, l2, hp⟩)
  obtain ⟨e8, z8⟩ := E8
  obtain ⟨rfl, N, n1, n2, n3, n4, n5, n6⟩ := NewArr.mv _ T5 s _ _ hh5.symm (Vm.Alike.refl _) rfl e8
  rw [hh5] at z8
  have hB1 := hB.keep X8.warmed.alike (n6 _ _ hB.1)
  have hne : s.heap.size ≠ a := (Nat.ne_of_lt (Array.getElem?_eq_some_iff.mp hB.1).1).symm
  have c9 : Steps p.tables e below (s₁.setTop (entryFrame m #[.ref a, .ref b, .int (Int32.ofNat o), .int (Int32.ofNat len), .null] 6)) (T8.setTop (mkF m 39 #[.val (.ref a), .val (.ref b), .val (.int (Int32.ofNat o)), .val (.int (Int32.ofNat len)), .val .null, .unset] [.ref s.heap.size])) := g8
  have c10 : Steps p.tables e below (s₁.setTop (entryFrame m #[.ref a, .ref b, .int (Int32.ofNat o), .int (Int32.ofNat len), .null] 6)) (T8.setTop (mkF m 45 #[.val (.ref a), .val (.ref b), .val (.int (Int32.ofNat o)), .val (.int (Int32.ofNat len)), .val .null, .val (.ref s.heap.size)] [.int (Int32.ofNat N.slots.size), .ref s.heap.size, .ref a])) := by
    have hc : Steps p.tables e below (s₁.setTop (entryFrame m #[.ref a, .ref b, .int (Int32.ofNat o), .int (Int32.ofNat len), .null] 6)) (T8.setTop (mkF m 45 #[.val (.ref a), .val (.ref b), .val (.int (Int32.ofNat o)), .val (.int (Int32.ofNat len)), .val .null, .val (.ref s.heap.size)] [.int (Int32.ofNat len), .ref s.heap.size, .ref a])) := c9.trans (by
      refine XS.astore X8.here hexec rfl (hb hbytes d39) rfl rfl rfl ?_
      refine XS.aloadN X8.here hexec rfl (hb hbytes d41) rfl rfl ?_
      refine XS.aload X8.here hexec rfl (hb hbytes d42) rfl rfl ?_
      refine XS.iloadN X8.here hexec rfl (hb hbytes d44) rfl ?_
      exact Steps.refl _)
    rw [n4]; exact hc
  obtain ⟨v11, T11, X11, E11, g11⟩ := X8.callS hexec (CodL.law l s.heap.size N) hown (wks W (staticW "java/lang/String" 47 CodL.yN)) (wk W CodL.tab) (W := 1) (Nat.le_of_ble_eq_true rfl) (Nat.le_of_ble_eq_true rfl) (Nat.le_refl _) (by show 0 + len + 0 ≤ len; omega) (g := (mkF m 45 #[.val (.ref a), .val (.ref b), .val (.int (Int32.ofNat o)), .val (.int (Int32.ofNat len)), .val .null, .val (.ref s.heap.size)] [.int (Int32.ofNat N.slots.size), .ref s.heap.size, .ref a])) rfl (by rw [hml]; rfl) c10 (argsL := [.ref s.heap.size, .int (Int32.ofNat N.slots.size)]) (rest := [.ref a]) rfl rfl (by show 2 * 0 + (1 + 0) ≤ _; decide) (hb hbytes d45) (⟨rfl, n1⟩)
  obtain ⟨rfl, q11⟩ := E11
  have hB11 := hB1.mv (X8.warmed.alike.symm.trans X11.warmed.alike) q11
  have c12 : Steps p.tables e below (s₁.setTop (entryFrame m #[.ref a, .ref b, .int (Int32.ofNat o), .int (Int32.ofNat len), .null] 6)) (T11.setTop (mkF m 48 #[.val (.ref a), .val (.ref b), .val (.int (Int32.ofNat o)), .val (.int (Int32.ofNat len)), .val .null, .val (.ref s.heap.size)] [.int 0, .ref a])) := g11
  obtain ⟨T13, X13, p13, bl13, sl13, st13⟩ := X11.finit hexec hown (wk W (.fieldLink "java/lang/String" 15 "java/lang/String" "coder" "B")) (Or.inr ⟨_, (wk W (.laysFinal "java/lang/String" "java/lang/String" "coder" "B"))⟩) (Or.inl ⟨rfl, hnm⟩) f2 (Or.inl rfl) hB11 (t := .byte) (by decide +kernel) rfl (g := (mkF m 48 #[.val (.ref a), .val (.ref b), .val (.int (Int32.ofNat o)), .val (.int (Int32.ofNat len)), .val .null, .val (.ref s.heap.size)] [.int 0, .ref a])) rfl (rest := []) rfl (hb hbytes d48)
  have c14 : Steps p.tables e below (s₁.setTop (entryFrame m #[.ref a, .ref b, .int (Int32.ofNat o), .int (Int32.ofNat len), .null] 6)) (T13.setTop (mkF m 54 #[.val (.ref a), .val (.ref b), .val (.int (Int32.ofNat o)), .val (.int (Int32.ofNat len)), .val .null, .val (.ref s.heap.size)] [.ref s.heap.size, .ref a])) := (c12.trans (st13 _ (Steps.refl _))).trans (by
    refine XS.aloadN X13.here hexec rfl (hb hbytes d51) rfl rfl ?_
    refine XS.aload X13.here hexec rfl (hb hbytes d52) rfl rfl ?_
    exact Steps.refl _)
  obtain ⟨T15, X15, p15, bl15, sl15, st15⟩ := X13.finit hexec hown (wk W (.fieldLink "java/lang/String" 9 "java/lang/String" "value" "[B")) (Or.inr ⟨_, (wk W (.laysFinal "java/lang/String" "java/lang/String" "value" "[B"))⟩) (Or.inl ⟨rfl, hnm⟩) f1 (Or.inl rfl) bl13 (t := (.array .byte)) (by decide +kernel) rfl (g := (mkF m 54 #[.val (.ref a), .val (.ref b), .val (.int (Int32.ofNat o)), .val (.int (Int32.ofNat len)), .val .null, .val (.ref s.heap.size)] [.ref s.heap.size, .ref a])) rfl (rest := []) rfl (hb hbytes d54)
  have c16 : Steps p.tables e below (s₁.setTop (entryFrame m #[.ref a, .ref b, .int (Int32.ofNat o), .int (Int32.ofNat len), .null] 6)) (T15.setTop (mkF m 57 #[.val (.ref a), .val (.ref b), .val (.int (Int32.ofNat o)), .val (.int (Int32.ofNat len)), .val .null, .val (.ref s.heap.size)] [])) := c14.trans (st15 _ (Steps.refl _))
  have ap := apart (Or.inr ⟨_, (wk W (.laysFinal "java/lang/String" "java/lang/String" "value" "[B"))⟩) (Or.inr ⟨_, (wk W (.laysFinal "java/lang/String" "java/lang/String" "coder" "B"))⟩) f1 f2 (t₁ := .array .byte) (t₂ := .byte) (by decide +kernel) (by decide +kernel) (by decide)
  have al := X8.warmed.alike.symm.trans X15.warmed.alike
  have n7 : T11.heap[s.heap.size]? = some N := by rw [q11]; exact n1.1
  exact ⟨T15, none, _, _, _, X15, by simp, rfl, by omega, (fun _ => rfl), ⟨rfl, _, N, bl15, ((Same.refl D _).set _ (by simp)).set _ (by simp), sl15, (Cell.slots_setSlot_ne _ ap).trans sl13, n1.keep al (p15.other hne (p13.other hne n7)), n2, by rw [al.findClass]; exact n3, n4, n5, fun y c h1 h2 => p15.other h1 (p13.other h1 (by rw [q11]; exact n6 y c h2)), by rw [p15.2.2, p13.2.2, q11]; exact z8⟩, fun fs hl => c16.trans (X15.returnOut hexec hret (hb hbytes d57) hl)⟩
end New4
namespace New1
def yN : MethodName := ⟨"java/lang/String", "<init>", "([C)V"⟩
abbrev yB : ByteArray := jdk_42_method_3_code
theorem d0 : decode yB 0 = .ok (.aload_n 0, 1) := by decide +kernel
theorem d1 : decode yB 1 = .ok (.aload_n 1, 1) := by decide +kernel
theorem d2 : decode yB 2 = .ok (.iconst 0, 1) := by decide +kernel
theorem d3 : decode yB 3 = .ok (.aload_n 1, 1) := by decide +kernel
theorem d4 : decode yB 4 = .ok (.arraylength, 1) := by decide +kernel
theorem d5 : decode yB 5 = .ok (.aconst_null, 1) := by decide +kernel
theorem d6 : decode yB 6 = .ok (.invokespecial 27, 3) := by decide +kernel
theorem d9 : decode yB 9 = .ok (.return_, 1) := by decide +kernel
def site : List Cond := [New4.tab] ++ initW "java/lang/String" 27 New4.yN
def tab : Cond := tabOf yN yB 2 none site
def P (a : Addr) (D : Cell) (fV fC : Field) (b : Addr) (A : Cell) (z : Int32) (args : Array Value) (s : State) : Prop := args = #[.ref a, .ref b] ∧ Blank "java/lang/String" a D s ∧ Found "java/lang/String" "value" "[B" fV s ∧ Found "java/lang/String" "coder" "B" fC s ∧ Ch b A s ∧ StaticIs s "java/lang/String" "COMPACT_STRINGS" "Z" (.int z) ∧ ¬ z = 0 ∧ 0 < A.slots.size ∧ A.slots.size ≤ 536870912 ∧ ∀ i, i < A.slots.size → ¬ 255 < cv A i
def E (a : Addr) (D : Cell) (fV fC : Field) (A : Cell) (r : Option Value) (s u : State) : Prop := Got a D fV fC A 0 A.slots.size r s u
/-- new String(chars), not empty, no char above 255: a Latin-1 String of their low bytes -/
theorem law (l : Launch) (a : Addr) (D : Cell) (fV fC : Field) (b : Addr) (A : Cell) (z : Int32) : Law l yN 2 1 3 52 yB 2 none site (P a D fV fC b A z) (E a D fV fC A) [⟨a, fC.slot⟩, ⟨a, fV.slot⟩] 1 A.slots.size := by
  refine Law.of_walk (plainFor_of_name (by decide +kernel)) (by decide +kernel) (by decide +kernel) (by decide) (fun _ _ h => by rw [h.1]; rfl) (fun _ U U' hal hh h => ⟨h.1, h.2.1.mv hal hh, h.2.2.1.al hal, h.2.2.2.1.al hal, h.2.2.2.2.1.mv hal hh, h.2.2.2.2.2.1.there hal hh, h.2.2.2.2.2.2⟩) (fun r U U' V V' h1 hal h2 h => Got.mv r U U' V V' h1 hal h2 h) ?_
  intro p e s m args below meth c s₁ X0 hexec hbytes hml hret hlk hnm hown hh0 W hP
  obtain ⟨rfl, hB, f1, f2, hA, s1, hz, l0, l2, hp⟩ := hP
  have c1 : Steps p.tables e below (s₁.setTop (entryFrame m #[.ref a, .ref b] 2)) (s₁.setTop (mkF m 0 #[.val (.ref a), .val (.ref b)] [])) := entry rfl
  have c2 : Steps p.tables e below (s₁.setTop (entryFrame m #[.ref a, .ref b] 2)) (s₁.setTop (mkF m 6 #[.val (.ref a), .val (.ref b)] [.null, .int (Int32.ofNat A.slots.size), .int 0, .ref b, .ref a])) := c1.trans (by
    refine XS.aloadN X0.here hexec rfl (hb hbytes d0) rfl rfl ?_
    refine XS.aloadN X0.here hexec rfl (hb hbytes d1) rfl rfl ?_
    refine iconstV X0.here hexec rfl 0 (hb hbytes d2) (by decide) ?_
    refine XS.aloadN X0.here hexec rfl (hb hbytes d3) rfl rfl ?_
    refine X0.alen hexec (hA.1.mv X0.warmed.alike hh0) rfl rfl (hb hbytes d4) ?_
    refine XS.aconstNull X0.here hexec rfl (hb hbytes d5) ?_
    exact Steps.refl _)
  obtain ⟨v3, T3, X3, E3, g3⟩ := X0.callN hexec (New4.law l a D fV fC b A z 0 A.slots.size) rfl hown (wks W (initW "java/lang/String" 27 New4.yN)) (W New4.tab (by simp only [site, List.mem_cons, List.mem_append, true_or, or_true])) (W := 0) (Nat.le_of_ble_eq_true rfl) (Nat.le_of_ble_eq_true rfl) (Nat.le_refl _) (by show 0 + A.slots.size ≤ A.slots.size; omega) (g := (mkF m 6 #[.val (.ref a), .val (.ref b)] [.null, .int (Int32.ofNat A.slots.size), .int (Int32.ofNat 0), .ref b, .ref a])) rfl (by rw [hml]; rfl) c2 (argsL := [.ref b, .int (Int32.ofNat 0), .int (Int32.ofNat A.slots.size), .null]) (rest := []) rfl rfl (by show 2 * 0 + 0 ≤ _; decide) (hb hbytes d6) (⟨rfl, hB.mv X0.warmed.alike hh0, f1.al X0.warmed.alike, f2.al X0.warmed.alike, hA.mv X0.warmed.alike hh0, s1.there X0.warmed.alike hh0, hz, l0, by omega, l2, fun i hi => by rw [Nat.zero_add]; exact hp i hi⟩)
  have e0 := Got.mv _ s₁ s _ _ hh0.symm (Vm.Alike.refl _) rfl E3
  obtain rfl := e0.1
  have c4 : Steps p.tables e below (s₁.setTop (entryFrame m #[.ref a, .ref b] 2)) (T3.setTop (mkF m 9 #[.val (.ref a), .val (.ref b)] [])) := g3
  exact ⟨T3, none, _, _, _, X3, by simp, rfl, by omega, (fun _ => rfl), e0, fun fs hl => c4.trans (X3.returnOut hexec hret (hb hbytes d9) hl)⟩
theorem pays {l : Launch} {R : Room} {p : Program} {e : Env} {below : List Frame} {s : State} {sargs : Array Value} {len W : Nat} (a : Addr) (D : Cell) (fV fC : Field) (b : Addr) (A : Cell) (z : Int32) (htab : tab.before sargs s = true) (hfr : 4 ≤ R.frames) (hlo : W + 65 ≤ R.locals) :
    Back l R p e below s sargs yN len W (fun A₁ a₁ => A₁.cells + 1 ≤ R.cells ∧ A₁.slots + A.slots.size ≤ R.slots ∧ P a D fV fC b A z a₁ A₁.U) (fun A₁ _ v₁ B₁ => E a D fV fC A v₁ A₁.U B₁.U ∧ B₁.locs = A₁.locs ++ [⟨a, fC.slot⟩, ⟨a, fV.slot⟩] ∧ B₁.cells = A₁.cells + 1 ∧ B₁.slots = A₁.slots + A.slots.size) :=
  (law l a D fV fC b A z).pays htab hfr (by omega)
end New1
end StrChars
namespace StrChars.Road
open Jvm Sem ClassFile Op Lib Jvm.Stand Jvm.Free Jvm.Free.XT
open Jvm.Lib.Cold (StaticIs)
abbrev ST : String := "java/lang/String"
/-- every table word that New1's law asks, flat -/
abbrev words : List Jvm.Cond := [.code New1.yN New1.yB 2 none, .initialized ST, .methodLink ST 27 New4.yN, .instanceMethod New4.yN,
  .code New4.yN New4.yB 6 none, .fieldLink ST 38 ST "COMPACT_STRINGS" "Z", .laysFinal ST ST "value" "[B", .fieldLink ST 9 ST "value" "[B", .laysFinal ST ST "coder" "B", .fieldLink ST 15 ST "coder" "B",
  .methodLink ST 1 Lib.objectInit, .instanceMethod Lib.objectInit, .code Lib.objectInit ⟨#[0xb1]⟩ 1 none, .methodLink ST 177 Cmp3.yN, .static Cmp3.yN, .methodLink ST 47 CodL.yN, .static CodL.yN,
  .code Cmp3.yN Cmp3.yB 6 (some (.array .byte)), .initialized U16, .arrayClass .byte, .methodLink U16 115 Cmp5.yN, .static Cmp5.yN, .code Cmp5.yN Cmp5.yB 7 (some .int), .code CodL.yN CodL.yB 2 (some .byte)]
theorem tab_of {a : Array Value} {s : State} (h : ∀ w ∈ words, w.before a s = true) : New1.tab.before a s = true := by
  have h5 : Cmp5.tab.before a s = true := unparts (wk h (.code Cmp5.yN Cmp5.yB 7 (some .int))) (wks h (.initialized Cmp5.yN.cls :: Cmp5.site))
  have hc : CodL.tab.before a s = true := unparts (wk h (.code CodL.yN CodL.yB 2 (some .byte))) (wks h (.initialized CodL.yN.cls :: CodL.site))
  have q5 : ∀ w ∈ Cmp5.tab :: words, w.before a s = true := fun w hw => (List.mem_cons.mp hw).elim (fun e => e ▸ h5) (h w)
  have h3 : Cmp3.tab.before a s = true := unparts (wk q5 (.code Cmp3.yN Cmp3.yB 6 (some (.array .byte)))) (wks q5 (.initialized Cmp3.yN.cls :: Cmp3.site))
  have q3 : ∀ w ∈ Cmp3.tab :: CodL.tab :: words, w.before a s = true := fun w hw => (List.mem_cons.mp hw).elim (fun e => e ▸ h3) fun hw => (List.mem_cons.mp hw).elim (fun e => e ▸ hc) (h w)
  have h4 : New4.tab.before a s = true := unparts (wk q3 (.code New4.yN New4.yB 6 none)) (wks q3 (.initialized New4.yN.cls :: New4.site))
  have q4 : ∀ w ∈ New4.tab :: words, w.before a s = true := fun w hw => (List.mem_cons.mp hw).elim (fun e => e ▸ h4) (h w)
  exact unparts (wk q4 (.code New1.yN New1.yB 2 none)) (wks q4 (.initialized New1.yN.cls :: New1.site))
/-- the words ride from the start Z to the walk's own state -/
theorem moved {Z s : State} {a0 args : Array Value} (hZ : Z.Warmed39 s.vm) (hw : ∀ d ∈ words, d.before a0 Z = true) : ∀ d ∈ words, d.before args s = true := fun d hd => by
  have q := hw d hd
  have t : ∀ d ∈ words, d = .arrayClass .byte ∨ (d.onTables && d.keepsFace) = true := by decide +kernel
  rcases t d hd with rfl | t
  · exact RoadKit.mvA hZ q
  · exact RoadKit.mv hZ q t
/-- WHAT COMES BACK, over the tables of the start Z: h the heap at the call, h' behind it -/
def Q (Z : State) (x : Addr) (A : Cell) (h : Heap) (v : Option Value) (h' : Heap) (L : List Loc) : Prop := v = none ∧ (∀ y ∈ L, y.base = x) ∧ RoadKit.Keep h h' [x] ∧ h'.size = h.size + 1 ∧ RoadKit.Exa Z h' x ST ∧ RoadKit.Fld Z h' x ST "value" "[B" (.ref h.size) ∧ RoadKit.Fld Z h' x ST "coder" "B" (.int 0) ∧
  (∃ V : Cell, RoadKit.Arr Z h' h.size V .byte ∧ V.vm = .none ∧ Z.vm.findClass "[B" = some V.cls ∧ V.slots.size = A.slots.size ∧ ∀ j, j < A.slots.size → V.slots[j]? = some (.int (lo8 (cv A j)))) ∧
  ∀ (O n d : String) (w : Value), RoadKit.Fld Z h x O n d w → RoadKit.slotOf Z O n d ≠ RoadKit.slotOf Z ST "value" "[B" → RoadKit.slotOf Z O n d ≠ RoadKit.slotOf Z ST "coder" "B" → RoadKit.Fld Z h' x O n d w
/-- **new String(chars) AT A CALL, IN THE ROAD'S FORM**: for specialBack behind newO: x the fresh String, b the char[] with the cell A -/
theorem back {p : Program} {l : Launch} {e : Env} {R : Room} {s : State} {args : Array Value} {below : List Frame} {len W : Nat} {Z : State} {a0 : Array Value} {h : Heap} (hZ : Z.Warmed39 s.vm) (hw : ∀ d ∈ words, d.before a0 Z = true) {kI : Nat} (wi : (Jvm.Cond.instantiable ST kI).before a0 Z = true)
    {x b : Addr} {A : Cell} {z : Int32} {v0 c0 : Value} (E : RoadKit.Exa Z h x ST) (V : RoadKit.Fld Z h x ST "value" "[B" v0) (C : RoadKit.Fld Z h x ST "coder" "B" c0) (K : RoadKit.Arr Z h b A .char) (hty : Typed .char A) (S : RoadKit.Sta Z h ST "COMPACT_STRINGS" "Z" (.int z)) (hz : ¬ z = 0)
    (l0 : 0 < A.slots.size) (l2 : A.slots.size ≤ 536870912) (hp : ∀ i, i < A.slots.size → ¬ 255 < cv A i) (hfr : 4 ≤ R.frames) (hlo : W + 65 ≤ R.locals) :
    Back l R p e below s args New1.yN len W (fun P a => a = #[.ref x, .ref b] ∧ P.U.heap = h ∧ P.cells + 1 ≤ R.cells ∧ P.slots + A.slots.size ≤ R.slots)
      (fun P _ v B => ∃ L, Q Z x A h v B.U.heap L ∧ B.locs = P.locs ++ L ∧ B.cells = P.cells + 1 ∧ B.slots = P.slots + A.slots.size) := by
  intro m meth c P g ig mk a X hg hsize hdg hW hn hp'
  obtain ⟨rfl, rfl, r1, r2⟩ := hp'
  have al : Z.vm.Alike P.U.vm := hZ.alike.trans X.warmed.alike
  obtain ⟨D, cfV, kV, iV, fV, hD, gV, stV, knV, obV, asV, slV⟩ := id V
  obtain ⟨D', cfC, kC, iC, fC, hD', gC, stC, -, -, asC, slC⟩ := id C
  cases hD.symm.trans hD'
  obtain ⟨D2, kD, e1, e2, e3, e4, e5⟩ := id E
  cases hD.symm.trans e1
  obtain ⟨c2, k2, i1, i2, i3, -⟩ := Cond.instantiable_spec wi
  cases e2.symm.trans i1
  cases e3.symm.trans i2
  obtain ⟨kU, u1, u2⟩ := al.2.2 _ _ e3
  have hB : Blank ST x D P.U := ⟨hD, ⟨knV, fun q hq => by rw [hq] at obV; cases obV⟩, by rw [al.findClass]; exact e2, kU, u1, by rw [u2]; exact i3, by rw [u2]; exact e5 i3⟩
  have F1 : Found ST "value" "[B" fV P.U := ⟨SBG.found_only al ⟨cfV, kV, iV, gV⟩, stV⟩
  have F2 : Found ST "coder" "B" fC P.U := ⟨SBG.found_only al ⟨cfC, kC, iC, gC⟩, stC⟩
  have hA : Ch b A P.U := ⟨⟨K.1, State.isArrayOf_alike al K.2.1, K.2.2, by omega⟩, hty⟩
  have hS : StaticIs P.U ST "COMPACT_STRINGS" "Z" (.int z) := by
    obtain ⟨cfS, iS, kS, fS, st, cS, t1, t2, t3, t4, t5, t6, t7⟩ := S
    exact StaticIs.there (s := { Z with heap := P.U.heap }) ⟨cfS, iS, kS, fS, st, cS, t1, t2, t3, t4, t5, (fun q => by rw [q] at t6; cases t6), t7⟩ al rfl
  obtain ⟨v, B, X', ⟨⟨hv, E', V', q1, q2, q3, q4, q5, q6, q7, q8, q9, q10, q11⟩, hl, hc, hs⟩, st⟩ := New1.pays x D fV fC b A z (tab_of (moved hZ hw)) hfr hlo m meth c P g ig mk _ X hg hsize hdg hW hn ⟨r1, r2, rfl, hB, F1, F2, hA, hS, hz, l0, l2, hp⟩
  have al' : Z.vm.Alike B.U.vm := hZ.alike.trans X'.warmed.alike
  have hsz : E'.slots.size = D.slots.size := by
    obtain ⟨-, -, -, kB, w1, w2, w3⟩ := q1
    obtain ⟨kB', y1, y2⟩ := al'.2.2 _ _ e3
    rw [q2.2.1] at w1
    cases w1.symm.trans y1
    rw [w3, e5 i3, y2]
  refine ⟨v, B, X', ⟨_, ⟨hv, ?_, ⟨by omega, fun y cy hy hn' => q10 y cy (by simpa using hn') hy, fun y cy hy => ?_⟩, q11, ⟨E', _, q1.1, by rw [q2.2.1]; exact e2, by rw [q2.2.1]; exact e3, by rw [q2.1]; exact obV, fun _ => by rw [hsz]; exact e5 i3⟩,
    ⟨E', cfV, kV, iV, fV, q1.1, gV, stV, by rw [q2.1]; exact knV, by rw [q2.1]; exact obV, by rw [q2.2.1]; exact asV, q3⟩, ⟨E', cfC, kC, iC, fC, q1.1, gC, stC, by rw [q2.1]; exact knV, by rw [q2.1]; exact obV, by rw [q2.2.1]; exact asC, q4⟩,
    ⟨V', ⟨q5.1, State.isArrayOf_alike al'.symm q5.2.1, q5.2.2.1⟩, q6, by rw [← al'.findClass]; exact q7, q8, fun j hj => by have := q9 j hj; rwa [Nat.zero_add] at this⟩, fun O n d w F n1 n2 => ?_⟩, hl, hc, hs⟩, st⟩
  · intro y hy
    simp only [List.mem_cons, List.not_mem_nil, or_false] at hy
    rcases hy with rfl | rfl <;> rfl
  · by_cases q : y = x
    · subst q
      cases hD.symm.trans hy
      exact ⟨E', q1.1, q2.2.1, q2.1, hsz⟩
    · exact ⟨cy, q10 y cy q hy, rfl, rfl, rfl⟩
  · obtain ⟨D3, cf, k, i, f, g1, g2, g3, g4, g5, g6, g7⟩ := F
    cases hD.symm.trans g1
    simp only [RoadKit.slotOf, g2, gV, gC, Option.map_some, Option.getD_some] at n1 n2
    exact ⟨E', cf, k, i, f, q1.1, g2, g3, by rw [q2.1]; exact g4, by rw [q2.1]; exact g5, by rw [q2.2.1]; exact g6, by rw [q2.2.2 f.slot (by simp [n1, n2])]; exact g7⟩
end StrChars.Road
namespace StrChars.Road
open Jvm Sem ClassFile Op Lib Jvm.Stand Jvm.Free Jvm.Free.XT
/-- WHAT COMES BACK, the byte[] as a list of values -/
def QA (Z : State) (x : Addr) (zn : Int32) (cs : List Int32) (h : Heap) (v : Option Value) (h' : Heap) (L : List Loc) : Prop := v = none ∧ (∀ y ∈ L, y.base = x) ∧ RoadKit.Keep h h' [x] ∧ h'.size = h.size + 1 ∧ RoadKit.Exa Z h' x ST ∧ RoadKit.Fld Z h' x ST "value" "[B" (.ref h.size) ∧ RoadKit.Fld Z h' x ST "coder" "B" (.int 0) ∧
  (∃ kb, Z.vm.findClass "[B" = some kb ∧ RoadKit.Arv Z h' h.size kb .byte zn (cs.map fun c => .int (lo8 c)) (.int 0)) ∧
  ∀ (O n d : String) (w : Value), RoadKit.Fld Z h x O n d w → RoadKit.slotOf Z O n d ≠ RoadKit.slotOf Z ST "value" "[B" → RoadKit.slotOf Z O n d ≠ RoadKit.slotOf Z ST "coder" "B" → RoadKit.Fld Z h' x O n d w
/-- **new String(chars) AT A CALL, THE ARRAYS AS LISTS**: the char[] at b holds cs, not empty, no char above 255 -/
theorem backArv {p : Program} {l : Launch} {e : Env} {R : Room} {s : State} {args : Array Value} {below : List Frame} {len W : Nat} {Z : State} {a0 : Array Value} {h : Heap} (hZ : Z.Warmed39 s.vm) (hw : ∀ d ∈ words, d.before a0 Z = true) {kI : Nat} (wi : (Jvm.Cond.instantiable ST kI).before a0 Z = true)
    {x b : Addr} {k : ClassId} {zn z : Int32} {cs : List Int32} {dv v0 c0 : Value} (E : RoadKit.Exa Z h x ST) (V : RoadKit.Fld Z h x ST "value" "[B" v0) (C : RoadKit.Fld Z h x ST "coder" "B" c0) (K : RoadKit.Arv Z h b k .char zn (cs.map Value.int) dv) (S : RoadKit.Sta Z h ST "COMPACT_STRINGS" "Z" (.int z)) (hz : ¬ z = 0)
    (hlen : zn.toNatClampNeg = cs.length) (h0 : 0 < cs.length) (hbig : cs.length ≤ 536870912) (hall : ∀ c ∈ cs, ¬ 255 < c) (hfr : 4 ≤ R.frames) (hlo : W + 65 ≤ R.locals) :
    Back l R p e below s args New1.yN len W (fun P a => a = #[.ref x, .ref b] ∧ P.U.heap = h ∧ P.cells + 1 ≤ R.cells ∧ P.slots + cs.length ≤ R.slots)
      (fun P _ v B => ∃ L, QA Z x zn cs h v B.U.heap L ∧ B.locs = P.locs ++ L ∧ B.cells = P.cells + 1 ∧ B.slots = P.slots + cs.length) := by
  obtain ⟨A, K1, K2, K3, K4, K5, K6⟩ := K
  have e : A.slots.size = cs.length := K3.trans hlen
  have hat : ∀ (i : Nat) (hi : i < cs.length), A.slots[i]? = some (.int cs[i]) := fun i hi => by rw [K5 i (by omega)]; simp [List.getD_eq_getElem?_getD, hi]
  have hcv : ∀ (i : Nat) (hi : i < cs.length), cv A i = cs[i] := fun i hi => by unfold cv; rw [hat i hi]
  have hty : Typed .char A := fun i v hv => by
    have hi : i < A.slots.size := (Array.getElem?_eq_some_iff.mp hv).1
    have q := K5 i hi
    rw [hv] at q
    rw [Option.some.inj q]
    exact K6 i hi
  refine Back.mono (back hZ hw wi E V C K1 hty S hz (by omega) (by omega) (fun i hi => by rw [hcv i (by omega)]; exact hall _ (List.getElem_mem _)) hfr hlo) (fun P a hp => ⟨hp.1, hp.2.1, hp.2.2.1, by rw [e]; exact hp.2.2.2⟩) (fun P a v B hp hq => ?_)
  obtain ⟨L, ⟨q1, q2, q3, q4, q5, q6, q7, ⟨V', v1, v2, v3, v4, v5⟩, q9⟩, hl, hc, hs⟩ := hq
  refine ⟨L, ⟨q1, q2, q3, q4, q5, q6, q7, ⟨V'.cls, v3, V', v1, rfl, by rw [v4, e, hlen], K4, fun i hi => ?_, fun i hi => ?_⟩, q9⟩, hl, hc, by rw [hs, e]⟩
  · have hi' : i < cs.length := by omega
    rw [v5 i (by omega), hcv i hi']; simp [List.getD_eq_getElem?_getD, hi']
  · have hi' : i < cs.length := by omega
    simp only [List.getD_eq_getElem?_getD, List.getElem?_map, List.getElem?_eq_getElem hi', Option.map_some, Option.getD_some]
    exact fits_lo8 _
end StrChars.Road
namespace StrChars.Road
open Jvm Sem ClassFile Op Lib Jvm.Stand Jvm.Free Jvm.Free.XT
/-- WHAT COMES BACK, in the writer's own shape -/
def QV (Z : State) (x : Addr) (N : Int32) (bs : List Int32) (h : Heap) (n0 : Nat) (v : Option Value) (h' : Heap) (L : List Loc) : Prop := v = none ∧ RoadKit.Fr n0 L ∧ RoadKit.Keep h h' [x] ∧ RoadKit.Exa Z h' x ST ∧ RoadKit.Fld Z h' x ST "coder" "B" (.int 0) ∧
  ∃ (t : Addr) (kb : ClassId), n0 ≤ t ∧ h.size ≤ t ∧ ¬ t = x ∧ RoadKit.Fld Z h' x ST "value" "[B" (.ref t) ∧ RoadKit.Arv Z h' t kb .byte N (bs.map Value.int) (.int 0)
/-- **new String(chars) AT A CALL, FOR THE WRITER**: a char[] of n known ints, each 0 to 255 -/
theorem backV {p : Program} {l : Launch} {e : Env} {R : Room} {s : State} {args : Array Value} {below : List Frame} {len W : Nat} {Z : State} {a0 : Array Value} {h : Heap} (hZ : Z.Warmed39 s.vm) (hw : ∀ d ∈ words, d.before a0 Z = true) {kI : Nat} (wi : (Jvm.Cond.instantiable ST kI).before a0 Z = true)
    {x b : Addr} {kC : ClassId} {cs bs : List Int32} {d v0 c0 : Value} {z N : Int32} {n n0 : Nat} (hx0 : n0 ≤ x) (hh0 : n0 ≤ h.size) (E : RoadKit.Exa Z h x ST) (V : RoadKit.Fld Z h x ST "value" "[B" v0) (C : RoadKit.Fld Z h x ST "coder" "B" c0) (K : RoadKit.Arv Z h b kC .char N (cs.map Value.int) d) (S : RoadKit.Sta Z h ST "COMPACT_STRINGS" "Z" (.int z)) (hz : ¬ z = 0)
    (hn : cs.length = n) (hN : N = Int32.ofNat n) (l0 : 0 < n) (l2 : n ≤ 4000) (hp : ∀ c ∈ cs, ¬ c < 0 ∧ ¬ (255 : Int32) < c) (hb : bs = cs.map (fun c => c.toInt8.toInt32)) (hfr : 4 ≤ R.frames) (hlo : W + 65 ≤ R.locals) :
    Back l R p e below s args (⟨"java/lang/String", "<init>", "([C)V"⟩ : MethodName) len W (fun P a => a = #[.ref x, .ref b] ∧ P.U.heap = h ∧ P.cells + 1 ≤ R.cells ∧ P.slots + n ≤ R.slots)
      (fun P _ v B => ∃ L, QV Z x N bs h n0 v B.U.heap L ∧ B.locs = P.locs ++ L ∧ B.cells = P.cells + 1 ∧ B.slots = P.slots + n) := by
  subst hn hN hb
  refine Back.mono (backArv hZ hw wi E V C K S hz (n32 (by omega)) l0 (by omega) (fun c hc => (hp c hc).2) hfr hlo) (fun P a hp => hp) (fun P a v B hp hq => ?_)
  obtain ⟨L, ⟨q1, q2, q3, q4, q5, q6, q7, ⟨kb, v1, v2⟩, q9⟩, hl, hc, hs⟩ := hq
  exact ⟨L, ⟨q1, fun y hy => by rw [q2 y hy]; exact hx0, q3, q5, q7, h.size, kb, hh0, Nat.le_refl _, Nat.ne_of_gt E.lt, q6, by rw [List.map_map]; exact v2⟩, hl, hc, hs⟩
end StrChars.Road
end Jvm.Pilot.@@N@@
namespace Jvm.Pilot.@@N@@
open Jvm Jvm.ClassFile Sem Op Lib Jvm.Free Jvm.Stand Jvm.LawKit Jvm.RoadKit Bundle Jvm.Pilot.@@N@@.Jvm.D
theorem own_toInt {a b : Int32} (h : a.toInt = b.toInt) : a = b := Int32.toInt_inj.mp h
theorem own_four (x : Int32) : (x &&& (3 : Int32)) = (0 : Int32) ∨ (x &&& (3 : Int32)) = (1 : Int32) ∨ (x &&& (3 : Int32)) = (2 : Int32) ∨ (x &&& (3 : Int32)) = (3 : Int32) := by
  have h1 := c_mask x (3 : Int32) 2 (by decide) (by decide)
  have h3 : (x &&& (3 : Int32)).toInt = 0 ∨ (x &&& (3 : Int32)).toInt = 1 ∨ (x &&& (3 : Int32)).toInt = 2 ∨ (x &&& (3 : Int32)).toInt = 3 := by omega
  rcases h3 with h | h | h | h
  · exact Or.inl (own_toInt h)
  · exact Or.inr (Or.inl (own_toInt h))
  · exact Or.inr (Or.inr (Or.inl (own_toInt h)))
  · exact Or.inr (Or.inr (Or.inr ((own_toInt h))))
theorem own_ch255 (x : Int32) : ¬ nar .char ((x &&& (255 : Int32)).toUInt32.toUInt16.toUInt32.toInt32) < 0 ∧ ¬ (255 : Int32) < nar .char ((x &&& (255 : Int32)).toUInt32.toUInt16.toUInt32.toInt32) := by
  have h1 := c_mask x (255 : Int32) 8 (by decide) (by decide)
  have h2 := c_i2c (x &&& (255 : Int32))
  have h3 := c_i2c ((x &&& (255 : Int32)).toUInt32.toUInt16.toUInt32.toInt32)
  have e : nar .char ((x &&& (255 : Int32)).toUInt32.toUInt16.toUInt32.toInt32) = ((x &&& (255 : Int32)).toUInt32.toUInt16.toUInt32.toInt32).toUInt32.toUInt16.toUInt32.toInt32 := rfl
  rw [e]
  simp only [Int32.lt_iff_toInt_lt]
  have e0 : (0 : Int32).toInt = 0 := by decide
  have e1 : (255 : Int32).toInt = 255 := by decide
  omega
theorem d2_0 : decode jdk_30_method_1_code 0 = .ok (.aload_n 0, 1) := by decide +kernel
theorem d2_1 : decode jdk_30_method_1_code 1 = .ok (.invokespecial 1, 3) := by decide +kernel
theorem d2_4 : decode jdk_30_method_1_code 4 = .ok (.return_, 1) := by decide +kernel
theorem pn_java_2flang_2fRecord : plainName "java/lang/Record" = true := by first | (simp [plainName, overriddenIn]; done) | decide +kernel
theorem ef_recinit (m : MethodId) (a : Addr) : entryFrame m #[(.ref a)] 1 = mkF m 0 #[.val (.ref a)] [] := by
  first | (simp [entryFrame, mkF, argsToLocals, Value.category]; done) | rfl
def Q_recinit (Z : State) (a : Addr) (h0 : Heap) (n0 : Nat) (v : Option Value) (h : Heap) (L : List Loc) : Prop := v = none ∧ Fr n0 L ∧ h = h0
set_option maxRecDepth 65536 in
set_option maxHeartbeats 40000000 in
theorem rm_recinit (l : Launch) (Z : State) (a0 : Array Value) (hw : ∀ d ∈ tables_1, d.before a0 Z = true) (ws : List Jvm.Cond) (a : Addr) (h0 : Heap) (n0 : Nat) (O0 : Old Z n0 h0) :
    MetFree l (⟨"java/lang/Record", "<init>", "()V"⟩ : MethodName) (head1 (Jvm.Cond.code (⟨"java/lang/Record", "<init>", "()V"⟩ : MethodName) jdk_30_method_1_code 1 none :: ws) ({ frames := 1, cells := 0, slots := 0, locals := 12 } : Room)) (fun aq_ Uq_ => aq_ = #[(.ref a)] ∧ Z.Warmed39 Uq_.vm ∧ Uq_.heap = h0) (fun _ _ _ _ _ => True) (fun _ Uq_ oq_ Ur_ => ∃ vq_ Lq_, oq_ = .returned vq_ ∧ Q_recinit Z a h0 n0 vq_ Ur_.heap Lq_ ∧ FrameEnd Uq_ oq_ Ur_ Lq_ ({ frames := 1, cells := 0, slots := 0, locals := 12 } : Room).cells ({ frames := 1, cells := 0, slots := 0, locals := 12 } : Room).slots) := by
  refine MetFree.of_bodySF (plainFor_of_name pn_java_2flang_2fRecord) hisR ?_
  intro p e s m args below meth c s₁ Bd hml0 hP hK
  obtain ⟨rfl, hZ, hh⟩ := hP
  have hx := Bd.exec
  have hby := Bd.bytes
  have hml : c.maxLocals = 1 := hml0
  have hown : s.vm.findClass "java/lang/Record" = some m.cls := findClass_of_methodNamed Bd.named
  have hnm := (name_of_methodNamed Bd.named Bd.method).1
  have X0 : Stand p l e ({ frames := 1, cells := 0, slots := 0, locals := 12 } : Room) s m #[(.ref a)] below meth c s₁ [] 0 0 := Stand.of_body Bd
  have e0 : s₁.heap = h0 := by rw [← hh, Bd.state]; rfl
  have N0 := Fr.nil n0
  have K0 := Keep.refl h0 []
  refine own_G.start (Q := Q_recinit Z a h0 n0) (ef_recinit m a) ?_
  refine own_G.step (g' := (mkF m 1 #[.val (.ref a)] [(.ref a)])) (fun tq_ kq_ => XS.aloadN X0.here hx rfl (hb hby d2_0) rfl rfl kq_) ?_
  obtain ⟨T1, X1, e1, st1⟩ := initO X0 hx hZ hown (hw _ (List.mem_of_getElem? (i := 20) rfl)) (hw _ (List.mem_of_getElem? (i := 21) rfl)) (hw _ (List.mem_of_getElem? (i := 22) rfl)) e0 (g := (mkF m 1 #[.val (.ref a)] [(.ref a)])) rfl (by rw [hml]; rfl) rfl (hb hby d2_1) (by decide) (W := 0) (by show 2 * 0 + _ ≤ _; exact Nat.le_of_eq rfl) (by decide)
  refine own_G.step (T' := T1) (g' := (mkF m 4 #[.val (.ref a)] [])) st1 ?_
  exact own_ret X1 e1 (v := none) (fun _ => rfl) Bd.notSynchronized ⟨rfl, N0, rfl⟩ (by decide) (by decide) (fun fs hr => X1.returnOut hx Bd.returns (hb hby d2_4) hr)
theorem d4_0 : decode jdk_31_method_11_code 0 = .ok (.aload_n 0, 1) := by decide +kernel
theorem d4_1 : decode jdk_31_method_11_code 1 = .ok (.ifnonnull 12, 3) := by decide +kernel
theorem d4_13 : decode jdk_31_method_11_code 13 = .ok (.aload_n 0, 1) := by decide +kernel
theorem d4_14 : decode jdk_31_method_11_code 14 = .ok (.areturn, 1) := by decide +kernel
theorem pn_java_2futil_2fObjects : plainName "java/util/Objects" = true := by first | (simp [plainName, overriddenIn]; done) | decide +kernel
theorem ef_rnn (m : MethodId) (o : Addr) (ms : Addr) : entryFrame m #[(.ref o), (.ref ms)] 2 = mkF m 0 #[.val (.ref o), .val (.ref ms)] [] := by
  first | (simp [entryFrame, mkF, argsToLocals, Value.category]; done) | rfl
def Q_rnn (Z : State) (o : Addr) (ms : Addr) (h0 : Heap) (n0 : Nat) (v : Option Value) (h : Heap) (L : List Loc) : Prop := v = some (.ref o) ∧ Fr n0 L ∧ h = h0
set_option maxRecDepth 65536 in
set_option maxHeartbeats 40000000 in
theorem rm_rnn (l : Launch) (Z : State) (a0 : Array Value) (hw : ∀ d ∈ tables_1, d.before a0 Z = true) (ws : List Jvm.Cond) (o : Addr) (ms : Addr) (h0 : Heap) (n0 : Nat) (O0 : Old Z n0 h0) :
    MetFree l (⟨"java/util/Objects", "requireNonNull", "(Ljava/lang/Object;Ljava/lang/String;)Ljava/lang/Object;"⟩ : MethodName) (head1 (Jvm.Cond.code (⟨"java/util/Objects", "requireNonNull", "(Ljava/lang/Object;Ljava/lang/String;)Ljava/lang/Object;"⟩ : MethodName) jdk_31_method_11_code 2 (some (.object "java/lang/Object")) :: ws) ({ frames := 0, cells := 0, slots := 0, locals := 0 } : Room)) (fun aq_ Uq_ => aq_ = #[(.ref o), (.ref ms)] ∧ Z.Warmed39 Uq_.vm ∧ Uq_.heap = h0) (fun _ _ _ _ _ => True) (fun _ Uq_ oq_ Ur_ => ∃ vq_ Lq_, oq_ = .returned vq_ ∧ Q_rnn Z o ms h0 n0 vq_ Ur_.heap Lq_ ∧ FrameEnd Uq_ oq_ Ur_ Lq_ ({ frames := 0, cells := 0, slots := 0, locals := 0 } : Room).cells ({ frames := 0, cells := 0, slots := 0, locals := 0 } : Room).slots) := by
  refine MetFree.of_bodySF (plainFor_of_name pn_java_2futil_2fObjects) hisR ?_
  intro p e s m args below meth c s₁ Bd hml0 hP hK
  obtain ⟨rfl, hZ, hh⟩ := hP
  have hx := Bd.exec
  have hby := Bd.bytes
  have hml : c.maxLocals = 2 := hml0
  have hown : s.vm.findClass "java/util/Objects" = some m.cls := findClass_of_methodNamed Bd.named
  have hnm := (name_of_methodNamed Bd.named Bd.method).1
  have X0 : Stand p l e ({ frames := 0, cells := 0, slots := 0, locals := 0 } : Room) s m #[(.ref o), (.ref ms)] below meth c s₁ [] 0 0 := Stand.of_body Bd
  have e0 : s₁.heap = h0 := by rw [← hh, Bd.state]; rfl
  have N0 := Fr.nil n0
  have K0 := Keep.refl h0 []
  refine own_G.start (Q := Q_rnn Z o ms h0 n0) (ef_rnn m o ms) ?_
  refine own_G.step (g' := (mkF m 1 #[.val (.ref o), .val (.ref ms)] [(.ref o)])) (fun tq_ kq_ => XS.aloadN X0.here hx rfl (hb hby d4_0) rfl rfl kq_) ?_
  refine own_G.step (g' := (mkF m 13 #[.val (.ref o), .val (.ref ms)] [])) (fun tq_ kq_ => XS.ifnonnullYes X0.here hx rfl (pc0 := 1) (pc' := 13) rfl (hb hby d4_1) rfl (by decide) (by decide) kq_) ?_
  refine own_G.step (g' := (mkF m 14 #[.val (.ref o), .val (.ref ms)] [(.ref o)])) (fun tq_ kq_ => XS.aloadN X0.here hx rfl (hb hby d4_13) rfl rfl kq_) ?_
  exact own_ret X0 e0 (v := some (.ref o)) (fun h => by rw [Bd.returns] at h; cases h) Bd.notSynchronized ⟨rfl, N0, rfl⟩ (by decide) (by decide) (fun fs hr => own_retR X0 hx Bd.returns rfl rfl (hb hby d4_14) hr)
theorem pd__28_29V : parseMethodDescriptor "()V" = some ⟨[], none⟩ := by decide +kernel
theorem pd__28Ljava_2flang_2fObject_3bLjava_2flang_2fString_3b_29Ljava_2flang_2fObject_3b : parseMethodDescriptor "(Ljava/lang/Object;Ljava/lang/String;)Ljava/lang/Object;" = some ⟨[(.object "java/lang/Object"), (.object "java/lang/String")], some (.object "java/lang/Object")⟩ := by decide +kernel
theorem d1_0 : decode prog_6_method_1_code 0 = .ok (.aload_n 0, 1) := by decide +kernel
theorem d1_1 : decode prog_6_method_1_code 1 = .ok (.invokespecial 1, 3) := by decide +kernel
theorem d1_4 : decode prog_6_method_1_code 4 = .ok (.aload_n 1, 1) := by decide +kernel
theorem d1_5 : decode prog_6_method_1_code 5 = .ok (.ldc 7, 2) := by decide +kernel
theorem d1_7 : decode prog_6_method_1_code 7 = .ok (.invokestatic 9, 3) := by decide +kernel
theorem d1_10 : decode prog_6_method_1_code 10 = .ok (.pop, 1) := by decide +kernel
theorem d1_11 : decode prog_6_method_1_code 11 = .ok (.aload_n 0, 1) := by decide +kernel
theorem d1_12 : decode prog_6_method_1_code 12 = .ok (.aload_n 1, 1) := by decide +kernel
theorem d1_13 : decode prog_6_method_1_code 13 = .ok (.putfield 15, 3) := by decide +kernel
theorem d1_16 : decode prog_6_method_1_code 16 = .ok (.aload_n 0, 1) := by decide +kernel
theorem d1_17 : decode prog_6_method_1_code 17 = .ok (.aload_n 2, 1) := by decide +kernel
theorem d1_18 : decode prog_6_method_1_code 18 = .ok (.putfield 20, 3) := by decide +kernel
theorem d1_21 : decode prog_6_method_1_code 21 = .ok (.return_, 1) := by decide +kernel
theorem pn_com_2fexample_2fevenkey_2fevenkey_2fmodel_2fColumn : plainName "com/example/evenkey/evenkey/model/Column" = true := by first | (simp [plainName, overriddenIn]; done) | decide +kernel
theorem ef_coiR (m : MethodId) (a : Addr) (f : Addr) (q : Addr) : entryFrame m #[(.ref a), (.ref f), (.ref q)] 3 = mkF m 0 #[.val (.ref a), .val (.ref f), .val (.ref q)] [] := by
  first | (simp [entryFrame, mkF, argsToLocals, Value.category]; done) | rfl
def Q_coiR (Z : State) (a : Addr) (f : Addr) (q : Addr) (h0 : Heap) (n0 : Nat) (v : Option Value) (h : Heap) (L : List Loc) : Prop := v = none ∧ Fr n0 L ∧ Keep h0 h [a] ∧ Exa Z h a "com/example/evenkey/evenkey/model/Column" ∧ Fld Z h a "com/example/evenkey/evenkey/model/Column" "qualifier" "[B" (.ref q)
set_option maxRecDepth 65536 in
set_option maxHeartbeats 40000000 in
theorem rm_coiR (l : Launch) (Z : State) (a0 : Array Value) (hw : ∀ d ∈ tables_1, d.before a0 Z = true) (ws : List Jvm.Cond) (a : Addr) (f : Addr) (q : Addr) (h0 : Heap) (n0 : Nat) (O0 : Old Z n0 h0) (F1 : Fld Z h0 a "com/example/evenkey/evenkey/model/Column" "family" "Ljava/lang/String;" .null) (F2 : Fld Z h0 a "com/example/evenkey/evenkey/model/Column" "qualifier" "[B" .null) (E0 : Exa Z h0 a "com/example/evenkey/evenkey/model/Column") (ga : n0 ≤ a) :
    MetFree l (⟨"com/example/evenkey/evenkey/model/Column", "<init>", "(Ljava/lang/String;[B)V"⟩ : MethodName) (head1 (Jvm.Cond.code (⟨"com/example/evenkey/evenkey/model/Column", "<init>", "(Ljava/lang/String;[B)V"⟩ : MethodName) prog_6_method_1_code 3 none :: ws) ({ frames := 2, cells := 2, slots := 28, locals := 24 } : Room)) (fun aq_ Uq_ => aq_ = #[(.ref a), (.ref f), (.ref q)] ∧ Z.Warmed39 Uq_.vm ∧ Uq_.heap = h0) (fun _ _ _ _ _ => True) (fun _ Uq_ oq_ Ur_ => ∃ vq_ Lq_, oq_ = .returned vq_ ∧ Q_coiR Z a f q h0 n0 vq_ Ur_.heap Lq_ ∧ ReturnedEndW Uq_ oq_ Ur_ Lq_ ({ frames := 2, cells := 2, slots := 28, locals := 24 } : Room).cells ({ frames := 2, cells := 2, slots := 28, locals := 24 } : Room).slots) := by
  refine MetFree.of_bodySF (plainFor_of_name pn_com_2fexample_2fevenkey_2fevenkey_2fmodel_2fColumn) hisR ?_
  intro p e s m args below meth c s₁ Bd hml0 hP hK
  obtain ⟨rfl, hZ, hh⟩ := hP
  have hx := Bd.exec
  have hby := Bd.bytes
  have hml : c.maxLocals = 3 := hml0
  have hown : s.vm.findClass "com/example/evenkey/evenkey/model/Column" = some m.cls := findClass_of_methodNamed Bd.named
  have hnm := (name_of_methodNamed Bd.named Bd.method).1
  have X0 : Stand p l e ({ frames := 2, cells := 2, slots := 28, locals := 24 } : Room) (s.setVm s.vm) m #[(.ref a), (.ref f), (.ref q)] below meth c s₁ [] 0 0 := Stand.of_body Bd
  have e0 : s₁.heap = h0 := by rw [← hh, Bd.state]; rfl
  have N0 := Fr.nil n0
  have K0 := Keep.refl h0 [a]
  have hS : s.Since s.vm s.heap.size := (State.WarmedH.refl s).since _
  have hkS : s.heap.size ≤ h0.size := by rw [hh]; exact Nat.le_refl _
  have hZ : Z.Warmed39 (s.setVm s.vm).vm := hZ
  have hown : (s.setVm s.vm).vm.findClass "com/example/evenkey/evenkey/model/Column" = some m.cls := hown
  have own_wS : ∀ a ∈ Bundle.stringAtoms, a.before a0 Z = true := fun d hd => hw d ((by decide +kernel : ∀ d ∈ Bundle.stringAtoms, d ∈ tables_1) d hd)
  refine own_GW.start (Q := Q_coiR Z a f q h0 n0) (ef_coiR m a f q) ?_
  refine own_GW.step (g' := (mkF m 1 #[.val (.ref a), .val (.ref f), .val (.ref q)] [(.ref a)])) (fun tq_ kq_ => XS.aloadN X0.here hx rfl (hb hby d1_0) rfl rfl kq_) ?_
  obtain ⟨_, _, ⟨T1, L1, k1, n1⟩, -, X1, ⟨Lc1, hQ1, l1, y1, z1⟩, st1⟩ := X0.specialBack hx (y := (⟨"java/lang/Record", "<init>", "()V"⟩ : MethodName)) rfl hown (mvT hZ (hw _ (List.mem_of_getElem? (i := 15) rfl))) (mvT hZ (hw _ (List.mem_of_getElem? (i := 16) rfl))) (mvT hZ (hw _ (List.mem_of_getElem? (i := 19) rfl))) (by decide) (backOf (W := 0) (rm_recinit l Z a0 hw [] a h0 n0 O0 ) hZ (hw _ (List.mem_of_getElem? (i := 19) rfl)) (hw _ (List.mem_of_getElem? (i := 18) rfl)) (by decide) (by decide)) (g := (mkF m 1 #[.val (.ref a), .val (.ref f), .val (.ref q)] [(.ref a)])) rfl (by rw [hml]; rfl) (Steps.refl _) (a := a) (argsL := []) (rest := []) (lenOf pd__28_29V rfl) rfl (by show 2 * 0 + _ ≤ _; exact Nat.le_of_eq rfl) (hb hby d1_1) (fun _ _ => ⟨rfl, e0, (by decide : 0 + 0 ≤ _), (by decide : 0 + 0 ≤ _)⟩)
  dsimp only [Pt.U, Pt.locs, Pt.cells, Pt.slots] at X1 l1 y1 z1 st1 hQ1
  subst l1 y1 z1
  obtain ⟨rfl, Nq1, P2⟩ := hQ1
  have N1 := Fr.app N0 Nq1
  refine own_GW.step (T' := T1) (g' := (mkF m 4 #[.val (.ref a), .val (.ref f), .val (.ref q)] [])) (fun tq_ kq_ => st1.trans kq_) ?_
  refine own_GW.step (g' := (mkF m 5 #[.val (.ref a), .val (.ref f), .val (.ref q)] [(.ref f)])) (fun tq_ kq_ => XS.aloadN X1.here hx rfl (hb hby d1_4) rfl rfl kq_) ?_
  obtain ⟨a3, T3, h3, k3, X3, e3, E3, hS, hkS, hZ, hown, st3⟩ := ldcS (vm0 := s.vm) X1 hx hZ hown (hw _ (List.mem_of_getElem? (i := 23) rfl)) own_wS P2 hS hkS (g := (mkF m 5 #[.val (.ref a), .val (.ref f), .val (.ref q)] [(.ref f)])) rfl (hb hby d1_5) (n := 24) (by decide +kernel) (by decide) (by decide) (by decide)
  have F4 := F1.ext E3
  have F5 := F2.ext E3
  have F6 := E0.ext E3
  have O7 := O0.ext E3
  have K8 := K0.ext E3
  refine own_GW.step (T' := T3) (g' := (mkF m 7 #[.val (.ref a), .val (.ref f), .val (.ref q)] [(.ref a3), (.ref f)])) st3 ?_
  obtain ⟨_, _, ⟨T9, L9, k9, n9⟩, -, X9, ⟨Lc9, hQ9, l9, y9, z9⟩, st9⟩ := Jvm.LawKit.callS X3 hx (y := (⟨"java/util/Objects", "requireNonNull", "(Ljava/lang/Object;Ljava/lang/String;)Ljava/lang/Object;"⟩ : MethodName)) hown (mvT hZ (hw _ (List.mem_of_getElem? (i := 24) rfl))) (mvT hZ (hw _ (List.mem_of_getElem? (i := 25) rfl))) (mvT hZ (hw _ (List.mem_of_getElem? (i := 26) rfl))) (mvT hZ (hw _ (List.mem_of_getElem? (i := 27) rfl))) (by decide) (backOf (W := 0) (rm_rnn l Z a0 hw [] f a3 h3 n0 O7 ) hZ (hw _ (List.mem_of_getElem? (i := 27) rfl)) (hw _ (List.mem_of_getElem? (i := 26) rfl)) (by decide) (by decide)) (g := (mkF m 7 #[.val (.ref a), .val (.ref f), .val (.ref q)] [(.ref a3), (.ref f)])) rfl (by rw [hml]; rfl) (argsL := [(.ref f), (.ref a3)]) (rest := []) (lenOf pd__28Ljava_2flang_2fObject_3bLjava_2flang_2fString_3b_29Ljava_2flang_2fObject_3b rfl) rfl (by show 2 * 0 + _ ≤ _; exact Nat.le_of_eq rfl) (hb hby d1_7) (fun _ _ => ⟨rfl, e3, (by decide : 2 + 0 ≤ _), (by decide : 28 + 0 ≤ _)⟩)
  dsimp only [Pt.U, Pt.locs, Pt.cells, Pt.slots] at X9 l9 y9 z9 st9 hQ9
  subst l9 y9 z9
  obtain ⟨rfl, Nq9, P10⟩ := hQ9
  have N9 := Fr.app N1 Nq9
  refine own_GW.step (T' := T9) (g' := (mkF m 10 #[.val (.ref a), .val (.ref f), .val (.ref q)] [(.ref f)])) (fun tq_ kq_ => st9 _ kq_) ?_
  refine own_GW.step (g' := (mkF m 11 #[.val (.ref a), .val (.ref f), .val (.ref q)] [])) (fun tq_ kq_ => XS.pop X9.here hx rfl (hb hby d1_10) rfl rfl kq_) ?_
  refine own_GW.step (g' := (mkF m 12 #[.val (.ref a), .val (.ref f), .val (.ref q)] [(.ref a)])) (fun tq_ kq_ => XS.aloadN X9.here hx rfl (hb hby d1_11) rfl rfl kq_) ?_
  refine own_GW.step (g' := (mkF m 13 #[.val (.ref a), .val (.ref f), .val (.ref q)] [(.ref f), (.ref a)])) (fun tq_ kq_ => XS.aloadN X9.here hx rfl (hb hby d1_12) rfl rfl kq_) ?_
  obtain ⟨T11, h11, X11, e11, W11, st11⟩ := putF X9 hx hZ hown (host := "") (Or.inl (hw _ (List.mem_of_getElem? (i := 28) rfl))) Via.refl P10 F4 F6 (Or.inr ⟨(hw _ (List.mem_of_getElem? (i := 29) rfl)), rfl, hnm⟩) (hw _ (List.mem_of_getElem? (i := 10) rfl)) (ty := (.object "java/lang/String")) (by decide) rfl rfl (g := (mkF m 13 #[.val (.ref a), .val (.ref f), .val (.ref q)] [(.ref f), (.ref a)])) rfl rfl (hb hby d1_13)
  have N11 := Fr.snoc X11 N9 ga
  have hkS := Nat.le_trans hkS (Keep.of_wr W11).1
  have F12 := F4.same W11
  have F13 := F5.other W11 (Or.inr (slot_ne (Or.inr (hw _ (List.mem_of_getElem? (i := 31) rfl))) (Or.inr (hw _ (List.mem_of_getElem? (i := 29) rfl))) (by decide) (t := (.array .byte)) (t' := (.object "java/lang/String")) (by decide) (by decide)))
  have F14 := F6.wr W11
  have O15 := O7.wr W11 ga
  have K16 := K8.wr W11 (Or.inl (List.mem_of_getElem? (i := 0) rfl))
  refine own_GW.step (T' := T11) (g' := (mkF m 16 #[.val (.ref a), .val (.ref f), .val (.ref q)] [])) st11 ?_
  refine own_GW.step (g' := (mkF m 17 #[.val (.ref a), .val (.ref f), .val (.ref q)] [(.ref a)])) (fun tq_ kq_ => XS.aloadN X11.here hx rfl (hb hby d1_16) rfl rfl kq_) ?_
  refine own_GW.step (g' := (mkF m 18 #[.val (.ref a), .val (.ref f), .val (.ref q)] [(.ref q), (.ref a)])) (fun tq_ kq_ => XS.aloadN X11.here hx rfl (hb hby d1_17) rfl rfl kq_) ?_
  obtain ⟨T17, h17, X17, e17, W17, st17⟩ := putF X11 hx hZ hown (host := "") (Or.inl (hw _ (List.mem_of_getElem? (i := 30) rfl))) Via.refl e11 F13 F14 (Or.inr ⟨(hw _ (List.mem_of_getElem? (i := 31) rfl)), rfl, hnm⟩) (hw _ (List.mem_of_getElem? (i := 10) rfl)) (ty := (.array .byte)) (by decide) rfl rfl (g := (mkF m 18 #[.val (.ref a), .val (.ref f), .val (.ref q)] [(.ref q), (.ref a)])) rfl rfl (hb hby d1_18)
  have N17 := Fr.snoc X17 N11 ga
  have hkS := Nat.le_trans hkS (Keep.of_wr W17).1
  have F18 := F12.other W17 (Or.inr (slot_ne (Or.inr (hw _ (List.mem_of_getElem? (i := 29) rfl))) (Or.inr (hw _ (List.mem_of_getElem? (i := 31) rfl))) (by decide) (t := (.object "java/lang/String")) (t' := (.array .byte)) (by decide) (by decide)))
  have F19 := F13.same W17
  have F20 := F14.wr W17
  have O21 := O15.wr W17 ga
  have K22 := K16.wr W17 (Or.inl (List.mem_of_getElem? (i := 0) rfl))
  refine own_GW.step (T' := T17) (g' := (mkF m 21 #[.val (.ref a), .val (.ref f), .val (.ref q)] [])) st17 ?_
  exact own_retW X17 hS e17 hkS (v := none) (fun _ => rfl) Bd.notSynchronized ⟨rfl, N17, K22, F20, F19⟩ (by decide) (by decide) (fun fs hr => X17.returnOut hx Bd.returns (hb hby d1_21) hr)
theorem d5_0 : decode prog_6_method_4_code 0 = .ok (.aload_n 0, 1) := by decide +kernel
theorem d5_1 : decode prog_6_method_4_code 1 = .ok (.getfield 20, 3) := by decide +kernel
theorem d5_4 : decode prog_6_method_4_code 4 = .ok (.ifnull 7, 3) := by decide +kernel
theorem d5_7 : decode prog_6_method_4_code 7 = .ok (.iconst 1, 1) := by decide +kernel
theorem d5_8 : decode prog_6_method_4_code 8 = .ok (.goto 4, 3) := by decide +kernel
theorem d5_12 : decode prog_6_method_4_code 12 = .ok (.ireturn, 1) := by decide +kernel
theorem ef_hqR (m : MethodId) (a : Addr) : entryFrame m #[(.ref a)] 1 = mkF m 0 #[.val (.ref a)] [] := by
  first | (simp [entryFrame, mkF, argsToLocals, Value.category]; done) | rfl
def Q_hqR (Z : State) (a : Addr) (q : Addr) (h0 : Heap) (n0 : Nat) (v : Option Value) (h : Heap) (L : List Loc) : Prop := v = some (.int 1) ∧ Fr n0 L ∧ h = h0
set_option maxRecDepth 65536 in
set_option maxHeartbeats 40000000 in
theorem rm_hqR (l : Launch) (Z : State) (a0 : Array Value) (hw : ∀ d ∈ tables_1, d.before a0 Z = true) (ws : List Jvm.Cond) (a : Addr) (q : Addr) (h0 : Heap) (n0 : Nat) (O0 : Old Z n0 h0) (F2 : Fld Z h0 a "com/example/evenkey/evenkey/model/Column" "qualifier" "[B" (.ref q)) :
    MetFree l (⟨"com/example/evenkey/evenkey/model/Column", "hasQualifier", "()Z"⟩ : MethodName) (head1 (Jvm.Cond.code (⟨"com/example/evenkey/evenkey/model/Column", "hasQualifier", "()Z"⟩ : MethodName) prog_6_method_4_code 1 (some .boolean) :: ws) ({ frames := 0, cells := 0, slots := 0, locals := 0 } : Room)) (fun aq_ Uq_ => aq_ = #[(.ref a)] ∧ Z.Warmed39 Uq_.vm ∧ Uq_.heap = h0) (fun _ _ _ _ _ => True) (fun _ Uq_ oq_ Ur_ => ∃ vq_ Lq_, oq_ = .returned vq_ ∧ Q_hqR Z a q h0 n0 vq_ Ur_.heap Lq_ ∧ FrameEnd Uq_ oq_ Ur_ Lq_ ({ frames := 0, cells := 0, slots := 0, locals := 0 } : Room).cells ({ frames := 0, cells := 0, slots := 0, locals := 0 } : Room).slots) := by
  refine MetFree.of_bodySF (plainFor_of_name pn_com_2fexample_2fevenkey_2fevenkey_2fmodel_2fColumn) hisR ?_
  intro p e s m args below meth c s₁ Bd hml0 hP hK
  obtain ⟨rfl, hZ, hh⟩ := hP
  have hx := Bd.exec
  have hby := Bd.bytes
  have hml : c.maxLocals = 1 := hml0
  have hown : s.vm.findClass "com/example/evenkey/evenkey/model/Column" = some m.cls := findClass_of_methodNamed Bd.named
  have hnm := (name_of_methodNamed Bd.named Bd.method).1
  have X0 : Stand p l e ({ frames := 0, cells := 0, slots := 0, locals := 0 } : Room) s m #[(.ref a)] below meth c s₁ [] 0 0 := Stand.of_body Bd
  have e0 : s₁.heap = h0 := by rw [← hh, Bd.state]; rfl
  have N0 := Fr.nil n0
  have K0 := Keep.refl h0 []
  refine own_G.start (Q := Q_hqR Z a q h0 n0) (ef_hqR m a) ?_
  refine own_G.step (g' := (mkF m 1 #[.val (.ref a)] [(.ref a)])) (fun tq_ kq_ => XS.aloadN X0.here hx rfl (hb hby d5_0) rfl rfl kq_) ?_
  obtain ⟨T1, X1, e1, st1⟩ := getF X0 hx hZ hown (host := "") (Or.inl (hw _ (List.mem_of_getElem? (i := 30) rfl))) Via.refl e0 F2 (g := (mkF m 1 #[.val (.ref a)] [(.ref a)])) rfl rfl (hb hby d5_1)
  refine own_G.step (T' := T1) (g' := (mkF m 4 #[.val (.ref a)] [(.ref q)])) st1 ?_
  refine own_G.step (g' := (mkF m 7 #[.val (.ref a)] [])) (fun tq_ kq_ => XS.ifnullNo X1.here hx rfl (hb hby d5_4) rfl kq_) ?_
  refine own_G.step (g' := (mkF m 8 #[.val (.ref a)] [(.int (1 : Int32))])) (fun tq_ kq_ => XS.iconst X1.here hx rfl (hb hby d5_7) kq_) ?_
  refine own_G.step (g' := (mkF m 12 #[.val (.ref a)] [(.int (1 : Int32))])) (fun tq_ kq_ => XS.goto X1.here hx rfl (pc0 := 8) (pc' := 12) rfl (hb hby d5_8) (by decide) (by decide) kq_) ?_
  exact own_ret X1 e1 (v := some (.int (1 : Int32))) (fun h => by rw [Bd.returns] at h; cases h) Bd.notSynchronized ⟨rfl, N0, rfl⟩ (by decide) (by decide) (fun fs hr => retN X1 hx (t := .boolean) Bd.returns (by simp) (hb hby d5_12) hr)
theorem ef_coiN (m : MethodId) (a : Addr) (f : Addr) : entryFrame m #[(.ref a), (.ref f), .null] 3 = mkF m 0 #[.val (.ref a), .val (.ref f), .val .null] [] := by
  first | (simp [entryFrame, mkF, argsToLocals, Value.category]; done) | rfl
def Q_coiN (Z : State) (a : Addr) (f : Addr) (h0 : Heap) (n0 : Nat) (v : Option Value) (h : Heap) (L : List Loc) : Prop := v = none ∧ Fr n0 L ∧ Keep h0 h [a] ∧ Exa Z h a "com/example/evenkey/evenkey/model/Column" ∧ Fld Z h a "com/example/evenkey/evenkey/model/Column" "qualifier" "[B" .null
set_option maxRecDepth 65536 in
set_option maxHeartbeats 40000000 in
theorem rm_coiN (l : Launch) (Z : State) (a0 : Array Value) (hw : ∀ d ∈ tables_1, d.before a0 Z = true) (ws : List Jvm.Cond) (a : Addr) (f : Addr) (h0 : Heap) (n0 : Nat) (O0 : Old Z n0 h0) (F1 : Fld Z h0 a "com/example/evenkey/evenkey/model/Column" "family" "Ljava/lang/String;" .null) (F2 : Fld Z h0 a "com/example/evenkey/evenkey/model/Column" "qualifier" "[B" .null) (E0 : Exa Z h0 a "com/example/evenkey/evenkey/model/Column") (ga : n0 ≤ a) :
    MetFree l (⟨"com/example/evenkey/evenkey/model/Column", "<init>", "(Ljava/lang/String;[B)V"⟩ : MethodName) (head1 (Jvm.Cond.code (⟨"com/example/evenkey/evenkey/model/Column", "<init>", "(Ljava/lang/String;[B)V"⟩ : MethodName) prog_6_method_1_code 3 none :: ws) ({ frames := 2, cells := 2, slots := 28, locals := 24 } : Room)) (fun aq_ Uq_ => aq_ = #[(.ref a), (.ref f), .null] ∧ Z.Warmed39 Uq_.vm ∧ Uq_.heap = h0) (fun _ _ _ _ _ => True) (fun _ Uq_ oq_ Ur_ => ∃ vq_ Lq_, oq_ = .returned vq_ ∧ Q_coiN Z a f h0 n0 vq_ Ur_.heap Lq_ ∧ ReturnedEndW Uq_ oq_ Ur_ Lq_ ({ frames := 2, cells := 2, slots := 28, locals := 24 } : Room).cells ({ frames := 2, cells := 2, slots := 28, locals := 24 } : Room).slots) := by
  refine MetFree.of_bodySF (plainFor_of_name pn_com_2fexample_2fevenkey_2fevenkey_2fmodel_2fColumn) hisR ?_
  intro p e s m args below meth c s₁ Bd hml0 hP hK
  obtain ⟨rfl, hZ, hh⟩ := hP
  have hx := Bd.exec
  have hby := Bd.bytes
  have hml : c.maxLocals = 3 := hml0
  have hown : s.vm.findClass "com/example/evenkey/evenkey/model/Column" = some m.cls := findClass_of_methodNamed Bd.named
  have hnm := (name_of_methodNamed Bd.named Bd.method).1
  have X0 : Stand p l e ({ frames := 2, cells := 2, slots := 28, locals := 24 } : Room) (s.setVm s.vm) m #[(.ref a), (.ref f), .null] below meth c s₁ [] 0 0 := Stand.of_body Bd
  have e0 : s₁.heap = h0 := by rw [← hh, Bd.state]; rfl
  have N0 := Fr.nil n0
  have K0 := Keep.refl h0 [a]
  have hS : s.Since s.vm s.heap.size := (State.WarmedH.refl s).since _
  have hkS : s.heap.size ≤ h0.size := by rw [hh]; exact Nat.le_refl _
  have hZ : Z.Warmed39 (s.setVm s.vm).vm := hZ
  have hown : (s.setVm s.vm).vm.findClass "com/example/evenkey/evenkey/model/Column" = some m.cls := hown
  have own_wS : ∀ a ∈ Bundle.stringAtoms, a.before a0 Z = true := fun d hd => hw d ((by decide +kernel : ∀ d ∈ Bundle.stringAtoms, d ∈ tables_1) d hd)
  refine own_GW.start (Q := Q_coiN Z a f h0 n0) (ef_coiN m a f) ?_
  refine own_GW.step (g' := (mkF m 1 #[.val (.ref a), .val (.ref f), .val .null] [(.ref a)])) (fun tq_ kq_ => XS.aloadN X0.here hx rfl (hb hby d1_0) rfl rfl kq_) ?_
  obtain ⟨_, _, ⟨T1, L1, k1, n1⟩, -, X1, ⟨Lc1, hQ1, l1, y1, z1⟩, st1⟩ := X0.specialBack hx (y := (⟨"java/lang/Record", "<init>", "()V"⟩ : MethodName)) rfl hown (mvT hZ (hw _ (List.mem_of_getElem? (i := 15) rfl))) (mvT hZ (hw _ (List.mem_of_getElem? (i := 16) rfl))) (mvT hZ (hw _ (List.mem_of_getElem? (i := 19) rfl))) (by decide) (backOf (W := 0) (rm_recinit l Z a0 hw [] a h0 n0 O0 ) hZ (hw _ (List.mem_of_getElem? (i := 19) rfl)) (hw _ (List.mem_of_getElem? (i := 18) rfl)) (by decide) (by decide)) (g := (mkF m 1 #[.val (.ref a), .val (.ref f), .val .null] [(.ref a)])) rfl (by rw [hml]; rfl) (Steps.refl _) (a := a) (argsL := []) (rest := []) (lenOf pd__28_29V rfl) rfl (by show 2 * 0 + _ ≤ _; exact Nat.le_of_eq rfl) (hb hby d1_1) (fun _ _ => ⟨rfl, e0, (by decide : 0 + 0 ≤ _), (by decide : 0 + 0 ≤ _)⟩)
  dsimp only [Pt.U, Pt.locs, Pt.cells, Pt.slots] at X1 l1 y1 z1 st1 hQ1
  subst l1 y1 z1
  obtain ⟨rfl, Nq1, P2⟩ := hQ1
  have N1 := Fr.app N0 Nq1
  refine own_GW.step (T' := T1) (g' := (mkF m 4 #[.val (.ref a), .val (.ref f), .val .null] [])) (fun tq_ kq_ => st1.trans kq_) ?_
  refine own_GW.step (g' := (mkF m 5 #[.val (.ref a), .val (.ref f), .val .null] [(.ref f)])) (fun tq_ kq_ => XS.aloadN X1.here hx rfl (hb hby d1_4) rfl rfl kq_) ?_
  obtain ⟨a3, T3, h3, k3, X3, e3, E3, hS, hkS, hZ, hown, st3⟩ := ldcS (vm0 := s.vm) X1 hx hZ hown (hw _ (List.mem_of_getElem? (i := 23) rfl)) own_wS P2 hS hkS (g := (mkF m 5 #[.val (.ref a), .val (.ref f), .val .null] [(.ref f)])) rfl (hb hby d1_5) (n := 24) (by decide +kernel) (by decide) (by decide) (by decide)
  have F4 := F1.ext E3
  have F5 := F2.ext E3
  have F6 := E0.ext E3
  have O7 := O0.ext E3
  have K8 := K0.ext E3
  refine own_GW.step (T' := T3) (g' := (mkF m 7 #[.val (.ref a), .val (.ref f), .val .null] [(.ref a3), (.ref f)])) st3 ?_
  obtain ⟨_, _, ⟨T9, L9, k9, n9⟩, -, X9, ⟨Lc9, hQ9, l9, y9, z9⟩, st9⟩ := Jvm.LawKit.callS X3 hx (y := (⟨"java/util/Objects", "requireNonNull", "(Ljava/lang/Object;Ljava/lang/String;)Ljava/lang/Object;"⟩ : MethodName)) hown (mvT hZ (hw _ (List.mem_of_getElem? (i := 24) rfl))) (mvT hZ (hw _ (List.mem_of_getElem? (i := 25) rfl))) (mvT hZ (hw _ (List.mem_of_getElem? (i := 26) rfl))) (mvT hZ (hw _ (List.mem_of_getElem? (i := 27) rfl))) (by decide) (backOf (W := 0) (rm_rnn l Z a0 hw [] f a3 h3 n0 O7 ) hZ (hw _ (List.mem_of_getElem? (i := 27) rfl)) (hw _ (List.mem_of_getElem? (i := 26) rfl)) (by decide) (by decide)) (g := (mkF m 7 #[.val (.ref a), .val (.ref f), .val .null] [(.ref a3), (.ref f)])) rfl (by rw [hml]; rfl) (argsL := [(.ref f), (.ref a3)]) (rest := []) (lenOf pd__28Ljava_2flang_2fObject_3bLjava_2flang_2fString_3b_29Ljava_2flang_2fObject_3b rfl) rfl (by show 2 * 0 + _ ≤ _; exact Nat.le_of_eq rfl) (hb hby d1_7) (fun _ _ => ⟨rfl, e3, (by decide : 2 + 0 ≤ _), (by decide : 28 + 0 ≤ _)⟩)
  dsimp only [Pt.U, Pt.locs, Pt.cells, Pt.slots] at X9 l9 y9 z9 st9 hQ9
  subst l9 y9 z9
  obtain ⟨rfl, Nq9, P10⟩ := hQ9
  have N9 := Fr.app N1 Nq9
  refine own_GW.step (T' := T9) (g' := (mkF m 10 #[.val (.ref a), .val (.ref f), .val .null] [(.ref f)])) (fun tq_ kq_ => st9 _ kq_) ?_
  refine own_GW.step (g' := (mkF m 11 #[.val (.ref a), .val (.ref f), .val .null] [])) (fun tq_ kq_ => XS.pop X9.here hx rfl (hb hby d1_10) rfl rfl kq_) ?_
  refine own_GW.step (g' := (mkF m 12 #[.val (.ref a), .val (.ref f), .val .null] [(.ref a)])) (fun tq_ kq_ => XS.aloadN X9.here hx rfl (hb hby d1_11) rfl rfl kq_) ?_
  refine own_GW.step (g' := (mkF m 13 #[.val (.ref a), .val (.ref f), .val .null] [(.ref f), (.ref a)])) (fun tq_ kq_ => XS.aloadN X9.here hx rfl (hb hby d1_12) rfl rfl kq_) ?_
  obtain ⟨T11, h11, X11, e11, W11, st11⟩ := putF X9 hx hZ hown (host := "") (Or.inl (hw _ (List.mem_of_getElem? (i := 28) rfl))) Via.refl P10 F4 F6 (Or.inr ⟨(hw _ (List.mem_of_getElem? (i := 29) rfl)), rfl, hnm⟩) (hw _ (List.mem_of_getElem? (i := 10) rfl)) (ty := (.object "java/lang/String")) (by decide) rfl rfl (g := (mkF m 13 #[.val (.ref a), .val (.ref f), .val .null] [(.ref f), (.ref a)])) rfl rfl (hb hby d1_13)
  have N11 := Fr.snoc X11 N9 ga
  have hkS := Nat.le_trans hkS (Keep.of_wr W11).1
  have F12 := F4.same W11
  have F13 := F5.other W11 (Or.inr (slot_ne (Or.inr (hw _ (List.mem_of_getElem? (i := 31) rfl))) (Or.inr (hw _ (List.mem_of_getElem? (i := 29) rfl))) (by decide) (t := (.array .byte)) (t' := (.object "java/lang/String")) (by decide) (by decide)))
  have F14 := F6.wr W11
  have O15 := O7.wr W11 ga
  have K16 := K8.wr W11 (Or.inl (List.mem_of_getElem? (i := 0) rfl))
  refine own_GW.step (T' := T11) (g' := (mkF m 16 #[.val (.ref a), .val (.ref f), .val .null] [])) st11 ?_
  refine own_GW.step (g' := (mkF m 17 #[.val (.ref a), .val (.ref f), .val .null] [(.ref a)])) (fun tq_ kq_ => XS.aloadN X11.here hx rfl (hb hby d1_16) rfl rfl kq_) ?_
  refine own_GW.step (g' := (mkF m 18 #[.val (.ref a), .val (.ref f), .val .null] [.null, (.ref a)])) (fun tq_ kq_ => XS.aloadN X11.here hx rfl (hb hby d1_17) rfl rfl kq_) ?_
  obtain ⟨T17, h17, X17, e17, W17, st17⟩ := putF X11 hx hZ hown (host := "") (Or.inl (hw _ (List.mem_of_getElem? (i := 30) rfl))) Via.refl e11 F13 F14 (Or.inr ⟨(hw _ (List.mem_of_getElem? (i := 31) rfl)), rfl, hnm⟩) (hw _ (List.mem_of_getElem? (i := 10) rfl)) (ty := (.array .byte)) (by decide) rfl rfl (g := (mkF m 18 #[.val (.ref a), .val (.ref f), .val .null] [.null, (.ref a)])) rfl rfl (hb hby d1_18)
  have N17 := Fr.snoc X17 N11 ga
  have hkS := Nat.le_trans hkS (Keep.of_wr W17).1
  have F18 := F12.other W17 (Or.inr (slot_ne (Or.inr (hw _ (List.mem_of_getElem? (i := 29) rfl))) (Or.inr (hw _ (List.mem_of_getElem? (i := 31) rfl))) (by decide) (t := (.object "java/lang/String")) (t' := (.array .byte)) (by decide) (by decide)))
  have F19 := F13.same W17
  have F20 := F14.wr W17
  have O21 := O15.wr W17 ga
  have K22 := K16.wr W17 (Or.inl (List.mem_of_getElem? (i := 0) rfl))
  refine own_GW.step (T' := T17) (g' := (mkF m 21 #[.val (.ref a), .val (.ref f), .val .null] [])) st17 ?_
  exact own_retW X17 hS e17 hkS (v := none) (fun _ => rfl) Bd.notSynchronized ⟨rfl, N17, K22, F20, F19⟩ (by decide) (by decide) (fun fs hr => X17.returnOut hx Bd.returns (hb hby d1_21) hr)
theorem d5_11 : decode prog_6_method_4_code 11 = .ok (.iconst 0, 1) := by decide +kernel
theorem ef_hqN (m : MethodId) (a : Addr) : entryFrame m #[(.ref a)] 1 = mkF m 0 #[.val (.ref a)] [] := by
  first | (simp [entryFrame, mkF, argsToLocals, Value.category]; done) | rfl
def Q_hqN (Z : State) (a : Addr) (h0 : Heap) (n0 : Nat) (v : Option Value) (h : Heap) (L : List Loc) : Prop := v = some (.int 0) ∧ Fr n0 L ∧ h = h0
set_option maxRecDepth 65536 in
set_option maxHeartbeats 40000000 in
theorem rm_hqN (l : Launch) (Z : State) (a0 : Array Value) (hw : ∀ d ∈ tables_1, d.before a0 Z = true) (ws : List Jvm.Cond) (a : Addr) (h0 : Heap) (n0 : Nat) (O0 : Old Z n0 h0) (F2 : Fld Z h0 a "com/example/evenkey/evenkey/model/Column" "qualifier" "[B" .null) :
    MetFree l (⟨"com/example/evenkey/evenkey/model/Column", "hasQualifier", "()Z"⟩ : MethodName) (head1 (Jvm.Cond.code (⟨"com/example/evenkey/evenkey/model/Column", "hasQualifier", "()Z"⟩ : MethodName) prog_6_method_4_code 1 (some .boolean) :: ws) ({ frames := 0, cells := 0, slots := 0, locals := 0 } : Room)) (fun aq_ Uq_ => aq_ = #[(.ref a)] ∧ Z.Warmed39 Uq_.vm ∧ Uq_.heap = h0) (fun _ _ _ _ _ => True) (fun _ Uq_ oq_ Ur_ => ∃ vq_ Lq_, oq_ = .returned vq_ ∧ Q_hqN Z a h0 n0 vq_ Ur_.heap Lq_ ∧ FrameEnd Uq_ oq_ Ur_ Lq_ ({ frames := 0, cells := 0, slots := 0, locals := 0 } : Room).cells ({ frames := 0, cells := 0, slots := 0, locals := 0 } : Room).slots) := by
  refine MetFree.of_bodySF (plainFor_of_name pn_com_2fexample_2fevenkey_2fevenkey_2fmodel_2fColumn) hisR ?_
  intro p e s m args below meth c s₁ Bd hml0 hP hK
  obtain ⟨rfl, hZ, hh⟩ := hP
  have hx := Bd.exec
  have hby := Bd.bytes
  have hml : c.maxLocals = 1 := hml0
  have hown : s.vm.findClass "com/example/evenkey/evenkey/model/Column" = some m.cls := findClass_of_methodNamed Bd.named
  have hnm := (name_of_methodNamed Bd.named Bd.method).1
  have X0 : Stand p l e ({ frames := 0, cells := 0, slots := 0, locals := 0 } : Room) s m #[(.ref a)] below meth c s₁ [] 0 0 := Stand.of_body Bd
  have e0 : s₁.heap = h0 := by rw [← hh, Bd.state]; rfl
  have N0 := Fr.nil n0
  have K0 := Keep.refl h0 []
  refine own_G.start (Q := Q_hqN Z a h0 n0) (ef_hqN m a) ?_
  refine own_G.step (g' := (mkF m 1 #[.val (.ref a)] [(.ref a)])) (fun tq_ kq_ => XS.aloadN X0.here hx rfl (hb hby d5_0) rfl rfl kq_) ?_
  obtain ⟨T1, X1, e1, st1⟩ := getF X0 hx hZ hown (host := "") (Or.inl (hw _ (List.mem_of_getElem? (i := 30) rfl))) Via.refl e0 F2 (g := (mkF m 1 #[.val (.ref a)] [(.ref a)])) rfl rfl (hb hby d5_1)
  refine own_G.step (T' := T1) (g' := (mkF m 4 #[.val (.ref a)] [.null])) st1 ?_
  refine own_G.step (g' := (mkF m 11 #[.val (.ref a)] [])) (fun tq_ kq_ => XS.ifnullYes X1.here hx rfl (pc0 := 4) (pc' := 11) rfl (hb hby d5_4) rfl (by decide) (by decide) kq_) ?_
  refine own_G.step (g' := (mkF m 12 #[.val (.ref a)] [(.int (0 : Int32))])) (fun tq_ kq_ => XS.iconst X1.here hx rfl (hb hby d5_11) kq_) ?_
  exact own_ret X1 e1 (v := some (.int (0 : Int32))) (fun h => by rw [Bd.returns] at h; cases h) Bd.notSynchronized ⟨rfl, N0, rfl⟩ (by decide) (by decide) (fun fs hr => retN X1 hx (t := .boolean) Bd.returns (by simp) (hb hby d5_12) hr)
theorem pd__28Ljava_2flang_2fString_3b_5bB_29V : parseMethodDescriptor "(Ljava/lang/String;[B)V" = some ⟨[(.object "java/lang/String"), (.array .byte)], none⟩ := by decide +kernel
theorem pd__28_29Z : parseMethodDescriptor "()Z" = some ⟨[], some .boolean⟩ := by decide +kernel
theorem pd__28_5bC_29V : parseMethodDescriptor "([C)V" = some ⟨[(.array .char)], none⟩ := by decide +kernel
theorem pn_com_2fexample_2fevenkey_2fevenkey_2fmodel_2fColumnHasQualifierPinLaw : plainName "com/example/evenkey/evenkey/model/ColumnHasQualifierPinLaw" = true := by first | (simp [plainName, overriddenIn]; done) | decide +kernel
theorem ef_law (m : MethodId) (i0 : Int32) (i1 : Int32) (i2 : Int32) (i3 : Int32) (i4 : Int32) (i5 : Int32) : entryFrame m #[(.int i0), (.int i1), (.int i2), (.int i3), (.int i4), (.int i5)] maxLocals = mkF m 0 #[.val (.int i0), .val (.int i1), .val (.int i2), .val (.int i3), .val (.int i4), .val (.int i5), .unset, .unset, .unset, .unset, .unset, .unset] [] := by
  first | (simp [entryFrame, mkF, argsToLocals, Value.category, maxLocals]; done) | rfl
def Q_law (Z : State) (i0 : Int32) (i1 : Int32) (i2 : Int32) (i3 : Int32) (i4 : Int32) (i5 : Int32) (csz : Int32) (h0 : Heap) (n0 : Nat) (v : Option Value) (h : Heap) (L : List Loc) : Prop := v = some (.int 1) ∧ Fr n0 L
set_option maxRecDepth 65536 in
set_option maxHeartbeats 40000000 in
theorem rm_law (l : Launch) (Z : State) (a0 : Array Value) (hw : ∀ d ∈ tables_1, d.before a0 Z = true) (ws : List Jvm.Cond) (i0 : Int32) (i1 : Int32) (i2 : Int32) (i3 : Int32) (i4 : Int32) (i5 : Int32) (csz : Int32) (h0 : Heap) (n0 : Nat) (O0 : Old Z n0 h0) (S_CS : Sta Z Z.heap "java/lang/String" "COMPACT_STRINGS" "Z" (.int csz)) (hcs : ¬ csz = (0 : Int32)) :
    MetFree l x (head1 (Jvm.Cond.code x code maxLocals ret :: ws) room_1) (fun aq_ Uq_ => aq_ = #[(.int i0), (.int i1), (.int i2), (.int i3), (.int i4), (.int i5)] ∧ Z.Warmed39 Uq_.vm ∧ Uq_.heap = h0) (fun _ _ _ _ _ => True) (fun _ Uq_ oq_ Ur_ => ∃ vq_ Lq_, oq_ = .returned vq_ ∧ Q_law Z i0 i1 i2 i3 i4 i5 csz h0 n0 vq_ Ur_.heap Lq_ ∧ ReturnedEndW Uq_ oq_ Ur_ Lq_ 7 41) := by
  refine MetFree.of_bodySF (plainFor_of_name pn_com_2fexample_2fevenkey_2fevenkey_2fmodel_2fColumnHasQualifierPinLaw) hisR ?_
  intro p e s m args below meth c s₁ Bd hml0 hP hK
  obtain ⟨rfl, hZ, hh⟩ := hP
  have hx := Bd.exec
  have hby := Bd.bytes
  have hml : c.maxLocals = 12 := hml0
  have hown : s.vm.findClass "com/example/evenkey/evenkey/model/ColumnHasQualifierPinLaw" = some m.cls := findClass_of_methodNamed Bd.named
  have hnm := (name_of_methodNamed Bd.named Bd.method).1
  have X0 : Stand p l e room_1 (s.setVm s.vm) m #[(.int i0), (.int i1), (.int i2), (.int i3), (.int i4), (.int i5)] below meth c s₁ [] 0 0 := Stand.of_body Bd
  have e0 : s₁.heap = h0 := by rw [← hh, Bd.state]; rfl
  have N0 := Fr.nil n0
  have K0 := Keep.refl h0 []
  have hS : s.Since s.vm s.heap.size := (State.WarmedH.refl s).since _
  have hkS : s.heap.size ≤ h0.size := by rw [hh]; exact Nat.le_refl _
  have hZ : Z.Warmed39 (s.setVm s.vm).vm := hZ
  have hown : (s.setVm s.vm).vm.findClass "com/example/evenkey/evenkey/model/ColumnHasQualifierPinLaw" = some m.cls := hown
  have own_wS : ∀ a ∈ Bundle.stringAtoms, a.before a0 Z = true := fun d hd => hw d ((by decide +kernel : ∀ d ∈ Bundle.stringAtoms, d ∈ tables_1) d hd)
  refine own_GW.start (Q := Q_law Z i0 i1 i2 i3 i4 i5 csz h0 n0) (ef_law m i0 i1 i2 i3 i4 i5) ?_
  refine own_GW.step (g' := (mkF m 1 #[.val (.int i0), .val (.int i1), .val (.int i2), .val (.int i3), .val (.int i4), .val (.int i5), .unset, .unset, .unset, .unset, .unset, .unset] [(.int i0)])) (fun tq_ kq_ => XS.iloadN X0.here hx rfl (hb hby at_0) rfl kq_) ?_
  refine own_GW.step (g' := (mkF m 2 #[.val (.int i0), .val (.int i1), .val (.int i2), .val (.int i3), .val (.int i4), .val (.int i5), .unset, .unset, .unset, .unset, .unset, .unset] [(.int (1 : Int32)), (.int i0)])) (fun tq_ kq_ => XS.iconst X0.here hx rfl (hb hby at_1) kq_) ?_
  refine own_GW.step (g' := (mkF m 3 #[.val (.int i0), .val (.int i1), .val (.int i2), .val (.int i3), .val (.int i4), .val (.int i5), .unset, .unset, .unset, .unset, .unset, .unset] [(.int (i0 &&& (1 : Int32)))])) (fun tq_ kq_ => XS.iand X0.here hx rfl (hb hby at_2) rfl kq_) ?_
  rcases Classical.em ((i0 &&& (1 : Int32)) = (0 : Int32)) with hc3 | hc3
  · refine own_GW.step (g' := (mkF m 10 #[.val (.int i0), .val (.int i1), .val (.int i2), .val (.int i3), .val (.int i4), .val (.int i5), .unset, .unset, .unset, .unset, .unset, .unset] [])) (fun tq_ kq_ => XS.ifYes X0.here hx rfl (pc0 := 3) (pc' := 10) rfl (hb hby at_3) rfl ((if0 _ _).trans (teq hc3).1) (by decide) (by decide) kq_) ?_
    refine own_GW.step (g' := (mkF m 11 #[.val (.int i0), .val (.int i1), .val (.int i2), .val (.int i3), .val (.int i4), .val (.int i5), .unset, .unset, .unset, .unset, .unset, .unset] [(.int (0 : Int32))])) (fun tq_ kq_ => XS.iconst X0.here hx rfl (hb hby at_10) kq_) ?_
    refine own_GW.step (g' := (mkF m 13 #[.val (.int i0), .val (.int i1), .val (.int i2), .val (.int i3), .val (.int i4), .val (.int i5), .val (.int (0 : Int32)), .unset, .unset, .unset, .unset, .unset] [])) (fun tq_ kq_ => XS.istore X0.here hx rfl (hb hby at_11) rfl (l' := #[.val (.int i0), .val (.int i1), .val (.int i2), .val (.int i3), .val (.int i4), .val (.int i5), .val (.int (0 : Int32)), .unset, .unset, .unset, .unset, .unset]) rfl kq_) ?_
    refine own_GW.step (g' := (mkF m 14 #[.val (.int i0), .val (.int i1), .val (.int i2), .val (.int i3), .val (.int i4), .val (.int i5), .val (.int (0 : Int32)), .unset, .unset, .unset, .unset, .unset] [(.int i1)])) (fun tq_ kq_ => XS.iloadN X0.here hx rfl (hb hby at_13) rfl kq_) ?_
    refine own_GW.step (g' := (mkF m 15 #[.val (.int i0), .val (.int i1), .val (.int i2), .val (.int i3), .val (.int i4), .val (.int i5), .val (.int (0 : Int32)), .unset, .unset, .unset, .unset, .unset] [(.int (3 : Int32)), (.int i1)])) (fun tq_ kq_ => XS.iconst X0.here hx rfl (hb hby at_14) kq_) ?_
    refine own_GW.step (g' := (mkF m 16 #[.val (.int i0), .val (.int i1), .val (.int i2), .val (.int i3), .val (.int i4), .val (.int i5), .val (.int (0 : Int32)), .unset, .unset, .unset, .unset, .unset] [(.int (i1 &&& (3 : Int32)))])) (fun tq_ kq_ => XS.iand X0.here hx rfl (hb hby at_15) rfl kq_) ?_
    refine own_GW.step (g' := (mkF m 18 #[.val (.int i0), .val (.int i1), .val (.int i2), .val (.int i3), .val (.int i4), .val (.int i5), .val (.int (0 : Int32)), .val (.int (i1 &&& (3 : Int32))), .unset, .unset, .unset, .unset] [])) (fun tq_ kq_ => XS.istore X0.here hx rfl (hb hby at_16) rfl (l' := #[.val (.int i0), .val (.int i1), .val (.int i2), .val (.int i3), .val (.int i4), .val (.int i5), .val (.int (0 : Int32)), .val (.int (i1 &&& (3 : Int32))), .unset, .unset, .unset, .unset]) rfl kq_) ?_
    have hws : ∀ d ∈ StrChars.Road.words, d.before a0 Z = true := fun d hd => hw d ((by decide +kernel : ∀ d ∈ StrChars.Road.words, d ∈ tables_1) d hd)
    refine own_GW.step (g' := (mkF m 19 #[.val (.int i0), .val (.int i1), .val (.int i2), .val (.int i3), .val (.int i4), .val (.int i5), .val (.int (0 : Int32)), .val (.int (i1 &&& (3 : Int32))), .unset, .unset, .unset, .unset] [(.int (2 : Int32))])) (fun tq_ kq_ => XS.iconst X0.here hx rfl (hb hby at_18) kq_) ?_
    obtain ⟨T1, h1, k1, X1, e1, E1, A1, st1⟩ := newP X0 hx hZ (hw _ (List.mem_of_getElem? (i := 0) rfl)) e0 (g := (mkF m 19 #[.val (.int i0), .val (.int i1), .val (.int i2), .val (.int i3), .val (.int i4), .val (.int i5), .val (.int (0 : Int32)), .val (.int (i1 &&& (3 : Int32))), .unset, .unset, .unset, .unset] [(.int (2 : Int32))])) rfl (hb hby at_19) rfl (by decide) (cap := 2) (by decide) (by decide) (by decide) (by decide)
    obtain ⟨b1, g1⟩ : ∃ z, z = h0.size := ⟨_, rfl⟩
    rw [← g1] at A1 st1
    have g2 : n0 ≤ b1 := Nat.le_trans O0.le (Nat.le_of_eq g1.symm)
    have z3 : h0.size ≤ b1 := Nat.le_trans K0.1 (Nat.le_of_eq g1.symm)
    have hkS := Nat.le_trans hkS E1.1
    have O4 := O0.ext E1
    have K5 := K0.ext E1
    have F6 : Arv Z h1 b1 k1 .char (2 : Int32) [(.int (0 : Int32)), (.int (0 : Int32))] (.int (0 : Int32)) := (Arv.new A1 (by decide)).pad (pad_rep [] (.int (0 : Int32)) 2)
    refine own_GW.step (T' := T1) (g' := (mkF m 21 #[.val (.int i0), .val (.int i1), .val (.int i2), .val (.int i3), .val (.int i4), .val (.int i5), .val (.int (0 : Int32)), .val (.int (i1 &&& (3 : Int32))), .unset, .unset, .unset, .unset] [(.ref b1)])) st1 ?_
    refine own_GW.step (g' := (mkF m 22 #[.val (.int i0), .val (.int i1), .val (.int i2), .val (.int i3), .val (.int i4), .val (.int i5), .val (.int (0 : Int32)), .val (.int (i1 &&& (3 : Int32))), .unset, .unset, .unset, .unset] [(.ref b1), (.ref b1)])) (fun tq_ kq_ => XS.dup X1.here hx rfl (hb hby at_21) rfl rfl kq_) ?_
    refine own_GW.step (g' := (mkF m 23 #[.val (.int i0), .val (.int i1), .val (.int i2), .val (.int i3), .val (.int i4), .val (.int i5), .val (.int (0 : Int32)), .val (.int (i1 &&& (3 : Int32))), .unset, .unset, .unset, .unset] [(.int (0 : Int32)), (.ref b1), (.ref b1)])) (fun tq_ kq_ => XS.iconst X1.here hx rfl (hb hby at_22) kq_) ?_
    refine own_GW.step (g' := (mkF m 25 #[.val (.int i0), .val (.int i1), .val (.int i2), .val (.int i3), .val (.int i4), .val (.int i5), .val (.int (0 : Int32)), .val (.int (i1 &&& (3 : Int32))), .unset, .unset, .unset, .unset] [(.int i4), (.int (0 : Int32)), (.ref b1), (.ref b1)])) (fun tq_ kq_ => XS.iload X1.here hx rfl (hb hby at_23) rfl kq_) ?_
    refine own_GW.step (g' := (mkF m 28 #[.val (.int i0), .val (.int i1), .val (.int i2), .val (.int i3), .val (.int i4), .val (.int i5), .val (.int (0 : Int32)), .val (.int (i1 &&& (3 : Int32))), .unset, .unset, .unset, .unset] [(.int (255 : Int32)), (.int i4), (.int (0 : Int32)), (.ref b1), (.ref b1)])) (fun tq_ kq_ => XS.sipush X1.here hx rfl (hb hby at_25) kq_) ?_
    refine own_GW.step (g' := (mkF m 29 #[.val (.int i0), .val (.int i1), .val (.int i2), .val (.int i3), .val (.int i4), .val (.int i5), .val (.int (0 : Int32)), .val (.int (i1 &&& (3 : Int32))), .unset, .unset, .unset, .unset] [(.int (i4 &&& (255 : Int32))), (.int (0 : Int32)), (.ref b1), (.ref b1)])) (fun tq_ kq_ => XS.iand X1.here hx rfl (hb hby at_28) rfl kq_) ?_
    refine own_GW.step (g' := (mkF m 30 #[.val (.int i0), .val (.int i1), .val (.int i2), .val (.int i3), .val (.int i4), .val (.int i5), .val (.int (0 : Int32)), .val (.int (i1 &&& (3 : Int32))), .unset, .unset, .unset, .unset] [(.int ((i4 &&& (255 : Int32)).toUInt32.toUInt16.toUInt32.toInt32)), (.int (0 : Int32)), (.ref b1), (.ref b1)])) (fun tq_ kq_ => XS.i2c X1.here hx rfl (hb hby at_29) rfl kq_) ?_
    obtain ⟨cl7, Ar7, q17, Sz7, Nz7, Hh7, Gg7⟩ := id F6
    obtain ⟨T7, h7, X7, e7, W7, st7⟩ := stC X1 hx hZ e1 Ar7 (j := (0 : Int32)) (inb_of Sz7 ⟨by decide, by decide⟩) (g := (mkF m 30 #[.val (.int i0), .val (.int i1), .val (.int i2), .val (.int i3), .val (.int i4), .val (.int i5), .val (.int (0 : Int32)), .val (.int (i1 &&& (3 : Int32))), .unset, .unset, .unset, .unset] [(.int ((i4 &&& (255 : Int32)).toUInt32.toUInt16.toUInt32.toInt32)), (.int (0 : Int32)), (.ref b1), (.ref b1)])) rfl rfl (hb hby at_30)
    have F8 : Arv Z h7 b1 k1 .char (2 : Int32) [(.int (nar .char ((i4 &&& (255 : Int32)).toUInt32.toUInt16.toUInt32.toInt32))), (.int (0 : Int32))] (.int (0 : Int32)) := Arv.set Ar7 q17 Sz7 Nz7 Hh7 Gg7 (fits_nar_char _) W7 0 rfl (Nat.le_of_ble_eq_true rfl)
    have N7 := Fr.snoc X7 N0 g2
    have hkS := Nat.le_trans hkS (Keep.of_wr W7).1
    have O10 := O4.wr W7 g2
    have K11 := K5.wr W7 (Or.inr z3)
    refine own_GW.step (T' := T7) (g' := (mkF m 31 #[.val (.int i0), .val (.int i1), .val (.int i2), .val (.int i3), .val (.int i4), .val (.int i5), .val (.int (0 : Int32)), .val (.int (i1 &&& (3 : Int32))), .unset, .unset, .unset, .unset] [(.ref b1)])) st7 ?_
    refine own_GW.step (g' := (mkF m 32 #[.val (.int i0), .val (.int i1), .val (.int i2), .val (.int i3), .val (.int i4), .val (.int i5), .val (.int (0 : Int32)), .val (.int (i1 &&& (3 : Int32))), .unset, .unset, .unset, .unset] [(.ref b1), (.ref b1)])) (fun tq_ kq_ => XS.dup X7.here hx rfl (hb hby at_31) rfl rfl kq_) ?_
    refine own_GW.step (g' := (mkF m 33 #[.val (.int i0), .val (.int i1), .val (.int i2), .val (.int i3), .val (.int i4), .val (.int i5), .val (.int (0 : Int32)), .val (.int (i1 &&& (3 : Int32))), .unset, .unset, .unset, .unset] [(.int (1 : Int32)), (.ref b1), (.ref b1)])) (fun tq_ kq_ => XS.iconst X7.here hx rfl (hb hby at_32) kq_) ?_
    refine own_GW.step (g' := (mkF m 35 #[.val (.int i0), .val (.int i1), .val (.int i2), .val (.int i3), .val (.int i4), .val (.int i5), .val (.int (0 : Int32)), .val (.int (i1 &&& (3 : Int32))), .unset, .unset, .unset, .unset] [(.int i5), (.int (1 : Int32)), (.ref b1), (.ref b1)])) (fun tq_ kq_ => XS.iload X7.here hx rfl (hb hby at_33) rfl kq_) ?_
    refine own_GW.step (g' := (mkF m 38 #[.val (.int i0), .val (.int i1), .val (.int i2), .val (.int i3), .val (.int i4), .val (.int i5), .val (.int (0 : Int32)), .val (.int (i1 &&& (3 : Int32))), .unset, .unset, .unset, .unset] [(.int (255 : Int32)), (.int i5), (.int (1 : Int32)), (.ref b1), (.ref b1)])) (fun tq_ kq_ => XS.sipush X7.here hx rfl (hb hby at_35) kq_) ?_
    refine own_GW.step (g' := (mkF m 39 #[.val (.int i0), .val (.int i1), .val (.int i2), .val (.int i3), .val (.int i4), .val (.int i5), .val (.int (0 : Int32)), .val (.int (i1 &&& (3 : Int32))), .unset, .unset, .unset, .unset] [(.int (i5 &&& (255 : Int32))), (.int (1 : Int32)), (.ref b1), (.ref b1)])) (fun tq_ kq_ => XS.iand X7.here hx rfl (hb hby at_38) rfl kq_) ?_
    refine own_GW.step (g' := (mkF m 40 #[.val (.int i0), .val (.int i1), .val (.int i2), .val (.int i3), .val (.int i4), .val (.int i5), .val (.int (0 : Int32)), .val (.int (i1 &&& (3 : Int32))), .unset, .unset, .unset, .unset] [(.int ((i5 &&& (255 : Int32)).toUInt32.toUInt16.toUInt32.toInt32)), (.int (1 : Int32)), (.ref b1), (.ref b1)])) (fun tq_ kq_ => XS.i2c X7.here hx rfl (hb hby at_39) rfl kq_) ?_
    obtain ⟨cl12, Ar12, q112, Sz12, Nz12, Hh12, Gg12⟩ := id F8
    obtain ⟨T12, h12, X12, e12, W12, st12⟩ := stC X7 hx hZ e7 Ar12 (j := (1 : Int32)) (inb_of Sz12 ⟨by decide, by decide⟩) (g := (mkF m 40 #[.val (.int i0), .val (.int i1), .val (.int i2), .val (.int i3), .val (.int i4), .val (.int i5), .val (.int (0 : Int32)), .val (.int (i1 &&& (3 : Int32))), .unset, .unset, .unset, .unset] [(.int ((i5 &&& (255 : Int32)).toUInt32.toUInt16.toUInt32.toInt32)), (.int (1 : Int32)), (.ref b1), (.ref b1)])) rfl rfl (hb hby at_40)
    have F13 : Arv Z h12 b1 k1 .char (2 : Int32) [(.int (nar .char ((i4 &&& (255 : Int32)).toUInt32.toUInt16.toUInt32.toInt32))), (.int (nar .char ((i5 &&& (255 : Int32)).toUInt32.toUInt16.toUInt32.toInt32)))] (.int (0 : Int32)) := Arv.set Ar12 q112 Sz12 Nz12 Hh12 Gg12 (fits_nar_char _) W12 1 rfl (Nat.le_of_ble_eq_true rfl)
    have N12 := Fr.snoc X12 N7 g2
    have hkS := Nat.le_trans hkS (Keep.of_wr W12).1
    have O15 := O10.wr W12 g2
    have K16 := K11.wr W12 (Or.inr z3)
    refine own_GW.step (T' := T12) (g' := (mkF m 41 #[.val (.int i0), .val (.int i1), .val (.int i2), .val (.int i3), .val (.int i4), .val (.int i5), .val (.int (0 : Int32)), .val (.int (i1 &&& (3 : Int32))), .unset, .unset, .unset, .unset] [(.ref b1)])) st12 ?_
    refine own_GW.step (g' := (mkF m 43 #[.val (.int i0), .val (.int i1), .val (.int i2), .val (.int i3), .val (.int i4), .val (.int i5), .val (.int (0 : Int32)), .val (.int (i1 &&& (3 : Int32))), .val (.ref b1), .unset, .unset, .unset] [])) (fun tq_ kq_ => XS.astore X12.here hx rfl (hb hby at_41) rfl rfl (l' := #[.val (.int i0), .val (.int i1), .val (.int i2), .val (.int i3), .val (.int i4), .val (.int i5), .val (.int (0 : Int32)), .val (.int (i1 &&& (3 : Int32))), .val (.ref b1), .unset, .unset, .unset]) rfl kq_) ?_
    refine own_GW.step (g' := (mkF m 44 #[.val (.int i0), .val (.int i1), .val (.int i2), .val (.int i3), .val (.int i4), .val (.int i5), .val (.int (0 : Int32)), .val (.int (i1 &&& (3 : Int32))), .val (.ref b1), .unset, .unset, .unset] [(.int i0)])) (fun tq_ kq_ => XS.iloadN X12.here hx rfl (hb hby at_43) rfl kq_) ?_
    refine own_GW.step (g' := (mkF m 45 #[.val (.int i0), .val (.int i1), .val (.int i2), .val (.int i3), .val (.int i4), .val (.int i5), .val (.int (0 : Int32)), .val (.int (i1 &&& (3 : Int32))), .val (.ref b1), .unset, .unset, .unset] [(.int (2 : Int32)), (.int i0)])) (fun tq_ kq_ => XS.iconst X12.here hx rfl (hb hby at_44) kq_) ?_
    refine own_GW.step (g' := (mkF m 46 #[.val (.int i0), .val (.int i1), .val (.int i2), .val (.int i3), .val (.int i4), .val (.int i5), .val (.int (0 : Int32)), .val (.int (i1 &&& (3 : Int32))), .val (.ref b1), .unset, .unset, .unset] [(.int (i0 &&& (2 : Int32)))])) (fun tq_ kq_ => XS.iand X12.here hx rfl (hb hby at_45) rfl kq_) ?_
    rcases Classical.em ((i0 &&& (2 : Int32)) = (0 : Int32)) with hc46 | hc46
    · refine own_GW.step (g' := (mkF m 61 #[.val (.int i0), .val (.int i1), .val (.int i2), .val (.int i3), .val (.int i4), .val (.int i5), .val (.int (0 : Int32)), .val (.int (i1 &&& (3 : Int32))), .val (.ref b1), .unset, .unset, .unset] [])) (fun tq_ kq_ => XS.ifYes X12.here hx rfl (pc0 := 46) (pc' := 61) rfl (hb hby at_46) rfl ((if0 _ _).trans (teq hc46).1) (by decide) (by decide) kq_) ?_
      obtain ⟨a17, T17, h17, k17, X17, e17, E17, hS, hkS, hZ, hown, st17⟩ := ldcS (vm0 := s.vm) X12 hx hZ hown (hw _ (List.mem_of_getElem? (i := 1) rfl)) own_wS e12 hS hkS (g := (mkF m 61 #[.val (.int i0), .val (.int i1), .val (.int i2), .val (.int i3), .val (.int i4), .val (.int i5), .val (.int (0 : Int32)), .val (.int (i1 &&& (3 : Int32))), .val (.ref b1), .unset, .unset, .unset] [])) rfl (hb hby at_61) (n := 0) (by decide +kernel) (by decide) (by decide) (by decide)
      have F18 := F13.ext E17
      have O19 := O15.ext E17
      have K20 := K16.ext E17
      refine own_GW.step (T' := T17) (g' := (mkF m 63 #[.val (.int i0), .val (.int i1), .val (.int i2), .val (.int i3), .val (.int i4), .val (.int i5), .val (.int (0 : Int32)), .val (.int (i1 &&& (3 : Int32))), .val (.ref b1), .unset, .unset, .unset] [(.ref a17)])) st17 ?_
      refine own_GW.step (g' := (mkF m 65 #[.val (.int i0), .val (.int i1), .val (.int i2), .val (.int i3), .val (.int i4), .val (.int i5), .val (.int (0 : Int32)), .val (.int (i1 &&& (3 : Int32))), .val (.ref b1), .val (.ref a17), .unset, .unset] [])) (fun tq_ kq_ => XS.astore X17.here hx rfl (hb hby at_63) rfl rfl (l' := #[.val (.int i0), .val (.int i1), .val (.int i2), .val (.int i3), .val (.int i4), .val (.int i5), .val (.int (0 : Int32)), .val (.int (i1 &&& (3 : Int32))), .val (.ref b1), .val (.ref a17), .unset, .unset]) rfl kq_) ?_
      refine own_GW.step (g' := (mkF m 66 #[.val (.int i0), .val (.int i1), .val (.int i2), .val (.int i3), .val (.int i4), .val (.int i5), .val (.int (0 : Int32)), .val (.int (i1 &&& (3 : Int32))), .val (.ref b1), .val (.ref a17), .unset, .unset] [.null])) (fun tq_ kq_ => XS.aconstNull X17.here hx rfl (hb hby at_65) kq_) ?_
      refine own_GW.step (g' := (mkF m 68 #[.val (.int i0), .val (.int i1), .val (.int i2), .val (.int i3), .val (.int i4), .val (.int i5), .val (.int (0 : Int32)), .val (.int (i1 &&& (3 : Int32))), .val (.ref b1), .val (.ref a17), .val .null, .unset] [])) (fun tq_ kq_ => XS.astore X17.here hx rfl (hb hby at_66) rfl rfl (l' := #[.val (.int i0), .val (.int i1), .val (.int i2), .val (.int i3), .val (.int i4), .val (.int i5), .val (.int (0 : Int32)), .val (.int (i1 &&& (3 : Int32))), .val (.ref b1), .val (.ref a17), .val .null, .unset]) rfl kq_) ?_
      refine own_GW.step (g' := (mkF m 70 #[.val (.int i0), .val (.int i1), .val (.int i2), .val (.int i3), .val (.int i4), .val (.int i5), .val (.int (0 : Int32)), .val (.int (i1 &&& (3 : Int32))), .val (.ref b1), .val (.ref a17), .val .null, .unset] [(.int (0 : Int32))])) (fun tq_ kq_ => XS.iload X17.here hx rfl (hb hby at_68) rfl kq_) ?_
      have hc70 : (0 : Int32) = (0 : Int32) := (by decide)
      refine own_GW.step (g' := (mkF m 116 #[.val (.int i0), .val (.int i1), .val (.int i2), .val (.int i3), .val (.int i4), .val (.int i5), .val (.int (0 : Int32)), .val (.int (i1 &&& (3 : Int32))), .val (.ref b1), .val (.ref a17), .val .null, .unset] [])) (fun tq_ kq_ => XS.ifYes X17.here hx rfl (pc0 := 70) (pc' := 116) rfl (hb hby at_70) rfl ((if0 _ _).trans (teq hc70).1) (by decide) (by decide) kq_) ?_
      obtain ⟨T21, h21, X21, e21, E21, A21, D21, -, st21⟩ := newO X17 hx hZ hown (hw _ (List.mem_of_getElem? (i := 9) rfl)) (hw _ (List.mem_of_getElem? (i := 10) rfl)) (hw _ (List.mem_of_getElem? (i := 11) rfl)) e17 (g := (mkF m 116 #[.val (.int i0), .val (.int i1), .val (.int i2), .val (.int i3), .val (.int i4), .val (.int i5), .val (.int (0 : Int32)), .val (.int (i1 &&& (3 : Int32))), .val (.ref b1), .val (.ref a17), .val .null, .unset] [])) rfl (hb hby at_116) (by decide) (by decide)
      obtain ⟨b21, g21⟩ : ∃ z, z = h17.size := ⟨_, rfl⟩
      rw [← g21] at A21 D21 st21
      have g22 : n0 ≤ b21 := Nat.le_trans O19.le (Nat.le_of_eq g21.symm)
      have z23 : h0.size ≤ b21 := Nat.le_trans K20.1 (Nat.le_of_eq g21.symm)
      have hkS := Nat.le_trans hkS E21.1
      have O24 := O19.ext E21
      have K25 := K20.ext E21
      have F26 : Fld Z h21 b21 "com/example/evenkey/evenkey/model/Column" "family" "Ljava/lang/String;" .null := D21 (Or.inr (hw _ (List.mem_of_getElem? (i := 29) rfl))) (ty := (.object "java/lang/String")) (by decide)
      have F27 : Fld Z h21 b21 "com/example/evenkey/evenkey/model/Column" "qualifier" "[B" .null := D21 (Or.inr (hw _ (List.mem_of_getElem? (i := 31) rfl))) (ty := (.array .byte)) (by decide)
      refine own_GW.step (T' := T21) (g' := (mkF m 119 #[.val (.int i0), .val (.int i1), .val (.int i2), .val (.int i3), .val (.int i4), .val (.int i5), .val (.int (0 : Int32)), .val (.int (i1 &&& (3 : Int32))), .val (.ref b1), .val (.ref a17), .val .null, .unset] [(.ref b21)])) st21 ?_
      refine own_GW.step (g' := (mkF m 120 #[.val (.int i0), .val (.int i1), .val (.int i2), .val (.int i3), .val (.int i4), .val (.int i5), .val (.int (0 : Int32)), .val (.int (i1 &&& (3 : Int32))), .val (.ref b1), .val (.ref a17), .val .null, .unset] [(.ref b21), (.ref b21)])) (fun tq_ kq_ => XS.dup X21.here hx rfl (hb hby at_119) rfl rfl kq_) ?_
      refine own_GW.step (g' := (mkF m 122 #[.val (.int i0), .val (.int i1), .val (.int i2), .val (.int i3), .val (.int i4), .val (.int i5), .val (.int (0 : Int32)), .val (.int (i1 &&& (3 : Int32))), .val (.ref b1), .val (.ref a17), .val .null, .unset] [(.ref a17), (.ref b21), (.ref b21)])) (fun tq_ kq_ => XS.aload X21.here hx rfl (hb hby at_120) rfl rfl kq_) ?_
      refine own_GW.step (g' := (mkF m 124 #[.val (.int i0), .val (.int i1), .val (.int i2), .val (.int i3), .val (.int i4), .val (.int i5), .val (.int (0 : Int32)), .val (.int (i1 &&& (3 : Int32))), .val (.ref b1), .val (.ref a17), .val .null, .unset] [.null, (.ref a17), (.ref b21), (.ref b21)])) (fun tq_ kq_ => XS.aload X21.here hx rfl (hb hby at_122) rfl rfl kq_) ?_
      obtain ⟨_, _, ⟨T28, L28, k28, n28⟩, -, X28, sS28, gS28, ⟨Lc28, hQ28, l28, y28, z28⟩, st28⟩ := X21.specialBackS hx (y := (⟨"com/example/evenkey/evenkey/model/Column", "<init>", "(Ljava/lang/String;[B)V"⟩ : MethodName)) rfl hown (mvT hZ (hw _ (List.mem_of_getElem? (i := 12) rfl))) (mvT hZ (hw _ (List.mem_of_getElem? (i := 13) rfl))) (mvT hZ (hw _ (List.mem_of_getElem? (i := 14) rfl))) (by decide) (backOfS (W := 1) (rm_coiN l Z a0 hw [] b21 a17 h21 n0 O24 F26 F27 A21 g22) hZ (hw _ (List.mem_of_getElem? (i := 14) rfl)) (hw _ (List.mem_of_getElem? (i := 11) rfl)) (by decide) (by decide)) (g := (mkF m 124 #[.val (.int i0), .val (.int i1), .val (.int i2), .val (.int i3), .val (.int i4), .val (.int i5), .val (.int (0 : Int32)), .val (.int (i1 &&& (3 : Int32))), .val (.ref b1), .val (.ref a17), .val .null, .unset] [.null, (.ref a17), (.ref b21), (.ref b21)])) rfl (by rw [hml]; rfl) (Steps.refl _) (a := b21) (argsL := [(.ref a17), .null]) (rest := [(.ref b21)]) (lenOf pd__28Ljava_2flang_2fString_3b_5bB_29V rfl) rfl (by show 2 * 0 + _ ≤ _; exact Nat.le_of_eq rfl) (hb hby at_124) (fun _ _ => ⟨rfl, e21, (by decide : 4 + 2 ≤ _), (by decide : 8 + 28 ≤ _)⟩)
      dsimp only [Pt.U, Pt.locs, Pt.cells, Pt.slots] at X28 l28 y28 z28 st28 hQ28 sS28 gS28
      subst l28 y28 z28
      obtain ⟨X28, hS, hZ, hown⟩ := rebS (vm0 := T17.vm) hS (by rw [e21]; exact hkS) X28 sS28 gS28 hZ hown
      obtain ⟨rfl, Nq28, P29, P30, P31⟩ := hQ28
      have N28 := Fr.app N12 Nq28
      have hkS := Nat.le_trans hkS P29.1
      have F32 := A21.keep P29
      have O33 := O24.keep P29 (allS g22 all0)
      have K34 := K25.trans P29 (allS (Or.inr z23) all0)
      have hkS : T28.heap.size ≤ T28.heap.size := Nat.le_refl _
      refine own_GW.step (T' := T28) (g' := (mkF m 127 #[.val (.int i0), .val (.int i1), .val (.int i2), .val (.int i3), .val (.int i4), .val (.int i5), .val (.int (0 : Int32)), .val (.int (i1 &&& (3 : Int32))), .val (.ref b1), .val (.ref a17), .val .null, .unset] [(.ref b21)])) (fun tq_ kq_ => st28.trans kq_) ?_
      refine own_GW.step (g' := (mkF m 129 #[.val (.int i0), .val (.int i1), .val (.int i2), .val (.int i3), .val (.int i4), .val (.int i5), .val (.int (0 : Int32)), .val (.int (i1 &&& (3 : Int32))), .val (.ref b1), .val (.ref a17), .val .null, .val (.ref b21)] [])) (fun tq_ kq_ => XS.astore X28.here hx rfl (hb hby at_127) rfl rfl (l' := #[.val (.int i0), .val (.int i1), .val (.int i2), .val (.int i3), .val (.int i4), .val (.int i5), .val (.int (0 : Int32)), .val (.int (i1 &&& (3 : Int32))), .val (.ref b1), .val (.ref a17), .val .null, .val (.ref b21)]) rfl kq_) ?_
      refine own_GW.step (g' := (mkF m 131 #[.val (.int i0), .val (.int i1), .val (.int i2), .val (.int i3), .val (.int i4), .val (.int i5), .val (.int (0 : Int32)), .val (.int (i1 &&& (3 : Int32))), .val (.ref b1), .val (.ref a17), .val .null, .val (.ref b21)] [(.ref b21)])) (fun tq_ kq_ => XS.aload X28.here hx rfl (hb hby at_129) rfl rfl kq_) ?_
      obtain ⟨cq35, kq35, q35a, q35b, q35c⟩ := isOf hZ rfl P30
      obtain ⟨_, _, ⟨T35, L35, k35, n35⟩, -, X35, ⟨Lc35, hQ35, l35, y35, z35⟩, st35⟩ := X28.virtualBack hx (y := (⟨"com/example/evenkey/evenkey/model/Column", "hasQualifier", "()Z"⟩ : MethodName)) (z := (⟨"com/example/evenkey/evenkey/model/Column", "hasQualifier", "()Z"⟩ : MethodName)) hown (mvT hZ (hw _ (List.mem_of_getElem? (i := 32) rfl))) (mvT hZ (hw _ (List.mem_of_getElem? (i := 33) rfl))) (notFace_of_selects (args := #[]) (mvT hZ (hw _ (List.mem_of_getElem? (i := 35) rfl)))) (mvT hZ (hw _ (List.mem_of_getElem? (i := 35) rfl))) (mvT hZ (hw _ (List.mem_of_getElem? (i := 34) rfl))) (by decide) (backOf (W := 0) (rm_hqN l Z a0 hw [] b21 T28.heap n0 O33 P31) hZ (hw _ (List.mem_of_getElem? (i := 36) rfl)) (hw _ (List.mem_of_getElem? (i := 11) rfl)) (by decide) (by decide)) q35a q35c (g := (mkF m 131 #[.val (.int i0), .val (.int i1), .val (.int i2), .val (.int i3), .val (.int i4), .val (.int i5), .val (.int (0 : Int32)), .val (.int (i1 &&& (3 : Int32))), .val (.ref b1), .val (.ref a17), .val .null, .val (.ref b21)] [(.ref b21)])) rfl (by rw [hml]; rfl) (Steps.refl _) (argsL := []) (rest := []) (lenOf pd__28_29Z rfl) rfl (by show 2 * 0 + _ ≤ _; exact Nat.le_of_eq rfl) (hb hby at_131) (fun _ _ => ⟨rfl, rfl, (by decide : 6 + 0 ≤ _), (by decide : 36 + 0 ≤ _)⟩)
      dsimp only [Pt.U, Pt.locs, Pt.cells, Pt.slots] at X35 l35 y35 z35 st35 hQ35
      subst l35 y35 z35
      obtain ⟨rfl, Nq35, P36⟩ := hQ35
      have N35 := Fr.app N28 Nq35
      refine own_GW.step (T' := T35) (g' := (mkF m 134 #[.val (.int i0), .val (.int i1), .val (.int i2), .val (.int i3), .val (.int i4), .val (.int i5), .val (.int (0 : Int32)), .val (.int (i1 &&& (3 : Int32))), .val (.ref b1), .val (.ref a17), .val .null, .val (.ref b21)] [(.int (0 : Int32))])) (fun tq_ kq_ => st35.trans kq_) ?_
      refine own_GW.step (g' := (mkF m 136 #[.val (.int i0), .val (.int i1), .val (.int i2), .val (.int i3), .val (.int i4), .val (.int i5), .val (.int (0 : Int32)), .val (.int (i1 &&& (3 : Int32))), .val (.ref b1), .val (.ref a17), .val .null, .val (.ref b21)] [(.int (0 : Int32)), (.int (0 : Int32))])) (fun tq_ kq_ => XS.iload X35.here hx rfl (hb hby at_134) rfl kq_) ?_
      have hc136 : (0 : Int32) = (0 : Int32) := (by decide)
      refine own_GW.step (g' := (mkF m 139 #[.val (.int i0), .val (.int i1), .val (.int i2), .val (.int i3), .val (.int i4), .val (.int i5), .val (.int (0 : Int32)), .val (.int (i1 &&& (3 : Int32))), .val (.ref b1), .val (.ref a17), .val .null, .val (.ref b21)] [])) (fun tq_ kq_ => XS.icmpNo X35.here hx rfl (hb hby at_136) rfl (teq hc136).2 kq_) ?_
      refine own_GW.step (g' := (mkF m 140 #[.val (.int i0), .val (.int i1), .val (.int i2), .val (.int i3), .val (.int i4), .val (.int i5), .val (.int (0 : Int32)), .val (.int (i1 &&& (3 : Int32))), .val (.ref b1), .val (.ref a17), .val .null, .val (.ref b21)] [(.int (1 : Int32))])) (fun tq_ kq_ => XS.iconst X35.here hx rfl (hb hby at_139) kq_) ?_
      refine own_GW.step (g' := (mkF m 144 #[.val (.int i0), .val (.int i1), .val (.int i2), .val (.int i3), .val (.int i4), .val (.int i5), .val (.int (0 : Int32)), .val (.int (i1 &&& (3 : Int32))), .val (.ref b1), .val (.ref a17), .val .null, .val (.ref b21)] [(.int (1 : Int32))])) (fun tq_ kq_ => XS.goto X35.here hx rfl (pc0 := 140) (pc' := 144) rfl (hb hby at_140) (by decide) (by decide) kq_) ?_
      exact own_retW X35 hS P36 hkS (v := some (.int (1 : Int32))) (fun h => by rw [Bd.returns] at h; cases h) Bd.notSynchronized ⟨rfl, N35⟩ (by decide) (by decide) (fun fs hr => retN X35 hx (t := .boolean) Bd.returns (by simp) (hb hby at_144) hr)
    · refine own_GW.step (g' := (mkF m 49 #[.val (.int i0), .val (.int i1), .val (.int i2), .val (.int i3), .val (.int i4), .val (.int i5), .val (.int (0 : Int32)), .val (.int (i1 &&& (3 : Int32))), .val (.ref b1), .unset, .unset, .unset] [])) (fun tq_ kq_ => XS.ifNo X12.here hx rfl (hb hby at_46) rfl ((if0 _ _).trans (feq hc46).1) kq_) ?_
      obtain ⟨T37, h37, X37, e37, E37, A37, D37, -, st37⟩ := newO X12 hx hZ hown (hw _ (List.mem_of_getElem? (i := 37) rfl)) (hw _ (List.mem_of_getElem? (i := 3) rfl)) (hw _ (List.mem_of_getElem? (i := 2) rfl)) e12 (g := (mkF m 49 #[.val (.int i0), .val (.int i1), .val (.int i2), .val (.int i3), .val (.int i4), .val (.int i5), .val (.int (0 : Int32)), .val (.int (i1 &&& (3 : Int32))), .val (.ref b1), .unset, .unset, .unset] [])) rfl (hb hby at_49) (by decide) (by decide)
      obtain ⟨b37, g37⟩ : ∃ z, z = h12.size := ⟨_, rfl⟩
      rw [← g37] at A37 D37 st37
      have ne38 : b1 ≠ b37 := Nat.ne_of_lt (Nat.lt_of_lt_of_le F13.lt (Nat.le_of_eq g37.symm))
      have g39 : n0 ≤ b37 := Nat.le_trans O15.le (Nat.le_of_eq g37.symm)
      have z40 : h0.size ≤ b37 := Nat.le_trans K16.1 (Nat.le_of_eq g37.symm)
      have hkS := Nat.le_trans hkS E37.1
      have F41 := F13.ext E37
      have O42 := O15.ext E37
      have K43 := K16.ext E37
      have F44 : Fld Z h37 b37 "java/lang/String" "value" "[B" .null := D37 (Or.inr (hw _ (List.mem_of_getElem? (i := 5) rfl))) (ty := (.array .byte)) (by decide)
      have F45 : Fld Z h37 b37 "java/lang/String" "coder" "B" (.int (0 : Int32)) := D37 (Or.inr (hw _ (List.mem_of_getElem? (i := 6) rfl))) (ty := .byte) (by decide)
      refine own_GW.step (T' := T37) (g' := (mkF m 52 #[.val (.int i0), .val (.int i1), .val (.int i2), .val (.int i3), .val (.int i4), .val (.int i5), .val (.int (0 : Int32)), .val (.int (i1 &&& (3 : Int32))), .val (.ref b1), .unset, .unset, .unset] [(.ref b37)])) st37 ?_
      refine own_GW.step (g' := (mkF m 53 #[.val (.int i0), .val (.int i1), .val (.int i2), .val (.int i3), .val (.int i4), .val (.int i5), .val (.int (0 : Int32)), .val (.int (i1 &&& (3 : Int32))), .val (.ref b1), .unset, .unset, .unset] [(.ref b37), (.ref b37)])) (fun tq_ kq_ => XS.dup X37.here hx rfl (hb hby at_52) rfl rfl kq_) ?_
      refine own_GW.step (g' := (mkF m 55 #[.val (.int i0), .val (.int i1), .val (.int i2), .val (.int i3), .val (.int i4), .val (.int i5), .val (.int (0 : Int32)), .val (.int (i1 &&& (3 : Int32))), .val (.ref b1), .unset, .unset, .unset] [(.ref b1), (.ref b37), (.ref b37)])) (fun tq_ kq_ => XS.aload X37.here hx rfl (hb hby at_53) rfl rfl kq_) ?_
      have hp46 : ∀ c ∈ ([(nar .char ((i4 &&& (255 : Int32)).toUInt32.toUInt16.toUInt32.toInt32)), (nar .char ((i5 &&& (255 : Int32)).toUInt32.toUInt16.toUInt32.toInt32))] : List Int32), ¬ c < 0 ∧ ¬ (255 : Int32) < c := by
        intro c hc
        simp only [List.mem_cons, List.not_mem_nil, or_false] at hc
        rcases hc with rfl | rfl
        · exact own_ch255 i4
        · exact own_ch255 i5
      obtain ⟨_, _, ⟨T47, L47, k47, n47⟩, -, X47, ⟨Lc47, hQ47, l47, y47, z47⟩, st47⟩ := X37.specialBack hx (y := (⟨"java/lang/String", "<init>", "([C)V"⟩ : MethodName)) rfl hown (mvT hZ (hw _ (List.mem_of_getElem? (i := 38) rfl))) (mvT hZ (hw _ (List.mem_of_getElem? (i := 39) rfl))) (mvT hZ (hw _ (List.mem_of_getElem? (i := 40) rfl))) (by decide) (StrChars.Road.backV (W := 1) hZ hws (kI := 4) (hw _ (List.mem_of_getElem? (i := 3) rfl)) (cs := ([(nar .char ((i4 &&& (255 : Int32)).toUInt32.toUInt16.toUInt32.toInt32)), (nar .char ((i5 &&& (255 : Int32)).toUInt32.toUInt16.toUInt32.toInt32))] : List Int32)) (bs := (([(nar .char ((i4 &&& (255 : Int32)).toUInt32.toUInt16.toUInt32.toInt32)), (nar .char ((i5 &&& (255 : Int32)).toUInt32.toUInt16.toUInt32.toInt32))] : List Int32).map (fun c => c.toInt8.toInt32))) (n := 2) g39 O42.le A37 F44 F45 F41 (Sta.ext O42.2 S_CS) hcs rfl rfl (by decide) (by decide) hp46 rfl (by decide) (by decide)) (g := (mkF m 55 #[.val (.int i0), .val (.int i1), .val (.int i2), .val (.int i3), .val (.int i4), .val (.int i5), .val (.int (0 : Int32)), .val (.int (i1 &&& (3 : Int32))), .val (.ref b1), .unset, .unset, .unset] [(.ref b1), (.ref b37), (.ref b37)])) rfl (by rw [hml]; rfl) (Steps.refl _) (a := b37) (argsL := [(.ref b1)]) (rest := [(.ref b37)]) (lenOf pd__28_5bC_29V rfl) rfl (by show 2 * 0 + _ ≤ _; exact Nat.le_of_eq rfl) (hb hby at_55) (fun _ _ => ⟨rfl, e37, (by decide : 2 + 1 ≤ _), (by decide : 6 + 2 ≤ _)⟩)
      dsimp only [Pt.U, Pt.locs, Pt.cells, Pt.slots] at X47 l47 y47 z47 st47 hQ47
      subst l47 y47 z47
      obtain ⟨rfl, P48, P49, P50, P51, b52, kx53, P54, P55, P56, P57, P58⟩ := hQ47
      have N47 := Fr.app N12 P48
      have ne59 : b1 ≠ b52 := Nat.ne_of_lt (Nat.lt_of_lt_of_le F41.lt P55)
      have ne60 : b37 ≠ b52 := Nat.ne_of_lt (Nat.lt_of_lt_of_le A37.lt P55)
      have g61 : n0 ≤ b52 := Nat.le_trans O42.le P55
      have z62 : h0.size ≤ b52 := Nat.le_trans K43.1 P55
      have hkS := Nat.le_trans hkS P49.1
      have F63 := F41.keep P49 (ninS ne38 nin0)
      have F64 := A37.keep P49
      have O65 := O42.keep P49 (allS g39 all0)
      have K66 := K43.trans P49 (allS (Or.inr z40) all0)
      refine own_GW.step (T' := T47) (g' := (mkF m 58 #[.val (.int i0), .val (.int i1), .val (.int i2), .val (.int i3), .val (.int i4), .val (.int i5), .val (.int (0 : Int32)), .val (.int (i1 &&& (3 : Int32))), .val (.ref b1), .unset, .unset, .unset] [(.ref b37)])) (fun tq_ kq_ => st47.trans kq_) ?_
      refine own_GW.step (g' := (mkF m 63 #[.val (.int i0), .val (.int i1), .val (.int i2), .val (.int i3), .val (.int i4), .val (.int i5), .val (.int (0 : Int32)), .val (.int (i1 &&& (3 : Int32))), .val (.ref b1), .unset, .unset, .unset] [(.ref b37)])) (fun tq_ kq_ => XS.goto X47.here hx rfl (pc0 := 58) (pc' := 63) rfl (hb hby at_58) (by decide) (by decide) kq_) ?_
      refine own_GW.step (g' := (mkF m 65 #[.val (.int i0), .val (.int i1), .val (.int i2), .val (.int i3), .val (.int i4), .val (.int i5), .val (.int (0 : Int32)), .val (.int (i1 &&& (3 : Int32))), .val (.ref b1), .val (.ref b37), .unset, .unset] [])) (fun tq_ kq_ => XS.astore X47.here hx rfl (hb hby at_63) rfl rfl (l' := #[.val (.int i0), .val (.int i1), .val (.int i2), .val (.int i3), .val (.int i4), .val (.int i5), .val (.int (0 : Int32)), .val (.int (i1 &&& (3 : Int32))), .val (.ref b1), .val (.ref b37), .unset, .unset]) rfl kq_) ?_
      refine own_GW.step (g' := (mkF m 66 #[.val (.int i0), .val (.int i1), .val (.int i2), .val (.int i3), .val (.int i4), .val (.int i5), .val (.int (0 : Int32)), .val (.int (i1 &&& (3 : Int32))), .val (.ref b1), .val (.ref b37), .unset, .unset] [.null])) (fun tq_ kq_ => XS.aconstNull X47.here hx rfl (hb hby at_65) kq_) ?_
      refine own_GW.step (g' := (mkF m 68 #[.val (.int i0), .val (.int i1), .val (.int i2), .val (.int i3), .val (.int i4), .val (.int i5), .val (.int (0 : Int32)), .val (.int (i1 &&& (3 : Int32))), .val (.ref b1), .val (.ref b37), .val .null, .unset] [])) (fun tq_ kq_ => XS.astore X47.here hx rfl (hb hby at_66) rfl rfl (l' := #[.val (.int i0), .val (.int i1), .val (.int i2), .val (.int i3), .val (.int i4), .val (.int i5), .val (.int (0 : Int32)), .val (.int (i1 &&& (3 : Int32))), .val (.ref b1), .val (.ref b37), .val .null, .unset]) rfl kq_) ?_
      refine own_GW.step (g' := (mkF m 70 #[.val (.int i0), .val (.int i1), .val (.int i2), .val (.int i3), .val (.int i4), .val (.int i5), .val (.int (0 : Int32)), .val (.int (i1 &&& (3 : Int32))), .val (.ref b1), .val (.ref b37), .val .null, .unset] [(.int (0 : Int32))])) (fun tq_ kq_ => XS.iload X47.here hx rfl (hb hby at_68) rfl kq_) ?_
      have hc70 : (0 : Int32) = (0 : Int32) := (by decide)
      refine own_GW.step (g' := (mkF m 116 #[.val (.int i0), .val (.int i1), .val (.int i2), .val (.int i3), .val (.int i4), .val (.int i5), .val (.int (0 : Int32)), .val (.int (i1 &&& (3 : Int32))), .val (.ref b1), .val (.ref b37), .val .null, .unset] [])) (fun tq_ kq_ => XS.ifYes X47.here hx rfl (pc0 := 70) (pc' := 116) rfl (hb hby at_70) rfl ((if0 _ _).trans (teq hc70).1) (by decide) (by decide) kq_) ?_
      obtain ⟨T67, h67, X67, e67, E67, A67, D67, -, st67⟩ := newO X47 hx hZ hown (hw _ (List.mem_of_getElem? (i := 9) rfl)) (hw _ (List.mem_of_getElem? (i := 10) rfl)) (hw _ (List.mem_of_getElem? (i := 11) rfl)) rfl (g := (mkF m 116 #[.val (.int i0), .val (.int i1), .val (.int i2), .val (.int i3), .val (.int i4), .val (.int i5), .val (.int (0 : Int32)), .val (.int (i1 &&& (3 : Int32))), .val (.ref b1), .val (.ref b37), .val .null, .unset] [])) rfl (hb hby at_116) (by decide) (by decide)
      obtain ⟨b67, g67⟩ : ∃ z, z = T47.heap.size := ⟨_, rfl⟩
      rw [← g67] at A67 D67 st67
      have g68 : n0 ≤ b67 := Nat.le_trans O65.le (Nat.le_of_eq g67.symm)
      have z69 : h0.size ≤ b67 := Nat.le_trans K66.1 (Nat.le_of_eq g67.symm)
      have hkS := Nat.le_trans hkS E67.1
      have O70 := O65.ext E67
      have K71 := K66.ext E67
      have F72 : Fld Z h67 b67 "com/example/evenkey/evenkey/model/Column" "family" "Ljava/lang/String;" .null := D67 (Or.inr (hw _ (List.mem_of_getElem? (i := 29) rfl))) (ty := (.object "java/lang/String")) (by decide)
      have F73 : Fld Z h67 b67 "com/example/evenkey/evenkey/model/Column" "qualifier" "[B" .null := D67 (Or.inr (hw _ (List.mem_of_getElem? (i := 31) rfl))) (ty := (.array .byte)) (by decide)
      refine own_GW.step (T' := T67) (g' := (mkF m 119 #[.val (.int i0), .val (.int i1), .val (.int i2), .val (.int i3), .val (.int i4), .val (.int i5), .val (.int (0 : Int32)), .val (.int (i1 &&& (3 : Int32))), .val (.ref b1), .val (.ref b37), .val .null, .unset] [(.ref b67)])) st67 ?_
      refine own_GW.step (g' := (mkF m 120 #[.val (.int i0), .val (.int i1), .val (.int i2), .val (.int i3), .val (.int i4), .val (.int i5), .val (.int (0 : Int32)), .val (.int (i1 &&& (3 : Int32))), .val (.ref b1), .val (.ref b37), .val .null, .unset] [(.ref b67), (.ref b67)])) (fun tq_ kq_ => XS.dup X67.here hx rfl (hb hby at_119) rfl rfl kq_) ?_
      refine own_GW.step (g' := (mkF m 122 #[.val (.int i0), .val (.int i1), .val (.int i2), .val (.int i3), .val (.int i4), .val (.int i5), .val (.int (0 : Int32)), .val (.int (i1 &&& (3 : Int32))), .val (.ref b1), .val (.ref b37), .val .null, .unset] [(.ref b37), (.ref b67), (.ref b67)])) (fun tq_ kq_ => XS.aload X67.here hx rfl (hb hby at_120) rfl rfl kq_) ?_
      refine own_GW.step (g' := (mkF m 124 #[.val (.int i0), .val (.int i1), .val (.int i2), .val (.int i3), .val (.int i4), .val (.int i5), .val (.int (0 : Int32)), .val (.int (i1 &&& (3 : Int32))), .val (.ref b1), .val (.ref b37), .val .null, .unset] [.null, (.ref b37), (.ref b67), (.ref b67)])) (fun tq_ kq_ => XS.aload X67.here hx rfl (hb hby at_122) rfl rfl kq_) ?_
      obtain ⟨_, _, ⟨T74, L74, k74, n74⟩, -, X74, sS74, gS74, ⟨Lc74, hQ74, l74, y74, z74⟩, st74⟩ := X67.specialBackS hx (y := (⟨"com/example/evenkey/evenkey/model/Column", "<init>", "(Ljava/lang/String;[B)V"⟩ : MethodName)) rfl hown (mvT hZ (hw _ (List.mem_of_getElem? (i := 12) rfl))) (mvT hZ (hw _ (List.mem_of_getElem? (i := 13) rfl))) (mvT hZ (hw _ (List.mem_of_getElem? (i := 14) rfl))) (by decide) (backOfS (W := 1) (rm_coiN l Z a0 hw [] b67 b37 h67 n0 O70 F72 F73 A67 g68) hZ (hw _ (List.mem_of_getElem? (i := 14) rfl)) (hw _ (List.mem_of_getElem? (i := 11) rfl)) (by decide) (by decide)) (g := (mkF m 124 #[.val (.int i0), .val (.int i1), .val (.int i2), .val (.int i3), .val (.int i4), .val (.int i5), .val (.int (0 : Int32)), .val (.int (i1 &&& (3 : Int32))), .val (.ref b1), .val (.ref b37), .val .null, .unset] [.null, (.ref b37), (.ref b67), (.ref b67)])) rfl (by rw [hml]; rfl) (Steps.refl _) (a := b67) (argsL := [(.ref b37), .null]) (rest := [(.ref b67)]) (lenOf pd__28Ljava_2flang_2fString_3b_5bB_29V rfl) rfl (by show 2 * 0 + _ ≤ _; exact Nat.le_of_eq rfl) (hb hby at_124) (fun _ _ => ⟨rfl, e67, (by decide : 4 + 2 ≤ _), (by decide : 10 + 28 ≤ _)⟩)
      dsimp only [Pt.U, Pt.locs, Pt.cells, Pt.slots] at X74 l74 y74 z74 st74 hQ74 sS74 gS74
      subst l74 y74 z74
      obtain ⟨X74, hS, hZ, hown⟩ := rebS (vm0 := s.vm) hS (by rw [e67]; exact hkS) X74 sS74 gS74 hZ hown
      obtain ⟨rfl, Nq74, P75, P76, P77⟩ := hQ74
      have N74 := Fr.app N47 Nq74
      have hkS := Nat.le_trans hkS P75.1
      have F78 := A67.keep P75
      have O79 := O70.keep P75 (allS g68 all0)
      have K80 := K71.trans P75 (allS (Or.inr z69) all0)
      have hkS : T74.heap.size ≤ T74.heap.size := Nat.le_refl _
      refine own_GW.step (T' := T74) (g' := (mkF m 127 #[.val (.int i0), .val (.int i1), .val (.int i2), .val (.int i3), .val (.int i4), .val (.int i5), .val (.int (0 : Int32)), .val (.int (i1 &&& (3 : Int32))), .val (.ref b1), .val (.ref b37), .val .null, .unset] [(.ref b67)])) (fun tq_ kq_ => st74.trans kq_) ?_
      refine own_GW.step (g' := (mkF m 129 #[.val (.int i0), .val (.int i1), .val (.int i2), .val (.int i3), .val (.int i4), .val (.int i5), .val (.int (0 : Int32)), .val (.int (i1 &&& (3 : Int32))), .val (.ref b1), .val (.ref b37), .val .null, .val (.ref b67)] [])) (fun tq_ kq_ => XS.astore X74.here hx rfl (hb hby at_127) rfl rfl (l' := #[.val (.int i0), .val (.int i1), .val (.int i2), .val (.int i3), .val (.int i4), .val (.int i5), .val (.int (0 : Int32)), .val (.int (i1 &&& (3 : Int32))), .val (.ref b1), .val (.ref b37), .val .null, .val (.ref b67)]) rfl kq_) ?_
      refine own_GW.step (g' := (mkF m 131 #[.val (.int i0), .val (.int i1), .val (.int i2), .val (.int i3), .val (.int i4), .val (.int i5), .val (.int (0 : Int32)), .val (.int (i1 &&& (3 : Int32))), .val (.ref b1), .val (.ref b37), .val .null, .val (.ref b67)] [(.ref b67)])) (fun tq_ kq_ => XS.aload X74.here hx rfl (hb hby at_129) rfl rfl kq_) ?_
      obtain ⟨cq81, kq81, q81a, q81b, q81c⟩ := isOf hZ rfl P76
      obtain ⟨_, _, ⟨T81, L81, k81, n81⟩, -, X81, ⟨Lc81, hQ81, l81, y81, z81⟩, st81⟩ := X74.virtualBack hx (y := (⟨"com/example/evenkey/evenkey/model/Column", "hasQualifier", "()Z"⟩ : MethodName)) (z := (⟨"com/example/evenkey/evenkey/model/Column", "hasQualifier", "()Z"⟩ : MethodName)) hown (mvT hZ (hw _ (List.mem_of_getElem? (i := 32) rfl))) (mvT hZ (hw _ (List.mem_of_getElem? (i := 33) rfl))) (notFace_of_selects (args := #[]) (mvT hZ (hw _ (List.mem_of_getElem? (i := 35) rfl)))) (mvT hZ (hw _ (List.mem_of_getElem? (i := 35) rfl))) (mvT hZ (hw _ (List.mem_of_getElem? (i := 34) rfl))) (by decide) (backOf (W := 0) (rm_hqN l Z a0 hw [] b67 T74.heap n0 O79 P77) hZ (hw _ (List.mem_of_getElem? (i := 36) rfl)) (hw _ (List.mem_of_getElem? (i := 11) rfl)) (by decide) (by decide)) q81a q81c (g := (mkF m 131 #[.val (.int i0), .val (.int i1), .val (.int i2), .val (.int i3), .val (.int i4), .val (.int i5), .val (.int (0 : Int32)), .val (.int (i1 &&& (3 : Int32))), .val (.ref b1), .val (.ref b37), .val .null, .val (.ref b67)] [(.ref b67)])) rfl (by rw [hml]; rfl) (Steps.refl _) (argsL := []) (rest := []) (lenOf pd__28_29Z rfl) rfl (by show 2 * 0 + _ ≤ _; exact Nat.le_of_eq rfl) (hb hby at_131) (fun _ _ => ⟨rfl, rfl, (by decide : 6 + 0 ≤ _), (by decide : 38 + 0 ≤ _)⟩)
      dsimp only [Pt.U, Pt.locs, Pt.cells, Pt.slots] at X81 l81 y81 z81 st81 hQ81
      subst l81 y81 z81
      obtain ⟨rfl, Nq81, P82⟩ := hQ81
      have N81 := Fr.app N74 Nq81
      refine own_GW.step (T' := T81) (g' := (mkF m 134 #[.val (.int i0), .val (.int i1), .val (.int i2), .val (.int i3), .val (.int i4), .val (.int i5), .val (.int (0 : Int32)), .val (.int (i1 &&& (3 : Int32))), .val (.ref b1), .val (.ref b37), .val .null, .val (.ref b67)] [(.int (0 : Int32))])) (fun tq_ kq_ => st81.trans kq_) ?_
      refine own_GW.step (g' := (mkF m 136 #[.val (.int i0), .val (.int i1), .val (.int i2), .val (.int i3), .val (.int i4), .val (.int i5), .val (.int (0 : Int32)), .val (.int (i1 &&& (3 : Int32))), .val (.ref b1), .val (.ref b37), .val .null, .val (.ref b67)] [(.int (0 : Int32)), (.int (0 : Int32))])) (fun tq_ kq_ => XS.iload X81.here hx rfl (hb hby at_134) rfl kq_) ?_
      have hc136 : (0 : Int32) = (0 : Int32) := (by decide)
      refine own_GW.step (g' := (mkF m 139 #[.val (.int i0), .val (.int i1), .val (.int i2), .val (.int i3), .val (.int i4), .val (.int i5), .val (.int (0 : Int32)), .val (.int (i1 &&& (3 : Int32))), .val (.ref b1), .val (.ref b37), .val .null, .val (.ref b67)] [])) (fun tq_ kq_ => XS.icmpNo X81.here hx rfl (hb hby at_136) rfl (teq hc136).2 kq_) ?_
      refine own_GW.step (g' := (mkF m 140 #[.val (.int i0), .val (.int i1), .val (.int i2), .val (.int i3), .val (.int i4), .val (.int i5), .val (.int (0 : Int32)), .val (.int (i1 &&& (3 : Int32))), .val (.ref b1), .val (.ref b37), .val .null, .val (.ref b67)] [(.int (1 : Int32))])) (fun tq_ kq_ => XS.iconst X81.here hx rfl (hb hby at_139) kq_) ?_
      refine own_GW.step (g' := (mkF m 144 #[.val (.int i0), .val (.int i1), .val (.int i2), .val (.int i3), .val (.int i4), .val (.int i5), .val (.int (0 : Int32)), .val (.int (i1 &&& (3 : Int32))), .val (.ref b1), .val (.ref b37), .val .null, .val (.ref b67)] [(.int (1 : Int32))])) (fun tq_ kq_ => XS.goto X81.here hx rfl (pc0 := 140) (pc' := 144) rfl (hb hby at_140) (by decide) (by decide) kq_) ?_
      exact own_retW X81 hS P82 hkS (v := some (.int (1 : Int32))) (fun h => by rw [Bd.returns] at h; cases h) Bd.notSynchronized ⟨rfl, N81⟩ (by decide) (by decide) (fun fs hr => retN X81 hx (t := .boolean) Bd.returns (by simp) (hb hby at_144) hr)
  · refine own_GW.step (g' := (mkF m 6 #[.val (.int i0), .val (.int i1), .val (.int i2), .val (.int i3), .val (.int i4), .val (.int i5), .unset, .unset, .unset, .unset, .unset, .unset] [])) (fun tq_ kq_ => XS.ifNo X0.here hx rfl (hb hby at_3) rfl ((if0 _ _).trans (feq hc3).1) kq_) ?_
    refine own_GW.step (g' := (mkF m 7 #[.val (.int i0), .val (.int i1), .val (.int i2), .val (.int i3), .val (.int i4), .val (.int i5), .unset, .unset, .unset, .unset, .unset, .unset] [(.int (1 : Int32))])) (fun tq_ kq_ => XS.iconst X0.here hx rfl (hb hby at_6) kq_) ?_
    refine own_GW.step (g' := (mkF m 11 #[.val (.int i0), .val (.int i1), .val (.int i2), .val (.int i3), .val (.int i4), .val (.int i5), .unset, .unset, .unset, .unset, .unset, .unset] [(.int (1 : Int32))])) (fun tq_ kq_ => XS.goto X0.here hx rfl (pc0 := 7) (pc' := 11) rfl (hb hby at_7) (by decide) (by decide) kq_) ?_
    refine own_GW.step (g' := (mkF m 13 #[.val (.int i0), .val (.int i1), .val (.int i2), .val (.int i3), .val (.int i4), .val (.int i5), .val (.int (1 : Int32)), .unset, .unset, .unset, .unset, .unset] [])) (fun tq_ kq_ => XS.istore X0.here hx rfl (hb hby at_11) rfl (l' := #[.val (.int i0), .val (.int i1), .val (.int i2), .val (.int i3), .val (.int i4), .val (.int i5), .val (.int (1 : Int32)), .unset, .unset, .unset, .unset, .unset]) rfl kq_) ?_
    refine own_GW.step (g' := (mkF m 14 #[.val (.int i0), .val (.int i1), .val (.int i2), .val (.int i3), .val (.int i4), .val (.int i5), .val (.int (1 : Int32)), .unset, .unset, .unset, .unset, .unset] [(.int i1)])) (fun tq_ kq_ => XS.iloadN X0.here hx rfl (hb hby at_13) rfl kq_) ?_
    refine own_GW.step (g' := (mkF m 15 #[.val (.int i0), .val (.int i1), .val (.int i2), .val (.int i3), .val (.int i4), .val (.int i5), .val (.int (1 : Int32)), .unset, .unset, .unset, .unset, .unset] [(.int (3 : Int32)), (.int i1)])) (fun tq_ kq_ => XS.iconst X0.here hx rfl (hb hby at_14) kq_) ?_
    refine own_GW.step (g' := (mkF m 16 #[.val (.int i0), .val (.int i1), .val (.int i2), .val (.int i3), .val (.int i4), .val (.int i5), .val (.int (1 : Int32)), .unset, .unset, .unset, .unset, .unset] [(.int (i1 &&& (3 : Int32)))])) (fun tq_ kq_ => XS.iand X0.here hx rfl (hb hby at_15) rfl kq_) ?_
    refine own_GW.step (g' := (mkF m 18 #[.val (.int i0), .val (.int i1), .val (.int i2), .val (.int i3), .val (.int i4), .val (.int i5), .val (.int (1 : Int32)), .val (.int (i1 &&& (3 : Int32))), .unset, .unset, .unset, .unset] [])) (fun tq_ kq_ => XS.istore X0.here hx rfl (hb hby at_16) rfl (l' := #[.val (.int i0), .val (.int i1), .val (.int i2), .val (.int i3), .val (.int i4), .val (.int i5), .val (.int (1 : Int32)), .val (.int (i1 &&& (3 : Int32))), .unset, .unset, .unset, .unset]) rfl kq_) ?_
    have hws : ∀ d ∈ StrChars.Road.words, d.before a0 Z = true := fun d hd => hw d ((by decide +kernel : ∀ d ∈ StrChars.Road.words, d ∈ tables_1) d hd)
    refine own_GW.step (g' := (mkF m 19 #[.val (.int i0), .val (.int i1), .val (.int i2), .val (.int i3), .val (.int i4), .val (.int i5), .val (.int (1 : Int32)), .val (.int (i1 &&& (3 : Int32))), .unset, .unset, .unset, .unset] [(.int (2 : Int32))])) (fun tq_ kq_ => XS.iconst X0.here hx rfl (hb hby at_18) kq_) ?_
    obtain ⟨T83, h83, k83, X83, e83, E83, A83, st83⟩ := newP X0 hx hZ (hw _ (List.mem_of_getElem? (i := 0) rfl)) e0 (g := (mkF m 19 #[.val (.int i0), .val (.int i1), .val (.int i2), .val (.int i3), .val (.int i4), .val (.int i5), .val (.int (1 : Int32)), .val (.int (i1 &&& (3 : Int32))), .unset, .unset, .unset, .unset] [(.int (2 : Int32))])) rfl (hb hby at_19) rfl (by decide) (cap := 2) (by decide) (by decide) (by decide) (by decide)
    obtain ⟨b83, g83⟩ : ∃ z, z = h0.size := ⟨_, rfl⟩
    rw [← g83] at A83 st83
    have g84 : n0 ≤ b83 := Nat.le_trans O0.le (Nat.le_of_eq g83.symm)
    have z85 : h0.size ≤ b83 := Nat.le_trans K0.1 (Nat.le_of_eq g83.symm)
    have hkS := Nat.le_trans hkS E83.1
    have O86 := O0.ext E83
    have K87 := K0.ext E83
    have F88 : Arv Z h83 b83 k83 .char (2 : Int32) [(.int (0 : Int32)), (.int (0 : Int32))] (.int (0 : Int32)) := (Arv.new A83 (by decide)).pad (pad_rep [] (.int (0 : Int32)) 2)
    refine own_GW.step (T' := T83) (g' := (mkF m 21 #[.val (.int i0), .val (.int i1), .val (.int i2), .val (.int i3), .val (.int i4), .val (.int i5), .val (.int (1 : Int32)), .val (.int (i1 &&& (3 : Int32))), .unset, .unset, .unset, .unset] [(.ref b83)])) st83 ?_
    refine own_GW.step (g' := (mkF m 22 #[.val (.int i0), .val (.int i1), .val (.int i2), .val (.int i3), .val (.int i4), .val (.int i5), .val (.int (1 : Int32)), .val (.int (i1 &&& (3 : Int32))), .unset, .unset, .unset, .unset] [(.ref b83), (.ref b83)])) (fun tq_ kq_ => XS.dup X83.here hx rfl (hb hby at_21) rfl rfl kq_) ?_
    refine own_GW.step (g' := (mkF m 23 #[.val (.int i0), .val (.int i1), .val (.int i2), .val (.int i3), .val (.int i4), .val (.int i5), .val (.int (1 : Int32)), .val (.int (i1 &&& (3 : Int32))), .unset, .unset, .unset, .unset] [(.int (0 : Int32)), (.ref b83), (.ref b83)])) (fun tq_ kq_ => XS.iconst X83.here hx rfl (hb hby at_22) kq_) ?_
    refine own_GW.step (g' := (mkF m 25 #[.val (.int i0), .val (.int i1), .val (.int i2), .val (.int i3), .val (.int i4), .val (.int i5), .val (.int (1 : Int32)), .val (.int (i1 &&& (3 : Int32))), .unset, .unset, .unset, .unset] [(.int i4), (.int (0 : Int32)), (.ref b83), (.ref b83)])) (fun tq_ kq_ => XS.iload X83.here hx rfl (hb hby at_23) rfl kq_) ?_
    refine own_GW.step (g' := (mkF m 28 #[.val (.int i0), .val (.int i1), .val (.int i2), .val (.int i3), .val (.int i4), .val (.int i5), .val (.int (1 : Int32)), .val (.int (i1 &&& (3 : Int32))), .unset, .unset, .unset, .unset] [(.int (255 : Int32)), (.int i4), (.int (0 : Int32)), (.ref b83), (.ref b83)])) (fun tq_ kq_ => XS.sipush X83.here hx rfl (hb hby at_25) kq_) ?_
    refine own_GW.step (g' := (mkF m 29 #[.val (.int i0), .val (.int i1), .val (.int i2), .val (.int i3), .val (.int i4), .val (.int i5), .val (.int (1 : Int32)), .val (.int (i1 &&& (3 : Int32))), .unset, .unset, .unset, .unset] [(.int (i4 &&& (255 : Int32))), (.int (0 : Int32)), (.ref b83), (.ref b83)])) (fun tq_ kq_ => XS.iand X83.here hx rfl (hb hby at_28) rfl kq_) ?_
    refine own_GW.step (g' := (mkF m 30 #[.val (.int i0), .val (.int i1), .val (.int i2), .val (.int i3), .val (.int i4), .val (.int i5), .val (.int (1 : Int32)), .val (.int (i1 &&& (3 : Int32))), .unset, .unset, .unset, .unset] [(.int ((i4 &&& (255 : Int32)).toUInt32.toUInt16.toUInt32.toInt32)), (.int (0 : Int32)), (.ref b83), (.ref b83)])) (fun tq_ kq_ => XS.i2c X83.here hx rfl (hb hby at_29) rfl kq_) ?_
    obtain ⟨cl89, Ar89, q189, Sz89, Nz89, Hh89, Gg89⟩ := id F88
    obtain ⟨T89, h89, X89, e89, W89, st89⟩ := stC X83 hx hZ e83 Ar89 (j := (0 : Int32)) (inb_of Sz89 ⟨by decide, by decide⟩) (g := (mkF m 30 #[.val (.int i0), .val (.int i1), .val (.int i2), .val (.int i3), .val (.int i4), .val (.int i5), .val (.int (1 : Int32)), .val (.int (i1 &&& (3 : Int32))), .unset, .unset, .unset, .unset] [(.int ((i4 &&& (255 : Int32)).toUInt32.toUInt16.toUInt32.toInt32)), (.int (0 : Int32)), (.ref b83), (.ref b83)])) rfl rfl (hb hby at_30)
    have F90 : Arv Z h89 b83 k83 .char (2 : Int32) [(.int (nar .char ((i4 &&& (255 : Int32)).toUInt32.toUInt16.toUInt32.toInt32))), (.int (0 : Int32))] (.int (0 : Int32)) := Arv.set Ar89 q189 Sz89 Nz89 Hh89 Gg89 (fits_nar_char _) W89 0 rfl (Nat.le_of_ble_eq_true rfl)
    have N89 := Fr.snoc X89 N0 g84
    have hkS := Nat.le_trans hkS (Keep.of_wr W89).1
    have O92 := O86.wr W89 g84
    have K93 := K87.wr W89 (Or.inr z85)
    refine own_GW.step (T' := T89) (g' := (mkF m 31 #[.val (.int i0), .val (.int i1), .val (.int i2), .val (.int i3), .val (.int i4), .val (.int i5), .val (.int (1 : Int32)), .val (.int (i1 &&& (3 : Int32))), .unset, .unset, .unset, .unset] [(.ref b83)])) st89 ?_
    refine own_GW.step (g' := (mkF m 32 #[.val (.int i0), .val (.int i1), .val (.int i2), .val (.int i3), .val (.int i4), .val (.int i5), .val (.int (1 : Int32)), .val (.int (i1 &&& (3 : Int32))), .unset, .unset, .unset, .unset] [(.ref b83), (.ref b83)])) (fun tq_ kq_ => XS.dup X89.here hx rfl (hb hby at_31) rfl rfl kq_) ?_
    refine own_GW.step (g' := (mkF m 33 #[.val (.int i0), .val (.int i1), .val (.int i2), .val (.int i3), .val (.int i4), .val (.int i5), .val (.int (1 : Int32)), .val (.int (i1 &&& (3 : Int32))), .unset, .unset, .unset, .unset] [(.int (1 : Int32)), (.ref b83), (.ref b83)])) (fun tq_ kq_ => XS.iconst X89.here hx rfl (hb hby at_32) kq_) ?_
    refine own_GW.step (g' := (mkF m 35 #[.val (.int i0), .val (.int i1), .val (.int i2), .val (.int i3), .val (.int i4), .val (.int i5), .val (.int (1 : Int32)), .val (.int (i1 &&& (3 : Int32))), .unset, .unset, .unset, .unset] [(.int i5), (.int (1 : Int32)), (.ref b83), (.ref b83)])) (fun tq_ kq_ => XS.iload X89.here hx rfl (hb hby at_33) rfl kq_) ?_
    refine own_GW.step (g' := (mkF m 38 #[.val (.int i0), .val (.int i1), .val (.int i2), .val (.int i3), .val (.int i4), .val (.int i5), .val (.int (1 : Int32)), .val (.int (i1 &&& (3 : Int32))), .unset, .unset, .unset, .unset] [(.int (255 : Int32)), (.int i5), (.int (1 : Int32)), (.ref b83), (.ref b83)])) (fun tq_ kq_ => XS.sipush X89.here hx rfl (hb hby at_35) kq_) ?_
    refine own_GW.step (g' := (mkF m 39 #[.val (.int i0), .val (.int i1), .val (.int i2), .val (.int i3), .val (.int i4), .val (.int i5), .val (.int (1 : Int32)), .val (.int (i1 &&& (3 : Int32))), .unset, .unset, .unset, .unset] [(.int (i5 &&& (255 : Int32))), (.int (1 : Int32)), (.ref b83), (.ref b83)])) (fun tq_ kq_ => XS.iand X89.here hx rfl (hb hby at_38) rfl kq_) ?_
    refine own_GW.step (g' := (mkF m 40 #[.val (.int i0), .val (.int i1), .val (.int i2), .val (.int i3), .val (.int i4), .val (.int i5), .val (.int (1 : Int32)), .val (.int (i1 &&& (3 : Int32))), .unset, .unset, .unset, .unset] [(.int ((i5 &&& (255 : Int32)).toUInt32.toUInt16.toUInt32.toInt32)), (.int (1 : Int32)), (.ref b83), (.ref b83)])) (fun tq_ kq_ => XS.i2c X89.here hx rfl (hb hby at_39) rfl kq_) ?_
    obtain ⟨cl94, Ar94, q194, Sz94, Nz94, Hh94, Gg94⟩ := id F90
    obtain ⟨T94, h94, X94, e94, W94, st94⟩ := stC X89 hx hZ e89 Ar94 (j := (1 : Int32)) (inb_of Sz94 ⟨by decide, by decide⟩) (g := (mkF m 40 #[.val (.int i0), .val (.int i1), .val (.int i2), .val (.int i3), .val (.int i4), .val (.int i5), .val (.int (1 : Int32)), .val (.int (i1 &&& (3 : Int32))), .unset, .unset, .unset, .unset] [(.int ((i5 &&& (255 : Int32)).toUInt32.toUInt16.toUInt32.toInt32)), (.int (1 : Int32)), (.ref b83), (.ref b83)])) rfl rfl (hb hby at_40)
    have F95 : Arv Z h94 b83 k83 .char (2 : Int32) [(.int (nar .char ((i4 &&& (255 : Int32)).toUInt32.toUInt16.toUInt32.toInt32))), (.int (nar .char ((i5 &&& (255 : Int32)).toUInt32.toUInt16.toUInt32.toInt32)))] (.int (0 : Int32)) := Arv.set Ar94 q194 Sz94 Nz94 Hh94 Gg94 (fits_nar_char _) W94 1 rfl (Nat.le_of_ble_eq_true rfl)
    have N94 := Fr.snoc X94 N89 g84
    have hkS := Nat.le_trans hkS (Keep.of_wr W94).1
    have O97 := O92.wr W94 g84
    have K98 := K93.wr W94 (Or.inr z85)
    refine own_GW.step (T' := T94) (g' := (mkF m 41 #[.val (.int i0), .val (.int i1), .val (.int i2), .val (.int i3), .val (.int i4), .val (.int i5), .val (.int (1 : Int32)), .val (.int (i1 &&& (3 : Int32))), .unset, .unset, .unset, .unset] [(.ref b83)])) st94 ?_
    refine own_GW.step (g' := (mkF m 43 #[.val (.int i0), .val (.int i1), .val (.int i2), .val (.int i3), .val (.int i4), .val (.int i5), .val (.int (1 : Int32)), .val (.int (i1 &&& (3 : Int32))), .val (.ref b83), .unset, .unset, .unset] [])) (fun tq_ kq_ => XS.astore X94.here hx rfl (hb hby at_41) rfl rfl (l' := #[.val (.int i0), .val (.int i1), .val (.int i2), .val (.int i3), .val (.int i4), .val (.int i5), .val (.int (1 : Int32)), .val (.int (i1 &&& (3 : Int32))), .val (.ref b83), .unset, .unset, .unset]) rfl kq_) ?_
    refine own_GW.step (g' := (mkF m 44 #[.val (.int i0), .val (.int i1), .val (.int i2), .val (.int i3), .val (.int i4), .val (.int i5), .val (.int (1 : Int32)), .val (.int (i1 &&& (3 : Int32))), .val (.ref b83), .unset, .unset, .unset] [(.int i0)])) (fun tq_ kq_ => XS.iloadN X94.here hx rfl (hb hby at_43) rfl kq_) ?_
    refine own_GW.step (g' := (mkF m 45 #[.val (.int i0), .val (.int i1), .val (.int i2), .val (.int i3), .val (.int i4), .val (.int i5), .val (.int (1 : Int32)), .val (.int (i1 &&& (3 : Int32))), .val (.ref b83), .unset, .unset, .unset] [(.int (2 : Int32)), (.int i0)])) (fun tq_ kq_ => XS.iconst X94.here hx rfl (hb hby at_44) kq_) ?_
    refine own_GW.step (g' := (mkF m 46 #[.val (.int i0), .val (.int i1), .val (.int i2), .val (.int i3), .val (.int i4), .val (.int i5), .val (.int (1 : Int32)), .val (.int (i1 &&& (3 : Int32))), .val (.ref b83), .unset, .unset, .unset] [(.int (i0 &&& (2 : Int32)))])) (fun tq_ kq_ => XS.iand X94.here hx rfl (hb hby at_45) rfl kq_) ?_
    rcases Classical.em ((i0 &&& (2 : Int32)) = (0 : Int32)) with hc46 | hc46
    · refine own_GW.step (g' := (mkF m 61 #[.val (.int i0), .val (.int i1), .val (.int i2), .val (.int i3), .val (.int i4), .val (.int i5), .val (.int (1 : Int32)), .val (.int (i1 &&& (3 : Int32))), .val (.ref b83), .unset, .unset, .unset] [])) (fun tq_ kq_ => XS.ifYes X94.here hx rfl (pc0 := 46) (pc' := 61) rfl (hb hby at_46) rfl ((if0 _ _).trans (teq hc46).1) (by decide) (by decide) kq_) ?_
      obtain ⟨a99, T99, h99, k99, X99, e99, E99, hS, hkS, hZ, hown, st99⟩ := ldcS (vm0 := s.vm) X94 hx hZ hown (hw _ (List.mem_of_getElem? (i := 1) rfl)) own_wS e94 hS hkS (g := (mkF m 61 #[.val (.int i0), .val (.int i1), .val (.int i2), .val (.int i3), .val (.int i4), .val (.int i5), .val (.int (1 : Int32)), .val (.int (i1 &&& (3 : Int32))), .val (.ref b83), .unset, .unset, .unset] [])) rfl (hb hby at_61) (n := 0) (by decide +kernel) (by decide) (by decide) (by decide)
      have F100 := F95.ext E99
      have O101 := O97.ext E99
      have K102 := K98.ext E99
      refine own_GW.step (T' := T99) (g' := (mkF m 63 #[.val (.int i0), .val (.int i1), .val (.int i2), .val (.int i3), .val (.int i4), .val (.int i5), .val (.int (1 : Int32)), .val (.int (i1 &&& (3 : Int32))), .val (.ref b83), .unset, .unset, .unset] [(.ref a99)])) st99 ?_
      refine own_GW.step (g' := (mkF m 65 #[.val (.int i0), .val (.int i1), .val (.int i2), .val (.int i3), .val (.int i4), .val (.int i5), .val (.int (1 : Int32)), .val (.int (i1 &&& (3 : Int32))), .val (.ref b83), .val (.ref a99), .unset, .unset] [])) (fun tq_ kq_ => XS.astore X99.here hx rfl (hb hby at_63) rfl rfl (l' := #[.val (.int i0), .val (.int i1), .val (.int i2), .val (.int i3), .val (.int i4), .val (.int i5), .val (.int (1 : Int32)), .val (.int (i1 &&& (3 : Int32))), .val (.ref b83), .val (.ref a99), .unset, .unset]) rfl kq_) ?_
      refine own_GW.step (g' := (mkF m 66 #[.val (.int i0), .val (.int i1), .val (.int i2), .val (.int i3), .val (.int i4), .val (.int i5), .val (.int (1 : Int32)), .val (.int (i1 &&& (3 : Int32))), .val (.ref b83), .val (.ref a99), .unset, .unset] [.null])) (fun tq_ kq_ => XS.aconstNull X99.here hx rfl (hb hby at_65) kq_) ?_
      refine own_GW.step (g' := (mkF m 68 #[.val (.int i0), .val (.int i1), .val (.int i2), .val (.int i3), .val (.int i4), .val (.int i5), .val (.int (1 : Int32)), .val (.int (i1 &&& (3 : Int32))), .val (.ref b83), .val (.ref a99), .val .null, .unset] [])) (fun tq_ kq_ => XS.astore X99.here hx rfl (hb hby at_66) rfl rfl (l' := #[.val (.int i0), .val (.int i1), .val (.int i2), .val (.int i3), .val (.int i4), .val (.int i5), .val (.int (1 : Int32)), .val (.int (i1 &&& (3 : Int32))), .val (.ref b83), .val (.ref a99), .val .null, .unset]) rfl kq_) ?_
      refine own_GW.step (g' := (mkF m 70 #[.val (.int i0), .val (.int i1), .val (.int i2), .val (.int i3), .val (.int i4), .val (.int i5), .val (.int (1 : Int32)), .val (.int (i1 &&& (3 : Int32))), .val (.ref b83), .val (.ref a99), .val .null, .unset] [(.int (1 : Int32))])) (fun tq_ kq_ => XS.iload X99.here hx rfl (hb hby at_68) rfl kq_) ?_
      have hc70 : ¬ ((1 : Int32) = (0 : Int32)) := (by decide)
      refine own_GW.step (g' := (mkF m 73 #[.val (.int i0), .val (.int i1), .val (.int i2), .val (.int i3), .val (.int i4), .val (.int i5), .val (.int (1 : Int32)), .val (.int (i1 &&& (3 : Int32))), .val (.ref b83), .val (.ref a99), .val .null, .unset] [])) (fun tq_ kq_ => XS.ifNo X99.here hx rfl (hb hby at_70) rfl ((if0 _ _).trans (feq hc70).1) kq_) ?_
      obtain ⟨n, hn⟩ : ∃ z, z = (i1 &&& (3 : Int32)) := ⟨_, rfl⟩
      refine own_GW.cast (g' := (mkF m 73 #[.val (.int i0), .val (.int i1), .val (.int i2), .val (.int i3), .val (.int i4), .val (.int i5), .val (.int (1 : Int32)), .val (.int n), .val (.ref b83), .val (.ref a99), .val .null, .unset] [])) (by rw [hn]) ?_
      have hn4 := own_four i1
      rw [← hn] at hn4
      rcases hn4 with rfl | rfl | rfl | rfl
      · refine own_GW.step (g' := (mkF m 75 #[.val (.int i0), .val (.int i1), .val (.int i2), .val (.int i3), .val (.int i4), .val (.int i5), .val (.int (1 : Int32)), .val (.int (0 : Int32)), .val (.ref b83), .val (.ref a99), .val .null, .unset] [(.int (0 : Int32))])) (fun tq_ kq_ => XS.iload X99.here hx rfl (hb hby at_73) rfl kq_) ?_
        obtain ⟨T103, h103, k103, X103, e103, E103, A103, st103⟩ := newP X99 hx hZ (hw _ (List.mem_of_getElem? (i := 4) rfl)) e99 (g := (mkF m 75 #[.val (.int i0), .val (.int i1), .val (.int i2), .val (.int i3), .val (.int i4), .val (.int i5), .val (.int (1 : Int32)), .val (.int (0 : Int32)), .val (.ref b83), .val (.ref a99), .val .null, .unset] [(.int (0 : Int32))])) rfl (hb hby at_75) rfl (by decide) (cap := 0) (by decide) (by decide) (by decide) (by decide)
        obtain ⟨b103, g103⟩ : ∃ z, z = h99.size := ⟨_, rfl⟩
        rw [← g103] at A103 st103
        have g104 : n0 ≤ b103 := Nat.le_trans O101.le (Nat.le_of_eq g103.symm)
        have z105 : h0.size ≤ b103 := Nat.le_trans K102.1 (Nat.le_of_eq g103.symm)
        have hkS := Nat.le_trans hkS E103.1
        have O106 := O101.ext E103
        have K107 := K102.ext E103
        have F108 : Arv Z h103 b103 k103 .byte (0 : Int32) [] (.int (0 : Int32)) := (Arv.new A103 (by decide)).pad (pad_rep [] (.int (0 : Int32)) 0)
        refine own_GW.step (T' := T103) (g' := (mkF m 77 #[.val (.int i0), .val (.int i1), .val (.int i2), .val (.int i3), .val (.int i4), .val (.int i5), .val (.int (1 : Int32)), .val (.int (0 : Int32)), .val (.ref b83), .val (.ref a99), .val .null, .unset] [(.ref b103)])) st103 ?_
        refine own_GW.step (g' := (mkF m 79 #[.val (.int i0), .val (.int i1), .val (.int i2), .val (.int i3), .val (.int i4), .val (.int i5), .val (.int (1 : Int32)), .val (.int (0 : Int32)), .val (.ref b83), .val (.ref a99), .val (.ref b103), .unset] [])) (fun tq_ kq_ => XS.astore X103.here hx rfl (hb hby at_77) rfl rfl (l' := #[.val (.int i0), .val (.int i1), .val (.int i2), .val (.int i3), .val (.int i4), .val (.int i5), .val (.int (1 : Int32)), .val (.int (0 : Int32)), .val (.ref b83), .val (.ref a99), .val (.ref b103), .unset]) rfl kq_) ?_
        refine own_GW.step (g' := (mkF m 81 #[.val (.int i0), .val (.int i1), .val (.int i2), .val (.int i3), .val (.int i4), .val (.int i5), .val (.int (1 : Int32)), .val (.int (0 : Int32)), .val (.ref b83), .val (.ref a99), .val (.ref b103), .unset] [(.int (0 : Int32))])) (fun tq_ kq_ => XS.iload X103.here hx rfl (hb hby at_79) rfl kq_) ?_
        have hc81 : ¬ ((0 : Int32) < (0 : Int32)) := (by decide)
        refine own_GW.step (g' := (mkF m 90 #[.val (.int i0), .val (.int i1), .val (.int i2), .val (.int i3), .val (.int i4), .val (.int i5), .val (.int (1 : Int32)), .val (.int (0 : Int32)), .val (.ref b83), .val (.ref a99), .val (.ref b103), .unset] [])) (fun tq_ kq_ => XS.ifYes X103.here hx rfl (pc0 := 81) (pc' := 90) rfl (hb hby at_81) rfl ((if0 _ _).trans (flt hc81).2.2.2) (by decide) (by decide) kq_) ?_
        refine own_GW.step (g' := (mkF m 92 #[.val (.int i0), .val (.int i1), .val (.int i2), .val (.int i3), .val (.int i4), .val (.int i5), .val (.int (1 : Int32)), .val (.int (0 : Int32)), .val (.ref b83), .val (.ref a99), .val (.ref b103), .unset] [(.int (0 : Int32))])) (fun tq_ kq_ => XS.iload X103.here hx rfl (hb hby at_90) rfl kq_) ?_
        refine own_GW.step (g' := (mkF m 93 #[.val (.int i0), .val (.int i1), .val (.int i2), .val (.int i3), .val (.int i4), .val (.int i5), .val (.int (1 : Int32)), .val (.int (0 : Int32)), .val (.ref b83), .val (.ref a99), .val (.ref b103), .unset] [(.int (1 : Int32)), (.int (0 : Int32))])) (fun tq_ kq_ => XS.iconst X103.here hx rfl (hb hby at_92) kq_) ?_
        have hc93 : ¬ ((1 : Int32) < (0 : Int32)) := (by decide)
        refine own_GW.step (g' := (mkF m 102 #[.val (.int i0), .val (.int i1), .val (.int i2), .val (.int i3), .val (.int i4), .val (.int i5), .val (.int (1 : Int32)), .val (.int (0 : Int32)), .val (.ref b83), .val (.ref a99), .val (.ref b103), .unset] [])) (fun tq_ kq_ => XS.icmpYes X103.here hx rfl (pc0 := 93) (pc' := 102) rfl (hb hby at_93) rfl (flt hc93).2.2.2 (by decide) (by decide) kq_) ?_
        refine own_GW.step (g' := (mkF m 104 #[.val (.int i0), .val (.int i1), .val (.int i2), .val (.int i3), .val (.int i4), .val (.int i5), .val (.int (1 : Int32)), .val (.int (0 : Int32)), .val (.ref b83), .val (.ref a99), .val (.ref b103), .unset] [(.int (0 : Int32))])) (fun tq_ kq_ => XS.iload X103.here hx rfl (hb hby at_102) rfl kq_) ?_
        refine own_GW.step (g' := (mkF m 105 #[.val (.int i0), .val (.int i1), .val (.int i2), .val (.int i3), .val (.int i4), .val (.int i5), .val (.int (1 : Int32)), .val (.int (0 : Int32)), .val (.ref b83), .val (.ref a99), .val (.ref b103), .unset] [(.int (2 : Int32)), (.int (0 : Int32))])) (fun tq_ kq_ => XS.iconst X103.here hx rfl (hb hby at_104) kq_) ?_
        have hc105 : ¬ ((2 : Int32) < (0 : Int32)) := (by decide)
        refine own_GW.step (g' := (mkF m 116 #[.val (.int i0), .val (.int i1), .val (.int i2), .val (.int i3), .val (.int i4), .val (.int i5), .val (.int (1 : Int32)), .val (.int (0 : Int32)), .val (.ref b83), .val (.ref a99), .val (.ref b103), .unset] [])) (fun tq_ kq_ => XS.icmpYes X103.here hx rfl (pc0 := 105) (pc' := 116) rfl (hb hby at_105) rfl (flt hc105).2.2.2 (by decide) (by decide) kq_) ?_
        obtain ⟨T109, h109, X109, e109, E109, A109, D109, -, st109⟩ := newO X103 hx hZ hown (hw _ (List.mem_of_getElem? (i := 9) rfl)) (hw _ (List.mem_of_getElem? (i := 10) rfl)) (hw _ (List.mem_of_getElem? (i := 11) rfl)) e103 (g := (mkF m 116 #[.val (.int i0), .val (.int i1), .val (.int i2), .val (.int i3), .val (.int i4), .val (.int i5), .val (.int (1 : Int32)), .val (.int (0 : Int32)), .val (.ref b83), .val (.ref a99), .val (.ref b103), .unset] [])) rfl (hb hby at_116) (by decide) (by decide)
        obtain ⟨b109, g109⟩ : ∃ z, z = h103.size := ⟨_, rfl⟩
        rw [← g109] at A109 D109 st109
        have g110 : n0 ≤ b109 := Nat.le_trans O106.le (Nat.le_of_eq g109.symm)
        have z111 : h0.size ≤ b109 := Nat.le_trans K107.1 (Nat.le_of_eq g109.symm)
        have hkS := Nat.le_trans hkS E109.1
        have O112 := O106.ext E109
        have K113 := K107.ext E109
        have F114 : Fld Z h109 b109 "com/example/evenkey/evenkey/model/Column" "family" "Ljava/lang/String;" .null := D109 (Or.inr (hw _ (List.mem_of_getElem? (i := 29) rfl))) (ty := (.object "java/lang/String")) (by decide)
        have F115 : Fld Z h109 b109 "com/example/evenkey/evenkey/model/Column" "qualifier" "[B" .null := D109 (Or.inr (hw _ (List.mem_of_getElem? (i := 31) rfl))) (ty := (.array .byte)) (by decide)
        refine own_GW.step (T' := T109) (g' := (mkF m 119 #[.val (.int i0), .val (.int i1), .val (.int i2), .val (.int i3), .val (.int i4), .val (.int i5), .val (.int (1 : Int32)), .val (.int (0 : Int32)), .val (.ref b83), .val (.ref a99), .val (.ref b103), .unset] [(.ref b109)])) st109 ?_
        refine own_GW.step (g' := (mkF m 120 #[.val (.int i0), .val (.int i1), .val (.int i2), .val (.int i3), .val (.int i4), .val (.int i5), .val (.int (1 : Int32)), .val (.int (0 : Int32)), .val (.ref b83), .val (.ref a99), .val (.ref b103), .unset] [(.ref b109), (.ref b109)])) (fun tq_ kq_ => XS.dup X109.here hx rfl (hb hby at_119) rfl rfl kq_) ?_
        refine own_GW.step (g' := (mkF m 122 #[.val (.int i0), .val (.int i1), .val (.int i2), .val (.int i3), .val (.int i4), .val (.int i5), .val (.int (1 : Int32)), .val (.int (0 : Int32)), .val (.ref b83), .val (.ref a99), .val (.ref b103), .unset] [(.ref a99), (.ref b109), (.ref b109)])) (fun tq_ kq_ => XS.aload X109.here hx rfl (hb hby at_120) rfl rfl kq_) ?_
        refine own_GW.step (g' := (mkF m 124 #[.val (.int i0), .val (.int i1), .val (.int i2), .val (.int i3), .val (.int i4), .val (.int i5), .val (.int (1 : Int32)), .val (.int (0 : Int32)), .val (.ref b83), .val (.ref a99), .val (.ref b103), .unset] [(.ref b103), (.ref a99), (.ref b109), (.ref b109)])) (fun tq_ kq_ => XS.aload X109.here hx rfl (hb hby at_122) rfl rfl kq_) ?_
        obtain ⟨_, _, ⟨T116, L116, k116, n116⟩, -, X116, sS116, gS116, ⟨Lc116, hQ116, l116, y116, z116⟩, st116⟩ := X109.specialBackS hx (y := (⟨"com/example/evenkey/evenkey/model/Column", "<init>", "(Ljava/lang/String;[B)V"⟩ : MethodName)) rfl hown (mvT hZ (hw _ (List.mem_of_getElem? (i := 12) rfl))) (mvT hZ (hw _ (List.mem_of_getElem? (i := 13) rfl))) (mvT hZ (hw _ (List.mem_of_getElem? (i := 14) rfl))) (by decide) (backOfS (W := 1) (rm_coiR l Z a0 hw [] b109 a99 b103 h109 n0 O112 F114 F115 A109 g110) hZ (hw _ (List.mem_of_getElem? (i := 14) rfl)) (hw _ (List.mem_of_getElem? (i := 11) rfl)) (by decide) (by decide)) (g := (mkF m 124 #[.val (.int i0), .val (.int i1), .val (.int i2), .val (.int i3), .val (.int i4), .val (.int i5), .val (.int (1 : Int32)), .val (.int (0 : Int32)), .val (.ref b83), .val (.ref a99), .val (.ref b103), .unset] [(.ref b103), (.ref a99), (.ref b109), (.ref b109)])) rfl (by rw [hml]; rfl) (Steps.refl _) (a := b109) (argsL := [(.ref a99), (.ref b103)]) (rest := [(.ref b109)]) (lenOf pd__28Ljava_2flang_2fString_3b_5bB_29V rfl) rfl (by show 2 * 0 + _ ≤ _; exact Nat.le_of_eq rfl) (hb hby at_124) (fun _ _ => ⟨rfl, e109, (by decide : 5 + 2 ≤ _), (by decide : 8 + 28 ≤ _)⟩)
        dsimp only [Pt.U, Pt.locs, Pt.cells, Pt.slots] at X116 l116 y116 z116 st116 hQ116 sS116 gS116
        subst l116 y116 z116
        obtain ⟨X116, hS, hZ, hown⟩ := rebS (vm0 := T99.vm) hS (by rw [e109]; exact hkS) X116 sS116 gS116 hZ hown
        obtain ⟨rfl, Nq116, P117, P118, P119⟩ := hQ116
        have N116 := Fr.app N94 Nq116
        have hkS := Nat.le_trans hkS P117.1
        have F120 := A109.keep P117
        have O121 := O112.keep P117 (allS g110 all0)
        have K122 := K113.trans P117 (allS (Or.inr z111) all0)
        have hkS : T116.heap.size ≤ T116.heap.size := Nat.le_refl _
        refine own_GW.step (T' := T116) (g' := (mkF m 127 #[.val (.int i0), .val (.int i1), .val (.int i2), .val (.int i3), .val (.int i4), .val (.int i5), .val (.int (1 : Int32)), .val (.int (0 : Int32)), .val (.ref b83), .val (.ref a99), .val (.ref b103), .unset] [(.ref b109)])) (fun tq_ kq_ => st116.trans kq_) ?_
        refine own_GW.step (g' := (mkF m 129 #[.val (.int i0), .val (.int i1), .val (.int i2), .val (.int i3), .val (.int i4), .val (.int i5), .val (.int (1 : Int32)), .val (.int (0 : Int32)), .val (.ref b83), .val (.ref a99), .val (.ref b103), .val (.ref b109)] [])) (fun tq_ kq_ => XS.astore X116.here hx rfl (hb hby at_127) rfl rfl (l' := #[.val (.int i0), .val (.int i1), .val (.int i2), .val (.int i3), .val (.int i4), .val (.int i5), .val (.int (1 : Int32)), .val (.int (0 : Int32)), .val (.ref b83), .val (.ref a99), .val (.ref b103), .val (.ref b109)]) rfl kq_) ?_
        refine own_GW.step (g' := (mkF m 131 #[.val (.int i0), .val (.int i1), .val (.int i2), .val (.int i3), .val (.int i4), .val (.int i5), .val (.int (1 : Int32)), .val (.int (0 : Int32)), .val (.ref b83), .val (.ref a99), .val (.ref b103), .val (.ref b109)] [(.ref b109)])) (fun tq_ kq_ => XS.aload X116.here hx rfl (hb hby at_129) rfl rfl kq_) ?_
        obtain ⟨cq123, kq123, q123a, q123b, q123c⟩ := isOf hZ rfl P118
        obtain ⟨_, _, ⟨T123, L123, k123, n123⟩, -, X123, ⟨Lc123, hQ123, l123, y123, z123⟩, st123⟩ := X116.virtualBack hx (y := (⟨"com/example/evenkey/evenkey/model/Column", "hasQualifier", "()Z"⟩ : MethodName)) (z := (⟨"com/example/evenkey/evenkey/model/Column", "hasQualifier", "()Z"⟩ : MethodName)) hown (mvT hZ (hw _ (List.mem_of_getElem? (i := 32) rfl))) (mvT hZ (hw _ (List.mem_of_getElem? (i := 33) rfl))) (notFace_of_selects (args := #[]) (mvT hZ (hw _ (List.mem_of_getElem? (i := 35) rfl)))) (mvT hZ (hw _ (List.mem_of_getElem? (i := 35) rfl))) (mvT hZ (hw _ (List.mem_of_getElem? (i := 34) rfl))) (by decide) (backOf (W := 0) (rm_hqR l Z a0 hw [] b109 b103 T116.heap n0 O121 P119) hZ (hw _ (List.mem_of_getElem? (i := 36) rfl)) (hw _ (List.mem_of_getElem? (i := 11) rfl)) (by decide) (by decide)) q123a q123c (g := (mkF m 131 #[.val (.int i0), .val (.int i1), .val (.int i2), .val (.int i3), .val (.int i4), .val (.int i5), .val (.int (1 : Int32)), .val (.int (0 : Int32)), .val (.ref b83), .val (.ref a99), .val (.ref b103), .val (.ref b109)] [(.ref b109)])) rfl (by rw [hml]; rfl) (Steps.refl _) (argsL := []) (rest := []) (lenOf pd__28_29Z rfl) rfl (by show 2 * 0 + _ ≤ _; exact Nat.le_of_eq rfl) (hb hby at_131) (fun _ _ => ⟨rfl, rfl, (by decide : 7 + 0 ≤ _), (by decide : 36 + 0 ≤ _)⟩)
        dsimp only [Pt.U, Pt.locs, Pt.cells, Pt.slots] at X123 l123 y123 z123 st123 hQ123
        subst l123 y123 z123
        obtain ⟨rfl, Nq123, P124⟩ := hQ123
        have N123 := Fr.app N116 Nq123
        refine own_GW.step (T' := T123) (g' := (mkF m 134 #[.val (.int i0), .val (.int i1), .val (.int i2), .val (.int i3), .val (.int i4), .val (.int i5), .val (.int (1 : Int32)), .val (.int (0 : Int32)), .val (.ref b83), .val (.ref a99), .val (.ref b103), .val (.ref b109)] [(.int (1 : Int32))])) (fun tq_ kq_ => st123.trans kq_) ?_
        refine own_GW.step (g' := (mkF m 136 #[.val (.int i0), .val (.int i1), .val (.int i2), .val (.int i3), .val (.int i4), .val (.int i5), .val (.int (1 : Int32)), .val (.int (0 : Int32)), .val (.ref b83), .val (.ref a99), .val (.ref b103), .val (.ref b109)] [(.int (1 : Int32)), (.int (1 : Int32))])) (fun tq_ kq_ => XS.iload X123.here hx rfl (hb hby at_134) rfl kq_) ?_
        have hc136 : (1 : Int32) = (1 : Int32) := (by decide)
        refine own_GW.step (g' := (mkF m 139 #[.val (.int i0), .val (.int i1), .val (.int i2), .val (.int i3), .val (.int i4), .val (.int i5), .val (.int (1 : Int32)), .val (.int (0 : Int32)), .val (.ref b83), .val (.ref a99), .val (.ref b103), .val (.ref b109)] [])) (fun tq_ kq_ => XS.icmpNo X123.here hx rfl (hb hby at_136) rfl (teq hc136).2 kq_) ?_
        refine own_GW.step (g' := (mkF m 140 #[.val (.int i0), .val (.int i1), .val (.int i2), .val (.int i3), .val (.int i4), .val (.int i5), .val (.int (1 : Int32)), .val (.int (0 : Int32)), .val (.ref b83), .val (.ref a99), .val (.ref b103), .val (.ref b109)] [(.int (1 : Int32))])) (fun tq_ kq_ => XS.iconst X123.here hx rfl (hb hby at_139) kq_) ?_
        refine own_GW.step (g' := (mkF m 144 #[.val (.int i0), .val (.int i1), .val (.int i2), .val (.int i3), .val (.int i4), .val (.int i5), .val (.int (1 : Int32)), .val (.int (0 : Int32)), .val (.ref b83), .val (.ref a99), .val (.ref b103), .val (.ref b109)] [(.int (1 : Int32))])) (fun tq_ kq_ => XS.goto X123.here hx rfl (pc0 := 140) (pc' := 144) rfl (hb hby at_140) (by decide) (by decide) kq_) ?_
        exact own_retW X123 hS P124 hkS (v := some (.int (1 : Int32))) (fun h => by rw [Bd.returns] at h; cases h) Bd.notSynchronized ⟨rfl, N123⟩ (by decide) (by decide) (fun fs hr => retN X123 hx (t := .boolean) Bd.returns (by simp) (hb hby at_144) hr)
      · refine own_GW.step (g' := (mkF m 75 #[.val (.int i0), .val (.int i1), .val (.int i2), .val (.int i3), .val (.int i4), .val (.int i5), .val (.int (1 : Int32)), .val (.int (1 : Int32)), .val (.ref b83), .val (.ref a99), .val .null, .unset] [(.int (1 : Int32))])) (fun tq_ kq_ => XS.iload X99.here hx rfl (hb hby at_73) rfl kq_) ?_
        obtain ⟨T125, h125, k125, X125, e125, E125, A125, st125⟩ := newP X99 hx hZ (hw _ (List.mem_of_getElem? (i := 4) rfl)) e99 (g := (mkF m 75 #[.val (.int i0), .val (.int i1), .val (.int i2), .val (.int i3), .val (.int i4), .val (.int i5), .val (.int (1 : Int32)), .val (.int (1 : Int32)), .val (.ref b83), .val (.ref a99), .val .null, .unset] [(.int (1 : Int32))])) rfl (hb hby at_75) rfl (by decide) (cap := 1) (by decide) (by decide) (by decide) (by decide)
        obtain ⟨b125, g125⟩ : ∃ z, z = h99.size := ⟨_, rfl⟩
        rw [← g125] at A125 st125
        have g126 : n0 ≤ b125 := Nat.le_trans O101.le (Nat.le_of_eq g125.symm)
        have z127 : h0.size ≤ b125 := Nat.le_trans K102.1 (Nat.le_of_eq g125.symm)
        have hkS := Nat.le_trans hkS E125.1
        have O128 := O101.ext E125
        have K129 := K102.ext E125
        have F130 : Arv Z h125 b125 k125 .byte (1 : Int32) [(.int (0 : Int32))] (.int (0 : Int32)) := (Arv.new A125 (by decide)).pad (pad_rep [] (.int (0 : Int32)) 1)
        refine own_GW.step (T' := T125) (g' := (mkF m 77 #[.val (.int i0), .val (.int i1), .val (.int i2), .val (.int i3), .val (.int i4), .val (.int i5), .val (.int (1 : Int32)), .val (.int (1 : Int32)), .val (.ref b83), .val (.ref a99), .val .null, .unset] [(.ref b125)])) st125 ?_
        refine own_GW.step (g' := (mkF m 79 #[.val (.int i0), .val (.int i1), .val (.int i2), .val (.int i3), .val (.int i4), .val (.int i5), .val (.int (1 : Int32)), .val (.int (1 : Int32)), .val (.ref b83), .val (.ref a99), .val (.ref b125), .unset] [])) (fun tq_ kq_ => XS.astore X125.here hx rfl (hb hby at_77) rfl rfl (l' := #[.val (.int i0), .val (.int i1), .val (.int i2), .val (.int i3), .val (.int i4), .val (.int i5), .val (.int (1 : Int32)), .val (.int (1 : Int32)), .val (.ref b83), .val (.ref a99), .val (.ref b125), .unset]) rfl kq_) ?_
        refine own_GW.step (g' := (mkF m 81 #[.val (.int i0), .val (.int i1), .val (.int i2), .val (.int i3), .val (.int i4), .val (.int i5), .val (.int (1 : Int32)), .val (.int (1 : Int32)), .val (.ref b83), .val (.ref a99), .val (.ref b125), .unset] [(.int (1 : Int32))])) (fun tq_ kq_ => XS.iload X125.here hx rfl (hb hby at_79) rfl kq_) ?_
        have hc81 : (0 : Int32) < (1 : Int32) := (by decide)
        refine own_GW.step (g' := (mkF m 84 #[.val (.int i0), .val (.int i1), .val (.int i2), .val (.int i3), .val (.int i4), .val (.int i5), .val (.int (1 : Int32)), .val (.int (1 : Int32)), .val (.ref b83), .val (.ref a99), .val (.ref b125), .unset] [])) (fun tq_ kq_ => XS.ifNo X125.here hx rfl (hb hby at_81) rfl ((if0 _ _).trans (tlt hc81).2.2.2) kq_) ?_
        refine own_GW.step (g' := (mkF m 86 #[.val (.int i0), .val (.int i1), .val (.int i2), .val (.int i3), .val (.int i4), .val (.int i5), .val (.int (1 : Int32)), .val (.int (1 : Int32)), .val (.ref b83), .val (.ref a99), .val (.ref b125), .unset] [(.ref b125)])) (fun tq_ kq_ => XS.aload X125.here hx rfl (hb hby at_84) rfl rfl kq_) ?_
        refine own_GW.step (g' := (mkF m 87 #[.val (.int i0), .val (.int i1), .val (.int i2), .val (.int i3), .val (.int i4), .val (.int i5), .val (.int (1 : Int32)), .val (.int (1 : Int32)), .val (.ref b83), .val (.ref a99), .val (.ref b125), .unset] [(.int (0 : Int32)), (.ref b125)])) (fun tq_ kq_ => XS.iconst X125.here hx rfl (hb hby at_86) kq_) ?_
        refine own_GW.step (g' := (mkF m 88 #[.val (.int i0), .val (.int i1), .val (.int i2), .val (.int i3), .val (.int i4), .val (.int i5), .val (.int (1 : Int32)), .val (.int (1 : Int32)), .val (.ref b83), .val (.ref a99), .val (.ref b125), .unset] [(.int i2), (.int (0 : Int32)), (.ref b125)])) (fun tq_ kq_ => XS.iloadN X125.here hx rfl (hb hby at_87) rfl kq_) ?_
        refine own_GW.step (g' := (mkF m 89 #[.val (.int i0), .val (.int i1), .val (.int i2), .val (.int i3), .val (.int i4), .val (.int i5), .val (.int (1 : Int32)), .val (.int (1 : Int32)), .val (.ref b83), .val (.ref a99), .val (.ref b125), .unset] [(.int (i2.toInt8.toInt32)), (.int (0 : Int32)), (.ref b125)])) (fun tq_ kq_ => XS.i2b X125.here hx rfl (hb hby at_88) rfl kq_) ?_
        obtain ⟨cl131, Ar131, q1131, Sz131, Nz131, Hh131, Gg131⟩ := id F130
        obtain ⟨T131, h131, X131, e131, W131, st131⟩ := stB X125 hx hZ e125 Ar131 (j := (0 : Int32)) (inb_of Sz131 ⟨by decide, by decide⟩) (g := (mkF m 89 #[.val (.int i0), .val (.int i1), .val (.int i2), .val (.int i3), .val (.int i4), .val (.int i5), .val (.int (1 : Int32)), .val (.int (1 : Int32)), .val (.ref b83), .val (.ref a99), .val (.ref b125), .unset] [(.int (i2.toInt8.toInt32)), (.int (0 : Int32)), (.ref b125)])) rfl rfl (hb hby at_89)
        have F132 : Arv Z h131 b125 k125 .byte (1 : Int32) [(.int (nar .byte (i2.toInt8.toInt32)))] (.int (0 : Int32)) := Arv.set Ar131 q1131 Sz131 Nz131 Hh131 Gg131 (fits_nar_byte _) W131 0 rfl (Nat.le_of_ble_eq_true rfl)
        have N131 := Fr.snoc X131 N94 g126
        have hkS := Nat.le_trans hkS (Keep.of_wr W131).1
        have O134 := O128.wr W131 g126
        have K135 := K129.wr W131 (Or.inr z127)
        refine own_GW.step (T' := T131) (g' := (mkF m 90 #[.val (.int i0), .val (.int i1), .val (.int i2), .val (.int i3), .val (.int i4), .val (.int i5), .val (.int (1 : Int32)), .val (.int (1 : Int32)), .val (.ref b83), .val (.ref a99), .val (.ref b125), .unset] [])) st131 ?_
        refine own_GW.step (g' := (mkF m 92 #[.val (.int i0), .val (.int i1), .val (.int i2), .val (.int i3), .val (.int i4), .val (.int i5), .val (.int (1 : Int32)), .val (.int (1 : Int32)), .val (.ref b83), .val (.ref a99), .val (.ref b125), .unset] [(.int (1 : Int32))])) (fun tq_ kq_ => XS.iload X131.here hx rfl (hb hby at_90) rfl kq_) ?_
        refine own_GW.step (g' := (mkF m 93 #[.val (.int i0), .val (.int i1), .val (.int i2), .val (.int i3), .val (.int i4), .val (.int i5), .val (.int (1 : Int32)), .val (.int (1 : Int32)), .val (.ref b83), .val (.ref a99), .val (.ref b125), .unset] [(.int (1 : Int32)), (.int (1 : Int32))])) (fun tq_ kq_ => XS.iconst X131.here hx rfl (hb hby at_92) kq_) ?_
        have hc93 : ¬ ((1 : Int32) < (1 : Int32)) := (by decide)
        refine own_GW.step (g' := (mkF m 102 #[.val (.int i0), .val (.int i1), .val (.int i2), .val (.int i3), .val (.int i4), .val (.int i5), .val (.int (1 : Int32)), .val (.int (1 : Int32)), .val (.ref b83), .val (.ref a99), .val (.ref b125), .unset] [])) (fun tq_ kq_ => XS.icmpYes X131.here hx rfl (pc0 := 93) (pc' := 102) rfl (hb hby at_93) rfl (flt hc93).2.2.2 (by decide) (by decide) kq_) ?_
        refine own_GW.step (g' := (mkF m 104 #[.val (.int i0), .val (.int i1), .val (.int i2), .val (.int i3), .val (.int i4), .val (.int i5), .val (.int (1 : Int32)), .val (.int (1 : Int32)), .val (.ref b83), .val (.ref a99), .val (.ref b125), .unset] [(.int (1 : Int32))])) (fun tq_ kq_ => XS.iload X131.here hx rfl (hb hby at_102) rfl kq_) ?_
        refine own_GW.step (g' := (mkF m 105 #[.val (.int i0), .val (.int i1), .val (.int i2), .val (.int i3), .val (.int i4), .val (.int i5), .val (.int (1 : Int32)), .val (.int (1 : Int32)), .val (.ref b83), .val (.ref a99), .val (.ref b125), .unset] [(.int (2 : Int32)), (.int (1 : Int32))])) (fun tq_ kq_ => XS.iconst X131.here hx rfl (hb hby at_104) kq_) ?_
        have hc105 : ¬ ((2 : Int32) < (1 : Int32)) := (by decide)
        refine own_GW.step (g' := (mkF m 116 #[.val (.int i0), .val (.int i1), .val (.int i2), .val (.int i3), .val (.int i4), .val (.int i5), .val (.int (1 : Int32)), .val (.int (1 : Int32)), .val (.ref b83), .val (.ref a99), .val (.ref b125), .unset] [])) (fun tq_ kq_ => XS.icmpYes X131.here hx rfl (pc0 := 105) (pc' := 116) rfl (hb hby at_105) rfl (flt hc105).2.2.2 (by decide) (by decide) kq_) ?_
        obtain ⟨T136, h136, X136, e136, E136, A136, D136, -, st136⟩ := newO X131 hx hZ hown (hw _ (List.mem_of_getElem? (i := 9) rfl)) (hw _ (List.mem_of_getElem? (i := 10) rfl)) (hw _ (List.mem_of_getElem? (i := 11) rfl)) e131 (g := (mkF m 116 #[.val (.int i0), .val (.int i1), .val (.int i2), .val (.int i3), .val (.int i4), .val (.int i5), .val (.int (1 : Int32)), .val (.int (1 : Int32)), .val (.ref b83), .val (.ref a99), .val (.ref b125), .unset] [])) rfl (hb hby at_116) (by decide) (by decide)
        obtain ⟨b136, g136⟩ : ∃ z, z = h131.size := ⟨_, rfl⟩
        rw [← g136] at A136 D136 st136
        have g137 : n0 ≤ b136 := Nat.le_trans O134.le (Nat.le_of_eq g136.symm)
        have z138 : h0.size ≤ b136 := Nat.le_trans K135.1 (Nat.le_of_eq g136.symm)
        have hkS := Nat.le_trans hkS E136.1
        have O139 := O134.ext E136
        have K140 := K135.ext E136
        have F141 : Fld Z h136 b136 "com/example/evenkey/evenkey/model/Column" "family" "Ljava/lang/String;" .null := D136 (Or.inr (hw _ (List.mem_of_getElem? (i := 29) rfl))) (ty := (.object "java/lang/String")) (by decide)
        have F142 : Fld Z h136 b136 "com/example/evenkey/evenkey/model/Column" "qualifier" "[B" .null := D136 (Or.inr (hw _ (List.mem_of_getElem? (i := 31) rfl))) (ty := (.array .byte)) (by decide)
        refine own_GW.step (T' := T136) (g' := (mkF m 119 #[.val (.int i0), .val (.int i1), .val (.int i2), .val (.int i3), .val (.int i4), .val (.int i5), .val (.int (1 : Int32)), .val (.int (1 : Int32)), .val (.ref b83), .val (.ref a99), .val (.ref b125), .unset] [(.ref b136)])) st136 ?_
        refine own_GW.step (g' := (mkF m 120 #[.val (.int i0), .val (.int i1), .val (.int i2), .val (.int i3), .val (.int i4), .val (.int i5), .val (.int (1 : Int32)), .val (.int (1 : Int32)), .val (.ref b83), .val (.ref a99), .val (.ref b125), .unset] [(.ref b136), (.ref b136)])) (fun tq_ kq_ => XS.dup X136.here hx rfl (hb hby at_119) rfl rfl kq_) ?_
        refine own_GW.step (g' := (mkF m 122 #[.val (.int i0), .val (.int i1), .val (.int i2), .val (.int i3), .val (.int i4), .val (.int i5), .val (.int (1 : Int32)), .val (.int (1 : Int32)), .val (.ref b83), .val (.ref a99), .val (.ref b125), .unset] [(.ref a99), (.ref b136), (.ref b136)])) (fun tq_ kq_ => XS.aload X136.here hx rfl (hb hby at_120) rfl rfl kq_) ?_
        refine own_GW.step (g' := (mkF m 124 #[.val (.int i0), .val (.int i1), .val (.int i2), .val (.int i3), .val (.int i4), .val (.int i5), .val (.int (1 : Int32)), .val (.int (1 : Int32)), .val (.ref b83), .val (.ref a99), .val (.ref b125), .unset] [(.ref b125), (.ref a99), (.ref b136), (.ref b136)])) (fun tq_ kq_ => XS.aload X136.here hx rfl (hb hby at_122) rfl rfl kq_) ?_
        obtain ⟨_, _, ⟨T143, L143, k143, n143⟩, -, X143, sS143, gS143, ⟨Lc143, hQ143, l143, y143, z143⟩, st143⟩ := X136.specialBackS hx (y := (⟨"com/example/evenkey/evenkey/model/Column", "<init>", "(Ljava/lang/String;[B)V"⟩ : MethodName)) rfl hown (mvT hZ (hw _ (List.mem_of_getElem? (i := 12) rfl))) (mvT hZ (hw _ (List.mem_of_getElem? (i := 13) rfl))) (mvT hZ (hw _ (List.mem_of_getElem? (i := 14) rfl))) (by decide) (backOfS (W := 1) (rm_coiR l Z a0 hw [] b136 a99 b125 h136 n0 O139 F141 F142 A136 g137) hZ (hw _ (List.mem_of_getElem? (i := 14) rfl)) (hw _ (List.mem_of_getElem? (i := 11) rfl)) (by decide) (by decide)) (g := (mkF m 124 #[.val (.int i0), .val (.int i1), .val (.int i2), .val (.int i3), .val (.int i4), .val (.int i5), .val (.int (1 : Int32)), .val (.int (1 : Int32)), .val (.ref b83), .val (.ref a99), .val (.ref b125), .unset] [(.ref b125), (.ref a99), (.ref b136), (.ref b136)])) rfl (by rw [hml]; rfl) (Steps.refl _) (a := b136) (argsL := [(.ref a99), (.ref b125)]) (rest := [(.ref b136)]) (lenOf pd__28Ljava_2flang_2fString_3b_5bB_29V rfl) rfl (by show 2 * 0 + _ ≤ _; exact Nat.le_of_eq rfl) (hb hby at_124) (fun _ _ => ⟨rfl, e136, (by decide : 5 + 2 ≤ _), (by decide : 9 + 28 ≤ _)⟩)
        dsimp only [Pt.U, Pt.locs, Pt.cells, Pt.slots] at X143 l143 y143 z143 st143 hQ143 sS143 gS143
        subst l143 y143 z143
        obtain ⟨X143, hS, hZ, hown⟩ := rebS (vm0 := T99.vm) hS (by rw [e136]; exact hkS) X143 sS143 gS143 hZ hown
        obtain ⟨rfl, Nq143, P144, P145, P146⟩ := hQ143
        have N143 := Fr.app N131 Nq143
        have hkS := Nat.le_trans hkS P144.1
        have F147 := A136.keep P144
        have O148 := O139.keep P144 (allS g137 all0)
        have K149 := K140.trans P144 (allS (Or.inr z138) all0)
        have hkS : T143.heap.size ≤ T143.heap.size := Nat.le_refl _
        refine own_GW.step (T' := T143) (g' := (mkF m 127 #[.val (.int i0), .val (.int i1), .val (.int i2), .val (.int i3), .val (.int i4), .val (.int i5), .val (.int (1 : Int32)), .val (.int (1 : Int32)), .val (.ref b83), .val (.ref a99), .val (.ref b125), .unset] [(.ref b136)])) (fun tq_ kq_ => st143.trans kq_) ?_
        refine own_GW.step (g' := (mkF m 129 #[.val (.int i0), .val (.int i1), .val (.int i2), .val (.int i3), .val (.int i4), .val (.int i5), .val (.int (1 : Int32)), .val (.int (1 : Int32)), .val (.ref b83), .val (.ref a99), .val (.ref b125), .val (.ref b136)] [])) (fun tq_ kq_ => XS.astore X143.here hx rfl (hb hby at_127) rfl rfl (l' := #[.val (.int i0), .val (.int i1), .val (.int i2), .val (.int i3), .val (.int i4), .val (.int i5), .val (.int (1 : Int32)), .val (.int (1 : Int32)), .val (.ref b83), .val (.ref a99), .val (.ref b125), .val (.ref b136)]) rfl kq_) ?_
        refine own_GW.step (g' := (mkF m 131 #[.val (.int i0), .val (.int i1), .val (.int i2), .val (.int i3), .val (.int i4), .val (.int i5), .val (.int (1 : Int32)), .val (.int (1 : Int32)), .val (.ref b83), .val (.ref a99), .val (.ref b125), .val (.ref b136)] [(.ref b136)])) (fun tq_ kq_ => XS.aload X143.here hx rfl (hb hby at_129) rfl rfl kq_) ?_
        obtain ⟨cq150, kq150, q150a, q150b, q150c⟩ := isOf hZ rfl P145
        obtain ⟨_, _, ⟨T150, L150, k150, n150⟩, -, X150, ⟨Lc150, hQ150, l150, y150, z150⟩, st150⟩ := X143.virtualBack hx (y := (⟨"com/example/evenkey/evenkey/model/Column", "hasQualifier", "()Z"⟩ : MethodName)) (z := (⟨"com/example/evenkey/evenkey/model/Column", "hasQualifier", "()Z"⟩ : MethodName)) hown (mvT hZ (hw _ (List.mem_of_getElem? (i := 32) rfl))) (mvT hZ (hw _ (List.mem_of_getElem? (i := 33) rfl))) (notFace_of_selects (args := #[]) (mvT hZ (hw _ (List.mem_of_getElem? (i := 35) rfl)))) (mvT hZ (hw _ (List.mem_of_getElem? (i := 35) rfl))) (mvT hZ (hw _ (List.mem_of_getElem? (i := 34) rfl))) (by decide) (backOf (W := 0) (rm_hqR l Z a0 hw [] b136 b125 T143.heap n0 O148 P146) hZ (hw _ (List.mem_of_getElem? (i := 36) rfl)) (hw _ (List.mem_of_getElem? (i := 11) rfl)) (by decide) (by decide)) q150a q150c (g := (mkF m 131 #[.val (.int i0), .val (.int i1), .val (.int i2), .val (.int i3), .val (.int i4), .val (.int i5), .val (.int (1 : Int32)), .val (.int (1 : Int32)), .val (.ref b83), .val (.ref a99), .val (.ref b125), .val (.ref b136)] [(.ref b136)])) rfl (by rw [hml]; rfl) (Steps.refl _) (argsL := []) (rest := []) (lenOf pd__28_29Z rfl) rfl (by show 2 * 0 + _ ≤ _; exact Nat.le_of_eq rfl) (hb hby at_131) (fun _ _ => ⟨rfl, rfl, (by decide : 7 + 0 ≤ _), (by decide : 37 + 0 ≤ _)⟩)
        dsimp only [Pt.U, Pt.locs, Pt.cells, Pt.slots] at X150 l150 y150 z150 st150 hQ150
        subst l150 y150 z150
        obtain ⟨rfl, Nq150, P151⟩ := hQ150
        have N150 := Fr.app N143 Nq150
        refine own_GW.step (T' := T150) (g' := (mkF m 134 #[.val (.int i0), .val (.int i1), .val (.int i2), .val (.int i3), .val (.int i4), .val (.int i5), .val (.int (1 : Int32)), .val (.int (1 : Int32)), .val (.ref b83), .val (.ref a99), .val (.ref b125), .val (.ref b136)] [(.int (1 : Int32))])) (fun tq_ kq_ => st150.trans kq_) ?_
        refine own_GW.step (g' := (mkF m 136 #[.val (.int i0), .val (.int i1), .val (.int i2), .val (.int i3), .val (.int i4), .val (.int i5), .val (.int (1 : Int32)), .val (.int (1 : Int32)), .val (.ref b83), .val (.ref a99), .val (.ref b125), .val (.ref b136)] [(.int (1 : Int32)), (.int (1 : Int32))])) (fun tq_ kq_ => XS.iload X150.here hx rfl (hb hby at_134) rfl kq_) ?_
        have hc136 : (1 : Int32) = (1 : Int32) := (by decide)
        refine own_GW.step (g' := (mkF m 139 #[.val (.int i0), .val (.int i1), .val (.int i2), .val (.int i3), .val (.int i4), .val (.int i5), .val (.int (1 : Int32)), .val (.int (1 : Int32)), .val (.ref b83), .val (.ref a99), .val (.ref b125), .val (.ref b136)] [])) (fun tq_ kq_ => XS.icmpNo X150.here hx rfl (hb hby at_136) rfl (teq hc136).2 kq_) ?_
        refine own_GW.step (g' := (mkF m 140 #[.val (.int i0), .val (.int i1), .val (.int i2), .val (.int i3), .val (.int i4), .val (.int i5), .val (.int (1 : Int32)), .val (.int (1 : Int32)), .val (.ref b83), .val (.ref a99), .val (.ref b125), .val (.ref b136)] [(.int (1 : Int32))])) (fun tq_ kq_ => XS.iconst X150.here hx rfl (hb hby at_139) kq_) ?_
        refine own_GW.step (g' := (mkF m 144 #[.val (.int i0), .val (.int i1), .val (.int i2), .val (.int i3), .val (.int i4), .val (.int i5), .val (.int (1 : Int32)), .val (.int (1 : Int32)), .val (.ref b83), .val (.ref a99), .val (.ref b125), .val (.ref b136)] [(.int (1 : Int32))])) (fun tq_ kq_ => XS.goto X150.here hx rfl (pc0 := 140) (pc' := 144) rfl (hb hby at_140) (by decide) (by decide) kq_) ?_
        exact own_retW X150 hS P151 hkS (v := some (.int (1 : Int32))) (fun h => by rw [Bd.returns] at h; cases h) Bd.notSynchronized ⟨rfl, N150⟩ (by decide) (by decide) (fun fs hr => retN X150 hx (t := .boolean) Bd.returns (by simp) (hb hby at_144) hr)
      · refine own_GW.step (g' := (mkF m 75 #[.val (.int i0), .val (.int i1), .val (.int i2), .val (.int i3), .val (.int i4), .val (.int i5), .val (.int (1 : Int32)), .val (.int (2 : Int32)), .val (.ref b83), .val (.ref a99), .val .null, .unset] [(.int (2 : Int32))])) (fun tq_ kq_ => XS.iload X99.here hx rfl (hb hby at_73) rfl kq_) ?_
        obtain ⟨T152, h152, k152, X152, e152, E152, A152, st152⟩ := newP X99 hx hZ (hw _ (List.mem_of_getElem? (i := 4) rfl)) e99 (g := (mkF m 75 #[.val (.int i0), .val (.int i1), .val (.int i2), .val (.int i3), .val (.int i4), .val (.int i5), .val (.int (1 : Int32)), .val (.int (2 : Int32)), .val (.ref b83), .val (.ref a99), .val .null, .unset] [(.int (2 : Int32))])) rfl (hb hby at_75) rfl (by decide) (cap := 2) (by decide) (by decide) (by decide) (by decide)
        obtain ⟨b152, g152⟩ : ∃ z, z = h99.size := ⟨_, rfl⟩
        rw [← g152] at A152 st152
        have g153 : n0 ≤ b152 := Nat.le_trans O101.le (Nat.le_of_eq g152.symm)
        have z154 : h0.size ≤ b152 := Nat.le_trans K102.1 (Nat.le_of_eq g152.symm)
        have hkS := Nat.le_trans hkS E152.1
        have O155 := O101.ext E152
        have K156 := K102.ext E152
        have F157 : Arv Z h152 b152 k152 .byte (2 : Int32) [(.int (0 : Int32)), (.int (0 : Int32))] (.int (0 : Int32)) := (Arv.new A152 (by decide)).pad (pad_rep [] (.int (0 : Int32)) 2)
        refine own_GW.step (T' := T152) (g' := (mkF m 77 #[.val (.int i0), .val (.int i1), .val (.int i2), .val (.int i3), .val (.int i4), .val (.int i5), .val (.int (1 : Int32)), .val (.int (2 : Int32)), .val (.ref b83), .val (.ref a99), .val .null, .unset] [(.ref b152)])) st152 ?_
        refine own_GW.step (g' := (mkF m 79 #[.val (.int i0), .val (.int i1), .val (.int i2), .val (.int i3), .val (.int i4), .val (.int i5), .val (.int (1 : Int32)), .val (.int (2 : Int32)), .val (.ref b83), .val (.ref a99), .val (.ref b152), .unset] [])) (fun tq_ kq_ => XS.astore X152.here hx rfl (hb hby at_77) rfl rfl (l' := #[.val (.int i0), .val (.int i1), .val (.int i2), .val (.int i3), .val (.int i4), .val (.int i5), .val (.int (1 : Int32)), .val (.int (2 : Int32)), .val (.ref b83), .val (.ref a99), .val (.ref b152), .unset]) rfl kq_) ?_
        refine own_GW.step (g' := (mkF m 81 #[.val (.int i0), .val (.int i1), .val (.int i2), .val (.int i3), .val (.int i4), .val (.int i5), .val (.int (1 : Int32)), .val (.int (2 : Int32)), .val (.ref b83), .val (.ref a99), .val (.ref b152), .unset] [(.int (2 : Int32))])) (fun tq_ kq_ => XS.iload X152.here hx rfl (hb hby at_79) rfl kq_) ?_
        have hc81 : (0 : Int32) < (2 : Int32) := (by decide)
        refine own_GW.step (g' := (mkF m 84 #[.val (.int i0), .val (.int i1), .val (.int i2), .val (.int i3), .val (.int i4), .val (.int i5), .val (.int (1 : Int32)), .val (.int (2 : Int32)), .val (.ref b83), .val (.ref a99), .val (.ref b152), .unset] [])) (fun tq_ kq_ => XS.ifNo X152.here hx rfl (hb hby at_81) rfl ((if0 _ _).trans (tlt hc81).2.2.2) kq_) ?_
        refine own_GW.step (g' := (mkF m 86 #[.val (.int i0), .val (.int i1), .val (.int i2), .val (.int i3), .val (.int i4), .val (.int i5), .val (.int (1 : Int32)), .val (.int (2 : Int32)), .val (.ref b83), .val (.ref a99), .val (.ref b152), .unset] [(.ref b152)])) (fun tq_ kq_ => XS.aload X152.here hx rfl (hb hby at_84) rfl rfl kq_) ?_
        refine own_GW.step (g' := (mkF m 87 #[.val (.int i0), .val (.int i1), .val (.int i2), .val (.int i3), .val (.int i4), .val (.int i5), .val (.int (1 : Int32)), .val (.int (2 : Int32)), .val (.ref b83), .val (.ref a99), .val (.ref b152), .unset] [(.int (0 : Int32)), (.ref b152)])) (fun tq_ kq_ => XS.iconst X152.here hx rfl (hb hby at_86) kq_) ?_
        refine own_GW.step (g' := (mkF m 88 #[.val (.int i0), .val (.int i1), .val (.int i2), .val (.int i3), .val (.int i4), .val (.int i5), .val (.int (1 : Int32)), .val (.int (2 : Int32)), .val (.ref b83), .val (.ref a99), .val (.ref b152), .unset] [(.int i2), (.int (0 : Int32)), (.ref b152)])) (fun tq_ kq_ => XS.iloadN X152.here hx rfl (hb hby at_87) rfl kq_) ?_
        refine own_GW.step (g' := (mkF m 89 #[.val (.int i0), .val (.int i1), .val (.int i2), .val (.int i3), .val (.int i4), .val (.int i5), .val (.int (1 : Int32)), .val (.int (2 : Int32)), .val (.ref b83), .val (.ref a99), .val (.ref b152), .unset] [(.int (i2.toInt8.toInt32)), (.int (0 : Int32)), (.ref b152)])) (fun tq_ kq_ => XS.i2b X152.here hx rfl (hb hby at_88) rfl kq_) ?_
        obtain ⟨cl158, Ar158, q1158, Sz158, Nz158, Hh158, Gg158⟩ := id F157
        obtain ⟨T158, h158, X158, e158, W158, st158⟩ := stB X152 hx hZ e152 Ar158 (j := (0 : Int32)) (inb_of Sz158 ⟨by decide, by decide⟩) (g := (mkF m 89 #[.val (.int i0), .val (.int i1), .val (.int i2), .val (.int i3), .val (.int i4), .val (.int i5), .val (.int (1 : Int32)), .val (.int (2 : Int32)), .val (.ref b83), .val (.ref a99), .val (.ref b152), .unset] [(.int (i2.toInt8.toInt32)), (.int (0 : Int32)), (.ref b152)])) rfl rfl (hb hby at_89)
        have F159 : Arv Z h158 b152 k152 .byte (2 : Int32) [(.int (nar .byte (i2.toInt8.toInt32))), (.int (0 : Int32))] (.int (0 : Int32)) := Arv.set Ar158 q1158 Sz158 Nz158 Hh158 Gg158 (fits_nar_byte _) W158 0 rfl (Nat.le_of_ble_eq_true rfl)
        have N158 := Fr.snoc X158 N94 g153
        have hkS := Nat.le_trans hkS (Keep.of_wr W158).1
        have O161 := O155.wr W158 g153
        have K162 := K156.wr W158 (Or.inr z154)
        refine own_GW.step (T' := T158) (g' := (mkF m 90 #[.val (.int i0), .val (.int i1), .val (.int i2), .val (.int i3), .val (.int i4), .val (.int i5), .val (.int (1 : Int32)), .val (.int (2 : Int32)), .val (.ref b83), .val (.ref a99), .val (.ref b152), .unset] [])) st158 ?_
        refine own_GW.step (g' := (mkF m 92 #[.val (.int i0), .val (.int i1), .val (.int i2), .val (.int i3), .val (.int i4), .val (.int i5), .val (.int (1 : Int32)), .val (.int (2 : Int32)), .val (.ref b83), .val (.ref a99), .val (.ref b152), .unset] [(.int (2 : Int32))])) (fun tq_ kq_ => XS.iload X158.here hx rfl (hb hby at_90) rfl kq_) ?_
        refine own_GW.step (g' := (mkF m 93 #[.val (.int i0), .val (.int i1), .val (.int i2), .val (.int i3), .val (.int i4), .val (.int i5), .val (.int (1 : Int32)), .val (.int (2 : Int32)), .val (.ref b83), .val (.ref a99), .val (.ref b152), .unset] [(.int (1 : Int32)), (.int (2 : Int32))])) (fun tq_ kq_ => XS.iconst X158.here hx rfl (hb hby at_92) kq_) ?_
        have hc93 : (1 : Int32) < (2 : Int32) := (by decide)
        refine own_GW.step (g' := (mkF m 96 #[.val (.int i0), .val (.int i1), .val (.int i2), .val (.int i3), .val (.int i4), .val (.int i5), .val (.int (1 : Int32)), .val (.int (2 : Int32)), .val (.ref b83), .val (.ref a99), .val (.ref b152), .unset] [])) (fun tq_ kq_ => XS.icmpNo X158.here hx rfl (hb hby at_93) rfl (tlt hc93).2.2.2 kq_) ?_
        refine own_GW.step (g' := (mkF m 98 #[.val (.int i0), .val (.int i1), .val (.int i2), .val (.int i3), .val (.int i4), .val (.int i5), .val (.int (1 : Int32)), .val (.int (2 : Int32)), .val (.ref b83), .val (.ref a99), .val (.ref b152), .unset] [(.ref b152)])) (fun tq_ kq_ => XS.aload X158.here hx rfl (hb hby at_96) rfl rfl kq_) ?_
        refine own_GW.step (g' := (mkF m 99 #[.val (.int i0), .val (.int i1), .val (.int i2), .val (.int i3), .val (.int i4), .val (.int i5), .val (.int (1 : Int32)), .val (.int (2 : Int32)), .val (.ref b83), .val (.ref a99), .val (.ref b152), .unset] [(.int (1 : Int32)), (.ref b152)])) (fun tq_ kq_ => XS.iconst X158.here hx rfl (hb hby at_98) kq_) ?_
        refine own_GW.step (g' := (mkF m 100 #[.val (.int i0), .val (.int i1), .val (.int i2), .val (.int i3), .val (.int i4), .val (.int i5), .val (.int (1 : Int32)), .val (.int (2 : Int32)), .val (.ref b83), .val (.ref a99), .val (.ref b152), .unset] [(.int i3), (.int (1 : Int32)), (.ref b152)])) (fun tq_ kq_ => XS.iloadN X158.here hx rfl (hb hby at_99) rfl kq_) ?_
        refine own_GW.step (g' := (mkF m 101 #[.val (.int i0), .val (.int i1), .val (.int i2), .val (.int i3), .val (.int i4), .val (.int i5), .val (.int (1 : Int32)), .val (.int (2 : Int32)), .val (.ref b83), .val (.ref a99), .val (.ref b152), .unset] [(.int (i3.toInt8.toInt32)), (.int (1 : Int32)), (.ref b152)])) (fun tq_ kq_ => XS.i2b X158.here hx rfl (hb hby at_100) rfl kq_) ?_
        obtain ⟨cl163, Ar163, q1163, Sz163, Nz163, Hh163, Gg163⟩ := id F159
        obtain ⟨T163, h163, X163, e163, W163, st163⟩ := stB X158 hx hZ e158 Ar163 (j := (1 : Int32)) (inb_of Sz163 ⟨by decide, by decide⟩) (g := (mkF m 101 #[.val (.int i0), .val (.int i1), .val (.int i2), .val (.int i3), .val (.int i4), .val (.int i5), .val (.int (1 : Int32)), .val (.int (2 : Int32)), .val (.ref b83), .val (.ref a99), .val (.ref b152), .unset] [(.int (i3.toInt8.toInt32)), (.int (1 : Int32)), (.ref b152)])) rfl rfl (hb hby at_101)
        have F164 : Arv Z h163 b152 k152 .byte (2 : Int32) [(.int (nar .byte (i2.toInt8.toInt32))), (.int (nar .byte (i3.toInt8.toInt32)))] (.int (0 : Int32)) := Arv.set Ar163 q1163 Sz163 Nz163 Hh163 Gg163 (fits_nar_byte _) W163 1 rfl (Nat.le_of_ble_eq_true rfl)
        have N163 := Fr.snoc X163 N158 g153
        have hkS := Nat.le_trans hkS (Keep.of_wr W163).1
        have O166 := O161.wr W163 g153
        have K167 := K162.wr W163 (Or.inr z154)
        refine own_GW.step (T' := T163) (g' := (mkF m 102 #[.val (.int i0), .val (.int i1), .val (.int i2), .val (.int i3), .val (.int i4), .val (.int i5), .val (.int (1 : Int32)), .val (.int (2 : Int32)), .val (.ref b83), .val (.ref a99), .val (.ref b152), .unset] [])) st163 ?_
        refine own_GW.step (g' := (mkF m 104 #[.val (.int i0), .val (.int i1), .val (.int i2), .val (.int i3), .val (.int i4), .val (.int i5), .val (.int (1 : Int32)), .val (.int (2 : Int32)), .val (.ref b83), .val (.ref a99), .val (.ref b152), .unset] [(.int (2 : Int32))])) (fun tq_ kq_ => XS.iload X163.here hx rfl (hb hby at_102) rfl kq_) ?_
        refine own_GW.step (g' := (mkF m 105 #[.val (.int i0), .val (.int i1), .val (.int i2), .val (.int i3), .val (.int i4), .val (.int i5), .val (.int (1 : Int32)), .val (.int (2 : Int32)), .val (.ref b83), .val (.ref a99), .val (.ref b152), .unset] [(.int (2 : Int32)), (.int (2 : Int32))])) (fun tq_ kq_ => XS.iconst X163.here hx rfl (hb hby at_104) kq_) ?_
        have hc105 : ¬ ((2 : Int32) < (2 : Int32)) := (by decide)
        refine own_GW.step (g' := (mkF m 116 #[.val (.int i0), .val (.int i1), .val (.int i2), .val (.int i3), .val (.int i4), .val (.int i5), .val (.int (1 : Int32)), .val (.int (2 : Int32)), .val (.ref b83), .val (.ref a99), .val (.ref b152), .unset] [])) (fun tq_ kq_ => XS.icmpYes X163.here hx rfl (pc0 := 105) (pc' := 116) rfl (hb hby at_105) rfl (flt hc105).2.2.2 (by decide) (by decide) kq_) ?_
        obtain ⟨T168, h168, X168, e168, E168, A168, D168, -, st168⟩ := newO X163 hx hZ hown (hw _ (List.mem_of_getElem? (i := 9) rfl)) (hw _ (List.mem_of_getElem? (i := 10) rfl)) (hw _ (List.mem_of_getElem? (i := 11) rfl)) e163 (g := (mkF m 116 #[.val (.int i0), .val (.int i1), .val (.int i2), .val (.int i3), .val (.int i4), .val (.int i5), .val (.int (1 : Int32)), .val (.int (2 : Int32)), .val (.ref b83), .val (.ref a99), .val (.ref b152), .unset] [])) rfl (hb hby at_116) (by decide) (by decide)
        obtain ⟨b168, g168⟩ : ∃ z, z = h163.size := ⟨_, rfl⟩
        rw [← g168] at A168 D168 st168
        have g169 : n0 ≤ b168 := Nat.le_trans O166.le (Nat.le_of_eq g168.symm)
        have z170 : h0.size ≤ b168 := Nat.le_trans K167.1 (Nat.le_of_eq g168.symm)
        have hkS := Nat.le_trans hkS E168.1
        have O171 := O166.ext E168
        have K172 := K167.ext E168
        have F173 : Fld Z h168 b168 "com/example/evenkey/evenkey/model/Column" "family" "Ljava/lang/String;" .null := D168 (Or.inr (hw _ (List.mem_of_getElem? (i := 29) rfl))) (ty := (.object "java/lang/String")) (by decide)
        have F174 : Fld Z h168 b168 "com/example/evenkey/evenkey/model/Column" "qualifier" "[B" .null := D168 (Or.inr (hw _ (List.mem_of_getElem? (i := 31) rfl))) (ty := (.array .byte)) (by decide)
        refine own_GW.step (T' := T168) (g' := (mkF m 119 #[.val (.int i0), .val (.int i1), .val (.int i2), .val (.int i3), .val (.int i4), .val (.int i5), .val (.int (1 : Int32)), .val (.int (2 : Int32)), .val (.ref b83), .val (.ref a99), .val (.ref b152), .unset] [(.ref b168)])) st168 ?_
        refine own_GW.step (g' := (mkF m 120 #[.val (.int i0), .val (.int i1), .val (.int i2), .val (.int i3), .val (.int i4), .val (.int i5), .val (.int (1 : Int32)), .val (.int (2 : Int32)), .val (.ref b83), .val (.ref a99), .val (.ref b152), .unset] [(.ref b168), (.ref b168)])) (fun tq_ kq_ => XS.dup X168.here hx rfl (hb hby at_119) rfl rfl kq_) ?_
        refine own_GW.step (g' := (mkF m 122 #[.val (.int i0), .val (.int i1), .val (.int i2), .val (.int i3), .val (.int i4), .val (.int i5), .val (.int (1 : Int32)), .val (.int (2 : Int32)), .val (.ref b83), .val (.ref a99), .val (.ref b152), .unset] [(.ref a99), (.ref b168), (.ref b168)])) (fun tq_ kq_ => XS.aload X168.here hx rfl (hb hby at_120) rfl rfl kq_) ?_
        refine own_GW.step (g' := (mkF m 124 #[.val (.int i0), .val (.int i1), .val (.int i2), .val (.int i3), .val (.int i4), .val (.int i5), .val (.int (1 : Int32)), .val (.int (2 : Int32)), .val (.ref b83), .val (.ref a99), .val (.ref b152), .unset] [(.ref b152), (.ref a99), (.ref b168), (.ref b168)])) (fun tq_ kq_ => XS.aload X168.here hx rfl (hb hby at_122) rfl rfl kq_) ?_
        obtain ⟨_, _, ⟨T175, L175, k175, n175⟩, -, X175, sS175, gS175, ⟨Lc175, hQ175, l175, y175, z175⟩, st175⟩ := X168.specialBackS hx (y := (⟨"com/example/evenkey/evenkey/model/Column", "<init>", "(Ljava/lang/String;[B)V"⟩ : MethodName)) rfl hown (mvT hZ (hw _ (List.mem_of_getElem? (i := 12) rfl))) (mvT hZ (hw _ (List.mem_of_getElem? (i := 13) rfl))) (mvT hZ (hw _ (List.mem_of_getElem? (i := 14) rfl))) (by decide) (backOfS (W := 1) (rm_coiR l Z a0 hw [] b168 a99 b152 h168 n0 O171 F173 F174 A168 g169) hZ (hw _ (List.mem_of_getElem? (i := 14) rfl)) (hw _ (List.mem_of_getElem? (i := 11) rfl)) (by decide) (by decide)) (g := (mkF m 124 #[.val (.int i0), .val (.int i1), .val (.int i2), .val (.int i3), .val (.int i4), .val (.int i5), .val (.int (1 : Int32)), .val (.int (2 : Int32)), .val (.ref b83), .val (.ref a99), .val (.ref b152), .unset] [(.ref b152), (.ref a99), (.ref b168), (.ref b168)])) rfl (by rw [hml]; rfl) (Steps.refl _) (a := b168) (argsL := [(.ref a99), (.ref b152)]) (rest := [(.ref b168)]) (lenOf pd__28Ljava_2flang_2fString_3b_5bB_29V rfl) rfl (by show 2 * 0 + _ ≤ _; exact Nat.le_of_eq rfl) (hb hby at_124) (fun _ _ => ⟨rfl, e168, (by decide : 5 + 2 ≤ _), (by decide : 10 + 28 ≤ _)⟩)
        dsimp only [Pt.U, Pt.locs, Pt.cells, Pt.slots] at X175 l175 y175 z175 st175 hQ175 sS175 gS175
        subst l175 y175 z175
        obtain ⟨X175, hS, hZ, hown⟩ := rebS (vm0 := T99.vm) hS (by rw [e168]; exact hkS) X175 sS175 gS175 hZ hown
        obtain ⟨rfl, Nq175, P176, P177, P178⟩ := hQ175
        have N175 := Fr.app N163 Nq175
        have hkS := Nat.le_trans hkS P176.1
        have F179 := A168.keep P176
        have O180 := O171.keep P176 (allS g169 all0)
        have K181 := K172.trans P176 (allS (Or.inr z170) all0)
        have hkS : T175.heap.size ≤ T175.heap.size := Nat.le_refl _
        refine own_GW.step (T' := T175) (g' := (mkF m 127 #[.val (.int i0), .val (.int i1), .val (.int i2), .val (.int i3), .val (.int i4), .val (.int i5), .val (.int (1 : Int32)), .val (.int (2 : Int32)), .val (.ref b83), .val (.ref a99), .val (.ref b152), .unset] [(.ref b168)])) (fun tq_ kq_ => st175.trans kq_) ?_
        refine own_GW.step (g' := (mkF m 129 #[.val (.int i0), .val (.int i1), .val (.int i2), .val (.int i3), .val (.int i4), .val (.int i5), .val (.int (1 : Int32)), .val (.int (2 : Int32)), .val (.ref b83), .val (.ref a99), .val (.ref b152), .val (.ref b168)] [])) (fun tq_ kq_ => XS.astore X175.here hx rfl (hb hby at_127) rfl rfl (l' := #[.val (.int i0), .val (.int i1), .val (.int i2), .val (.int i3), .val (.int i4), .val (.int i5), .val (.int (1 : Int32)), .val (.int (2 : Int32)), .val (.ref b83), .val (.ref a99), .val (.ref b152), .val (.ref b168)]) rfl kq_) ?_
        refine own_GW.step (g' := (mkF m 131 #[.val (.int i0), .val (.int i1), .val (.int i2), .val (.int i3), .val (.int i4), .val (.int i5), .val (.int (1 : Int32)), .val (.int (2 : Int32)), .val (.ref b83), .val (.ref a99), .val (.ref b152), .val (.ref b168)] [(.ref b168)])) (fun tq_ kq_ => XS.aload X175.here hx rfl (hb hby at_129) rfl rfl kq_) ?_
        obtain ⟨cq182, kq182, q182a, q182b, q182c⟩ := isOf hZ rfl P177
        obtain ⟨_, _, ⟨T182, L182, k182, n182⟩, -, X182, ⟨Lc182, hQ182, l182, y182, z182⟩, st182⟩ := X175.virtualBack hx (y := (⟨"com/example/evenkey/evenkey/model/Column", "hasQualifier", "()Z"⟩ : MethodName)) (z := (⟨"com/example/evenkey/evenkey/model/Column", "hasQualifier", "()Z"⟩ : MethodName)) hown (mvT hZ (hw _ (List.mem_of_getElem? (i := 32) rfl))) (mvT hZ (hw _ (List.mem_of_getElem? (i := 33) rfl))) (notFace_of_selects (args := #[]) (mvT hZ (hw _ (List.mem_of_getElem? (i := 35) rfl)))) (mvT hZ (hw _ (List.mem_of_getElem? (i := 35) rfl))) (mvT hZ (hw _ (List.mem_of_getElem? (i := 34) rfl))) (by decide) (backOf (W := 0) (rm_hqR l Z a0 hw [] b168 b152 T175.heap n0 O180 P178) hZ (hw _ (List.mem_of_getElem? (i := 36) rfl)) (hw _ (List.mem_of_getElem? (i := 11) rfl)) (by decide) (by decide)) q182a q182c (g := (mkF m 131 #[.val (.int i0), .val (.int i1), .val (.int i2), .val (.int i3), .val (.int i4), .val (.int i5), .val (.int (1 : Int32)), .val (.int (2 : Int32)), .val (.ref b83), .val (.ref a99), .val (.ref b152), .val (.ref b168)] [(.ref b168)])) rfl (by rw [hml]; rfl) (Steps.refl _) (argsL := []) (rest := []) (lenOf pd__28_29Z rfl) rfl (by show 2 * 0 + _ ≤ _; exact Nat.le_of_eq rfl) (hb hby at_131) (fun _ _ => ⟨rfl, rfl, (by decide : 7 + 0 ≤ _), (by decide : 38 + 0 ≤ _)⟩)
        dsimp only [Pt.U, Pt.locs, Pt.cells, Pt.slots] at X182 l182 y182 z182 st182 hQ182
        subst l182 y182 z182
        obtain ⟨rfl, Nq182, P183⟩ := hQ182
        have N182 := Fr.app N175 Nq182
        refine own_GW.step (T' := T182) (g' := (mkF m 134 #[.val (.int i0), .val (.int i1), .val (.int i2), .val (.int i3), .val (.int i4), .val (.int i5), .val (.int (1 : Int32)), .val (.int (2 : Int32)), .val (.ref b83), .val (.ref a99), .val (.ref b152), .val (.ref b168)] [(.int (1 : Int32))])) (fun tq_ kq_ => st182.trans kq_) ?_
        refine own_GW.step (g' := (mkF m 136 #[.val (.int i0), .val (.int i1), .val (.int i2), .val (.int i3), .val (.int i4), .val (.int i5), .val (.int (1 : Int32)), .val (.int (2 : Int32)), .val (.ref b83), .val (.ref a99), .val (.ref b152), .val (.ref b168)] [(.int (1 : Int32)), (.int (1 : Int32))])) (fun tq_ kq_ => XS.iload X182.here hx rfl (hb hby at_134) rfl kq_) ?_
        have hc136 : (1 : Int32) = (1 : Int32) := (by decide)
        refine own_GW.step (g' := (mkF m 139 #[.val (.int i0), .val (.int i1), .val (.int i2), .val (.int i3), .val (.int i4), .val (.int i5), .val (.int (1 : Int32)), .val (.int (2 : Int32)), .val (.ref b83), .val (.ref a99), .val (.ref b152), .val (.ref b168)] [])) (fun tq_ kq_ => XS.icmpNo X182.here hx rfl (hb hby at_136) rfl (teq hc136).2 kq_) ?_
        refine own_GW.step (g' := (mkF m 140 #[.val (.int i0), .val (.int i1), .val (.int i2), .val (.int i3), .val (.int i4), .val (.int i5), .val (.int (1 : Int32)), .val (.int (2 : Int32)), .val (.ref b83), .val (.ref a99), .val (.ref b152), .val (.ref b168)] [(.int (1 : Int32))])) (fun tq_ kq_ => XS.iconst X182.here hx rfl (hb hby at_139) kq_) ?_
        refine own_GW.step (g' := (mkF m 144 #[.val (.int i0), .val (.int i1), .val (.int i2), .val (.int i3), .val (.int i4), .val (.int i5), .val (.int (1 : Int32)), .val (.int (2 : Int32)), .val (.ref b83), .val (.ref a99), .val (.ref b152), .val (.ref b168)] [(.int (1 : Int32))])) (fun tq_ kq_ => XS.goto X182.here hx rfl (pc0 := 140) (pc' := 144) rfl (hb hby at_140) (by decide) (by decide) kq_) ?_
        exact own_retW X182 hS P183 hkS (v := some (.int (1 : Int32))) (fun h => by rw [Bd.returns] at h; cases h) Bd.notSynchronized ⟨rfl, N182⟩ (by decide) (by decide) (fun fs hr => retN X182 hx (t := .boolean) Bd.returns (by simp) (hb hby at_144) hr)
      · refine own_GW.step (g' := (mkF m 75 #[.val (.int i0), .val (.int i1), .val (.int i2), .val (.int i3), .val (.int i4), .val (.int i5), .val (.int (1 : Int32)), .val (.int (3 : Int32)), .val (.ref b83), .val (.ref a99), .val .null, .unset] [(.int (3 : Int32))])) (fun tq_ kq_ => XS.iload X99.here hx rfl (hb hby at_73) rfl kq_) ?_
        obtain ⟨T184, h184, k184, X184, e184, E184, A184, st184⟩ := newP X99 hx hZ (hw _ (List.mem_of_getElem? (i := 4) rfl)) e99 (g := (mkF m 75 #[.val (.int i0), .val (.int i1), .val (.int i2), .val (.int i3), .val (.int i4), .val (.int i5), .val (.int (1 : Int32)), .val (.int (3 : Int32)), .val (.ref b83), .val (.ref a99), .val .null, .unset] [(.int (3 : Int32))])) rfl (hb hby at_75) rfl (by decide) (cap := 3) (by decide) (by decide) (by decide) (by decide)
        obtain ⟨b184, g184⟩ : ∃ z, z = h99.size := ⟨_, rfl⟩
        rw [← g184] at A184 st184
        have g185 : n0 ≤ b184 := Nat.le_trans O101.le (Nat.le_of_eq g184.symm)
        have z186 : h0.size ≤ b184 := Nat.le_trans K102.1 (Nat.le_of_eq g184.symm)
        have hkS := Nat.le_trans hkS E184.1
        have O187 := O101.ext E184
        have K188 := K102.ext E184
        have F189 : Arv Z h184 b184 k184 .byte (3 : Int32) [(.int (0 : Int32)), (.int (0 : Int32)), (.int (0 : Int32))] (.int (0 : Int32)) := (Arv.new A184 (by decide)).pad (pad_rep [] (.int (0 : Int32)) 3)
        refine own_GW.step (T' := T184) (g' := (mkF m 77 #[.val (.int i0), .val (.int i1), .val (.int i2), .val (.int i3), .val (.int i4), .val (.int i5), .val (.int (1 : Int32)), .val (.int (3 : Int32)), .val (.ref b83), .val (.ref a99), .val .null, .unset] [(.ref b184)])) st184 ?_
        refine own_GW.step (g' := (mkF m 79 #[.val (.int i0), .val (.int i1), .val (.int i2), .val (.int i3), .val (.int i4), .val (.int i5), .val (.int (1 : Int32)), .val (.int (3 : Int32)), .val (.ref b83), .val (.ref a99), .val (.ref b184), .unset] [])) (fun tq_ kq_ => XS.astore X184.here hx rfl (hb hby at_77) rfl rfl (l' := #[.val (.int i0), .val (.int i1), .val (.int i2), .val (.int i3), .val (.int i4), .val (.int i5), .val (.int (1 : Int32)), .val (.int (3 : Int32)), .val (.ref b83), .val (.ref a99), .val (.ref b184), .unset]) rfl kq_) ?_
        refine own_GW.step (g' := (mkF m 81 #[.val (.int i0), .val (.int i1), .val (.int i2), .val (.int i3), .val (.int i4), .val (.int i5), .val (.int (1 : Int32)), .val (.int (3 : Int32)), .val (.ref b83), .val (.ref a99), .val (.ref b184), .unset] [(.int (3 : Int32))])) (fun tq_ kq_ => XS.iload X184.here hx rfl (hb hby at_79) rfl kq_) ?_
        have hc81 : (0 : Int32) < (3 : Int32) := (by decide)
        refine own_GW.step (g' := (mkF m 84 #[.val (.int i0), .val (.int i1), .val (.int i2), .val (.int i3), .val (.int i4), .val (.int i5), .val (.int (1 : Int32)), .val (.int (3 : Int32)), .val (.ref b83), .val (.ref a99), .val (.ref b184), .unset] [])) (fun tq_ kq_ => XS.ifNo X184.here hx rfl (hb hby at_81) rfl ((if0 _ _).trans (tlt hc81).2.2.2) kq_) ?_
        refine own_GW.step (g' := (mkF m 86 #[.val (.int i0), .val (.int i1), .val (.int i2), .val (.int i3), .val (.int i4), .val (.int i5), .val (.int (1 : Int32)), .val (.int (3 : Int32)), .val (.ref b83), .val (.ref a99), .val (.ref b184), .unset] [(.ref b184)])) (fun tq_ kq_ => XS.aload X184.here hx rfl (hb hby at_84) rfl rfl kq_) ?_
        refine own_GW.step (g' := (mkF m 87 #[.val (.int i0), .val (.int i1), .val (.int i2), .val (.int i3), .val (.int i4), .val (.int i5), .val (.int (1 : Int32)), .val (.int (3 : Int32)), .val (.ref b83), .val (.ref a99), .val (.ref b184), .unset] [(.int (0 : Int32)), (.ref b184)])) (fun tq_ kq_ => XS.iconst X184.here hx rfl (hb hby at_86) kq_) ?_
        refine own_GW.step (g' := (mkF m 88 #[.val (.int i0), .val (.int i1), .val (.int i2), .val (.int i3), .val (.int i4), .val (.int i5), .val (.int (1 : Int32)), .val (.int (3 : Int32)), .val (.ref b83), .val (.ref a99), .val (.ref b184), .unset] [(.int i2), (.int (0 : Int32)), (.ref b184)])) (fun tq_ kq_ => XS.iloadN X184.here hx rfl (hb hby at_87) rfl kq_) ?_
        refine own_GW.step (g' := (mkF m 89 #[.val (.int i0), .val (.int i1), .val (.int i2), .val (.int i3), .val (.int i4), .val (.int i5), .val (.int (1 : Int32)), .val (.int (3 : Int32)), .val (.ref b83), .val (.ref a99), .val (.ref b184), .unset] [(.int (i2.toInt8.toInt32)), (.int (0 : Int32)), (.ref b184)])) (fun tq_ kq_ => XS.i2b X184.here hx rfl (hb hby at_88) rfl kq_) ?_
        obtain ⟨cl190, Ar190, q1190, Sz190, Nz190, Hh190, Gg190⟩ := id F189
        obtain ⟨T190, h190, X190, e190, W190, st190⟩ := stB X184 hx hZ e184 Ar190 (j := (0 : Int32)) (inb_of Sz190 ⟨by decide, by decide⟩) (g := (mkF m 89 #[.val (.int i0), .val (.int i1), .val (.int i2), .val (.int i3), .val (.int i4), .val (.int i5), .val (.int (1 : Int32)), .val (.int (3 : Int32)), .val (.ref b83), .val (.ref a99), .val (.ref b184), .unset] [(.int (i2.toInt8.toInt32)), (.int (0 : Int32)), (.ref b184)])) rfl rfl (hb hby at_89)
        have F191 : Arv Z h190 b184 k184 .byte (3 : Int32) [(.int (nar .byte (i2.toInt8.toInt32))), (.int (0 : Int32)), (.int (0 : Int32))] (.int (0 : Int32)) := Arv.set Ar190 q1190 Sz190 Nz190 Hh190 Gg190 (fits_nar_byte _) W190 0 rfl (Nat.le_of_ble_eq_true rfl)
        have N190 := Fr.snoc X190 N94 g185
        have hkS := Nat.le_trans hkS (Keep.of_wr W190).1
        have O193 := O187.wr W190 g185
        have K194 := K188.wr W190 (Or.inr z186)
        refine own_GW.step (T' := T190) (g' := (mkF m 90 #[.val (.int i0), .val (.int i1), .val (.int i2), .val (.int i3), .val (.int i4), .val (.int i5), .val (.int (1 : Int32)), .val (.int (3 : Int32)), .val (.ref b83), .val (.ref a99), .val (.ref b184), .unset] [])) st190 ?_
        refine own_GW.step (g' := (mkF m 92 #[.val (.int i0), .val (.int i1), .val (.int i2), .val (.int i3), .val (.int i4), .val (.int i5), .val (.int (1 : Int32)), .val (.int (3 : Int32)), .val (.ref b83), .val (.ref a99), .val (.ref b184), .unset] [(.int (3 : Int32))])) (fun tq_ kq_ => XS.iload X190.here hx rfl (hb hby at_90) rfl kq_) ?_
        refine own_GW.step (g' := (mkF m 93 #[.val (.int i0), .val (.int i1), .val (.int i2), .val (.int i3), .val (.int i4), .val (.int i5), .val (.int (1 : Int32)), .val (.int (3 : Int32)), .val (.ref b83), .val (.ref a99), .val (.ref b184), .unset] [(.int (1 : Int32)), (.int (3 : Int32))])) (fun tq_ kq_ => XS.iconst X190.here hx rfl (hb hby at_92) kq_) ?_
        have hc93 : (1 : Int32) < (3 : Int32) := (by decide)
        refine own_GW.step (g' := (mkF m 96 #[.val (.int i0), .val (.int i1), .val (.int i2), .val (.int i3), .val (.int i4), .val (.int i5), .val (.int (1 : Int32)), .val (.int (3 : Int32)), .val (.ref b83), .val (.ref a99), .val (.ref b184), .unset] [])) (fun tq_ kq_ => XS.icmpNo X190.here hx rfl (hb hby at_93) rfl (tlt hc93).2.2.2 kq_) ?_
        refine own_GW.step (g' := (mkF m 98 #[.val (.int i0), .val (.int i1), .val (.int i2), .val (.int i3), .val (.int i4), .val (.int i5), .val (.int (1 : Int32)), .val (.int (3 : Int32)), .val (.ref b83), .val (.ref a99), .val (.ref b184), .unset] [(.ref b184)])) (fun tq_ kq_ => XS.aload X190.here hx rfl (hb hby at_96) rfl rfl kq_) ?_
        refine own_GW.step (g' := (mkF m 99 #[.val (.int i0), .val (.int i1), .val (.int i2), .val (.int i3), .val (.int i4), .val (.int i5), .val (.int (1 : Int32)), .val (.int (3 : Int32)), .val (.ref b83), .val (.ref a99), .val (.ref b184), .unset] [(.int (1 : Int32)), (.ref b184)])) (fun tq_ kq_ => XS.iconst X190.here hx rfl (hb hby at_98) kq_) ?_
        refine own_GW.step (g' := (mkF m 100 #[.val (.int i0), .val (.int i1), .val (.int i2), .val (.int i3), .val (.int i4), .val (.int i5), .val (.int (1 : Int32)), .val (.int (3 : Int32)), .val (.ref b83), .val (.ref a99), .val (.ref b184), .unset] [(.int i3), (.int (1 : Int32)), (.ref b184)])) (fun tq_ kq_ => XS.iloadN X190.here hx rfl (hb hby at_99) rfl kq_) ?_
        refine own_GW.step (g' := (mkF m 101 #[.val (.int i0), .val (.int i1), .val (.int i2), .val (.int i3), .val (.int i4), .val (.int i5), .val (.int (1 : Int32)), .val (.int (3 : Int32)), .val (.ref b83), .val (.ref a99), .val (.ref b184), .unset] [(.int (i3.toInt8.toInt32)), (.int (1 : Int32)), (.ref b184)])) (fun tq_ kq_ => XS.i2b X190.here hx rfl (hb hby at_100) rfl kq_) ?_
        obtain ⟨cl195, Ar195, q1195, Sz195, Nz195, Hh195, Gg195⟩ := id F191
        obtain ⟨T195, h195, X195, e195, W195, st195⟩ := stB X190 hx hZ e190 Ar195 (j := (1 : Int32)) (inb_of Sz195 ⟨by decide, by decide⟩) (g := (mkF m 101 #[.val (.int i0), .val (.int i1), .val (.int i2), .val (.int i3), .val (.int i4), .val (.int i5), .val (.int (1 : Int32)), .val (.int (3 : Int32)), .val (.ref b83), .val (.ref a99), .val (.ref b184), .unset] [(.int (i3.toInt8.toInt32)), (.int (1 : Int32)), (.ref b184)])) rfl rfl (hb hby at_101)
        have F196 : Arv Z h195 b184 k184 .byte (3 : Int32) [(.int (nar .byte (i2.toInt8.toInt32))), (.int (nar .byte (i3.toInt8.toInt32))), (.int (0 : Int32))] (.int (0 : Int32)) := Arv.set Ar195 q1195 Sz195 Nz195 Hh195 Gg195 (fits_nar_byte _) W195 1 rfl (Nat.le_of_ble_eq_true rfl)
        have N195 := Fr.snoc X195 N190 g185
        have hkS := Nat.le_trans hkS (Keep.of_wr W195).1
        have O198 := O193.wr W195 g185
        have K199 := K194.wr W195 (Or.inr z186)
        refine own_GW.step (T' := T195) (g' := (mkF m 102 #[.val (.int i0), .val (.int i1), .val (.int i2), .val (.int i3), .val (.int i4), .val (.int i5), .val (.int (1 : Int32)), .val (.int (3 : Int32)), .val (.ref b83), .val (.ref a99), .val (.ref b184), .unset] [])) st195 ?_
        refine own_GW.step (g' := (mkF m 104 #[.val (.int i0), .val (.int i1), .val (.int i2), .val (.int i3), .val (.int i4), .val (.int i5), .val (.int (1 : Int32)), .val (.int (3 : Int32)), .val (.ref b83), .val (.ref a99), .val (.ref b184), .unset] [(.int (3 : Int32))])) (fun tq_ kq_ => XS.iload X195.here hx rfl (hb hby at_102) rfl kq_) ?_
        refine own_GW.step (g' := (mkF m 105 #[.val (.int i0), .val (.int i1), .val (.int i2), .val (.int i3), .val (.int i4), .val (.int i5), .val (.int (1 : Int32)), .val (.int (3 : Int32)), .val (.ref b83), .val (.ref a99), .val (.ref b184), .unset] [(.int (2 : Int32)), (.int (3 : Int32))])) (fun tq_ kq_ => XS.iconst X195.here hx rfl (hb hby at_104) kq_) ?_
        have hc105 : (2 : Int32) < (3 : Int32) := (by decide)
        refine own_GW.step (g' := (mkF m 108 #[.val (.int i0), .val (.int i1), .val (.int i2), .val (.int i3), .val (.int i4), .val (.int i5), .val (.int (1 : Int32)), .val (.int (3 : Int32)), .val (.ref b83), .val (.ref a99), .val (.ref b184), .unset] [])) (fun tq_ kq_ => XS.icmpNo X195.here hx rfl (hb hby at_105) rfl (tlt hc105).2.2.2 kq_) ?_
        refine own_GW.step (g' := (mkF m 110 #[.val (.int i0), .val (.int i1), .val (.int i2), .val (.int i3), .val (.int i4), .val (.int i5), .val (.int (1 : Int32)), .val (.int (3 : Int32)), .val (.ref b83), .val (.ref a99), .val (.ref b184), .unset] [(.ref b184)])) (fun tq_ kq_ => XS.aload X195.here hx rfl (hb hby at_108) rfl rfl kq_) ?_
        refine own_GW.step (g' := (mkF m 111 #[.val (.int i0), .val (.int i1), .val (.int i2), .val (.int i3), .val (.int i4), .val (.int i5), .val (.int (1 : Int32)), .val (.int (3 : Int32)), .val (.ref b83), .val (.ref a99), .val (.ref b184), .unset] [(.int (2 : Int32)), (.ref b184)])) (fun tq_ kq_ => XS.iconst X195.here hx rfl (hb hby at_110) kq_) ?_
        refine own_GW.step (g' := (mkF m 112 #[.val (.int i0), .val (.int i1), .val (.int i2), .val (.int i3), .val (.int i4), .val (.int i5), .val (.int (1 : Int32)), .val (.int (3 : Int32)), .val (.ref b83), .val (.ref a99), .val (.ref b184), .unset] [(.int i2), (.int (2 : Int32)), (.ref b184)])) (fun tq_ kq_ => XS.iloadN X195.here hx rfl (hb hby at_111) rfl kq_) ?_
        refine own_GW.step (g' := (mkF m 113 #[.val (.int i0), .val (.int i1), .val (.int i2), .val (.int i3), .val (.int i4), .val (.int i5), .val (.int (1 : Int32)), .val (.int (3 : Int32)), .val (.ref b83), .val (.ref a99), .val (.ref b184), .unset] [(.int i3), (.int i2), (.int (2 : Int32)), (.ref b184)])) (fun tq_ kq_ => XS.iloadN X195.here hx rfl (hb hby at_112) rfl kq_) ?_
        refine own_GW.step (g' := (mkF m 114 #[.val (.int i0), .val (.int i1), .val (.int i2), .val (.int i3), .val (.int i4), .val (.int i5), .val (.int (1 : Int32)), .val (.int (3 : Int32)), .val (.ref b83), .val (.ref a99), .val (.ref b184), .unset] [(.int (i2 ^^^ i3)), (.int (2 : Int32)), (.ref b184)])) (fun tq_ kq_ => XS.ixor X195.here hx rfl (hb hby at_113) rfl kq_) ?_
        refine own_GW.step (g' := (mkF m 115 #[.val (.int i0), .val (.int i1), .val (.int i2), .val (.int i3), .val (.int i4), .val (.int i5), .val (.int (1 : Int32)), .val (.int (3 : Int32)), .val (.ref b83), .val (.ref a99), .val (.ref b184), .unset] [(.int ((i2 ^^^ i3).toInt8.toInt32)), (.int (2 : Int32)), (.ref b184)])) (fun tq_ kq_ => XS.i2b X195.here hx rfl (hb hby at_114) rfl kq_) ?_
        obtain ⟨cl200, Ar200, q1200, Sz200, Nz200, Hh200, Gg200⟩ := id F196
        obtain ⟨T200, h200, X200, e200, W200, st200⟩ := stB X195 hx hZ e195 Ar200 (j := (2 : Int32)) (inb_of Sz200 ⟨by decide, by decide⟩) (g := (mkF m 115 #[.val (.int i0), .val (.int i1), .val (.int i2), .val (.int i3), .val (.int i4), .val (.int i5), .val (.int (1 : Int32)), .val (.int (3 : Int32)), .val (.ref b83), .val (.ref a99), .val (.ref b184), .unset] [(.int ((i2 ^^^ i3).toInt8.toInt32)), (.int (2 : Int32)), (.ref b184)])) rfl rfl (hb hby at_115)
        have F201 : Arv Z h200 b184 k184 .byte (3 : Int32) [(.int (nar .byte (i2.toInt8.toInt32))), (.int (nar .byte (i3.toInt8.toInt32))), (.int (nar .byte ((i2 ^^^ i3).toInt8.toInt32)))] (.int (0 : Int32)) := Arv.set Ar200 q1200 Sz200 Nz200 Hh200 Gg200 (fits_nar_byte _) W200 2 rfl (Nat.le_of_ble_eq_true rfl)
        have N200 := Fr.snoc X200 N195 g185
        have hkS := Nat.le_trans hkS (Keep.of_wr W200).1
        have O203 := O198.wr W200 g185
        have K204 := K199.wr W200 (Or.inr z186)
        refine own_GW.step (T' := T200) (g' := (mkF m 116 #[.val (.int i0), .val (.int i1), .val (.int i2), .val (.int i3), .val (.int i4), .val (.int i5), .val (.int (1 : Int32)), .val (.int (3 : Int32)), .val (.ref b83), .val (.ref a99), .val (.ref b184), .unset] [])) st200 ?_
        obtain ⟨T205, h205, X205, e205, E205, A205, D205, -, st205⟩ := newO X200 hx hZ hown (hw _ (List.mem_of_getElem? (i := 9) rfl)) (hw _ (List.mem_of_getElem? (i := 10) rfl)) (hw _ (List.mem_of_getElem? (i := 11) rfl)) e200 (g := (mkF m 116 #[.val (.int i0), .val (.int i1), .val (.int i2), .val (.int i3), .val (.int i4), .val (.int i5), .val (.int (1 : Int32)), .val (.int (3 : Int32)), .val (.ref b83), .val (.ref a99), .val (.ref b184), .unset] [])) rfl (hb hby at_116) (by decide) (by decide)
        obtain ⟨b205, g205⟩ : ∃ z, z = h200.size := ⟨_, rfl⟩
        rw [← g205] at A205 D205 st205
        have g206 : n0 ≤ b205 := Nat.le_trans O203.le (Nat.le_of_eq g205.symm)
        have z207 : h0.size ≤ b205 := Nat.le_trans K204.1 (Nat.le_of_eq g205.symm)
        have hkS := Nat.le_trans hkS E205.1
        have O208 := O203.ext E205
        have K209 := K204.ext E205
        have F210 : Fld Z h205 b205 "com/example/evenkey/evenkey/model/Column" "family" "Ljava/lang/String;" .null := D205 (Or.inr (hw _ (List.mem_of_getElem? (i := 29) rfl))) (ty := (.object "java/lang/String")) (by decide)
        have F211 : Fld Z h205 b205 "com/example/evenkey/evenkey/model/Column" "qualifier" "[B" .null := D205 (Or.inr (hw _ (List.mem_of_getElem? (i := 31) rfl))) (ty := (.array .byte)) (by decide)
        refine own_GW.step (T' := T205) (g' := (mkF m 119 #[.val (.int i0), .val (.int i1), .val (.int i2), .val (.int i3), .val (.int i4), .val (.int i5), .val (.int (1 : Int32)), .val (.int (3 : Int32)), .val (.ref b83), .val (.ref a99), .val (.ref b184), .unset] [(.ref b205)])) st205 ?_
        refine own_GW.step (g' := (mkF m 120 #[.val (.int i0), .val (.int i1), .val (.int i2), .val (.int i3), .val (.int i4), .val (.int i5), .val (.int (1 : Int32)), .val (.int (3 : Int32)), .val (.ref b83), .val (.ref a99), .val (.ref b184), .unset] [(.ref b205), (.ref b205)])) (fun tq_ kq_ => XS.dup X205.here hx rfl (hb hby at_119) rfl rfl kq_) ?_
        refine own_GW.step (g' := (mkF m 122 #[.val (.int i0), .val (.int i1), .val (.int i2), .val (.int i3), .val (.int i4), .val (.int i5), .val (.int (1 : Int32)), .val (.int (3 : Int32)), .val (.ref b83), .val (.ref a99), .val (.ref b184), .unset] [(.ref a99), (.ref b205), (.ref b205)])) (fun tq_ kq_ => XS.aload X205.here hx rfl (hb hby at_120) rfl rfl kq_) ?_
        refine own_GW.step (g' := (mkF m 124 #[.val (.int i0), .val (.int i1), .val (.int i2), .val (.int i3), .val (.int i4), .val (.int i5), .val (.int (1 : Int32)), .val (.int (3 : Int32)), .val (.ref b83), .val (.ref a99), .val (.ref b184), .unset] [(.ref b184), (.ref a99), (.ref b205), (.ref b205)])) (fun tq_ kq_ => XS.aload X205.here hx rfl (hb hby at_122) rfl rfl kq_) ?_
        obtain ⟨_, _, ⟨T212, L212, k212, n212⟩, -, X212, sS212, gS212, ⟨Lc212, hQ212, l212, y212, z212⟩, st212⟩ := X205.specialBackS hx (y := (⟨"com/example/evenkey/evenkey/model/Column", "<init>", "(Ljava/lang/String;[B)V"⟩ : MethodName)) rfl hown (mvT hZ (hw _ (List.mem_of_getElem? (i := 12) rfl))) (mvT hZ (hw _ (List.mem_of_getElem? (i := 13) rfl))) (mvT hZ (hw _ (List.mem_of_getElem? (i := 14) rfl))) (by decide) (backOfS (W := 1) (rm_coiR l Z a0 hw [] b205 a99 b184 h205 n0 O208 F210 F211 A205 g206) hZ (hw _ (List.mem_of_getElem? (i := 14) rfl)) (hw _ (List.mem_of_getElem? (i := 11) rfl)) (by decide) (by decide)) (g := (mkF m 124 #[.val (.int i0), .val (.int i1), .val (.int i2), .val (.int i3), .val (.int i4), .val (.int i5), .val (.int (1 : Int32)), .val (.int (3 : Int32)), .val (.ref b83), .val (.ref a99), .val (.ref b184), .unset] [(.ref b184), (.ref a99), (.ref b205), (.ref b205)])) rfl (by rw [hml]; rfl) (Steps.refl _) (a := b205) (argsL := [(.ref a99), (.ref b184)]) (rest := [(.ref b205)]) (lenOf pd__28Ljava_2flang_2fString_3b_5bB_29V rfl) rfl (by show 2 * 0 + _ ≤ _; exact Nat.le_of_eq rfl) (hb hby at_124) (fun _ _ => ⟨rfl, e205, (by decide : 5 + 2 ≤ _), (by decide : 11 + 28 ≤ _)⟩)
        dsimp only [Pt.U, Pt.locs, Pt.cells, Pt.slots] at X212 l212 y212 z212 st212 hQ212 sS212 gS212
        subst l212 y212 z212
        obtain ⟨X212, hS, hZ, hown⟩ := rebS (vm0 := T99.vm) hS (by rw [e205]; exact hkS) X212 sS212 gS212 hZ hown
        obtain ⟨rfl, Nq212, P213, P214, P215⟩ := hQ212
        have N212 := Fr.app N200 Nq212
        have hkS := Nat.le_trans hkS P213.1
        have F216 := A205.keep P213
        have O217 := O208.keep P213 (allS g206 all0)
        have K218 := K209.trans P213 (allS (Or.inr z207) all0)
        have hkS : T212.heap.size ≤ T212.heap.size := Nat.le_refl _
        refine own_GW.step (T' := T212) (g' := (mkF m 127 #[.val (.int i0), .val (.int i1), .val (.int i2), .val (.int i3), .val (.int i4), .val (.int i5), .val (.int (1 : Int32)), .val (.int (3 : Int32)), .val (.ref b83), .val (.ref a99), .val (.ref b184), .unset] [(.ref b205)])) (fun tq_ kq_ => st212.trans kq_) ?_
        refine own_GW.step (g' := (mkF m 129 #[.val (.int i0), .val (.int i1), .val (.int i2), .val (.int i3), .val (.int i4), .val (.int i5), .val (.int (1 : Int32)), .val (.int (3 : Int32)), .val (.ref b83), .val (.ref a99), .val (.ref b184), .val (.ref b205)] [])) (fun tq_ kq_ => XS.astore X212.here hx rfl (hb hby at_127) rfl rfl (l' := #[.val (.int i0), .val (.int i1), .val (.int i2), .val (.int i3), .val (.int i4), .val (.int i5), .val (.int (1 : Int32)), .val (.int (3 : Int32)), .val (.ref b83), .val (.ref a99), .val (.ref b184), .val (.ref b205)]) rfl kq_) ?_
        refine own_GW.step (g' := (mkF m 131 #[.val (.int i0), .val (.int i1), .val (.int i2), .val (.int i3), .val (.int i4), .val (.int i5), .val (.int (1 : Int32)), .val (.int (3 : Int32)), .val (.ref b83), .val (.ref a99), .val (.ref b184), .val (.ref b205)] [(.ref b205)])) (fun tq_ kq_ => XS.aload X212.here hx rfl (hb hby at_129) rfl rfl kq_) ?_
        obtain ⟨cq219, kq219, q219a, q219b, q219c⟩ := isOf hZ rfl P214
        obtain ⟨_, _, ⟨T219, L219, k219, n219⟩, -, X219, ⟨Lc219, hQ219, l219, y219, z219⟩, st219⟩ := X212.virtualBack hx (y := (⟨"com/example/evenkey/evenkey/model/Column", "hasQualifier", "()Z"⟩ : MethodName)) (z := (⟨"com/example/evenkey/evenkey/model/Column", "hasQualifier", "()Z"⟩ : MethodName)) hown (mvT hZ (hw _ (List.mem_of_getElem? (i := 32) rfl))) (mvT hZ (hw _ (List.mem_of_getElem? (i := 33) rfl))) (notFace_of_selects (args := #[]) (mvT hZ (hw _ (List.mem_of_getElem? (i := 35) rfl)))) (mvT hZ (hw _ (List.mem_of_getElem? (i := 35) rfl))) (mvT hZ (hw _ (List.mem_of_getElem? (i := 34) rfl))) (by decide) (backOf (W := 0) (rm_hqR l Z a0 hw [] b205 b184 T212.heap n0 O217 P215) hZ (hw _ (List.mem_of_getElem? (i := 36) rfl)) (hw _ (List.mem_of_getElem? (i := 11) rfl)) (by decide) (by decide)) q219a q219c (g := (mkF m 131 #[.val (.int i0), .val (.int i1), .val (.int i2), .val (.int i3), .val (.int i4), .val (.int i5), .val (.int (1 : Int32)), .val (.int (3 : Int32)), .val (.ref b83), .val (.ref a99), .val (.ref b184), .val (.ref b205)] [(.ref b205)])) rfl (by rw [hml]; rfl) (Steps.refl _) (argsL := []) (rest := []) (lenOf pd__28_29Z rfl) rfl (by show 2 * 0 + _ ≤ _; exact Nat.le_of_eq rfl) (hb hby at_131) (fun _ _ => ⟨rfl, rfl, (by decide : 7 + 0 ≤ _), (by decide : 39 + 0 ≤ _)⟩)
        dsimp only [Pt.U, Pt.locs, Pt.cells, Pt.slots] at X219 l219 y219 z219 st219 hQ219
        subst l219 y219 z219
        obtain ⟨rfl, Nq219, P220⟩ := hQ219
        have N219 := Fr.app N212 Nq219
        refine own_GW.step (T' := T219) (g' := (mkF m 134 #[.val (.int i0), .val (.int i1), .val (.int i2), .val (.int i3), .val (.int i4), .val (.int i5), .val (.int (1 : Int32)), .val (.int (3 : Int32)), .val (.ref b83), .val (.ref a99), .val (.ref b184), .val (.ref b205)] [(.int (1 : Int32))])) (fun tq_ kq_ => st219.trans kq_) ?_
        refine own_GW.step (g' := (mkF m 136 #[.val (.int i0), .val (.int i1), .val (.int i2), .val (.int i3), .val (.int i4), .val (.int i5), .val (.int (1 : Int32)), .val (.int (3 : Int32)), .val (.ref b83), .val (.ref a99), .val (.ref b184), .val (.ref b205)] [(.int (1 : Int32)), (.int (1 : Int32))])) (fun tq_ kq_ => XS.iload X219.here hx rfl (hb hby at_134) rfl kq_) ?_
        have hc136 : (1 : Int32) = (1 : Int32) := (by decide)
        refine own_GW.step (g' := (mkF m 139 #[.val (.int i0), .val (.int i1), .val (.int i2), .val (.int i3), .val (.int i4), .val (.int i5), .val (.int (1 : Int32)), .val (.int (3 : Int32)), .val (.ref b83), .val (.ref a99), .val (.ref b184), .val (.ref b205)] [])) (fun tq_ kq_ => XS.icmpNo X219.here hx rfl (hb hby at_136) rfl (teq hc136).2 kq_) ?_
        refine own_GW.step (g' := (mkF m 140 #[.val (.int i0), .val (.int i1), .val (.int i2), .val (.int i3), .val (.int i4), .val (.int i5), .val (.int (1 : Int32)), .val (.int (3 : Int32)), .val (.ref b83), .val (.ref a99), .val (.ref b184), .val (.ref b205)] [(.int (1 : Int32))])) (fun tq_ kq_ => XS.iconst X219.here hx rfl (hb hby at_139) kq_) ?_
        refine own_GW.step (g' := (mkF m 144 #[.val (.int i0), .val (.int i1), .val (.int i2), .val (.int i3), .val (.int i4), .val (.int i5), .val (.int (1 : Int32)), .val (.int (3 : Int32)), .val (.ref b83), .val (.ref a99), .val (.ref b184), .val (.ref b205)] [(.int (1 : Int32))])) (fun tq_ kq_ => XS.goto X219.here hx rfl (pc0 := 140) (pc' := 144) rfl (hb hby at_140) (by decide) (by decide) kq_) ?_
        exact own_retW X219 hS P220 hkS (v := some (.int (1 : Int32))) (fun h => by rw [Bd.returns] at h; cases h) Bd.notSynchronized ⟨rfl, N219⟩ (by decide) (by decide) (fun fs hr => retN X219 hx (t := .boolean) Bd.returns (by simp) (hb hby at_144) hr)
    · refine own_GW.step (g' := (mkF m 49 #[.val (.int i0), .val (.int i1), .val (.int i2), .val (.int i3), .val (.int i4), .val (.int i5), .val (.int (1 : Int32)), .val (.int (i1 &&& (3 : Int32))), .val (.ref b83), .unset, .unset, .unset] [])) (fun tq_ kq_ => XS.ifNo X94.here hx rfl (hb hby at_46) rfl ((if0 _ _).trans (feq hc46).1) kq_) ?_
      obtain ⟨T221, h221, X221, e221, E221, A221, D221, -, st221⟩ := newO X94 hx hZ hown (hw _ (List.mem_of_getElem? (i := 37) rfl)) (hw _ (List.mem_of_getElem? (i := 3) rfl)) (hw _ (List.mem_of_getElem? (i := 2) rfl)) e94 (g := (mkF m 49 #[.val (.int i0), .val (.int i1), .val (.int i2), .val (.int i3), .val (.int i4), .val (.int i5), .val (.int (1 : Int32)), .val (.int (i1 &&& (3 : Int32))), .val (.ref b83), .unset, .unset, .unset] [])) rfl (hb hby at_49) (by decide) (by decide)
      obtain ⟨b221, g221⟩ : ∃ z, z = h94.size := ⟨_, rfl⟩
      rw [← g221] at A221 D221 st221
      have ne222 : b83 ≠ b221 := Nat.ne_of_lt (Nat.lt_of_lt_of_le F95.lt (Nat.le_of_eq g221.symm))
      have g223 : n0 ≤ b221 := Nat.le_trans O97.le (Nat.le_of_eq g221.symm)
      have z224 : h0.size ≤ b221 := Nat.le_trans K98.1 (Nat.le_of_eq g221.symm)
      have hkS := Nat.le_trans hkS E221.1
      have F225 := F95.ext E221
      have O226 := O97.ext E221
      have K227 := K98.ext E221
      have F228 : Fld Z h221 b221 "java/lang/String" "value" "[B" .null := D221 (Or.inr (hw _ (List.mem_of_getElem? (i := 5) rfl))) (ty := (.array .byte)) (by decide)
      have F229 : Fld Z h221 b221 "java/lang/String" "coder" "B" (.int (0 : Int32)) := D221 (Or.inr (hw _ (List.mem_of_getElem? (i := 6) rfl))) (ty := .byte) (by decide)
      refine own_GW.step (T' := T221) (g' := (mkF m 52 #[.val (.int i0), .val (.int i1), .val (.int i2), .val (.int i3), .val (.int i4), .val (.int i5), .val (.int (1 : Int32)), .val (.int (i1 &&& (3 : Int32))), .val (.ref b83), .unset, .unset, .unset] [(.ref b221)])) st221 ?_
      refine own_GW.step (g' := (mkF m 53 #[.val (.int i0), .val (.int i1), .val (.int i2), .val (.int i3), .val (.int i4), .val (.int i5), .val (.int (1 : Int32)), .val (.int (i1 &&& (3 : Int32))), .val (.ref b83), .unset, .unset, .unset] [(.ref b221), (.ref b221)])) (fun tq_ kq_ => XS.dup X221.here hx rfl (hb hby at_52) rfl rfl kq_) ?_
      refine own_GW.step (g' := (mkF m 55 #[.val (.int i0), .val (.int i1), .val (.int i2), .val (.int i3), .val (.int i4), .val (.int i5), .val (.int (1 : Int32)), .val (.int (i1 &&& (3 : Int32))), .val (.ref b83), .unset, .unset, .unset] [(.ref b83), (.ref b221), (.ref b221)])) (fun tq_ kq_ => XS.aload X221.here hx rfl (hb hby at_53) rfl rfl kq_) ?_
      have hp230 : ∀ c ∈ ([(nar .char ((i4 &&& (255 : Int32)).toUInt32.toUInt16.toUInt32.toInt32)), (nar .char ((i5 &&& (255 : Int32)).toUInt32.toUInt16.toUInt32.toInt32))] : List Int32), ¬ c < 0 ∧ ¬ (255 : Int32) < c := by
        intro c hc
        simp only [List.mem_cons, List.not_mem_nil, or_false] at hc
        rcases hc with rfl | rfl
        · exact own_ch255 i4
        · exact own_ch255 i5
      obtain ⟨_, _, ⟨T231, L231, k231, n231⟩, -, X231, ⟨Lc231, hQ231, l231, y231, z231⟩, st231⟩ := X221.specialBack hx (y := (⟨"java/lang/String", "<init>", "([C)V"⟩ : MethodName)) rfl hown (mvT hZ (hw _ (List.mem_of_getElem? (i := 38) rfl))) (mvT hZ (hw _ (List.mem_of_getElem? (i := 39) rfl))) (mvT hZ (hw _ (List.mem_of_getElem? (i := 40) rfl))) (by decide) (StrChars.Road.backV (W := 1) hZ hws (kI := 4) (hw _ (List.mem_of_getElem? (i := 3) rfl)) (cs := ([(nar .char ((i4 &&& (255 : Int32)).toUInt32.toUInt16.toUInt32.toInt32)), (nar .char ((i5 &&& (255 : Int32)).toUInt32.toUInt16.toUInt32.toInt32))] : List Int32)) (bs := (([(nar .char ((i4 &&& (255 : Int32)).toUInt32.toUInt16.toUInt32.toInt32)), (nar .char ((i5 &&& (255 : Int32)).toUInt32.toUInt16.toUInt32.toInt32))] : List Int32).map (fun c => c.toInt8.toInt32))) (n := 2) g223 O226.le A221 F228 F229 F225 (Sta.ext O226.2 S_CS) hcs rfl rfl (by decide) (by decide) hp230 rfl (by decide) (by decide)) (g := (mkF m 55 #[.val (.int i0), .val (.int i1), .val (.int i2), .val (.int i3), .val (.int i4), .val (.int i5), .val (.int (1 : Int32)), .val (.int (i1 &&& (3 : Int32))), .val (.ref b83), .unset, .unset, .unset] [(.ref b83), (.ref b221), (.ref b221)])) rfl (by rw [hml]; rfl) (Steps.refl _) (a := b221) (argsL := [(.ref b83)]) (rest := [(.ref b221)]) (lenOf pd__28_5bC_29V rfl) rfl (by show 2 * 0 + _ ≤ _; exact Nat.le_of_eq rfl) (hb hby at_55) (fun _ _ => ⟨rfl, e221, (by decide : 2 + 1 ≤ _), (by decide : 6 + 2 ≤ _)⟩)
      dsimp only [Pt.U, Pt.locs, Pt.cells, Pt.slots] at X231 l231 y231 z231 st231 hQ231
      subst l231 y231 z231
      obtain ⟨rfl, P232, P233, P234, P235, b236, kx237, P238, P239, P240, P241, P242⟩ := hQ231
      have N231 := Fr.app N94 P232
      have ne243 : b83 ≠ b236 := Nat.ne_of_lt (Nat.lt_of_lt_of_le F225.lt P239)
      have ne244 : b221 ≠ b236 := Nat.ne_of_lt (Nat.lt_of_lt_of_le A221.lt P239)
      have g245 : n0 ≤ b236 := Nat.le_trans O226.le P239
      have z246 : h0.size ≤ b236 := Nat.le_trans K227.1 P239
      have hkS := Nat.le_trans hkS P233.1
      have F247 := F225.keep P233 (ninS ne222 nin0)
      have F248 := A221.keep P233
      have O249 := O226.keep P233 (allS g223 all0)
      have K250 := K227.trans P233 (allS (Or.inr z224) all0)
      refine own_GW.step (T' := T231) (g' := (mkF m 58 #[.val (.int i0), .val (.int i1), .val (.int i2), .val (.int i3), .val (.int i4), .val (.int i5), .val (.int (1 : Int32)), .val (.int (i1 &&& (3 : Int32))), .val (.ref b83), .unset, .unset, .unset] [(.ref b221)])) (fun tq_ kq_ => st231.trans kq_) ?_
      refine own_GW.step (g' := (mkF m 63 #[.val (.int i0), .val (.int i1), .val (.int i2), .val (.int i3), .val (.int i4), .val (.int i5), .val (.int (1 : Int32)), .val (.int (i1 &&& (3 : Int32))), .val (.ref b83), .unset, .unset, .unset] [(.ref b221)])) (fun tq_ kq_ => XS.goto X231.here hx rfl (pc0 := 58) (pc' := 63) rfl (hb hby at_58) (by decide) (by decide) kq_) ?_
      refine own_GW.step (g' := (mkF m 65 #[.val (.int i0), .val (.int i1), .val (.int i2), .val (.int i3), .val (.int i4), .val (.int i5), .val (.int (1 : Int32)), .val (.int (i1 &&& (3 : Int32))), .val (.ref b83), .val (.ref b221), .unset, .unset] [])) (fun tq_ kq_ => XS.astore X231.here hx rfl (hb hby at_63) rfl rfl (l' := #[.val (.int i0), .val (.int i1), .val (.int i2), .val (.int i3), .val (.int i4), .val (.int i5), .val (.int (1 : Int32)), .val (.int (i1 &&& (3 : Int32))), .val (.ref b83), .val (.ref b221), .unset, .unset]) rfl kq_) ?_
      refine own_GW.step (g' := (mkF m 66 #[.val (.int i0), .val (.int i1), .val (.int i2), .val (.int i3), .val (.int i4), .val (.int i5), .val (.int (1 : Int32)), .val (.int (i1 &&& (3 : Int32))), .val (.ref b83), .val (.ref b221), .unset, .unset] [.null])) (fun tq_ kq_ => XS.aconstNull X231.here hx rfl (hb hby at_65) kq_) ?_
      refine own_GW.step (g' := (mkF m 68 #[.val (.int i0), .val (.int i1), .val (.int i2), .val (.int i3), .val (.int i4), .val (.int i5), .val (.int (1 : Int32)), .val (.int (i1 &&& (3 : Int32))), .val (.ref b83), .val (.ref b221), .val .null, .unset] [])) (fun tq_ kq_ => XS.astore X231.here hx rfl (hb hby at_66) rfl rfl (l' := #[.val (.int i0), .val (.int i1), .val (.int i2), .val (.int i3), .val (.int i4), .val (.int i5), .val (.int (1 : Int32)), .val (.int (i1 &&& (3 : Int32))), .val (.ref b83), .val (.ref b221), .val .null, .unset]) rfl kq_) ?_
      refine own_GW.step (g' := (mkF m 70 #[.val (.int i0), .val (.int i1), .val (.int i2), .val (.int i3), .val (.int i4), .val (.int i5), .val (.int (1 : Int32)), .val (.int (i1 &&& (3 : Int32))), .val (.ref b83), .val (.ref b221), .val .null, .unset] [(.int (1 : Int32))])) (fun tq_ kq_ => XS.iload X231.here hx rfl (hb hby at_68) rfl kq_) ?_
      have hc70 : ¬ ((1 : Int32) = (0 : Int32)) := (by decide)
      refine own_GW.step (g' := (mkF m 73 #[.val (.int i0), .val (.int i1), .val (.int i2), .val (.int i3), .val (.int i4), .val (.int i5), .val (.int (1 : Int32)), .val (.int (i1 &&& (3 : Int32))), .val (.ref b83), .val (.ref b221), .val .null, .unset] [])) (fun tq_ kq_ => XS.ifNo X231.here hx rfl (hb hby at_70) rfl ((if0 _ _).trans (feq hc70).1) kq_) ?_
      obtain ⟨n, hn⟩ : ∃ z, z = (i1 &&& (3 : Int32)) := ⟨_, rfl⟩
      refine own_GW.cast (g' := (mkF m 73 #[.val (.int i0), .val (.int i1), .val (.int i2), .val (.int i3), .val (.int i4), .val (.int i5), .val (.int (1 : Int32)), .val (.int n), .val (.ref b83), .val (.ref b221), .val .null, .unset] [])) (by rw [hn]) ?_
      have hn4 := own_four i1
      rw [← hn] at hn4
      rcases hn4 with rfl | rfl | rfl | rfl
      · refine own_GW.step (g' := (mkF m 75 #[.val (.int i0), .val (.int i1), .val (.int i2), .val (.int i3), .val (.int i4), .val (.int i5), .val (.int (1 : Int32)), .val (.int (0 : Int32)), .val (.ref b83), .val (.ref b221), .val .null, .unset] [(.int (0 : Int32))])) (fun tq_ kq_ => XS.iload X231.here hx rfl (hb hby at_73) rfl kq_) ?_
        obtain ⟨T251, h251, k251, X251, e251, E251, A251, st251⟩ := newP X231 hx hZ (hw _ (List.mem_of_getElem? (i := 4) rfl)) rfl (g := (mkF m 75 #[.val (.int i0), .val (.int i1), .val (.int i2), .val (.int i3), .val (.int i4), .val (.int i5), .val (.int (1 : Int32)), .val (.int (0 : Int32)), .val (.ref b83), .val (.ref b221), .val .null, .unset] [(.int (0 : Int32))])) rfl (hb hby at_75) rfl (by decide) (cap := 0) (by decide) (by decide) (by decide) (by decide)
        obtain ⟨b251, g251⟩ : ∃ z, z = T231.heap.size := ⟨_, rfl⟩
        rw [← g251] at A251 st251
        have g252 : n0 ≤ b251 := Nat.le_trans O249.le (Nat.le_of_eq g251.symm)
        have z253 : h0.size ≤ b251 := Nat.le_trans K250.1 (Nat.le_of_eq g251.symm)
        have hkS := Nat.le_trans hkS E251.1
        have O254 := O249.ext E251
        have K255 := K250.ext E251
        have F256 : Arv Z h251 b251 k251 .byte (0 : Int32) [] (.int (0 : Int32)) := (Arv.new A251 (by decide)).pad (pad_rep [] (.int (0 : Int32)) 0)
        refine own_GW.step (T' := T251) (g' := (mkF m 77 #[.val (.int i0), .val (.int i1), .val (.int i2), .val (.int i3), .val (.int i4), .val (.int i5), .val (.int (1 : Int32)), .val (.int (0 : Int32)), .val (.ref b83), .val (.ref b221), .val .null, .unset] [(.ref b251)])) st251 ?_
        refine own_GW.step (g' := (mkF m 79 #[.val (.int i0), .val (.int i1), .val (.int i2), .val (.int i3), .val (.int i4), .val (.int i5), .val (.int (1 : Int32)), .val (.int (0 : Int32)), .val (.ref b83), .val (.ref b221), .val (.ref b251), .unset] [])) (fun tq_ kq_ => XS.astore X251.here hx rfl (hb hby at_77) rfl rfl (l' := #[.val (.int i0), .val (.int i1), .val (.int i2), .val (.int i3), .val (.int i4), .val (.int i5), .val (.int (1 : Int32)), .val (.int (0 : Int32)), .val (.ref b83), .val (.ref b221), .val (.ref b251), .unset]) rfl kq_) ?_
        refine own_GW.step (g' := (mkF m 81 #[.val (.int i0), .val (.int i1), .val (.int i2), .val (.int i3), .val (.int i4), .val (.int i5), .val (.int (1 : Int32)), .val (.int (0 : Int32)), .val (.ref b83), .val (.ref b221), .val (.ref b251), .unset] [(.int (0 : Int32))])) (fun tq_ kq_ => XS.iload X251.here hx rfl (hb hby at_79) rfl kq_) ?_
        have hc81 : ¬ ((0 : Int32) < (0 : Int32)) := (by decide)
        refine own_GW.step (g' := (mkF m 90 #[.val (.int i0), .val (.int i1), .val (.int i2), .val (.int i3), .val (.int i4), .val (.int i5), .val (.int (1 : Int32)), .val (.int (0 : Int32)), .val (.ref b83), .val (.ref b221), .val (.ref b251), .unset] [])) (fun tq_ kq_ => XS.ifYes X251.here hx rfl (pc0 := 81) (pc' := 90) rfl (hb hby at_81) rfl ((if0 _ _).trans (flt hc81).2.2.2) (by decide) (by decide) kq_) ?_
        refine own_GW.step (g' := (mkF m 92 #[.val (.int i0), .val (.int i1), .val (.int i2), .val (.int i3), .val (.int i4), .val (.int i5), .val (.int (1 : Int32)), .val (.int (0 : Int32)), .val (.ref b83), .val (.ref b221), .val (.ref b251), .unset] [(.int (0 : Int32))])) (fun tq_ kq_ => XS.iload X251.here hx rfl (hb hby at_90) rfl kq_) ?_
        refine own_GW.step (g' := (mkF m 93 #[.val (.int i0), .val (.int i1), .val (.int i2), .val (.int i3), .val (.int i4), .val (.int i5), .val (.int (1 : Int32)), .val (.int (0 : Int32)), .val (.ref b83), .val (.ref b221), .val (.ref b251), .unset] [(.int (1 : Int32)), (.int (0 : Int32))])) (fun tq_ kq_ => XS.iconst X251.here hx rfl (hb hby at_92) kq_) ?_
        have hc93 : ¬ ((1 : Int32) < (0 : Int32)) := (by decide)
        refine own_GW.step (g' := (mkF m 102 #[.val (.int i0), .val (.int i1), .val (.int i2), .val (.int i3), .val (.int i4), .val (.int i5), .val (.int (1 : Int32)), .val (.int (0 : Int32)), .val (.ref b83), .val (.ref b221), .val (.ref b251), .unset] [])) (fun tq_ kq_ => XS.icmpYes X251.here hx rfl (pc0 := 93) (pc' := 102) rfl (hb hby at_93) rfl (flt hc93).2.2.2 (by decide) (by decide) kq_) ?_
        refine own_GW.step (g' := (mkF m 104 #[.val (.int i0), .val (.int i1), .val (.int i2), .val (.int i3), .val (.int i4), .val (.int i5), .val (.int (1 : Int32)), .val (.int (0 : Int32)), .val (.ref b83), .val (.ref b221), .val (.ref b251), .unset] [(.int (0 : Int32))])) (fun tq_ kq_ => XS.iload X251.here hx rfl (hb hby at_102) rfl kq_) ?_
        refine own_GW.step (g' := (mkF m 105 #[.val (.int i0), .val (.int i1), .val (.int i2), .val (.int i3), .val (.int i4), .val (.int i5), .val (.int (1 : Int32)), .val (.int (0 : Int32)), .val (.ref b83), .val (.ref b221), .val (.ref b251), .unset] [(.int (2 : Int32)), (.int (0 : Int32))])) (fun tq_ kq_ => XS.iconst X251.here hx rfl (hb hby at_104) kq_) ?_
        have hc105 : ¬ ((2 : Int32) < (0 : Int32)) := (by decide)
        refine own_GW.step (g' := (mkF m 116 #[.val (.int i0), .val (.int i1), .val (.int i2), .val (.int i3), .val (.int i4), .val (.int i5), .val (.int (1 : Int32)), .val (.int (0 : Int32)), .val (.ref b83), .val (.ref b221), .val (.ref b251), .unset] [])) (fun tq_ kq_ => XS.icmpYes X251.here hx rfl (pc0 := 105) (pc' := 116) rfl (hb hby at_105) rfl (flt hc105).2.2.2 (by decide) (by decide) kq_) ?_
        obtain ⟨T257, h257, X257, e257, E257, A257, D257, -, st257⟩ := newO X251 hx hZ hown (hw _ (List.mem_of_getElem? (i := 9) rfl)) (hw _ (List.mem_of_getElem? (i := 10) rfl)) (hw _ (List.mem_of_getElem? (i := 11) rfl)) e251 (g := (mkF m 116 #[.val (.int i0), .val (.int i1), .val (.int i2), .val (.int i3), .val (.int i4), .val (.int i5), .val (.int (1 : Int32)), .val (.int (0 : Int32)), .val (.ref b83), .val (.ref b221), .val (.ref b251), .unset] [])) rfl (hb hby at_116) (by decide) (by decide)
        obtain ⟨b257, g257⟩ : ∃ z, z = h251.size := ⟨_, rfl⟩
        rw [← g257] at A257 D257 st257
        have g258 : n0 ≤ b257 := Nat.le_trans O254.le (Nat.le_of_eq g257.symm)
        have z259 : h0.size ≤ b257 := Nat.le_trans K255.1 (Nat.le_of_eq g257.symm)
        have hkS := Nat.le_trans hkS E257.1
        have O260 := O254.ext E257
        have K261 := K255.ext E257
        have F262 : Fld Z h257 b257 "com/example/evenkey/evenkey/model/Column" "family" "Ljava/lang/String;" .null := D257 (Or.inr (hw _ (List.mem_of_getElem? (i := 29) rfl))) (ty := (.object "java/lang/String")) (by decide)
        have F263 : Fld Z h257 b257 "com/example/evenkey/evenkey/model/Column" "qualifier" "[B" .null := D257 (Or.inr (hw _ (List.mem_of_getElem? (i := 31) rfl))) (ty := (.array .byte)) (by decide)
        refine own_GW.step (T' := T257) (g' := (mkF m 119 #[.val (.int i0), .val (.int i1), .val (.int i2), .val (.int i3), .val (.int i4), .val (.int i5), .val (.int (1 : Int32)), .val (.int (0 : Int32)), .val (.ref b83), .val (.ref b221), .val (.ref b251), .unset] [(.ref b257)])) st257 ?_
        refine own_GW.step (g' := (mkF m 120 #[.val (.int i0), .val (.int i1), .val (.int i2), .val (.int i3), .val (.int i4), .val (.int i5), .val (.int (1 : Int32)), .val (.int (0 : Int32)), .val (.ref b83), .val (.ref b221), .val (.ref b251), .unset] [(.ref b257), (.ref b257)])) (fun tq_ kq_ => XS.dup X257.here hx rfl (hb hby at_119) rfl rfl kq_) ?_
        refine own_GW.step (g' := (mkF m 122 #[.val (.int i0), .val (.int i1), .val (.int i2), .val (.int i3), .val (.int i4), .val (.int i5), .val (.int (1 : Int32)), .val (.int (0 : Int32)), .val (.ref b83), .val (.ref b221), .val (.ref b251), .unset] [(.ref b221), (.ref b257), (.ref b257)])) (fun tq_ kq_ => XS.aload X257.here hx rfl (hb hby at_120) rfl rfl kq_) ?_
        refine own_GW.step (g' := (mkF m 124 #[.val (.int i0), .val (.int i1), .val (.int i2), .val (.int i3), .val (.int i4), .val (.int i5), .val (.int (1 : Int32)), .val (.int (0 : Int32)), .val (.ref b83), .val (.ref b221), .val (.ref b251), .unset] [(.ref b251), (.ref b221), (.ref b257), (.ref b257)])) (fun tq_ kq_ => XS.aload X257.here hx rfl (hb hby at_122) rfl rfl kq_) ?_
        obtain ⟨_, _, ⟨T264, L264, k264, n264⟩, -, X264, sS264, gS264, ⟨Lc264, hQ264, l264, y264, z264⟩, st264⟩ := X257.specialBackS hx (y := (⟨"com/example/evenkey/evenkey/model/Column", "<init>", "(Ljava/lang/String;[B)V"⟩ : MethodName)) rfl hown (mvT hZ (hw _ (List.mem_of_getElem? (i := 12) rfl))) (mvT hZ (hw _ (List.mem_of_getElem? (i := 13) rfl))) (mvT hZ (hw _ (List.mem_of_getElem? (i := 14) rfl))) (by decide) (backOfS (W := 1) (rm_coiR l Z a0 hw [] b257 b221 b251 h257 n0 O260 F262 F263 A257 g258) hZ (hw _ (List.mem_of_getElem? (i := 14) rfl)) (hw _ (List.mem_of_getElem? (i := 11) rfl)) (by decide) (by decide)) (g := (mkF m 124 #[.val (.int i0), .val (.int i1), .val (.int i2), .val (.int i3), .val (.int i4), .val (.int i5), .val (.int (1 : Int32)), .val (.int (0 : Int32)), .val (.ref b83), .val (.ref b221), .val (.ref b251), .unset] [(.ref b251), (.ref b221), (.ref b257), (.ref b257)])) rfl (by rw [hml]; rfl) (Steps.refl _) (a := b257) (argsL := [(.ref b221), (.ref b251)]) (rest := [(.ref b257)]) (lenOf pd__28Ljava_2flang_2fString_3b_5bB_29V rfl) rfl (by show 2 * 0 + _ ≤ _; exact Nat.le_of_eq rfl) (hb hby at_124) (fun _ _ => ⟨rfl, e257, (by decide : 5 + 2 ≤ _), (by decide : 10 + 28 ≤ _)⟩)
        dsimp only [Pt.U, Pt.locs, Pt.cells, Pt.slots] at X264 l264 y264 z264 st264 hQ264 sS264 gS264
        subst l264 y264 z264
        obtain ⟨X264, hS, hZ, hown⟩ := rebS (vm0 := s.vm) hS (by rw [e257]; exact hkS) X264 sS264 gS264 hZ hown
        obtain ⟨rfl, Nq264, P265, P266, P267⟩ := hQ264
        have N264 := Fr.app N231 Nq264
        have hkS := Nat.le_trans hkS P265.1
        have F268 := A257.keep P265
        have O269 := O260.keep P265 (allS g258 all0)
        have K270 := K261.trans P265 (allS (Or.inr z259) all0)
        have hkS : T264.heap.size ≤ T264.heap.size := Nat.le_refl _
        refine own_GW.step (T' := T264) (g' := (mkF m 127 #[.val (.int i0), .val (.int i1), .val (.int i2), .val (.int i3), .val (.int i4), .val (.int i5), .val (.int (1 : Int32)), .val (.int (0 : Int32)), .val (.ref b83), .val (.ref b221), .val (.ref b251), .unset] [(.ref b257)])) (fun tq_ kq_ => st264.trans kq_) ?_
        refine own_GW.step (g' := (mkF m 129 #[.val (.int i0), .val (.int i1), .val (.int i2), .val (.int i3), .val (.int i4), .val (.int i5), .val (.int (1 : Int32)), .val (.int (0 : Int32)), .val (.ref b83), .val (.ref b221), .val (.ref b251), .val (.ref b257)] [])) (fun tq_ kq_ => XS.astore X264.here hx rfl (hb hby at_127) rfl rfl (l' := #[.val (.int i0), .val (.int i1), .val (.int i2), .val (.int i3), .val (.int i4), .val (.int i5), .val (.int (1 : Int32)), .val (.int (0 : Int32)), .val (.ref b83), .val (.ref b221), .val (.ref b251), .val (.ref b257)]) rfl kq_) ?_
        refine own_GW.step (g' := (mkF m 131 #[.val (.int i0), .val (.int i1), .val (.int i2), .val (.int i3), .val (.int i4), .val (.int i5), .val (.int (1 : Int32)), .val (.int (0 : Int32)), .val (.ref b83), .val (.ref b221), .val (.ref b251), .val (.ref b257)] [(.ref b257)])) (fun tq_ kq_ => XS.aload X264.here hx rfl (hb hby at_129) rfl rfl kq_) ?_
        obtain ⟨cq271, kq271, q271a, q271b, q271c⟩ := isOf hZ rfl P266
        obtain ⟨_, _, ⟨T271, L271, k271, n271⟩, -, X271, ⟨Lc271, hQ271, l271, y271, z271⟩, st271⟩ := X264.virtualBack hx (y := (⟨"com/example/evenkey/evenkey/model/Column", "hasQualifier", "()Z"⟩ : MethodName)) (z := (⟨"com/example/evenkey/evenkey/model/Column", "hasQualifier", "()Z"⟩ : MethodName)) hown (mvT hZ (hw _ (List.mem_of_getElem? (i := 32) rfl))) (mvT hZ (hw _ (List.mem_of_getElem? (i := 33) rfl))) (notFace_of_selects (args := #[]) (mvT hZ (hw _ (List.mem_of_getElem? (i := 35) rfl)))) (mvT hZ (hw _ (List.mem_of_getElem? (i := 35) rfl))) (mvT hZ (hw _ (List.mem_of_getElem? (i := 34) rfl))) (by decide) (backOf (W := 0) (rm_hqR l Z a0 hw [] b257 b251 T264.heap n0 O269 P267) hZ (hw _ (List.mem_of_getElem? (i := 36) rfl)) (hw _ (List.mem_of_getElem? (i := 11) rfl)) (by decide) (by decide)) q271a q271c (g := (mkF m 131 #[.val (.int i0), .val (.int i1), .val (.int i2), .val (.int i3), .val (.int i4), .val (.int i5), .val (.int (1 : Int32)), .val (.int (0 : Int32)), .val (.ref b83), .val (.ref b221), .val (.ref b251), .val (.ref b257)] [(.ref b257)])) rfl (by rw [hml]; rfl) (Steps.refl _) (argsL := []) (rest := []) (lenOf pd__28_29Z rfl) rfl (by show 2 * 0 + _ ≤ _; exact Nat.le_of_eq rfl) (hb hby at_131) (fun _ _ => ⟨rfl, rfl, (by decide : 7 + 0 ≤ _), (by decide : 38 + 0 ≤ _)⟩)
        dsimp only [Pt.U, Pt.locs, Pt.cells, Pt.slots] at X271 l271 y271 z271 st271 hQ271
        subst l271 y271 z271
        obtain ⟨rfl, Nq271, P272⟩ := hQ271
        have N271 := Fr.app N264 Nq271
        refine own_GW.step (T' := T271) (g' := (mkF m 134 #[.val (.int i0), .val (.int i1), .val (.int i2), .val (.int i3), .val (.int i4), .val (.int i5), .val (.int (1 : Int32)), .val (.int (0 : Int32)), .val (.ref b83), .val (.ref b221), .val (.ref b251), .val (.ref b257)] [(.int (1 : Int32))])) (fun tq_ kq_ => st271.trans kq_) ?_
        refine own_GW.step (g' := (mkF m 136 #[.val (.int i0), .val (.int i1), .val (.int i2), .val (.int i3), .val (.int i4), .val (.int i5), .val (.int (1 : Int32)), .val (.int (0 : Int32)), .val (.ref b83), .val (.ref b221), .val (.ref b251), .val (.ref b257)] [(.int (1 : Int32)), (.int (1 : Int32))])) (fun tq_ kq_ => XS.iload X271.here hx rfl (hb hby at_134) rfl kq_) ?_
        have hc136 : (1 : Int32) = (1 : Int32) := (by decide)
        refine own_GW.step (g' := (mkF m 139 #[.val (.int i0), .val (.int i1), .val (.int i2), .val (.int i3), .val (.int i4), .val (.int i5), .val (.int (1 : Int32)), .val (.int (0 : Int32)), .val (.ref b83), .val (.ref b221), .val (.ref b251), .val (.ref b257)] [])) (fun tq_ kq_ => XS.icmpNo X271.here hx rfl (hb hby at_136) rfl (teq hc136).2 kq_) ?_
        refine own_GW.step (g' := (mkF m 140 #[.val (.int i0), .val (.int i1), .val (.int i2), .val (.int i3), .val (.int i4), .val (.int i5), .val (.int (1 : Int32)), .val (.int (0 : Int32)), .val (.ref b83), .val (.ref b221), .val (.ref b251), .val (.ref b257)] [(.int (1 : Int32))])) (fun tq_ kq_ => XS.iconst X271.here hx rfl (hb hby at_139) kq_) ?_
        refine own_GW.step (g' := (mkF m 144 #[.val (.int i0), .val (.int i1), .val (.int i2), .val (.int i3), .val (.int i4), .val (.int i5), .val (.int (1 : Int32)), .val (.int (0 : Int32)), .val (.ref b83), .val (.ref b221), .val (.ref b251), .val (.ref b257)] [(.int (1 : Int32))])) (fun tq_ kq_ => XS.goto X271.here hx rfl (pc0 := 140) (pc' := 144) rfl (hb hby at_140) (by decide) (by decide) kq_) ?_
        exact own_retW X271 hS P272 hkS (v := some (.int (1 : Int32))) (fun h => by rw [Bd.returns] at h; cases h) Bd.notSynchronized ⟨rfl, N271⟩ (by decide) (by decide) (fun fs hr => retN X271 hx (t := .boolean) Bd.returns (by simp) (hb hby at_144) hr)
      · refine own_GW.step (g' := (mkF m 75 #[.val (.int i0), .val (.int i1), .val (.int i2), .val (.int i3), .val (.int i4), .val (.int i5), .val (.int (1 : Int32)), .val (.int (1 : Int32)), .val (.ref b83), .val (.ref b221), .val .null, .unset] [(.int (1 : Int32))])) (fun tq_ kq_ => XS.iload X231.here hx rfl (hb hby at_73) rfl kq_) ?_
        obtain ⟨T273, h273, k273, X273, e273, E273, A273, st273⟩ := newP X231 hx hZ (hw _ (List.mem_of_getElem? (i := 4) rfl)) rfl (g := (mkF m 75 #[.val (.int i0), .val (.int i1), .val (.int i2), .val (.int i3), .val (.int i4), .val (.int i5), .val (.int (1 : Int32)), .val (.int (1 : Int32)), .val (.ref b83), .val (.ref b221), .val .null, .unset] [(.int (1 : Int32))])) rfl (hb hby at_75) rfl (by decide) (cap := 1) (by decide) (by decide) (by decide) (by decide)
        obtain ⟨b273, g273⟩ : ∃ z, z = T231.heap.size := ⟨_, rfl⟩
        rw [← g273] at A273 st273
        have g274 : n0 ≤ b273 := Nat.le_trans O249.le (Nat.le_of_eq g273.symm)
        have z275 : h0.size ≤ b273 := Nat.le_trans K250.1 (Nat.le_of_eq g273.symm)
        have hkS := Nat.le_trans hkS E273.1
        have O276 := O249.ext E273
        have K277 := K250.ext E273
        have F278 : Arv Z h273 b273 k273 .byte (1 : Int32) [(.int (0 : Int32))] (.int (0 : Int32)) := (Arv.new A273 (by decide)).pad (pad_rep [] (.int (0 : Int32)) 1)
        refine own_GW.step (T' := T273) (g' := (mkF m 77 #[.val (.int i0), .val (.int i1), .val (.int i2), .val (.int i3), .val (.int i4), .val (.int i5), .val (.int (1 : Int32)), .val (.int (1 : Int32)), .val (.ref b83), .val (.ref b221), .val .null, .unset] [(.ref b273)])) st273 ?_
        refine own_GW.step (g' := (mkF m 79 #[.val (.int i0), .val (.int i1), .val (.int i2), .val (.int i3), .val (.int i4), .val (.int i5), .val (.int (1 : Int32)), .val (.int (1 : Int32)), .val (.ref b83), .val (.ref b221), .val (.ref b273), .unset] [])) (fun tq_ kq_ => XS.astore X273.here hx rfl (hb hby at_77) rfl rfl (l' := #[.val (.int i0), .val (.int i1), .val (.int i2), .val (.int i3), .val (.int i4), .val (.int i5), .val (.int (1 : Int32)), .val (.int (1 : Int32)), .val (.ref b83), .val (.ref b221), .val (.ref b273), .unset]) rfl kq_) ?_
        refine own_GW.step (g' := (mkF m 81 #[.val (.int i0), .val (.int i1), .val (.int i2), .val (.int i3), .val (.int i4), .val (.int i5), .val (.int (1 : Int32)), .val (.int (1 : Int32)), .val (.ref b83), .val (.ref b221), .val (.ref b273), .unset] [(.int (1 : Int32))])) (fun tq_ kq_ => XS.iload X273.here hx rfl (hb hby at_79) rfl kq_) ?_
        have hc81 : (0 : Int32) < (1 : Int32) := (by decide)
        refine own_GW.step (g' := (mkF m 84 #[.val (.int i0), .val (.int i1), .val (.int i2), .val (.int i3), .val (.int i4), .val (.int i5), .val (.int (1 : Int32)), .val (.int (1 : Int32)), .val (.ref b83), .val (.ref b221), .val (.ref b273), .unset] [])) (fun tq_ kq_ => XS.ifNo X273.here hx rfl (hb hby at_81) rfl ((if0 _ _).trans (tlt hc81).2.2.2) kq_) ?_
        refine own_GW.step (g' := (mkF m 86 #[.val (.int i0), .val (.int i1), .val (.int i2), .val (.int i3), .val (.int i4), .val (.int i5), .val (.int (1 : Int32)), .val (.int (1 : Int32)), .val (.ref b83), .val (.ref b221), .val (.ref b273), .unset] [(.ref b273)])) (fun tq_ kq_ => XS.aload X273.here hx rfl (hb hby at_84) rfl rfl kq_) ?_
        refine own_GW.step (g' := (mkF m 87 #[.val (.int i0), .val (.int i1), .val (.int i2), .val (.int i3), .val (.int i4), .val (.int i5), .val (.int (1 : Int32)), .val (.int (1 : Int32)), .val (.ref b83), .val (.ref b221), .val (.ref b273), .unset] [(.int (0 : Int32)), (.ref b273)])) (fun tq_ kq_ => XS.iconst X273.here hx rfl (hb hby at_86) kq_) ?_
        refine own_GW.step (g' := (mkF m 88 #[.val (.int i0), .val (.int i1), .val (.int i2), .val (.int i3), .val (.int i4), .val (.int i5), .val (.int (1 : Int32)), .val (.int (1 : Int32)), .val (.ref b83), .val (.ref b221), .val (.ref b273), .unset] [(.int i2), (.int (0 : Int32)), (.ref b273)])) (fun tq_ kq_ => XS.iloadN X273.here hx rfl (hb hby at_87) rfl kq_) ?_
        refine own_GW.step (g' := (mkF m 89 #[.val (.int i0), .val (.int i1), .val (.int i2), .val (.int i3), .val (.int i4), .val (.int i5), .val (.int (1 : Int32)), .val (.int (1 : Int32)), .val (.ref b83), .val (.ref b221), .val (.ref b273), .unset] [(.int (i2.toInt8.toInt32)), (.int (0 : Int32)), (.ref b273)])) (fun tq_ kq_ => XS.i2b X273.here hx rfl (hb hby at_88) rfl kq_) ?_
        obtain ⟨cl279, Ar279, q1279, Sz279, Nz279, Hh279, Gg279⟩ := id F278
        obtain ⟨T279, h279, X279, e279, W279, st279⟩ := stB X273 hx hZ e273 Ar279 (j := (0 : Int32)) (inb_of Sz279 ⟨by decide, by decide⟩) (g := (mkF m 89 #[.val (.int i0), .val (.int i1), .val (.int i2), .val (.int i3), .val (.int i4), .val (.int i5), .val (.int (1 : Int32)), .val (.int (1 : Int32)), .val (.ref b83), .val (.ref b221), .val (.ref b273), .unset] [(.int (i2.toInt8.toInt32)), (.int (0 : Int32)), (.ref b273)])) rfl rfl (hb hby at_89)
        have F280 : Arv Z h279 b273 k273 .byte (1 : Int32) [(.int (nar .byte (i2.toInt8.toInt32)))] (.int (0 : Int32)) := Arv.set Ar279 q1279 Sz279 Nz279 Hh279 Gg279 (fits_nar_byte _) W279 0 rfl (Nat.le_of_ble_eq_true rfl)
        have N279 := Fr.snoc X279 N231 g274
        have hkS := Nat.le_trans hkS (Keep.of_wr W279).1
        have O282 := O276.wr W279 g274
        have K283 := K277.wr W279 (Or.inr z275)
        refine own_GW.step (T' := T279) (g' := (mkF m 90 #[.val (.int i0), .val (.int i1), .val (.int i2), .val (.int i3), .val (.int i4), .val (.int i5), .val (.int (1 : Int32)), .val (.int (1 : Int32)), .val (.ref b83), .val (.ref b221), .val (.ref b273), .unset] [])) st279 ?_
        refine own_GW.step (g' := (mkF m 92 #[.val (.int i0), .val (.int i1), .val (.int i2), .val (.int i3), .val (.int i4), .val (.int i5), .val (.int (1 : Int32)), .val (.int (1 : Int32)), .val (.ref b83), .val (.ref b221), .val (.ref b273), .unset] [(.int (1 : Int32))])) (fun tq_ kq_ => XS.iload X279.here hx rfl (hb hby at_90) rfl kq_) ?_
        refine own_GW.step (g' := (mkF m 93 #[.val (.int i0), .val (.int i1), .val (.int i2), .val (.int i3), .val (.int i4), .val (.int i5), .val (.int (1 : Int32)), .val (.int (1 : Int32)), .val (.ref b83), .val (.ref b221), .val (.ref b273), .unset] [(.int (1 : Int32)), (.int (1 : Int32))])) (fun tq_ kq_ => XS.iconst X279.here hx rfl (hb hby at_92) kq_) ?_
        have hc93 : ¬ ((1 : Int32) < (1 : Int32)) := (by decide)
        refine own_GW.step (g' := (mkF m 102 #[.val (.int i0), .val (.int i1), .val (.int i2), .val (.int i3), .val (.int i4), .val (.int i5), .val (.int (1 : Int32)), .val (.int (1 : Int32)), .val (.ref b83), .val (.ref b221), .val (.ref b273), .unset] [])) (fun tq_ kq_ => XS.icmpYes X279.here hx rfl (pc0 := 93) (pc' := 102) rfl (hb hby at_93) rfl (flt hc93).2.2.2 (by decide) (by decide) kq_) ?_
        refine own_GW.step (g' := (mkF m 104 #[.val (.int i0), .val (.int i1), .val (.int i2), .val (.int i3), .val (.int i4), .val (.int i5), .val (.int (1 : Int32)), .val (.int (1 : Int32)), .val (.ref b83), .val (.ref b221), .val (.ref b273), .unset] [(.int (1 : Int32))])) (fun tq_ kq_ => XS.iload X279.here hx rfl (hb hby at_102) rfl kq_) ?_
        refine own_GW.step (g' := (mkF m 105 #[.val (.int i0), .val (.int i1), .val (.int i2), .val (.int i3), .val (.int i4), .val (.int i5), .val (.int (1 : Int32)), .val (.int (1 : Int32)), .val (.ref b83), .val (.ref b221), .val (.ref b273), .unset] [(.int (2 : Int32)), (.int (1 : Int32))])) (fun tq_ kq_ => XS.iconst X279.here hx rfl (hb hby at_104) kq_) ?_
        have hc105 : ¬ ((2 : Int32) < (1 : Int32)) := (by decide)
        refine own_GW.step (g' := (mkF m 116 #[.val (.int i0), .val (.int i1), .val (.int i2), .val (.int i3), .val (.int i4), .val (.int i5), .val (.int (1 : Int32)), .val (.int (1 : Int32)), .val (.ref b83), .val (.ref b221), .val (.ref b273), .unset] [])) (fun tq_ kq_ => XS.icmpYes X279.here hx rfl (pc0 := 105) (pc' := 116) rfl (hb hby at_105) rfl (flt hc105).2.2.2 (by decide) (by decide) kq_) ?_
        obtain ⟨T284, h284, X284, e284, E284, A284, D284, -, st284⟩ := newO X279 hx hZ hown (hw _ (List.mem_of_getElem? (i := 9) rfl)) (hw _ (List.mem_of_getElem? (i := 10) rfl)) (hw _ (List.mem_of_getElem? (i := 11) rfl)) e279 (g := (mkF m 116 #[.val (.int i0), .val (.int i1), .val (.int i2), .val (.int i3), .val (.int i4), .val (.int i5), .val (.int (1 : Int32)), .val (.int (1 : Int32)), .val (.ref b83), .val (.ref b221), .val (.ref b273), .unset] [])) rfl (hb hby at_116) (by decide) (by decide)
        obtain ⟨b284, g284⟩ : ∃ z, z = h279.size := ⟨_, rfl⟩
        rw [← g284] at A284 D284 st284
        have g285 : n0 ≤ b284 := Nat.le_trans O282.le (Nat.le_of_eq g284.symm)
        have z286 : h0.size ≤ b284 := Nat.le_trans K283.1 (Nat.le_of_eq g284.symm)
        have hkS := Nat.le_trans hkS E284.1
        have O287 := O282.ext E284
        have K288 := K283.ext E284
        have F289 : Fld Z h284 b284 "com/example/evenkey/evenkey/model/Column" "family" "Ljava/lang/String;" .null := D284 (Or.inr (hw _ (List.mem_of_getElem? (i := 29) rfl))) (ty := (.object "java/lang/String")) (by decide)
        have F290 : Fld Z h284 b284 "com/example/evenkey/evenkey/model/Column" "qualifier" "[B" .null := D284 (Or.inr (hw _ (List.mem_of_getElem? (i := 31) rfl))) (ty := (.array .byte)) (by decide)
        refine own_GW.step (T' := T284) (g' := (mkF m 119 #[.val (.int i0), .val (.int i1), .val (.int i2), .val (.int i3), .val (.int i4), .val (.int i5), .val (.int (1 : Int32)), .val (.int (1 : Int32)), .val (.ref b83), .val (.ref b221), .val (.ref b273), .unset] [(.ref b284)])) st284 ?_
        refine own_GW.step (g' := (mkF m 120 #[.val (.int i0), .val (.int i1), .val (.int i2), .val (.int i3), .val (.int i4), .val (.int i5), .val (.int (1 : Int32)), .val (.int (1 : Int32)), .val (.ref b83), .val (.ref b221), .val (.ref b273), .unset] [(.ref b284), (.ref b284)])) (fun tq_ kq_ => XS.dup X284.here hx rfl (hb hby at_119) rfl rfl kq_) ?_
        refine own_GW.step (g' := (mkF m 122 #[.val (.int i0), .val (.int i1), .val (.int i2), .val (.int i3), .val (.int i4), .val (.int i5), .val (.int (1 : Int32)), .val (.int (1 : Int32)), .val (.ref b83), .val (.ref b221), .val (.ref b273), .unset] [(.ref b221), (.ref b284), (.ref b284)])) (fun tq_ kq_ => XS.aload X284.here hx rfl (hb hby at_120) rfl rfl kq_) ?_
        refine own_GW.step (g' := (mkF m 124 #[.val (.int i0), .val (.int i1), .val (.int i2), .val (.int i3), .val (.int i4), .val (.int i5), .val (.int (1 : Int32)), .val (.int (1 : Int32)), .val (.ref b83), .val (.ref b221), .val (.ref b273), .unset] [(.ref b273), (.ref b221), (.ref b284), (.ref b284)])) (fun tq_ kq_ => XS.aload X284.here hx rfl (hb hby at_122) rfl rfl kq_) ?_
        obtain ⟨_, _, ⟨T291, L291, k291, n291⟩, -, X291, sS291, gS291, ⟨Lc291, hQ291, l291, y291, z291⟩, st291⟩ := X284.specialBackS hx (y := (⟨"com/example/evenkey/evenkey/model/Column", "<init>", "(Ljava/lang/String;[B)V"⟩ : MethodName)) rfl hown (mvT hZ (hw _ (List.mem_of_getElem? (i := 12) rfl))) (mvT hZ (hw _ (List.mem_of_getElem? (i := 13) rfl))) (mvT hZ (hw _ (List.mem_of_getElem? (i := 14) rfl))) (by decide) (backOfS (W := 1) (rm_coiR l Z a0 hw [] b284 b221 b273 h284 n0 O287 F289 F290 A284 g285) hZ (hw _ (List.mem_of_getElem? (i := 14) rfl)) (hw _ (List.mem_of_getElem? (i := 11) rfl)) (by decide) (by decide)) (g := (mkF m 124 #[.val (.int i0), .val (.int i1), .val (.int i2), .val (.int i3), .val (.int i4), .val (.int i5), .val (.int (1 : Int32)), .val (.int (1 : Int32)), .val (.ref b83), .val (.ref b221), .val (.ref b273), .unset] [(.ref b273), (.ref b221), (.ref b284), (.ref b284)])) rfl (by rw [hml]; rfl) (Steps.refl _) (a := b284) (argsL := [(.ref b221), (.ref b273)]) (rest := [(.ref b284)]) (lenOf pd__28Ljava_2flang_2fString_3b_5bB_29V rfl) rfl (by show 2 * 0 + _ ≤ _; exact Nat.le_of_eq rfl) (hb hby at_124) (fun _ _ => ⟨rfl, e284, (by decide : 5 + 2 ≤ _), (by decide : 11 + 28 ≤ _)⟩)
        dsimp only [Pt.U, Pt.locs, Pt.cells, Pt.slots] at X291 l291 y291 z291 st291 hQ291 sS291 gS291
        subst l291 y291 z291
        obtain ⟨X291, hS, hZ, hown⟩ := rebS (vm0 := s.vm) hS (by rw [e284]; exact hkS) X291 sS291 gS291 hZ hown
        obtain ⟨rfl, Nq291, P292, P293, P294⟩ := hQ291
        have N291 := Fr.app N279 Nq291
        have hkS := Nat.le_trans hkS P292.1
        have F295 := A284.keep P292
        have O296 := O287.keep P292 (allS g285 all0)
        have K297 := K288.trans P292 (allS (Or.inr z286) all0)
        have hkS : T291.heap.size ≤ T291.heap.size := Nat.le_refl _
        refine own_GW.step (T' := T291) (g' := (mkF m 127 #[.val (.int i0), .val (.int i1), .val (.int i2), .val (.int i3), .val (.int i4), .val (.int i5), .val (.int (1 : Int32)), .val (.int (1 : Int32)), .val (.ref b83), .val (.ref b221), .val (.ref b273), .unset] [(.ref b284)])) (fun tq_ kq_ => st291.trans kq_) ?_
        refine own_GW.step (g' := (mkF m 129 #[.val (.int i0), .val (.int i1), .val (.int i2), .val (.int i3), .val (.int i4), .val (.int i5), .val (.int (1 : Int32)), .val (.int (1 : Int32)), .val (.ref b83), .val (.ref b221), .val (.ref b273), .val (.ref b284)] [])) (fun tq_ kq_ => XS.astore X291.here hx rfl (hb hby at_127) rfl rfl (l' := #[.val (.int i0), .val (.int i1), .val (.int i2), .val (.int i3), .val (.int i4), .val (.int i5), .val (.int (1 : Int32)), .val (.int (1 : Int32)), .val (.ref b83), .val (.ref b221), .val (.ref b273), .val (.ref b284)]) rfl kq_) ?_
        refine own_GW.step (g' := (mkF m 131 #[.val (.int i0), .val (.int i1), .val (.int i2), .val (.int i3), .val (.int i4), .val (.int i5), .val (.int (1 : Int32)), .val (.int (1 : Int32)), .val (.ref b83), .val (.ref b221), .val (.ref b273), .val (.ref b284)] [(.ref b284)])) (fun tq_ kq_ => XS.aload X291.here hx rfl (hb hby at_129) rfl rfl kq_) ?_
        obtain ⟨cq298, kq298, q298a, q298b, q298c⟩ := isOf hZ rfl P293
        obtain ⟨_, _, ⟨T298, L298, k298, n298⟩, -, X298, ⟨Lc298, hQ298, l298, y298, z298⟩, st298⟩ := X291.virtualBack hx (y := (⟨"com/example/evenkey/evenkey/model/Column", "hasQualifier", "()Z"⟩ : MethodName)) (z := (⟨"com/example/evenkey/evenkey/model/Column", "hasQualifier", "()Z"⟩ : MethodName)) hown (mvT hZ (hw _ (List.mem_of_getElem? (i := 32) rfl))) (mvT hZ (hw _ (List.mem_of_getElem? (i := 33) rfl))) (notFace_of_selects (args := #[]) (mvT hZ (hw _ (List.mem_of_getElem? (i := 35) rfl)))) (mvT hZ (hw _ (List.mem_of_getElem? (i := 35) rfl))) (mvT hZ (hw _ (List.mem_of_getElem? (i := 34) rfl))) (by decide) (backOf (W := 0) (rm_hqR l Z a0 hw [] b284 b273 T291.heap n0 O296 P294) hZ (hw _ (List.mem_of_getElem? (i := 36) rfl)) (hw _ (List.mem_of_getElem? (i := 11) rfl)) (by decide) (by decide)) q298a q298c (g := (mkF m 131 #[.val (.int i0), .val (.int i1), .val (.int i2), .val (.int i3), .val (.int i4), .val (.int i5), .val (.int (1 : Int32)), .val (.int (1 : Int32)), .val (.ref b83), .val (.ref b221), .val (.ref b273), .val (.ref b284)] [(.ref b284)])) rfl (by rw [hml]; rfl) (Steps.refl _) (argsL := []) (rest := []) (lenOf pd__28_29Z rfl) rfl (by show 2 * 0 + _ ≤ _; exact Nat.le_of_eq rfl) (hb hby at_131) (fun _ _ => ⟨rfl, rfl, (by decide : 7 + 0 ≤ _), (by decide : 39 + 0 ≤ _)⟩)
        dsimp only [Pt.U, Pt.locs, Pt.cells, Pt.slots] at X298 l298 y298 z298 st298 hQ298
        subst l298 y298 z298
        obtain ⟨rfl, Nq298, P299⟩ := hQ298
        have N298 := Fr.app N291 Nq298
        refine own_GW.step (T' := T298) (g' := (mkF m 134 #[.val (.int i0), .val (.int i1), .val (.int i2), .val (.int i3), .val (.int i4), .val (.int i5), .val (.int (1 : Int32)), .val (.int (1 : Int32)), .val (.ref b83), .val (.ref b221), .val (.ref b273), .val (.ref b284)] [(.int (1 : Int32))])) (fun tq_ kq_ => st298.trans kq_) ?_
        refine own_GW.step (g' := (mkF m 136 #[.val (.int i0), .val (.int i1), .val (.int i2), .val (.int i3), .val (.int i4), .val (.int i5), .val (.int (1 : Int32)), .val (.int (1 : Int32)), .val (.ref b83), .val (.ref b221), .val (.ref b273), .val (.ref b284)] [(.int (1 : Int32)), (.int (1 : Int32))])) (fun tq_ kq_ => XS.iload X298.here hx rfl (hb hby at_134) rfl kq_) ?_
        have hc136 : (1 : Int32) = (1 : Int32) := (by decide)
        refine own_GW.step (g' := (mkF m 139 #[.val (.int i0), .val (.int i1), .val (.int i2), .val (.int i3), .val (.int i4), .val (.int i5), .val (.int (1 : Int32)), .val (.int (1 : Int32)), .val (.ref b83), .val (.ref b221), .val (.ref b273), .val (.ref b284)] [])) (fun tq_ kq_ => XS.icmpNo X298.here hx rfl (hb hby at_136) rfl (teq hc136).2 kq_) ?_
        refine own_GW.step (g' := (mkF m 140 #[.val (.int i0), .val (.int i1), .val (.int i2), .val (.int i3), .val (.int i4), .val (.int i5), .val (.int (1 : Int32)), .val (.int (1 : Int32)), .val (.ref b83), .val (.ref b221), .val (.ref b273), .val (.ref b284)] [(.int (1 : Int32))])) (fun tq_ kq_ => XS.iconst X298.here hx rfl (hb hby at_139) kq_) ?_
        refine own_GW.step (g' := (mkF m 144 #[.val (.int i0), .val (.int i1), .val (.int i2), .val (.int i3), .val (.int i4), .val (.int i5), .val (.int (1 : Int32)), .val (.int (1 : Int32)), .val (.ref b83), .val (.ref b221), .val (.ref b273), .val (.ref b284)] [(.int (1 : Int32))])) (fun tq_ kq_ => XS.goto X298.here hx rfl (pc0 := 140) (pc' := 144) rfl (hb hby at_140) (by decide) (by decide) kq_) ?_
        exact own_retW X298 hS P299 hkS (v := some (.int (1 : Int32))) (fun h => by rw [Bd.returns] at h; cases h) Bd.notSynchronized ⟨rfl, N298⟩ (by decide) (by decide) (fun fs hr => retN X298 hx (t := .boolean) Bd.returns (by simp) (hb hby at_144) hr)
      · refine own_GW.step (g' := (mkF m 75 #[.val (.int i0), .val (.int i1), .val (.int i2), .val (.int i3), .val (.int i4), .val (.int i5), .val (.int (1 : Int32)), .val (.int (2 : Int32)), .val (.ref b83), .val (.ref b221), .val .null, .unset] [(.int (2 : Int32))])) (fun tq_ kq_ => XS.iload X231.here hx rfl (hb hby at_73) rfl kq_) ?_
        obtain ⟨T300, h300, k300, X300, e300, E300, A300, st300⟩ := newP X231 hx hZ (hw _ (List.mem_of_getElem? (i := 4) rfl)) rfl (g := (mkF m 75 #[.val (.int i0), .val (.int i1), .val (.int i2), .val (.int i3), .val (.int i4), .val (.int i5), .val (.int (1 : Int32)), .val (.int (2 : Int32)), .val (.ref b83), .val (.ref b221), .val .null, .unset] [(.int (2 : Int32))])) rfl (hb hby at_75) rfl (by decide) (cap := 2) (by decide) (by decide) (by decide) (by decide)
        obtain ⟨b300, g300⟩ : ∃ z, z = T231.heap.size := ⟨_, rfl⟩
        rw [← g300] at A300 st300
        have g301 : n0 ≤ b300 := Nat.le_trans O249.le (Nat.le_of_eq g300.symm)
        have z302 : h0.size ≤ b300 := Nat.le_trans K250.1 (Nat.le_of_eq g300.symm)
        have hkS := Nat.le_trans hkS E300.1
        have O303 := O249.ext E300
        have K304 := K250.ext E300
        have F305 : Arv Z h300 b300 k300 .byte (2 : Int32) [(.int (0 : Int32)), (.int (0 : Int32))] (.int (0 : Int32)) := (Arv.new A300 (by decide)).pad (pad_rep [] (.int (0 : Int32)) 2)
        refine own_GW.step (T' := T300) (g' := (mkF m 77 #[.val (.int i0), .val (.int i1), .val (.int i2), .val (.int i3), .val (.int i4), .val (.int i5), .val (.int (1 : Int32)), .val (.int (2 : Int32)), .val (.ref b83), .val (.ref b221), .val .null, .unset] [(.ref b300)])) st300 ?_
        refine own_GW.step (g' := (mkF m 79 #[.val (.int i0), .val (.int i1), .val (.int i2), .val (.int i3), .val (.int i4), .val (.int i5), .val (.int (1 : Int32)), .val (.int (2 : Int32)), .val (.ref b83), .val (.ref b221), .val (.ref b300), .unset] [])) (fun tq_ kq_ => XS.astore X300.here hx rfl (hb hby at_77) rfl rfl (l' := #[.val (.int i0), .val (.int i1), .val (.int i2), .val (.int i3), .val (.int i4), .val (.int i5), .val (.int (1 : Int32)), .val (.int (2 : Int32)), .val (.ref b83), .val (.ref b221), .val (.ref b300), .unset]) rfl kq_) ?_
        refine own_GW.step (g' := (mkF m 81 #[.val (.int i0), .val (.int i1), .val (.int i2), .val (.int i3), .val (.int i4), .val (.int i5), .val (.int (1 : Int32)), .val (.int (2 : Int32)), .val (.ref b83), .val (.ref b221), .val (.ref b300), .unset] [(.int (2 : Int32))])) (fun tq_ kq_ => XS.iload X300.here hx rfl (hb hby at_79) rfl kq_) ?_
        have hc81 : (0 : Int32) < (2 : Int32) := (by decide)
        refine own_GW.step (g' := (mkF m 84 #[.val (.int i0), .val (.int i1), .val (.int i2), .val (.int i3), .val (.int i4), .val (.int i5), .val (.int (1 : Int32)), .val (.int (2 : Int32)), .val (.ref b83), .val (.ref b221), .val (.ref b300), .unset] [])) (fun tq_ kq_ => XS.ifNo X300.here hx rfl (hb hby at_81) rfl ((if0 _ _).trans (tlt hc81).2.2.2) kq_) ?_
        refine own_GW.step (g' := (mkF m 86 #[.val (.int i0), .val (.int i1), .val (.int i2), .val (.int i3), .val (.int i4), .val (.int i5), .val (.int (1 : Int32)), .val (.int (2 : Int32)), .val (.ref b83), .val (.ref b221), .val (.ref b300), .unset] [(.ref b300)])) (fun tq_ kq_ => XS.aload X300.here hx rfl (hb hby at_84) rfl rfl kq_) ?_
        refine own_GW.step (g' := (mkF m 87 #[.val (.int i0), .val (.int i1), .val (.int i2), .val (.int i3), .val (.int i4), .val (.int i5), .val (.int (1 : Int32)), .val (.int (2 : Int32)), .val (.ref b83), .val (.ref b221), .val (.ref b300), .unset] [(.int (0 : Int32)), (.ref b300)])) (fun tq_ kq_ => XS.iconst X300.here hx rfl (hb hby at_86) kq_) ?_
        refine own_GW.step (g' := (mkF m 88 #[.val (.int i0), .val (.int i1), .val (.int i2), .val (.int i3), .val (.int i4), .val (.int i5), .val (.int (1 : Int32)), .val (.int (2 : Int32)), .val (.ref b83), .val (.ref b221), .val (.ref b300), .unset] [(.int i2), (.int (0 : Int32)), (.ref b300)])) (fun tq_ kq_ => XS.iloadN X300.here hx rfl (hb hby at_87) rfl kq_) ?_
        refine own_GW.step (g' := (mkF m 89 #[.val (.int i0), .val (.int i1), .val (.int i2), .val (.int i3), .val (.int i4), .val (.int i5), .val (.int (1 : Int32)), .val (.int (2 : Int32)), .val (.ref b83), .val (.ref b221), .val (.ref b300), .unset] [(.int (i2.toInt8.toInt32)), (.int (0 : Int32)), (.ref b300)])) (fun tq_ kq_ => XS.i2b X300.here hx rfl (hb hby at_88) rfl kq_) ?_
        obtain ⟨cl306, Ar306, q1306, Sz306, Nz306, Hh306, Gg306⟩ := id F305
        obtain ⟨T306, h306, X306, e306, W306, st306⟩ := stB X300 hx hZ e300 Ar306 (j := (0 : Int32)) (inb_of Sz306 ⟨by decide, by decide⟩) (g := (mkF m 89 #[.val (.int i0), .val (.int i1), .val (.int i2), .val (.int i3), .val (.int i4), .val (.int i5), .val (.int (1 : Int32)), .val (.int (2 : Int32)), .val (.ref b83), .val (.ref b221), .val (.ref b300), .unset] [(.int (i2.toInt8.toInt32)), (.int (0 : Int32)), (.ref b300)])) rfl rfl (hb hby at_89)
        have F307 : Arv Z h306 b300 k300 .byte (2 : Int32) [(.int (nar .byte (i2.toInt8.toInt32))), (.int (0 : Int32))] (.int (0 : Int32)) := Arv.set Ar306 q1306 Sz306 Nz306 Hh306 Gg306 (fits_nar_byte _) W306 0 rfl (Nat.le_of_ble_eq_true rfl)
        have N306 := Fr.snoc X306 N231 g301
        have hkS := Nat.le_trans hkS (Keep.of_wr W306).1
        have O309 := O303.wr W306 g301
        have K310 := K304.wr W306 (Or.inr z302)
        refine own_GW.step (T' := T306) (g' := (mkF m 90 #[.val (.int i0), .val (.int i1), .val (.int i2), .val (.int i3), .val (.int i4), .val (.int i5), .val (.int (1 : Int32)), .val (.int (2 : Int32)), .val (.ref b83), .val (.ref b221), .val (.ref b300), .unset] [])) st306 ?_
        refine own_GW.step (g' := (mkF m 92 #[.val (.int i0), .val (.int i1), .val (.int i2), .val (.int i3), .val (.int i4), .val (.int i5), .val (.int (1 : Int32)), .val (.int (2 : Int32)), .val (.ref b83), .val (.ref b221), .val (.ref b300), .unset] [(.int (2 : Int32))])) (fun tq_ kq_ => XS.iload X306.here hx rfl (hb hby at_90) rfl kq_) ?_
        refine own_GW.step (g' := (mkF m 93 #[.val (.int i0), .val (.int i1), .val (.int i2), .val (.int i3), .val (.int i4), .val (.int i5), .val (.int (1 : Int32)), .val (.int (2 : Int32)), .val (.ref b83), .val (.ref b221), .val (.ref b300), .unset] [(.int (1 : Int32)), (.int (2 : Int32))])) (fun tq_ kq_ => XS.iconst X306.here hx rfl (hb hby at_92) kq_) ?_
        have hc93 : (1 : Int32) < (2 : Int32) := (by decide)
        refine own_GW.step (g' := (mkF m 96 #[.val (.int i0), .val (.int i1), .val (.int i2), .val (.int i3), .val (.int i4), .val (.int i5), .val (.int (1 : Int32)), .val (.int (2 : Int32)), .val (.ref b83), .val (.ref b221), .val (.ref b300), .unset] [])) (fun tq_ kq_ => XS.icmpNo X306.here hx rfl (hb hby at_93) rfl (tlt hc93).2.2.2 kq_) ?_
        refine own_GW.step (g' := (mkF m 98 #[.val (.int i0), .val (.int i1), .val (.int i2), .val (.int i3), .val (.int i4), .val (.int i5), .val (.int (1 : Int32)), .val (.int (2 : Int32)), .val (.ref b83), .val (.ref b221), .val (.ref b300), .unset] [(.ref b300)])) (fun tq_ kq_ => XS.aload X306.here hx rfl (hb hby at_96) rfl rfl kq_) ?_
        refine own_GW.step (g' := (mkF m 99 #[.val (.int i0), .val (.int i1), .val (.int i2), .val (.int i3), .val (.int i4), .val (.int i5), .val (.int (1 : Int32)), .val (.int (2 : Int32)), .val (.ref b83), .val (.ref b221), .val (.ref b300), .unset] [(.int (1 : Int32)), (.ref b300)])) (fun tq_ kq_ => XS.iconst X306.here hx rfl (hb hby at_98) kq_) ?_
        refine own_GW.step (g' := (mkF m 100 #[.val (.int i0), .val (.int i1), .val (.int i2), .val (.int i3), .val (.int i4), .val (.int i5), .val (.int (1 : Int32)), .val (.int (2 : Int32)), .val (.ref b83), .val (.ref b221), .val (.ref b300), .unset] [(.int i3), (.int (1 : Int32)), (.ref b300)])) (fun tq_ kq_ => XS.iloadN X306.here hx rfl (hb hby at_99) rfl kq_) ?_
        refine own_GW.step (g' := (mkF m 101 #[.val (.int i0), .val (.int i1), .val (.int i2), .val (.int i3), .val (.int i4), .val (.int i5), .val (.int (1 : Int32)), .val (.int (2 : Int32)), .val (.ref b83), .val (.ref b221), .val (.ref b300), .unset] [(.int (i3.toInt8.toInt32)), (.int (1 : Int32)), (.ref b300)])) (fun tq_ kq_ => XS.i2b X306.here hx rfl (hb hby at_100) rfl kq_) ?_
        obtain ⟨cl311, Ar311, q1311, Sz311, Nz311, Hh311, Gg311⟩ := id F307
        obtain ⟨T311, h311, X311, e311, W311, st311⟩ := stB X306 hx hZ e306 Ar311 (j := (1 : Int32)) (inb_of Sz311 ⟨by decide, by decide⟩) (g := (mkF m 101 #[.val (.int i0), .val (.int i1), .val (.int i2), .val (.int i3), .val (.int i4), .val (.int i5), .val (.int (1 : Int32)), .val (.int (2 : Int32)), .val (.ref b83), .val (.ref b221), .val (.ref b300), .unset] [(.int (i3.toInt8.toInt32)), (.int (1 : Int32)), (.ref b300)])) rfl rfl (hb hby at_101)
        have F312 : Arv Z h311 b300 k300 .byte (2 : Int32) [(.int (nar .byte (i2.toInt8.toInt32))), (.int (nar .byte (i3.toInt8.toInt32)))] (.int (0 : Int32)) := Arv.set Ar311 q1311 Sz311 Nz311 Hh311 Gg311 (fits_nar_byte _) W311 1 rfl (Nat.le_of_ble_eq_true rfl)
        have N311 := Fr.snoc X311 N306 g301
        have hkS := Nat.le_trans hkS (Keep.of_wr W311).1
        have O314 := O309.wr W311 g301
        have K315 := K310.wr W311 (Or.inr z302)
        refine own_GW.step (T' := T311) (g' := (mkF m 102 #[.val (.int i0), .val (.int i1), .val (.int i2), .val (.int i3), .val (.int i4), .val (.int i5), .val (.int (1 : Int32)), .val (.int (2 : Int32)), .val (.ref b83), .val (.ref b221), .val (.ref b300), .unset] [])) st311 ?_
        refine own_GW.step (g' := (mkF m 104 #[.val (.int i0), .val (.int i1), .val (.int i2), .val (.int i3), .val (.int i4), .val (.int i5), .val (.int (1 : Int32)), .val (.int (2 : Int32)), .val (.ref b83), .val (.ref b221), .val (.ref b300), .unset] [(.int (2 : Int32))])) (fun tq_ kq_ => XS.iload X311.here hx rfl (hb hby at_102) rfl kq_) ?_
        refine own_GW.step (g' := (mkF m 105 #[.val (.int i0), .val (.int i1), .val (.int i2), .val (.int i3), .val (.int i4), .val (.int i5), .val (.int (1 : Int32)), .val (.int (2 : Int32)), .val (.ref b83), .val (.ref b221), .val (.ref b300), .unset] [(.int (2 : Int32)), (.int (2 : Int32))])) (fun tq_ kq_ => XS.iconst X311.here hx rfl (hb hby at_104) kq_) ?_
        have hc105 : ¬ ((2 : Int32) < (2 : Int32)) := (by decide)
        refine own_GW.step (g' := (mkF m 116 #[.val (.int i0), .val (.int i1), .val (.int i2), .val (.int i3), .val (.int i4), .val (.int i5), .val (.int (1 : Int32)), .val (.int (2 : Int32)), .val (.ref b83), .val (.ref b221), .val (.ref b300), .unset] [])) (fun tq_ kq_ => XS.icmpYes X311.here hx rfl (pc0 := 105) (pc' := 116) rfl (hb hby at_105) rfl (flt hc105).2.2.2 (by decide) (by decide) kq_) ?_
        obtain ⟨T316, h316, X316, e316, E316, A316, D316, -, st316⟩ := newO X311 hx hZ hown (hw _ (List.mem_of_getElem? (i := 9) rfl)) (hw _ (List.mem_of_getElem? (i := 10) rfl)) (hw _ (List.mem_of_getElem? (i := 11) rfl)) e311 (g := (mkF m 116 #[.val (.int i0), .val (.int i1), .val (.int i2), .val (.int i3), .val (.int i4), .val (.int i5), .val (.int (1 : Int32)), .val (.int (2 : Int32)), .val (.ref b83), .val (.ref b221), .val (.ref b300), .unset] [])) rfl (hb hby at_116) (by decide) (by decide)
        obtain ⟨b316, g316⟩ : ∃ z, z = h311.size := ⟨_, rfl⟩
        rw [← g316] at A316 D316 st316
        have g317 : n0 ≤ b316 := Nat.le_trans O314.le (Nat.le_of_eq g316.symm)
        have z318 : h0.size ≤ b316 := Nat.le_trans K315.1 (Nat.le_of_eq g316.symm)
        have hkS := Nat.le_trans hkS E316.1
        have O319 := O314.ext E316
        have K320 := K315.ext E316
        have F321 : Fld Z h316 b316 "com/example/evenkey/evenkey/model/Column" "family" "Ljava/lang/String;" .null := D316 (Or.inr (hw _ (List.mem_of_getElem? (i := 29) rfl))) (ty := (.object "java/lang/String")) (by decide)
        have F322 : Fld Z h316 b316 "com/example/evenkey/evenkey/model/Column" "qualifier" "[B" .null := D316 (Or.inr (hw _ (List.mem_of_getElem? (i := 31) rfl))) (ty := (.array .byte)) (by decide)
        refine own_GW.step (T' := T316) (g' := (mkF m 119 #[.val (.int i0), .val (.int i1), .val (.int i2), .val (.int i3), .val (.int i4), .val (.int i5), .val (.int (1 : Int32)), .val (.int (2 : Int32)), .val (.ref b83), .val (.ref b221), .val (.ref b300), .unset] [(.ref b316)])) st316 ?_
        refine own_GW.step (g' := (mkF m 120 #[.val (.int i0), .val (.int i1), .val (.int i2), .val (.int i3), .val (.int i4), .val (.int i5), .val (.int (1 : Int32)), .val (.int (2 : Int32)), .val (.ref b83), .val (.ref b221), .val (.ref b300), .unset] [(.ref b316), (.ref b316)])) (fun tq_ kq_ => XS.dup X316.here hx rfl (hb hby at_119) rfl rfl kq_) ?_
        refine own_GW.step (g' := (mkF m 122 #[.val (.int i0), .val (.int i1), .val (.int i2), .val (.int i3), .val (.int i4), .val (.int i5), .val (.int (1 : Int32)), .val (.int (2 : Int32)), .val (.ref b83), .val (.ref b221), .val (.ref b300), .unset] [(.ref b221), (.ref b316), (.ref b316)])) (fun tq_ kq_ => XS.aload X316.here hx rfl (hb hby at_120) rfl rfl kq_) ?_
        refine own_GW.step (g' := (mkF m 124 #[.val (.int i0), .val (.int i1), .val (.int i2), .val (.int i3), .val (.int i4), .val (.int i5), .val (.int (1 : Int32)), .val (.int (2 : Int32)), .val (.ref b83), .val (.ref b221), .val (.ref b300), .unset] [(.ref b300), (.ref b221), (.ref b316), (.ref b316)])) (fun tq_ kq_ => XS.aload X316.here hx rfl (hb hby at_122) rfl rfl kq_) ?_
        obtain ⟨_, _, ⟨T323, L323, k323, n323⟩, -, X323, sS323, gS323, ⟨Lc323, hQ323, l323, y323, z323⟩, st323⟩ := X316.specialBackS hx (y := (⟨"com/example/evenkey/evenkey/model/Column", "<init>", "(Ljava/lang/String;[B)V"⟩ : MethodName)) rfl hown (mvT hZ (hw _ (List.mem_of_getElem? (i := 12) rfl))) (mvT hZ (hw _ (List.mem_of_getElem? (i := 13) rfl))) (mvT hZ (hw _ (List.mem_of_getElem? (i := 14) rfl))) (by decide) (backOfS (W := 1) (rm_coiR l Z a0 hw [] b316 b221 b300 h316 n0 O319 F321 F322 A316 g317) hZ (hw _ (List.mem_of_getElem? (i := 14) rfl)) (hw _ (List.mem_of_getElem? (i := 11) rfl)) (by decide) (by decide)) (g := (mkF m 124 #[.val (.int i0), .val (.int i1), .val (.int i2), .val (.int i3), .val (.int i4), .val (.int i5), .val (.int (1 : Int32)), .val (.int (2 : Int32)), .val (.ref b83), .val (.ref b221), .val (.ref b300), .unset] [(.ref b300), (.ref b221), (.ref b316), (.ref b316)])) rfl (by rw [hml]; rfl) (Steps.refl _) (a := b316) (argsL := [(.ref b221), (.ref b300)]) (rest := [(.ref b316)]) (lenOf pd__28Ljava_2flang_2fString_3b_5bB_29V rfl) rfl (by show 2 * 0 + _ ≤ _; exact Nat.le_of_eq rfl) (hb hby at_124) (fun _ _ => ⟨rfl, e316, (by decide : 5 + 2 ≤ _), (by decide : 12 + 28 ≤ _)⟩)
        dsimp only [Pt.U, Pt.locs, Pt.cells, Pt.slots] at X323 l323 y323 z323 st323 hQ323 sS323 gS323
        subst l323 y323 z323
        obtain ⟨X323, hS, hZ, hown⟩ := rebS (vm0 := s.vm) hS (by rw [e316]; exact hkS) X323 sS323 gS323 hZ hown
        obtain ⟨rfl, Nq323, P324, P325, P326⟩ := hQ323
        have N323 := Fr.app N311 Nq323
        have hkS := Nat.le_trans hkS P324.1
        have F327 := A316.keep P324
        have O328 := O319.keep P324 (allS g317 all0)
        have K329 := K320.trans P324 (allS (Or.inr z318) all0)
        have hkS : T323.heap.size ≤ T323.heap.size := Nat.le_refl _
        refine own_GW.step (T' := T323) (g' := (mkF m 127 #[.val (.int i0), .val (.int i1), .val (.int i2), .val (.int i3), .val (.int i4), .val (.int i5), .val (.int (1 : Int32)), .val (.int (2 : Int32)), .val (.ref b83), .val (.ref b221), .val (.ref b300), .unset] [(.ref b316)])) (fun tq_ kq_ => st323.trans kq_) ?_
        refine own_GW.step (g' := (mkF m 129 #[.val (.int i0), .val (.int i1), .val (.int i2), .val (.int i3), .val (.int i4), .val (.int i5), .val (.int (1 : Int32)), .val (.int (2 : Int32)), .val (.ref b83), .val (.ref b221), .val (.ref b300), .val (.ref b316)] [])) (fun tq_ kq_ => XS.astore X323.here hx rfl (hb hby at_127) rfl rfl (l' := #[.val (.int i0), .val (.int i1), .val (.int i2), .val (.int i3), .val (.int i4), .val (.int i5), .val (.int (1 : Int32)), .val (.int (2 : Int32)), .val (.ref b83), .val (.ref b221), .val (.ref b300), .val (.ref b316)]) rfl kq_) ?_
        refine own_GW.step (g' := (mkF m 131 #[.val (.int i0), .val (.int i1), .val (.int i2), .val (.int i3), .val (.int i4), .val (.int i5), .val (.int (1 : Int32)), .val (.int (2 : Int32)), .val (.ref b83), .val (.ref b221), .val (.ref b300), .val (.ref b316)] [(.ref b316)])) (fun tq_ kq_ => XS.aload X323.here hx rfl (hb hby at_129) rfl rfl kq_) ?_
        obtain ⟨cq330, kq330, q330a, q330b, q330c⟩ := isOf hZ rfl P325
        obtain ⟨_, _, ⟨T330, L330, k330, n330⟩, -, X330, ⟨Lc330, hQ330, l330, y330, z330⟩, st330⟩ := X323.virtualBack hx (y := (⟨"com/example/evenkey/evenkey/model/Column", "hasQualifier", "()Z"⟩ : MethodName)) (z := (⟨"com/example/evenkey/evenkey/model/Column", "hasQualifier", "()Z"⟩ : MethodName)) hown (mvT hZ (hw _ (List.mem_of_getElem? (i := 32) rfl))) (mvT hZ (hw _ (List.mem_of_getElem? (i := 33) rfl))) (notFace_of_selects (args := #[]) (mvT hZ (hw _ (List.mem_of_getElem? (i := 35) rfl)))) (mvT hZ (hw _ (List.mem_of_getElem? (i := 35) rfl))) (mvT hZ (hw _ (List.mem_of_getElem? (i := 34) rfl))) (by decide) (backOf (W := 0) (rm_hqR l Z a0 hw [] b316 b300 T323.heap n0 O328 P326) hZ (hw _ (List.mem_of_getElem? (i := 36) rfl)) (hw _ (List.mem_of_getElem? (i := 11) rfl)) (by decide) (by decide)) q330a q330c (g := (mkF m 131 #[.val (.int i0), .val (.int i1), .val (.int i2), .val (.int i3), .val (.int i4), .val (.int i5), .val (.int (1 : Int32)), .val (.int (2 : Int32)), .val (.ref b83), .val (.ref b221), .val (.ref b300), .val (.ref b316)] [(.ref b316)])) rfl (by rw [hml]; rfl) (Steps.refl _) (argsL := []) (rest := []) (lenOf pd__28_29Z rfl) rfl (by show 2 * 0 + _ ≤ _; exact Nat.le_of_eq rfl) (hb hby at_131) (fun _ _ => ⟨rfl, rfl, (by decide : 7 + 0 ≤ _), (by decide : 40 + 0 ≤ _)⟩)
        dsimp only [Pt.U, Pt.locs, Pt.cells, Pt.slots] at X330 l330 y330 z330 st330 hQ330
        subst l330 y330 z330
        obtain ⟨rfl, Nq330, P331⟩ := hQ330
        have N330 := Fr.app N323 Nq330
        refine own_GW.step (T' := T330) (g' := (mkF m 134 #[.val (.int i0), .val (.int i1), .val (.int i2), .val (.int i3), .val (.int i4), .val (.int i5), .val (.int (1 : Int32)), .val (.int (2 : Int32)), .val (.ref b83), .val (.ref b221), .val (.ref b300), .val (.ref b316)] [(.int (1 : Int32))])) (fun tq_ kq_ => st330.trans kq_) ?_
        refine own_GW.step (g' := (mkF m 136 #[.val (.int i0), .val (.int i1), .val (.int i2), .val (.int i3), .val (.int i4), .val (.int i5), .val (.int (1 : Int32)), .val (.int (2 : Int32)), .val (.ref b83), .val (.ref b221), .val (.ref b300), .val (.ref b316)] [(.int (1 : Int32)), (.int (1 : Int32))])) (fun tq_ kq_ => XS.iload X330.here hx rfl (hb hby at_134) rfl kq_) ?_
        have hc136 : (1 : Int32) = (1 : Int32) := (by decide)
        refine own_GW.step (g' := (mkF m 139 #[.val (.int i0), .val (.int i1), .val (.int i2), .val (.int i3), .val (.int i4), .val (.int i5), .val (.int (1 : Int32)), .val (.int (2 : Int32)), .val (.ref b83), .val (.ref b221), .val (.ref b300), .val (.ref b316)] [])) (fun tq_ kq_ => XS.icmpNo X330.here hx rfl (hb hby at_136) rfl (teq hc136).2 kq_) ?_
        refine own_GW.step (g' := (mkF m 140 #[.val (.int i0), .val (.int i1), .val (.int i2), .val (.int i3), .val (.int i4), .val (.int i5), .val (.int (1 : Int32)), .val (.int (2 : Int32)), .val (.ref b83), .val (.ref b221), .val (.ref b300), .val (.ref b316)] [(.int (1 : Int32))])) (fun tq_ kq_ => XS.iconst X330.here hx rfl (hb hby at_139) kq_) ?_
        refine own_GW.step (g' := (mkF m 144 #[.val (.int i0), .val (.int i1), .val (.int i2), .val (.int i3), .val (.int i4), .val (.int i5), .val (.int (1 : Int32)), .val (.int (2 : Int32)), .val (.ref b83), .val (.ref b221), .val (.ref b300), .val (.ref b316)] [(.int (1 : Int32))])) (fun tq_ kq_ => XS.goto X330.here hx rfl (pc0 := 140) (pc' := 144) rfl (hb hby at_140) (by decide) (by decide) kq_) ?_
        exact own_retW X330 hS P331 hkS (v := some (.int (1 : Int32))) (fun h => by rw [Bd.returns] at h; cases h) Bd.notSynchronized ⟨rfl, N330⟩ (by decide) (by decide) (fun fs hr => retN X330 hx (t := .boolean) Bd.returns (by simp) (hb hby at_144) hr)
      · refine own_GW.step (g' := (mkF m 75 #[.val (.int i0), .val (.int i1), .val (.int i2), .val (.int i3), .val (.int i4), .val (.int i5), .val (.int (1 : Int32)), .val (.int (3 : Int32)), .val (.ref b83), .val (.ref b221), .val .null, .unset] [(.int (3 : Int32))])) (fun tq_ kq_ => XS.iload X231.here hx rfl (hb hby at_73) rfl kq_) ?_
        obtain ⟨T332, h332, k332, X332, e332, E332, A332, st332⟩ := newP X231 hx hZ (hw _ (List.mem_of_getElem? (i := 4) rfl)) rfl (g := (mkF m 75 #[.val (.int i0), .val (.int i1), .val (.int i2), .val (.int i3), .val (.int i4), .val (.int i5), .val (.int (1 : Int32)), .val (.int (3 : Int32)), .val (.ref b83), .val (.ref b221), .val .null, .unset] [(.int (3 : Int32))])) rfl (hb hby at_75) rfl (by decide) (cap := 3) (by decide) (by decide) (by decide) (by decide)
        obtain ⟨b332, g332⟩ : ∃ z, z = T231.heap.size := ⟨_, rfl⟩
        rw [← g332] at A332 st332
        have g333 : n0 ≤ b332 := Nat.le_trans O249.le (Nat.le_of_eq g332.symm)
        have z334 : h0.size ≤ b332 := Nat.le_trans K250.1 (Nat.le_of_eq g332.symm)
        have hkS := Nat.le_trans hkS E332.1
        have O335 := O249.ext E332
        have K336 := K250.ext E332
        have F337 : Arv Z h332 b332 k332 .byte (3 : Int32) [(.int (0 : Int32)), (.int (0 : Int32)), (.int (0 : Int32))] (.int (0 : Int32)) := (Arv.new A332 (by decide)).pad (pad_rep [] (.int (0 : Int32)) 3)
        refine own_GW.step (T' := T332) (g' := (mkF m 77 #[.val (.int i0), .val (.int i1), .val (.int i2), .val (.int i3), .val (.int i4), .val (.int i5), .val (.int (1 : Int32)), .val (.int (3 : Int32)), .val (.ref b83), .val (.ref b221), .val .null, .unset] [(.ref b332)])) st332 ?_
        refine own_GW.step (g' := (mkF m 79 #[.val (.int i0), .val (.int i1), .val (.int i2), .val (.int i3), .val (.int i4), .val (.int i5), .val (.int (1 : Int32)), .val (.int (3 : Int32)), .val (.ref b83), .val (.ref b221), .val (.ref b332), .unset] [])) (fun tq_ kq_ => XS.astore X332.here hx rfl (hb hby at_77) rfl rfl (l' := #[.val (.int i0), .val (.int i1), .val (.int i2), .val (.int i3), .val (.int i4), .val (.int i5), .val (.int (1 : Int32)), .val (.int (3 : Int32)), .val (.ref b83), .val (.ref b221), .val (.ref b332), .unset]) rfl kq_) ?_
        refine own_GW.step (g' := (mkF m 81 #[.val (.int i0), .val (.int i1), .val (.int i2), .val (.int i3), .val (.int i4), .val (.int i5), .val (.int (1 : Int32)), .val (.int (3 : Int32)), .val (.ref b83), .val (.ref b221), .val (.ref b332), .unset] [(.int (3 : Int32))])) (fun tq_ kq_ => XS.iload X332.here hx rfl (hb hby at_79) rfl kq_) ?_
        have hc81 : (0 : Int32) < (3 : Int32) := (by decide)
        refine own_GW.step (g' := (mkF m 84 #[.val (.int i0), .val (.int i1), .val (.int i2), .val (.int i3), .val (.int i4), .val (.int i5), .val (.int (1 : Int32)), .val (.int (3 : Int32)), .val (.ref b83), .val (.ref b221), .val (.ref b332), .unset] [])) (fun tq_ kq_ => XS.ifNo X332.here hx rfl (hb hby at_81) rfl ((if0 _ _).trans (tlt hc81).2.2.2) kq_) ?_
        refine own_GW.step (g' := (mkF m 86 #[.val (.int i0), .val (.int i1), .val (.int i2), .val (.int i3), .val (.int i4), .val (.int i5), .val (.int (1 : Int32)), .val (.int (3 : Int32)), .val (.ref b83), .val (.ref b221), .val (.ref b332), .unset] [(.ref b332)])) (fun tq_ kq_ => XS.aload X332.here hx rfl (hb hby at_84) rfl rfl kq_) ?_
        refine own_GW.step (g' := (mkF m 87 #[.val (.int i0), .val (.int i1), .val (.int i2), .val (.int i3), .val (.int i4), .val (.int i5), .val (.int (1 : Int32)), .val (.int (3 : Int32)), .val (.ref b83), .val (.ref b221), .val (.ref b332), .unset] [(.int (0 : Int32)), (.ref b332)])) (fun tq_ kq_ => XS.iconst X332.here hx rfl (hb hby at_86) kq_) ?_
        refine own_GW.step (g' := (mkF m 88 #[.val (.int i0), .val (.int i1), .val (.int i2), .val (.int i3), .val (.int i4), .val (.int i5), .val (.int (1 : Int32)), .val (.int (3 : Int32)), .val (.ref b83), .val (.ref b221), .val (.ref b332), .unset] [(.int i2), (.int (0 : Int32)), (.ref b332)])) (fun tq_ kq_ => XS.iloadN X332.here hx rfl (hb hby at_87) rfl kq_) ?_
        refine own_GW.step (g' := (mkF m 89 #[.val (.int i0), .val (.int i1), .val (.int i2), .val (.int i3), .val (.int i4), .val (.int i5), .val (.int (1 : Int32)), .val (.int (3 : Int32)), .val (.ref b83), .val (.ref b221), .val (.ref b332), .unset] [(.int (i2.toInt8.toInt32)), (.int (0 : Int32)), (.ref b332)])) (fun tq_ kq_ => XS.i2b X332.here hx rfl (hb hby at_88) rfl kq_) ?_
        obtain ⟨cl338, Ar338, q1338, Sz338, Nz338, Hh338, Gg338⟩ := id F337
        obtain ⟨T338, h338, X338, e338, W338, st338⟩ := stB X332 hx hZ e332 Ar338 (j := (0 : Int32)) (inb_of Sz338 ⟨by decide, by decide⟩) (g := (mkF m 89 #[.val (.int i0), .val (.int i1), .val (.int i2), .val (.int i3), .val (.int i4), .val (.int i5), .val (.int (1 : Int32)), .val (.int (3 : Int32)), .val (.ref b83), .val (.ref b221), .val (.ref b332), .unset] [(.int (i2.toInt8.toInt32)), (.int (0 : Int32)), (.ref b332)])) rfl rfl (hb hby at_89)
        have F339 : Arv Z h338 b332 k332 .byte (3 : Int32) [(.int (nar .byte (i2.toInt8.toInt32))), (.int (0 : Int32)), (.int (0 : Int32))] (.int (0 : Int32)) := Arv.set Ar338 q1338 Sz338 Nz338 Hh338 Gg338 (fits_nar_byte _) W338 0 rfl (Nat.le_of_ble_eq_true rfl)
        have N338 := Fr.snoc X338 N231 g333
        have hkS := Nat.le_trans hkS (Keep.of_wr W338).1
        have O341 := O335.wr W338 g333
        have K342 := K336.wr W338 (Or.inr z334)
        refine own_GW.step (T' := T338) (g' := (mkF m 90 #[.val (.int i0), .val (.int i1), .val (.int i2), .val (.int i3), .val (.int i4), .val (.int i5), .val (.int (1 : Int32)), .val (.int (3 : Int32)), .val (.ref b83), .val (.ref b221), .val (.ref b332), .unset] [])) st338 ?_
        refine own_GW.step (g' := (mkF m 92 #[.val (.int i0), .val (.int i1), .val (.int i2), .val (.int i3), .val (.int i4), .val (.int i5), .val (.int (1 : Int32)), .val (.int (3 : Int32)), .val (.ref b83), .val (.ref b221), .val (.ref b332), .unset] [(.int (3 : Int32))])) (fun tq_ kq_ => XS.iload X338.here hx rfl (hb hby at_90) rfl kq_) ?_
        refine own_GW.step (g' := (mkF m 93 #[.val (.int i0), .val (.int i1), .val (.int i2), .val (.int i3), .val (.int i4), .val (.int i5), .val (.int (1 : Int32)), .val (.int (3 : Int32)), .val (.ref b83), .val (.ref b221), .val (.ref b332), .unset] [(.int (1 : Int32)), (.int (3 : Int32))])) (fun tq_ kq_ => XS.iconst X338.here hx rfl (hb hby at_92) kq_) ?_
        have hc93 : (1 : Int32) < (3 : Int32) := (by decide)
        refine own_GW.step (g' := (mkF m 96 #[.val (.int i0), .val (.int i1), .val (.int i2), .val (.int i3), .val (.int i4), .val (.int i5), .val (.int (1 : Int32)), .val (.int (3 : Int32)), .val (.ref b83), .val (.ref b221), .val (.ref b332), .unset] [])) (fun tq_ kq_ => XS.icmpNo X338.here hx rfl (hb hby at_93) rfl (tlt hc93).2.2.2 kq_) ?_
        refine own_GW.step (g' := (mkF m 98 #[.val (.int i0), .val (.int i1), .val (.int i2), .val (.int i3), .val (.int i4), .val (.int i5), .val (.int (1 : Int32)), .val (.int (3 : Int32)), .val (.ref b83), .val (.ref b221), .val (.ref b332), .unset] [(.ref b332)])) (fun tq_ kq_ => XS.aload X338.here hx rfl (hb hby at_96) rfl rfl kq_) ?_
        refine own_GW.step (g' := (mkF m 99 #[.val (.int i0), .val (.int i1), .val (.int i2), .val (.int i3), .val (.int i4), .val (.int i5), .val (.int (1 : Int32)), .val (.int (3 : Int32)), .val (.ref b83), .val (.ref b221), .val (.ref b332), .unset] [(.int (1 : Int32)), (.ref b332)])) (fun tq_ kq_ => XS.iconst X338.here hx rfl (hb hby at_98) kq_) ?_
        refine own_GW.step (g' := (mkF m 100 #[.val (.int i0), .val (.int i1), .val (.int i2), .val (.int i3), .val (.int i4), .val (.int i5), .val (.int (1 : Int32)), .val (.int (3 : Int32)), .val (.ref b83), .val (.ref b221), .val (.ref b332), .unset] [(.int i3), (.int (1 : Int32)), (.ref b332)])) (fun tq_ kq_ => XS.iloadN X338.here hx rfl (hb hby at_99) rfl kq_) ?_
        refine own_GW.step (g' := (mkF m 101 #[.val (.int i0), .val (.int i1), .val (.int i2), .val (.int i3), .val (.int i4), .val (.int i5), .val (.int (1 : Int32)), .val (.int (3 : Int32)), .val (.ref b83), .val (.ref b221), .val (.ref b332), .unset] [(.int (i3.toInt8.toInt32)), (.int (1 : Int32)), (.ref b332)])) (fun tq_ kq_ => XS.i2b X338.here hx rfl (hb hby at_100) rfl kq_) ?_
        obtain ⟨cl343, Ar343, q1343, Sz343, Nz343, Hh343, Gg343⟩ := id F339
        obtain ⟨T343, h343, X343, e343, W343, st343⟩ := stB X338 hx hZ e338 Ar343 (j := (1 : Int32)) (inb_of Sz343 ⟨by decide, by decide⟩) (g := (mkF m 101 #[.val (.int i0), .val (.int i1), .val (.int i2), .val (.int i3), .val (.int i4), .val (.int i5), .val (.int (1 : Int32)), .val (.int (3 : Int32)), .val (.ref b83), .val (.ref b221), .val (.ref b332), .unset] [(.int (i3.toInt8.toInt32)), (.int (1 : Int32)), (.ref b332)])) rfl rfl (hb hby at_101)
        have F344 : Arv Z h343 b332 k332 .byte (3 : Int32) [(.int (nar .byte (i2.toInt8.toInt32))), (.int (nar .byte (i3.toInt8.toInt32))), (.int (0 : Int32))] (.int (0 : Int32)) := Arv.set Ar343 q1343 Sz343 Nz343 Hh343 Gg343 (fits_nar_byte _) W343 1 rfl (Nat.le_of_ble_eq_true rfl)
        have N343 := Fr.snoc X343 N338 g333
        have hkS := Nat.le_trans hkS (Keep.of_wr W343).1
        have O346 := O341.wr W343 g333
        have K347 := K342.wr W343 (Or.inr z334)
        refine own_GW.step (T' := T343) (g' := (mkF m 102 #[.val (.int i0), .val (.int i1), .val (.int i2), .val (.int i3), .val (.int i4), .val (.int i5), .val (.int (1 : Int32)), .val (.int (3 : Int32)), .val (.ref b83), .val (.ref b221), .val (.ref b332), .unset] [])) st343 ?_
        refine own_GW.step (g' := (mkF m 104 #[.val (.int i0), .val (.int i1), .val (.int i2), .val (.int i3), .val (.int i4), .val (.int i5), .val (.int (1 : Int32)), .val (.int (3 : Int32)), .val (.ref b83), .val (.ref b221), .val (.ref b332), .unset] [(.int (3 : Int32))])) (fun tq_ kq_ => XS.iload X343.here hx rfl (hb hby at_102) rfl kq_) ?_
        refine own_GW.step (g' := (mkF m 105 #[.val (.int i0), .val (.int i1), .val (.int i2), .val (.int i3), .val (.int i4), .val (.int i5), .val (.int (1 : Int32)), .val (.int (3 : Int32)), .val (.ref b83), .val (.ref b221), .val (.ref b332), .unset] [(.int (2 : Int32)), (.int (3 : Int32))])) (fun tq_ kq_ => XS.iconst X343.here hx rfl (hb hby at_104) kq_) ?_
        have hc105 : (2 : Int32) < (3 : Int32) := (by decide)
        refine own_GW.step (g' := (mkF m 108 #[.val (.int i0), .val (.int i1), .val (.int i2), .val (.int i3), .val (.int i4), .val (.int i5), .val (.int (1 : Int32)), .val (.int (3 : Int32)), .val (.ref b83), .val (.ref b221), .val (.ref b332), .unset] [])) (fun tq_ kq_ => XS.icmpNo X343.here hx rfl (hb hby at_105) rfl (tlt hc105).2.2.2 kq_) ?_
        refine own_GW.step (g' := (mkF m 110 #[.val (.int i0), .val (.int i1), .val (.int i2), .val (.int i3), .val (.int i4), .val (.int i5), .val (.int (1 : Int32)), .val (.int (3 : Int32)), .val (.ref b83), .val (.ref b221), .val (.ref b332), .unset] [(.ref b332)])) (fun tq_ kq_ => XS.aload X343.here hx rfl (hb hby at_108) rfl rfl kq_) ?_
        refine own_GW.step (g' := (mkF m 111 #[.val (.int i0), .val (.int i1), .val (.int i2), .val (.int i3), .val (.int i4), .val (.int i5), .val (.int (1 : Int32)), .val (.int (3 : Int32)), .val (.ref b83), .val (.ref b221), .val (.ref b332), .unset] [(.int (2 : Int32)), (.ref b332)])) (fun tq_ kq_ => XS.iconst X343.here hx rfl (hb hby at_110) kq_) ?_
        refine own_GW.step (g' := (mkF m 112 #[.val (.int i0), .val (.int i1), .val (.int i2), .val (.int i3), .val (.int i4), .val (.int i5), .val (.int (1 : Int32)), .val (.int (3 : Int32)), .val (.ref b83), .val (.ref b221), .val (.ref b332), .unset] [(.int i2), (.int (2 : Int32)), (.ref b332)])) (fun tq_ kq_ => XS.iloadN X343.here hx rfl (hb hby at_111) rfl kq_) ?_
        refine own_GW.step (g' := (mkF m 113 #[.val (.int i0), .val (.int i1), .val (.int i2), .val (.int i3), .val (.int i4), .val (.int i5), .val (.int (1 : Int32)), .val (.int (3 : Int32)), .val (.ref b83), .val (.ref b221), .val (.ref b332), .unset] [(.int i3), (.int i2), (.int (2 : Int32)), (.ref b332)])) (fun tq_ kq_ => XS.iloadN X343.here hx rfl (hb hby at_112) rfl kq_) ?_
        refine own_GW.step (g' := (mkF m 114 #[.val (.int i0), .val (.int i1), .val (.int i2), .val (.int i3), .val (.int i4), .val (.int i5), .val (.int (1 : Int32)), .val (.int (3 : Int32)), .val (.ref b83), .val (.ref b221), .val (.ref b332), .unset] [(.int (i2 ^^^ i3)), (.int (2 : Int32)), (.ref b332)])) (fun tq_ kq_ => XS.ixor X343.here hx rfl (hb hby at_113) rfl kq_) ?_
        refine own_GW.step (g' := (mkF m 115 #[.val (.int i0), .val (.int i1), .val (.int i2), .val (.int i3), .val (.int i4), .val (.int i5), .val (.int (1 : Int32)), .val (.int (3 : Int32)), .val (.ref b83), .val (.ref b221), .val (.ref b332), .unset] [(.int ((i2 ^^^ i3).toInt8.toInt32)), (.int (2 : Int32)), (.ref b332)])) (fun tq_ kq_ => XS.i2b X343.here hx rfl (hb hby at_114) rfl kq_) ?_
        obtain ⟨cl348, Ar348, q1348, Sz348, Nz348, Hh348, Gg348⟩ := id F344
        obtain ⟨T348, h348, X348, e348, W348, st348⟩ := stB X343 hx hZ e343 Ar348 (j := (2 : Int32)) (inb_of Sz348 ⟨by decide, by decide⟩) (g := (mkF m 115 #[.val (.int i0), .val (.int i1), .val (.int i2), .val (.int i3), .val (.int i4), .val (.int i5), .val (.int (1 : Int32)), .val (.int (3 : Int32)), .val (.ref b83), .val (.ref b221), .val (.ref b332), .unset] [(.int ((i2 ^^^ i3).toInt8.toInt32)), (.int (2 : Int32)), (.ref b332)])) rfl rfl (hb hby at_115)
        have F349 : Arv Z h348 b332 k332 .byte (3 : Int32) [(.int (nar .byte (i2.toInt8.toInt32))), (.int (nar .byte (i3.toInt8.toInt32))), (.int (nar .byte ((i2 ^^^ i3).toInt8.toInt32)))] (.int (0 : Int32)) := Arv.set Ar348 q1348 Sz348 Nz348 Hh348 Gg348 (fits_nar_byte _) W348 2 rfl (Nat.le_of_ble_eq_true rfl)
        have N348 := Fr.snoc X348 N343 g333
        have hkS := Nat.le_trans hkS (Keep.of_wr W348).1
        have O351 := O346.wr W348 g333
        have K352 := K347.wr W348 (Or.inr z334)
        refine own_GW.step (T' := T348) (g' := (mkF m 116 #[.val (.int i0), .val (.int i1), .val (.int i2), .val (.int i3), .val (.int i4), .val (.int i5), .val (.int (1 : Int32)), .val (.int (3 : Int32)), .val (.ref b83), .val (.ref b221), .val (.ref b332), .unset] [])) st348 ?_
        obtain ⟨T353, h353, X353, e353, E353, A353, D353, -, st353⟩ := newO X348 hx hZ hown (hw _ (List.mem_of_getElem? (i := 9) rfl)) (hw _ (List.mem_of_getElem? (i := 10) rfl)) (hw _ (List.mem_of_getElem? (i := 11) rfl)) e348 (g := (mkF m 116 #[.val (.int i0), .val (.int i1), .val (.int i2), .val (.int i3), .val (.int i4), .val (.int i5), .val (.int (1 : Int32)), .val (.int (3 : Int32)), .val (.ref b83), .val (.ref b221), .val (.ref b332), .unset] [])) rfl (hb hby at_116) (by decide) (by decide)
        obtain ⟨b353, g353⟩ : ∃ z, z = h348.size := ⟨_, rfl⟩
        rw [← g353] at A353 D353 st353
        have g354 : n0 ≤ b353 := Nat.le_trans O351.le (Nat.le_of_eq g353.symm)
        have z355 : h0.size ≤ b353 := Nat.le_trans K352.1 (Nat.le_of_eq g353.symm)
        have hkS := Nat.le_trans hkS E353.1
        have O356 := O351.ext E353
        have K357 := K352.ext E353
        have F358 : Fld Z h353 b353 "com/example/evenkey/evenkey/model/Column" "family" "Ljava/lang/String;" .null := D353 (Or.inr (hw _ (List.mem_of_getElem? (i := 29) rfl))) (ty := (.object "java/lang/String")) (by decide)
        have F359 : Fld Z h353 b353 "com/example/evenkey/evenkey/model/Column" "qualifier" "[B" .null := D353 (Or.inr (hw _ (List.mem_of_getElem? (i := 31) rfl))) (ty := (.array .byte)) (by decide)
        refine own_GW.step (T' := T353) (g' := (mkF m 119 #[.val (.int i0), .val (.int i1), .val (.int i2), .val (.int i3), .val (.int i4), .val (.int i5), .val (.int (1 : Int32)), .val (.int (3 : Int32)), .val (.ref b83), .val (.ref b221), .val (.ref b332), .unset] [(.ref b353)])) st353 ?_
        refine own_GW.step (g' := (mkF m 120 #[.val (.int i0), .val (.int i1), .val (.int i2), .val (.int i3), .val (.int i4), .val (.int i5), .val (.int (1 : Int32)), .val (.int (3 : Int32)), .val (.ref b83), .val (.ref b221), .val (.ref b332), .unset] [(.ref b353), (.ref b353)])) (fun tq_ kq_ => XS.dup X353.here hx rfl (hb hby at_119) rfl rfl kq_) ?_
        refine own_GW.step (g' := (mkF m 122 #[.val (.int i0), .val (.int i1), .val (.int i2), .val (.int i3), .val (.int i4), .val (.int i5), .val (.int (1 : Int32)), .val (.int (3 : Int32)), .val (.ref b83), .val (.ref b221), .val (.ref b332), .unset] [(.ref b221), (.ref b353), (.ref b353)])) (fun tq_ kq_ => XS.aload X353.here hx rfl (hb hby at_120) rfl rfl kq_) ?_
        refine own_GW.step (g' := (mkF m 124 #[.val (.int i0), .val (.int i1), .val (.int i2), .val (.int i3), .val (.int i4), .val (.int i5), .val (.int (1 : Int32)), .val (.int (3 : Int32)), .val (.ref b83), .val (.ref b221), .val (.ref b332), .unset] [(.ref b332), (.ref b221), (.ref b353), (.ref b353)])) (fun tq_ kq_ => XS.aload X353.here hx rfl (hb hby at_122) rfl rfl kq_) ?_
        obtain ⟨_, _, ⟨T360, L360, k360, n360⟩, -, X360, sS360, gS360, ⟨Lc360, hQ360, l360, y360, z360⟩, st360⟩ := X353.specialBackS hx (y := (⟨"com/example/evenkey/evenkey/model/Column", "<init>", "(Ljava/lang/String;[B)V"⟩ : MethodName)) rfl hown (mvT hZ (hw _ (List.mem_of_getElem? (i := 12) rfl))) (mvT hZ (hw _ (List.mem_of_getElem? (i := 13) rfl))) (mvT hZ (hw _ (List.mem_of_getElem? (i := 14) rfl))) (by decide) (backOfS (W := 1) (rm_coiR l Z a0 hw [] b353 b221 b332 h353 n0 O356 F358 F359 A353 g354) hZ (hw _ (List.mem_of_getElem? (i := 14) rfl)) (hw _ (List.mem_of_getElem? (i := 11) rfl)) (by decide) (by decide)) (g := (mkF m 124 #[.val (.int i0), .val (.int i1), .val (.int i2), .val (.int i3), .val (.int i4), .val (.int i5), .val (.int (1 : Int32)), .val (.int (3 : Int32)), .val (.ref b83), .val (.ref b221), .val (.ref b332), .unset] [(.ref b332), (.ref b221), (.ref b353), (.ref b353)])) rfl (by rw [hml]; rfl) (Steps.refl _) (a := b353) (argsL := [(.ref b221), (.ref b332)]) (rest := [(.ref b353)]) (lenOf pd__28Ljava_2flang_2fString_3b_5bB_29V rfl) rfl (by show 2 * 0 + _ ≤ _; exact Nat.le_of_eq rfl) (hb hby at_124) (fun _ _ => ⟨rfl, e353, (by decide : 5 + 2 ≤ _), (by decide : 13 + 28 ≤ _)⟩)
        dsimp only [Pt.U, Pt.locs, Pt.cells, Pt.slots] at X360 l360 y360 z360 st360 hQ360 sS360 gS360
        subst l360 y360 z360
        obtain ⟨X360, hS, hZ, hown⟩ := rebS (vm0 := s.vm) hS (by rw [e353]; exact hkS) X360 sS360 gS360 hZ hown
        obtain ⟨rfl, Nq360, P361, P362, P363⟩ := hQ360
        have N360 := Fr.app N348 Nq360
        have hkS := Nat.le_trans hkS P361.1
        have F364 := A353.keep P361
        have O365 := O356.keep P361 (allS g354 all0)
        have K366 := K357.trans P361 (allS (Or.inr z355) all0)
        have hkS : T360.heap.size ≤ T360.heap.size := Nat.le_refl _
        refine own_GW.step (T' := T360) (g' := (mkF m 127 #[.val (.int i0), .val (.int i1), .val (.int i2), .val (.int i3), .val (.int i4), .val (.int i5), .val (.int (1 : Int32)), .val (.int (3 : Int32)), .val (.ref b83), .val (.ref b221), .val (.ref b332), .unset] [(.ref b353)])) (fun tq_ kq_ => st360.trans kq_) ?_
        refine own_GW.step (g' := (mkF m 129 #[.val (.int i0), .val (.int i1), .val (.int i2), .val (.int i3), .val (.int i4), .val (.int i5), .val (.int (1 : Int32)), .val (.int (3 : Int32)), .val (.ref b83), .val (.ref b221), .val (.ref b332), .val (.ref b353)] [])) (fun tq_ kq_ => XS.astore X360.here hx rfl (hb hby at_127) rfl rfl (l' := #[.val (.int i0), .val (.int i1), .val (.int i2), .val (.int i3), .val (.int i4), .val (.int i5), .val (.int (1 : Int32)), .val (.int (3 : Int32)), .val (.ref b83), .val (.ref b221), .val (.ref b332), .val (.ref b353)]) rfl kq_) ?_
        refine own_GW.step (g' := (mkF m 131 #[.val (.int i0), .val (.int i1), .val (.int i2), .val (.int i3), .val (.int i4), .val (.int i5), .val (.int (1 : Int32)), .val (.int (3 : Int32)), .val (.ref b83), .val (.ref b221), .val (.ref b332), .val (.ref b353)] [(.ref b353)])) (fun tq_ kq_ => XS.aload X360.here hx rfl (hb hby at_129) rfl rfl kq_) ?_
        obtain ⟨cq367, kq367, q367a, q367b, q367c⟩ := isOf hZ rfl P362
        obtain ⟨_, _, ⟨T367, L367, k367, n367⟩, -, X367, ⟨Lc367, hQ367, l367, y367, z367⟩, st367⟩ := X360.virtualBack hx (y := (⟨"com/example/evenkey/evenkey/model/Column", "hasQualifier", "()Z"⟩ : MethodName)) (z := (⟨"com/example/evenkey/evenkey/model/Column", "hasQualifier", "()Z"⟩ : MethodName)) hown (mvT hZ (hw _ (List.mem_of_getElem? (i := 32) rfl))) (mvT hZ (hw _ (List.mem_of_getElem? (i := 33) rfl))) (notFace_of_selects (args := #[]) (mvT hZ (hw _ (List.mem_of_getElem? (i := 35) rfl)))) (mvT hZ (hw _ (List.mem_of_getElem? (i := 35) rfl))) (mvT hZ (hw _ (List.mem_of_getElem? (i := 34) rfl))) (by decide) (backOf (W := 0) (rm_hqR l Z a0 hw [] b353 b332 T360.heap n0 O365 P363) hZ (hw _ (List.mem_of_getElem? (i := 36) rfl)) (hw _ (List.mem_of_getElem? (i := 11) rfl)) (by decide) (by decide)) q367a q367c (g := (mkF m 131 #[.val (.int i0), .val (.int i1), .val (.int i2), .val (.int i3), .val (.int i4), .val (.int i5), .val (.int (1 : Int32)), .val (.int (3 : Int32)), .val (.ref b83), .val (.ref b221), .val (.ref b332), .val (.ref b353)] [(.ref b353)])) rfl (by rw [hml]; rfl) (Steps.refl _) (argsL := []) (rest := []) (lenOf pd__28_29Z rfl) rfl (by show 2 * 0 + _ ≤ _; exact Nat.le_of_eq rfl) (hb hby at_131) (fun _ _ => ⟨rfl, rfl, (by decide : 7 + 0 ≤ _), (by decide : 41 + 0 ≤ _)⟩)
        dsimp only [Pt.U, Pt.locs, Pt.cells, Pt.slots] at X367 l367 y367 z367 st367 hQ367
        subst l367 y367 z367
        obtain ⟨rfl, Nq367, P368⟩ := hQ367
        have N367 := Fr.app N360 Nq367
        refine own_GW.step (T' := T367) (g' := (mkF m 134 #[.val (.int i0), .val (.int i1), .val (.int i2), .val (.int i3), .val (.int i4), .val (.int i5), .val (.int (1 : Int32)), .val (.int (3 : Int32)), .val (.ref b83), .val (.ref b221), .val (.ref b332), .val (.ref b353)] [(.int (1 : Int32))])) (fun tq_ kq_ => st367.trans kq_) ?_
        refine own_GW.step (g' := (mkF m 136 #[.val (.int i0), .val (.int i1), .val (.int i2), .val (.int i3), .val (.int i4), .val (.int i5), .val (.int (1 : Int32)), .val (.int (3 : Int32)), .val (.ref b83), .val (.ref b221), .val (.ref b332), .val (.ref b353)] [(.int (1 : Int32)), (.int (1 : Int32))])) (fun tq_ kq_ => XS.iload X367.here hx rfl (hb hby at_134) rfl kq_) ?_
        have hc136 : (1 : Int32) = (1 : Int32) := (by decide)
        refine own_GW.step (g' := (mkF m 139 #[.val (.int i0), .val (.int i1), .val (.int i2), .val (.int i3), .val (.int i4), .val (.int i5), .val (.int (1 : Int32)), .val (.int (3 : Int32)), .val (.ref b83), .val (.ref b221), .val (.ref b332), .val (.ref b353)] [])) (fun tq_ kq_ => XS.icmpNo X367.here hx rfl (hb hby at_136) rfl (teq hc136).2 kq_) ?_
        refine own_GW.step (g' := (mkF m 140 #[.val (.int i0), .val (.int i1), .val (.int i2), .val (.int i3), .val (.int i4), .val (.int i5), .val (.int (1 : Int32)), .val (.int (3 : Int32)), .val (.ref b83), .val (.ref b221), .val (.ref b332), .val (.ref b353)] [(.int (1 : Int32))])) (fun tq_ kq_ => XS.iconst X367.here hx rfl (hb hby at_139) kq_) ?_
        refine own_GW.step (g' := (mkF m 144 #[.val (.int i0), .val (.int i1), .val (.int i2), .val (.int i3), .val (.int i4), .val (.int i5), .val (.int (1 : Int32)), .val (.int (3 : Int32)), .val (.ref b83), .val (.ref b221), .val (.ref b332), .val (.ref b353)] [(.int (1 : Int32))])) (fun tq_ kq_ => XS.goto X367.here hx rfl (pc0 := 140) (pc' := 144) rfl (hb hby at_140) (by decide) (by decide) kq_) ?_
        exact own_retW X367 hS P368 hkS (v := some (.int (1 : Int32))) (fun h => by rw [Bd.returns] at h; cases h) Bd.notSynchronized ⟨rfl, N367⟩ (by decide) (by decide) (fun fs hr => retN X367 hx (t := .boolean) Bd.returns (by simp) (hb hby at_144) hr)
set_option maxRecDepth 65536 in
set_option maxHeartbeats 40000000 in
theorem comes_1 {Post : Tables → Env → Array Value → State → Outcome → State → Prop} (hpost : ∀ tb e args s v u, (limb_1_1.after args s (.returned v) u = true ∧ limb_1_2.after args s (.returned v) u = true ∧ True) → ReturnedEndW s (.returned v) u (Jvm.fieldLocs frame_1_writes args s ++ Jvm.arrayLocs frame_1_arrays args s ++ Jvm.staticLocs frame_1_statics s) 24 2176 → Post tb e args s (.returned v) u) :
    ArmFor flags0 classFile x code maxLocals ret World_1 tables_1 room_1 Calls_1 rest_1 Pre_1 Post := by
  intro l hfl _ _ p e ha hc hk s m args below hf hA hF happ hP
  obtain ⟨hcalls, hrest, hpre⟩ := hP
  obtain ⟨-, -, -, hnamed, -, -, -, hat⟩ := (Spec.applies_iff hf).mp happ
  obtain ⟨hg, hn⟩ := and_e (Cond.before_iff.mp (show (Jvm.Cond.and given_1 narrow_1).before args s = true from hpre))
  obtain ⟨gz1, gz2⟩ := and_e hg
  obtain ⟨gz3, gz4⟩ := and_e gz2
  obtain ⟨gz5, gz6⟩ := and_e gz4
  obtain ⟨gz7, gz8⟩ := and_e gz6
  obtain ⟨gz9, gz10⟩ := and_e gz8
  obtain ⟨gz11, gz12⟩ := and_e gz10
  obtain ⟨u0, u1, u2, u3, u4, u5, rfl⟩ : ∃ u0 u1 u2 u3 u4 u5 : Value, args = #[u0, u1, u2, u3, u4, u5] := by
    have hs : args.size = 6 := by simpa [Cond.value, given_1] using gz1
    obtain ⟨L⟩ := args
    match L, hs with
    | [u0, u1, u2, u3, u4, u5], _ => exact ⟨u0, u1, u2, u3, u4, u5, rfl⟩
  have hw := fun d (hd : d ∈ tables_1) => atoms_spec (ws := Jvm.Cond.code x code maxLocals ret :: tables_1) hat d (List.mem_cons_of_mem _ hd)
  have hfit : Fit s := fun {y c} hc i hi => by
    obtain ⟨ha, rfl⟩ := Array.getElem?_eq_some_iff.mp hc
    have q := List.all_eq_true.mp ((Array.all_eq_true_iff_forall_mem.mp hF) _ (Array.getElem_mem ha)) i (List.mem_range.mpr hi)
    simpa [Array.getElem?_eq_getElem hi] using q
  obtain ⟨hsets, hown0⟩ := atoms_of _ (rest_1_c_eq ▸ (show rest_1_c.before _ s = true from hrest))
  have hr0 := Cond.before_iff.mp hown0
  obtain ⟨i0, ei0⟩ := is_v gz3
  obtain rfl : u0 = (.int i0) := Option.some.inj ei0
  obtain ⟨i1, ei1⟩ := is_v gz5
  obtain rfl : u1 = (.int i1) := Option.some.inj ei1
  obtain ⟨i2, ei2⟩ := is_v gz7
  obtain rfl : u2 = (.int i2) := Option.some.inj ei2
  obtain ⟨i3, ei3⟩ := is_v gz9
  obtain rfl : u3 = (.int i3) := Option.some.inj ei3
  obtain ⟨i4, ei4⟩ := is_v gz11
  obtain rfl : u4 = (.int i4) := Option.some.inj ei4
  obtain ⟨i5, ei5⟩ := is_v gz12
  obtain rfl : u5 = (.int i5) := Option.some.inj ei5
  obtain ⟨csz, ev_csz⟩ := is_v (Cond.before_iff.mp (hsets _ (List.mem_of_getElem? (i := 1) rfl)))
  have S_CS : Sta s s.heap "java/lang/String" "COMPACT_STRINGS" "Z" (.int csz) := Sta.start ev_csz (Or.inl (hsets _ (List.mem_of_getElem? (i := 0) rfl)))
  have hcs : ¬ csz = (0 : Int32) := gotF (Cond.eq_ints ev_csz (Term.int_eval (0))) (not_v (Cond.before_iff.mp (hsets _ (List.mem_of_getElem? (i := 2) rfl))))
  obtain ⟨n, o, h1, h2, h3, _, L, rfl, ⟨rfl, N⟩, hq⟩ := rm_law l s _ hw tables_1 i0 i1 i2 i3 i4 i5 csz s.heap s.heap.size (Old.start s) S_CS hcs p e ha hc hk s m _ below hf ((Spec.applies_iff_loose hf).mp happ).1 ⟨rfl, State.Warmed39.refl s, rfl⟩ trivial
  refine ⟨n, _, h1, h2, h3, hpost _ _ _ _ _ _ ⟨Cond.after_iff.mpr rfl, Cond.after_iff.mpr (eq_i res_at (Term.int_eval (1)) rfl), trivial⟩ ⟨hq.1, hq.2.1, hq.2.2.1, (hq.2.2.2.sift fun y hy => Or.inr (N y hy)).mono (by decide) (by decide)⟩⟩
theorem main_1_1 : Claimed_1_1 := comes_1 fun _ _ _ _ _ _ h hF => ⟨h.1, hF⟩
theorem main_1_2 : Claimed_1_2 := comes_1 fun _ _ _ _ _ _ h hF => ⟨h.2.1, hF⟩
end Jvm.Pilot.@@N@@
namespace Jvm.Pilot.@@N@@
open Jvm Jvm.ClassFile Sem Op Lib Jvm.Free Jvm.Stand Jvm.Pilot.@@N@@.Jvm.D
/-! MADE BY PROGRAM (witnessworld.py) out of the Statement's table words and the real class files: 22 classes; the members and pool entries that the words name. The judged class is class 1, her method 1. -/
namespace start1
open Jvm.ClassFile
def u (s : String) : CpInfo := .utf8 (stringToUtf16 s)
/-- a pool by its gaps: so many unusable entries, then the entry; so many at the end -/
def gap : Nat → List CpInfo → List CpInfo
  | 0, r => r
  | n + 1, r => .unusable :: gap n r
def poolList (es : List (Nat × CpInfo)) (last : Nat) : List CpInfo := es.foldr (fun e r => gap e.1 (e.2 :: r)) (gap last [])
def pool (es : List (Nat × CpInfo)) (last : Nat) : Array CpInfo := ⟨poolList es last⟩
def fileOf (pool : Array CpInfo) (this : Nat) (attrs : Array Attribute := #[]) (ms : Array MethodInfo := #[]) (fl : Nat := 33) (sup : Nat := 0) (ifs : Array Nat := #[]) (fds : Array FieldInfo := #[]) : ClassFile where
  minorVersion := 0
  majorVersion := 65
  constantPool := pool
  accessFlags := fl
  thisClass := this
  superClass := sup
  interfaces := ifs
  fields := fds
  methods := ms
  attributes := attrs
def plain (name : String) (sup : Option ClassId) : Class where
  name := name
  kind := .ordinary
  loader := none
  accessFlags := 33
  super := sup
  interfaces := #[]
  cf := none
  fields := #[]
  methods := #[]
  instanceTypes := #[]
  staticTypes := #[]
  resolved := #[]
  callSites := []
  init := .initialized
  statics := none
  mirror := none

def pool0 : Array CpInfo := pool [(5, u "<init>"), (0, u "()V"), (1, .class_ 10), (1, u "java/lang/Object")] 113

def k0c0 : Code := { maxStack := 0, maxLocals := 1, code := object_method_1_code, exceptionTable := #[], attributes := #[] }
def k0m0 : Method := { name := "<init>", desc := "()V", sig := { parameters := [], returnType := none }, accessFlags := 1, code := some k0c0 }
/-- java/lang/Object -/
def k0 : Class := { plain "java/lang/Object" none with
  accessFlags := 33
  interfaces := #[]
  cf := some (fileOf pool0 8 #[] #[{ accessFlags := 1, nameIndex := 5, descriptorIndex := 6, attributes := #[] }] 33 0 #[] #[])
  fields := #[]
  methods := #[k0m0]
  instanceTypes := #[]
  staticTypes := #[]
  resolved := Array.replicate 124 none
  statics := none }

def pool1 : Array CpInfo := pool [(2, .class_ 4), (1, u "java/lang/Object"), (0, u "<init>"), (0, u "()V"), (0, .class_ 8), (0, u "java/lang/String"), (0, .methodref 7 10), (0, .nameAndType 5 11), (0, u "([C)V"), (0, .string 13), (0, u ""), (0, .class_ 15), (0, u "com/example/evenkey/evenkey/model/Column"), (0, .methodref 14 17), (0, .nameAndType 5 18), (0, u "(Ljava/lang/String;[B)V"), (0, .methodref 14 20), (0, .nameAndType 21 22), (0, u "hasQualifier"), (0, u "()Z"), (0, .class_ 24), (0, u "com/example/evenkey/evenkey/model/ColumnHasQualifierPinLaw"), (2, u "law"), (0, u "(IIIIII)Z")] 7

def k1m0 : Method := { name := "<init>", desc := "()V", sig := { parameters := [], returnType := none }, accessFlags := 1, code := none }
def k1c1 : Code := { maxStack := 5, maxLocals := 12, code := code, exceptionTable := #[], attributes := #[] }
def k1m1 : Method := { name := "law", desc := "(IIIIII)Z", sig := { parameters := [.int, .int, .int, .int, .int, .int], returnType := some .boolean }, accessFlags := 9, code := some k1c1 }
/-- com/example/evenkey/evenkey/model/ColumnHasQualifierPinLaw -/
def k1 : Class := { plain "com/example/evenkey/evenkey/model/ColumnHasQualifierPinLaw" (some 0) with
  accessFlags := 49
  interfaces := #[]
  cf := some (fileOf pool1 23 #[] #[{ accessFlags := 1, nameIndex := 5, descriptorIndex := 6, attributes := #[] }, { accessFlags := 9, nameIndex := 27, descriptorIndex := 28, attributes := #[] }] 49 2 #[] #[])
  fields := #[]
  methods := #[k1m0, k1m1]
  instanceTypes := #[]
  staticTypes := #[]
  resolved := Array.replicate 36 none
  statics := none }

def pool2 : Array CpInfo := pool [(1, .class_ 2), (0, u "java/io/Serializable"), (0, .class_ 4), (0, u "java/lang/Object")] 2

/-- java/io/Serializable -/
def k2 : Class := { plain "java/io/Serializable" (some 0) with
  accessFlags := 1537
  interfaces := #[]
  cf := some (fileOf pool2 1 #[] #[] 1537 3 #[] #[])
  fields := #[]
  methods := #[]
  instanceTypes := #[]
  staticTypes := #[]
  resolved := Array.replicate 7 none
  statics := none }

def pool3 : Array CpInfo := pool [(1, .class_ 2), (0, u "java/lang/Comparable"), (0, .class_ 4), (0, u "java/lang/Object")] 7

/-- java/lang/Comparable -/
def k3 : Class := { plain "java/lang/Comparable" (some 0) with
  accessFlags := 1537
  interfaces := #[]
  cf := some (fileOf pool3 1 #[] #[] 1537 3 #[] #[])
  fields := #[]
  methods := #[]
  instanceTypes := #[]
  staticTypes := #[]
  resolved := Array.replicate 12 none
  statics := none }

def pool4 : Array CpInfo := pool [(2, .class_ 4), (1, u "java/lang/CharSequence"), (42, .class_ 48), (0, u "java/lang/CharSequence$1CodePointIterator"), (10, .class_ 60), (0, u "java/lang/CharSequence$1CharIterator"), (5, .class_ 67), (0, u "java/lang/Object")] 63

/-- java/lang/CharSequence -/
def k4 : Class := { plain "java/lang/CharSequence" (some 0) with
  accessFlags := 1537
  interfaces := #[]
  cf := some (fileOf pool4 2 #[.nestMembers #[47, 59]] #[] 1537 66 #[] #[])
  fields := #[]
  methods := #[]
  instanceTypes := #[]
  staticTypes := #[]
  resolved := Array.replicate 131 none
  statics := none }

def pool5 : Array CpInfo := pool [(1, .class_ 2), (0, u "java/lang/constant/Constable"), (0, .class_ 4), (0, u "java/lang/Object")] 6

/-- java/lang/constant/Constable -/
def k5 : Class := { plain "java/lang/constant/Constable" (some 0) with
  accessFlags := 1537
  interfaces := #[]
  cf := some (fileOf pool5 1 #[] #[] 1537 3 #[] #[])
  fields := #[]
  methods := #[]
  instanceTypes := #[]
  staticTypes := #[]
  resolved := Array.replicate 11 none
  statics := none }

def pool6 : Array CpInfo := pool [(1, .class_ 2), (0, u "java/lang/constant/ConstantDesc"), (0, .class_ 4), (0, u "java/lang/Object")] 32

/-- java/lang/constant/ConstantDesc -/
def k6 : Class := { plain "java/lang/constant/ConstantDesc" (some 0) with
  accessFlags := 1537
  interfaces := #[]
  cf := some (fileOf pool6 1 #[] #[] 1537 3 #[] #[])
  fields := #[]
  methods := #[]
  instanceTypes := #[]
  staticTypes := #[]
  resolved := Array.replicate 37 none
  statics := none }

def pool7 : Array CpInfo := pool [(1, .methodref 2 3), (0, .class_ 4), (0, .nameAndType 5 6), (0, u "java/lang/Object"), (0, u "<init>"), (0, u "()V"), (2, .fieldref 10 11), (0, .class_ 12), (0, .nameAndType 13 14), (0, u "java/lang/String"), (0, u "value"), (0, u "[B"), (0, .fieldref 10 16), (0, .nameAndType 17 18), (0, u "coder"), (0, u "B"), (2, u "hash"), (0, u "I"), (2, u "hashIsZero"), (0, u "Z"), (0, .methodref 10 28), (0, .nameAndType 5 29), (0, u "([CIILjava/lang/Void;)V"), (8, .fieldref 10 39), (0, .nameAndType 40 26), (0, u "COMPACT_STRINGS"), (1, .class_ 44), (1, u "java/lang/StringUTF16"), (0, u "compress"), (1, .methodref 42 48), (0, .nameAndType 49 50), (0, u "coderFromArrayLen"), (0, u "([BI)B"), (126, .methodref 42 178), (0, .nameAndType 45 179), (0, u "([CII)[B"), (395, .class_ 576), (0, u "java/lang/CharSequence"), (22, u "CASE_INSENSITIVE_ORDER"), (0, u "Ljava/util/Comparator;"), (409, u "([C)V"), (90, u "serialPersistentFields"), (0, u "[Ljava/io/ObjectStreamField;"), (0, .class_ 1104), (0, u "java/lang/String$CaseInsensitiveComparator"), (1, .class_ 1107), (0, u "java/io/Serializable"), (0, .class_ 1109), (0, u "java/lang/Comparable"), (0, .class_ 1111), (0, u "java/lang/constant/Constable"), (0, .class_ 1113), (0, u "java/lang/constant/ConstantDesc"), (2, u "serialVersionUID"), (0, u "J"), (3, u "REPL"), (0, u "C"), (2, u "LATIN1"), (1, u "UTF16")] 323

def k7m0 : Method := { name := "<init>", desc := "()V", sig := { parameters := [], returnType := none }, accessFlags := 1, code := none }
def k7c1 : Code := { maxStack := 5, maxLocals := 2, code := jdk_42_method_3_code, exceptionTable := #[], attributes := #[] }
def k7m1 : Method := { name := "<init>", desc := "([C)V", sig := { parameters := [(.array .char)], returnType := none }, accessFlags := 1, code := some k7c1 }
def k7c2 : Code := { maxStack := 4, maxLocals := 6, code := jdk_42_method_149_code, exceptionTable := #[], attributes := #[] }
def k7m2 : Method := { name := "<init>", desc := "([CIILjava/lang/Void;)V", sig := { parameters := [(.array .char), .int, .int, (.object "java/lang/Void")], returnType := none }, accessFlags := 2, code := some k7c2 }
/-- java/lang/String -/
def k7 : Class := { plain "java/lang/String" (some 0) with
  accessFlags := 49
  interfaces := #[2, 3, 4, 5, 6]
  cf := some (fileOf pool7 10 #[.nestMembers #[1103]] #[{ accessFlags := 1, nameIndex := 5, descriptorIndex := 6, attributes := #[] }, { accessFlags := 1, nameIndex := 5, descriptorIndex := 1010, attributes := #[] }, { accessFlags := 2, nameIndex := 5, descriptorIndex := 29, attributes := #[] }] 49 2 #[1106, 1108, 575, 1110, 1112] #[{ accessFlags := 18, nameIndex := 13, descriptorIndex := 14, attributes := #[] }, { accessFlags := 18, nameIndex := 17, descriptorIndex := 18, attributes := #[] }, { accessFlags := 2, nameIndex := 21, descriptorIndex := 22, attributes := #[] }, { accessFlags := 2, nameIndex := 25, descriptorIndex := 26, attributes := #[] }, { accessFlags := 26, nameIndex := 1116, descriptorIndex := 1117, attributes := #[] }, { accessFlags := 24, nameIndex := 40, descriptorIndex := 26, attributes := #[] }, { accessFlags := 26, nameIndex := 1101, descriptorIndex := 1102, attributes := #[] }, { accessFlags := 26, nameIndex := 1121, descriptorIndex := 1122, attributes := #[] }, { accessFlags := 25, nameIndex := 599, descriptorIndex := 600, attributes := #[] }, { accessFlags := 24, nameIndex := 1125, descriptorIndex := 18, attributes := #[] }, { accessFlags := 24, nameIndex := 1127, descriptorIndex := 18, attributes := #[] }])
  fields := #[{ name := "value", type := (.array .byte), accessFlags := 18, slot := 0, constantValue := 0 }, { name := "coder", type := .byte, accessFlags := 18, slot := 1, constantValue := 0 }, { name := "hash", type := .int, accessFlags := 2, slot := 2, constantValue := 0 }, { name := "hashIsZero", type := .boolean, accessFlags := 2, slot := 3, constantValue := 0 }, { name := "serialVersionUID", type := .long, accessFlags := 26, slot := 0, constantValue := 0 }, { name := "COMPACT_STRINGS", type := .boolean, accessFlags := 24, slot := 1, constantValue := 0 }, { name := "serialPersistentFields", type := (.array (.object "java/io/ObjectStreamField")), accessFlags := 26, slot := 2, constantValue := 0 }, { name := "REPL", type := .char, accessFlags := 26, slot := 3, constantValue := 0 }, { name := "CASE_INSENSITIVE_ORDER", type := (.object "java/util/Comparator"), accessFlags := 25, slot := 4, constantValue := 0 }, { name := "LATIN1", type := .byte, accessFlags := 24, slot := 5, constantValue := 0 }, { name := "UTF16", type := .byte, accessFlags := 24, slot := 6, constantValue := 0 }]
  methods := #[k7m0, k7m1, k7m2]
  instanceTypes := #[(.array .byte), .byte, .int, .boolean]
  staticTypes := #[.long, .boolean, (.array (.object "java/io/ObjectStreamField")), .char, (.object "java/util/Comparator"), .byte, .byte]
  resolved := Array.replicate 1451 none
  statics := some 0 }

def pool8 : Array CpInfo := pool [(1, .methodref 2 3), (0, .class_ 4), (0, .nameAndType 5 6), (0, u "java/lang/Object"), (0, u "<init>"), (0, u "()V"), (0, .class_ 8), (0, u "java/lang/Record")] 13

def k8c0 : Code := { maxStack := 1, maxLocals := 1, code := jdk_30_method_1_code, exceptionTable := #[], attributes := #[] }
def k8m0 : Method := { name := "<init>", desc := "()V", sig := { parameters := [], returnType := none }, accessFlags := 4, code := some k8c0 }
/-- java/lang/Record -/
def k8 : Class := { plain "java/lang/Record" (some 0) with
  accessFlags := 1057
  interfaces := #[]
  cf := some (fileOf pool8 7 #[] #[{ accessFlags := 4, nameIndex := 5, descriptorIndex := 6, attributes := #[] }] 1057 2 #[] #[])
  fields := #[]
  methods := #[k8m0]
  instanceTypes := #[]
  staticTypes := #[]
  resolved := Array.replicate 22 none
  statics := none }

def pool9 : Array CpInfo := pool [(1, .methodref 2 3), (0, .class_ 4), (0, .nameAndType 5 6), (0, u "java/lang/Record"), (0, u "<init>"), (0, u "()V"), (0, .string 8), (0, u "family"), (0, .methodref 10 11), (0, .class_ 12), (0, .nameAndType 13 14), (0, u "java/util/Objects"), (0, u "requireNonNull"), (0, u "(Ljava/lang/Object;Ljava/lang/String;)Ljava/lang/Object;"), (0, .fieldref 16 17), (0, .class_ 18), (0, .nameAndType 8 19), (0, u "com/example/evenkey/evenkey/model/Column"), (0, u "Ljava/lang/String;"), (0, .fieldref 16 21), (0, .nameAndType 22 23), (0, u "qualifier"), (0, u "[B"), (49, u "(Ljava/lang/String;[B)V"), (59, u "hasQualifier"), (0, u "()Z")] 25

def k9c0 : Code := { maxStack := 2, maxLocals := 3, code := prog_6_method_1_code, exceptionTable := #[], attributes := #[] }
def k9m0 : Method := { name := "<init>", desc := "(Ljava/lang/String;[B)V", sig := { parameters := [(.object "java/lang/String"), (.array .byte)], returnType := none }, accessFlags := 1, code := some k9c0 }
def k9c1 : Code := { maxStack := 1, maxLocals := 1, code := prog_6_method_4_code, exceptionTable := #[], attributes := #[] }
def k9m1 : Method := { name := "hasQualifier", desc := "()Z", sig := { parameters := [], returnType := some .boolean }, accessFlags := 1, code := some k9c1 }
/-- com/example/evenkey/evenkey/model/Column -/
def k9 : Class := { plain "com/example/evenkey/evenkey/model/Column" (some 8) with
  accessFlags := 49
  interfaces := #[]
  cf := some (fileOf pool9 16 #[] #[{ accessFlags := 1, nameIndex := 5, descriptorIndex := 73, attributes := #[] }, { accessFlags := 1, nameIndex := 133, descriptorIndex := 134, attributes := #[] }] 49 2 #[] #[{ accessFlags := 18, nameIndex := 8, descriptorIndex := 19, attributes := #[] }, { accessFlags := 18, nameIndex := 22, descriptorIndex := 23, attributes := #[] }])
  fields := #[{ name := "family", type := (.object "java/lang/String"), accessFlags := 18, slot := 0, constantValue := 0 }, { name := "qualifier", type := (.array .byte), accessFlags := 18, slot := 1, constantValue := 0 }]
  methods := #[k9m0, k9m1]
  instanceTypes := #[(.object "java/lang/String"), (.array .byte)]
  staticTypes := #[]
  resolved := Array.replicate 160 none
  statics := none }

def pool10 : Array CpInfo := pool [(2, .class_ 4), (1, u "java/lang/Object"), (0, u "<init>"), (0, u "()V"), (35, .class_ 44), (1, u "java/util/Objects"), (0, u "requireNonNull"), (48, u "(Ljava/lang/Object;Ljava/lang/String;)Ljava/lang/Object;")] 89

def k10m0 : Method := { name := "<init>", desc := "()V", sig := { parameters := [], returnType := none }, accessFlags := 2, code := none }
def k10c1 : Code := { maxStack := 3, maxLocals := 2, code := jdk_31_method_11_code, exceptionTable := #[], attributes := #[] }
def k10m1 : Method := { name := "requireNonNull", desc := "(Ljava/lang/Object;Ljava/lang/String;)Ljava/lang/Object;", sig := { parameters := [(.object "java/lang/Object"), (.object "java/lang/String")], returnType := some (.object "java/lang/Object") }, accessFlags := 9, code := some k10c1 }
/-- java/util/Objects -/
def k10 : Class := { plain "java/util/Objects" (some 0) with
  accessFlags := 49
  interfaces := #[]
  cf := some (fileOf pool10 42 #[] #[{ accessFlags := 2, nameIndex := 5, descriptorIndex := 6, attributes := #[] }, { accessFlags := 9, nameIndex := 45, descriptorIndex := 94, attributes := #[] }] 49 2 #[] #[])
  fields := #[]
  methods := #[k10m0, k10m1]
  instanceTypes := #[]
  staticTypes := #[]
  resolved := Array.replicate 184 none
  statics := none }

def pool11 : Array CpInfo := pool [(6, .class_ 8), (1, u "java/lang/Object"), (0, u "<init>"), (0, u "()V"), (1, .class_ 14), (1, u "java/lang/StringUTF16"), (31, u "$assertionsDisabled"), (0, u "Z"), (13, u "HI_BYTE_SHIFT"), (0, u "I"), (2, u "LO_BYTE_SHIFT"), (49, .methodref 12 116), (0, .nameAndType 117 118), (0, u "compress"), (0, u "([CI[BII)I"), (3, u "([CII)[B"), (138, u "coderFromArrayLen"), (0, u "([BI)B"), (106, .class_ 371), (1, u "java/lang/StringUTF16$LinesSpliterator"), (58, u "MAX_LENGTH"), (196, .class_ 628), (0, u "java/lang/StringUTF16$CodePointsSpliterator"), (0, .class_ 630), (0, u "java/lang/StringUTF16$CharsSpliterator")] 4

def k11m0 : Method := { name := "<init>", desc := "()V", sig := { parameters := [], returnType := none }, accessFlags := 0, code := none }
def k11c1 : Code := { maxStack := 2, maxLocals := 2, code := jdk_52_method_15_code, exceptionTable := #[], attributes := #[] }
def k11m1 : Method := { name := "coderFromArrayLen", desc := "([BI)B", sig := { parameters := [(.array .byte), .int], returnType := some .byte }, accessFlags := 8, code := some k11c1 }
def k11c2 : Code := { maxStack := 5, maxLocals := 6, code := jdk_52_method_16_code, exceptionTable := #[], attributes := #[] }
def k11m2 : Method := { name := "compress", desc := "([CII)[B", sig := { parameters := [(.array .char), .int, .int], returnType := some (.array .byte) }, accessFlags := 9, code := some k11c2 }
def k11c3 : Code := { maxStack := 3, maxLocals := 7, code := jdk_52_method_21_code, exceptionTable := #[], attributes := #[] }
def k11m3 : Method := { name := "compress", desc := "([CI[BII)I", sig := { parameters := [(.array .char), .int, (.array .byte), .int, .int], returnType := some .int }, accessFlags := 9, code := some k11c3 }
/-- java/lang/StringUTF16 -/
def k11 : Class := { plain "java/lang/StringUTF16" (some 0) with
  accessFlags := 48
  interfaces := #[]
  cf := some (fileOf pool11 12 #[.nestMembers #[627, 629, 369]] #[{ accessFlags := 0, nameIndex := 9, descriptorIndex := 10, attributes := #[] }, { accessFlags := 8, nameIndex := 261, descriptorIndex := 262, attributes := #[] }, { accessFlags := 9, nameIndex := 117, descriptorIndex := 122, attributes := #[] }, { accessFlags := 9, nameIndex := 117, descriptorIndex := 118, attributes := #[] }] 48 6 #[] #[{ accessFlags := 26, nameIndex := 61, descriptorIndex := 62, attributes := #[] }, { accessFlags := 26, nameIndex := 65, descriptorIndex := 62, attributes := #[] }, { accessFlags := 24, nameIndex := 430, descriptorIndex := 62, attributes := #[] }, { accessFlags := 4120, nameIndex := 46, descriptorIndex := 47, attributes := #[] }])
  fields := #[{ name := "HI_BYTE_SHIFT", type := .int, accessFlags := 26, slot := 0, constantValue := 0 }, { name := "LO_BYTE_SHIFT", type := .int, accessFlags := 26, slot := 1, constantValue := 0 }, { name := "MAX_LENGTH", type := .int, accessFlags := 24, slot := 2, constantValue := 0 }, { name := "$assertionsDisabled", type := .boolean, accessFlags := 4120, slot := 3, constantValue := 0 }]
  methods := #[k11m0, k11m1, k11m2, k11m3]
  instanceTypes := #[]
  staticTypes := #[.int, .int, .int, .boolean]
  resolved := Array.replicate 635 none
  statics := none }

def pool12 : Array CpInfo := pool [(4, .class_ 6), (1, u "java/lang/Object"), (0, u "<init>"), (0, u "()V"), (5, .class_ 16), (1, u "java/lang/StringLatin1"), (104, u "$assertionsDisabled"), (0, u "Z"), (98, .class_ 223), (1, u "java/lang/StringLatin1$LinesSpliterator"), (166, .class_ 391), (0, u "java/lang/StringLatin1$CharsSpliterator")] 3

def k12m0 : Method := { name := "<init>", desc := "()V", sig := { parameters := [], returnType := none }, accessFlags := 0, code := none }
/-- java/lang/StringLatin1 -/
def k12 : Class := { plain "java/lang/StringLatin1" (some 0) with
  accessFlags := 48
  interfaces := #[]
  cf := some (fileOf pool12 14 #[.nestMembers #[390, 221]] #[{ accessFlags := 0, nameIndex := 7, descriptorIndex := 8, attributes := #[] }] 48 4 #[] #[{ accessFlags := 4120, nameIndex := 121, descriptorIndex := 122, attributes := #[] }])
  fields := #[{ name := "$assertionsDisabled", type := .boolean, accessFlags := 4120, slot := 0, constantValue := 0 }]
  methods := #[k12m0]
  instanceTypes := #[]
  staticTypes := #[.boolean]
  resolved := Array.replicate 395 none
  statics := none }

def pool13 : Array CpInfo := pool [(2, .class_ 4), (1, u "java/lang/Object"), (0, u "<init>"), (0, u "()V"), (17, .class_ 26), (1, u "jdk/internal/util/Preconditions"), (28, .class_ 56), (0, u "jdk/internal/util/Preconditions$4"), (57, .class_ 115), (0, u "jdk/internal/util/Preconditions$1"), (7, u "SIOOBE_FORMATTER"), (0, u "Ljava/util/function/BiFunction;"), (0, .class_ 126), (0, u "jdk/internal/util/Preconditions$2"), (3, u "AIOOBE_FORMATTER"), (0, .class_ 132), (0, u "jdk/internal/util/Preconditions$3"), (3, u "IOOBE_FORMATTER")] 57

def k13m0 : Method := { name := "<init>", desc := "()V", sig := { parameters := [], returnType := none }, accessFlags := 1, code := none }
/-- jdk/internal/util/Preconditions -/
def k13 : Class := { plain "jdk/internal/util/Preconditions" (some 0) with
  accessFlags := 33
  interfaces := #[]
  cf := some (fileOf pool13 24 #[.nestMembers #[55, 131, 125, 114]] #[{ accessFlags := 1, nameIndex := 5, descriptorIndex := 6, attributes := #[] }] 33 2 #[] #[{ accessFlags := 25, nameIndex := 123, descriptorIndex := 124, attributes := #[] }, { accessFlags := 25, nameIndex := 130, descriptorIndex := 124, attributes := #[] }, { accessFlags := 25, nameIndex := 136, descriptorIndex := 124, attributes := #[] }])
  fields := #[{ name := "SIOOBE_FORMATTER", type := (.object "java/util/function/BiFunction"), accessFlags := 25, slot := 0, constantValue := 0 }, { name := "AIOOBE_FORMATTER", type := (.object "java/util/function/BiFunction"), accessFlags := 25, slot := 1, constantValue := 0 }, { name := "IOOBE_FORMATTER", type := (.object "java/util/function/BiFunction"), accessFlags := 25, slot := 2, constantValue := 0 }]
  methods := #[k13m0]
  instanceTypes := #[]
  staticTypes := #[(.object "java/util/function/BiFunction"), (.object "java/util/function/BiFunction"), (.object "java/util/function/BiFunction")]
  resolved := Array.replicate 194 none
  statics := some 1 }

def pool14 : Array CpInfo := pool [(9, u "<init>"), (6, .class_ 18), (1, u "java/lang/Object"), (0, u "()V"), (1, .class_ 23), (1, u "jdk/internal/util/ArraysSupport"), (0, u "LOG2_ARRAY_LONG_INDEX_SCALE"), (0, u "I"), (2, u "U"), (0, u "Ljdk/internal/misc/Unsafe;"), (8, u "BIG_ENDIAN"), (0, u "Z"), (8, u "LOG2_BYTE_BIT_SIZE"), (4, u "LOG2_ARRAY_INT_INDEX_SCALE"), (54, u "JLA"), (0, u "Ljdk/internal/access/JavaLangAccess;"), (11, u "LOG2_ARRAY_BOOLEAN_INDEX_SCALE"), (9, u "LOG2_ARRAY_BYTE_INDEX_SCALE"), (5, u "LOG2_ARRAY_CHAR_INDEX_SCALE"), (5, u "LOG2_ARRAY_SHORT_INDEX_SCALE"), (18, u "LOG2_ARRAY_FLOAT_INDEX_SCALE"), (24, u "LOG2_ARRAY_DOUBLE_INDEX_SCALE"), (89, u "T_BOOLEAN"), (2, u "T_CHAR"), (1, u "T_FLOAT"), (1, u "T_DOUBLE"), (1, u "T_BYTE"), (1, u "T_SHORT"), (1, u "T_INT"), (1, u "T_LONG"), (1, u "SOFT_MAX_ARRAY_LENGTH")] 83

def k14m0 : Method := { name := "<init>", desc := "()V", sig := { parameters := [], returnType := none }, accessFlags := 2, code := none }
/-- jdk/internal/util/ArraysSupport -/
def k14 : Class := { plain "jdk/internal/util/ArraysSupport" (some 0) with
  accessFlags := 33
  interfaces := #[]
  cf := some (fileOf pool14 21 #[] #[{ accessFlags := 2, nameIndex := 9, descriptorIndex := 19, attributes := #[] }] 33 16 #[] #[{ accessFlags := 24, nameIndex := 28, descriptorIndex := 29, attributes := #[] }, { accessFlags := 26, nameIndex := 38, descriptorIndex := 39, attributes := #[] }, { accessFlags := 25, nameIndex := 121, descriptorIndex := 25, attributes := #[] }, { accessFlags := 25, nameIndex := 131, descriptorIndex := 25, attributes := #[] }, { accessFlags := 25, nameIndex := 137, descriptorIndex := 25, attributes := #[] }, { accessFlags := 25, nameIndex := 143, descriptorIndex := 25, attributes := #[] }, { accessFlags := 25, nameIndex := 53, descriptorIndex := 25, attributes := #[] }, { accessFlags := 25, nameIndex := 24, descriptorIndex := 25, attributes := #[] }, { accessFlags := 25, nameIndex := 162, descriptorIndex := 25, attributes := #[] }, { accessFlags := 25, nameIndex := 187, descriptorIndex := 25, attributes := #[] }, { accessFlags := 26, nameIndex := 48, descriptorIndex := 25, attributes := #[] }, { accessFlags := 25, nameIndex := 277, descriptorIndex := 25, attributes := #[] }, { accessFlags := 25, nameIndex := 280, descriptorIndex := 25, attributes := #[] }, { accessFlags := 25, nameIndex := 282, descriptorIndex := 25, attributes := #[] }, { accessFlags := 25, nameIndex := 284, descriptorIndex := 25, attributes := #[] }, { accessFlags := 25, nameIndex := 286, descriptorIndex := 25, attributes := #[] }, { accessFlags := 25, nameIndex := 288, descriptorIndex := 25, attributes := #[] }, { accessFlags := 25, nameIndex := 290, descriptorIndex := 25, attributes := #[] }, { accessFlags := 25, nameIndex := 292, descriptorIndex := 25, attributes := #[] }, { accessFlags := 26, nameIndex := 108, descriptorIndex := 109, attributes := #[] }, { accessFlags := 25, nameIndex := 294, descriptorIndex := 25, attributes := #[] }])
  fields := #[{ name := "U", type := (.object "jdk/internal/misc/Unsafe"), accessFlags := 24, slot := 0, constantValue := 0 }, { name := "BIG_ENDIAN", type := .boolean, accessFlags := 26, slot := 1, constantValue := 0 }, { name := "LOG2_ARRAY_BOOLEAN_INDEX_SCALE", type := .int, accessFlags := 25, slot := 2, constantValue := 0 }, { name := "LOG2_ARRAY_BYTE_INDEX_SCALE", type := .int, accessFlags := 25, slot := 3, constantValue := 0 }, { name := "LOG2_ARRAY_CHAR_INDEX_SCALE", type := .int, accessFlags := 25, slot := 4, constantValue := 0 }, { name := "LOG2_ARRAY_SHORT_INDEX_SCALE", type := .int, accessFlags := 25, slot := 5, constantValue := 0 }, { name := "LOG2_ARRAY_INT_INDEX_SCALE", type := .int, accessFlags := 25, slot := 6, constantValue := 0 }, { name := "LOG2_ARRAY_LONG_INDEX_SCALE", type := .int, accessFlags := 25, slot := 7, constantValue := 0 }, { name := "LOG2_ARRAY_FLOAT_INDEX_SCALE", type := .int, accessFlags := 25, slot := 8, constantValue := 0 }, { name := "LOG2_ARRAY_DOUBLE_INDEX_SCALE", type := .int, accessFlags := 25, slot := 9, constantValue := 0 }, { name := "LOG2_BYTE_BIT_SIZE", type := .int, accessFlags := 26, slot := 10, constantValue := 0 }, { name := "T_BOOLEAN", type := .int, accessFlags := 25, slot := 11, constantValue := 0 }, { name := "T_CHAR", type := .int, accessFlags := 25, slot := 12, constantValue := 0 }, { name := "T_FLOAT", type := .int, accessFlags := 25, slot := 13, constantValue := 0 }, { name := "T_DOUBLE", type := .int, accessFlags := 25, slot := 14, constantValue := 0 }, { name := "T_BYTE", type := .int, accessFlags := 25, slot := 15, constantValue := 0 }, { name := "T_SHORT", type := .int, accessFlags := 25, slot := 16, constantValue := 0 }, { name := "T_INT", type := .int, accessFlags := 25, slot := 17, constantValue := 0 }, { name := "T_LONG", type := .int, accessFlags := 25, slot := 18, constantValue := 0 }, { name := "JLA", type := (.object "jdk/internal/access/JavaLangAccess"), accessFlags := 26, slot := 19, constantValue := 0 }, { name := "SOFT_MAX_ARRAY_LENGTH", type := .int, accessFlags := 25, slot := 20, constantValue := 0 }]
  methods := #[k14m0]
  instanceTypes := #[]
  staticTypes := #[(.object "jdk/internal/misc/Unsafe"), .boolean, .int, .int, .int, .int, .int, .int, .int, .int, .int, .int, .int, .int, .int, .int, .int, .int, .int, (.object "jdk/internal/access/JavaLangAccess"), .int]
  resolved := Array.replicate 378 none
  statics := none }

def pool15 : Array CpInfo := pool [(1, u "java/lang/Cloneable"), (0, .class_ 1), (0, u "java/lang/Object"), (0, .class_ 3)] 3

/-- java/lang/Cloneable -/
def k15 : Class := { plain "java/lang/Cloneable" (some 0) with
  accessFlags := 1537
  interfaces := #[]
  cf := some (fileOf pool15 2 #[] #[] 1537 4 #[] #[])
  fields := #[]
  methods := #[]
  instanceTypes := #[]
  staticTypes := #[]
  resolved := Array.replicate 8 none
  statics := none }

/-- the primitive byte -/
def k16 : Class := { plain "byte" none with kind := .primitive 'B', accessFlags := 0x411 }
/-- [B -/
def k17 : Class := { plain "[B" (some 0) with kind := .array 16 .byte, interfaces := #[15, 2], accessFlags := 1041 }

/-- the primitive char -/
def k18 : Class := { plain "char" none with kind := .primitive 'C', accessFlags := 0x411 }
/-- [C -/
def k19 : Class := { plain "[C" (some 0) with kind := .array 18 .char, interfaces := #[15, 2], accessFlags := 1041 }

/-- the primitive int -/
def k20 : Class := { plain "int" none with kind := .primitive 'I', accessFlags := 0x411 }
/-- [I -/
def k21 : Class := { plain "[I" (some 0) with kind := .array 20 .int, interfaces := #[15, 2], accessFlags := 1041 }

def heap : Heap := #[{ cls := 7, slots := #[.long 0, .int 1, .null, .int 0, .null, .int 0, .int 0], vm := .statics 7 },
  { cls := 13, slots := #[.null, .null, .null], vm := .statics 13 }]
def classes : Array Class := #[k0, k1, k2, k3, k4, k5, k6, k7, k8, k9, k10, k11, k12, k13, k14, k15, k16, k17, k18, k19, k20, k21]
def interned : List (Array UInt16 × Addr) := []
def slotsUsed : Nat := 10
def theMethod : MethodId := ⟨1, 1⟩
def args0 : Array Value := #[.int 3, .int 2, .int 5, .int 6, .int 65, .int 66]
def aboutOver (below : List Frame) : State where
  vm := { classes := classes, interned := interned.toArray }
  heap := heap
  slotsUsed := slotsUsed
  threads := #[{ frames := .invoking theMethod args0 :: below }]
def below0 : List Frame := [.native { method := ⟨0, 0⟩, args := #[] }]
def about1 : State := aboutOver below0
def p0 : Program := .bare "" "" ""
def e0 : Env := launch0.env 0 0 0
theorem w_frames : about1.frames = Frame.invoking theMethod args0 :: below0 := rfl
set_option maxRecDepth 65536 in
theorem w_args : argsFit about1.vm theMethod args0 = true := by decide +kernel
set_option maxRecDepth 65536 in
theorem w_heap : heapFits about1 = true := by decide +kernel
set_option maxRecDepth 65536 in
theorem w_runnable : about1.curStatus? = some .runnable := by decide +kernel
set_option maxRecDepth 65536 in
theorem w_alone : about1.alone = true := by decide +kernel
set_option maxRecDepth 65536 in
theorem w_named : about1.methodNamed? x = some theMethod := by decide +kernel
set_option maxRecDepth 65536 in
theorem w_hears : about1.hears theMethod below0 = true := by decide +kernel
set_option maxRecDepth 65536 in
theorem w_ripe : about1.ripe theMethod args0 below0 = true := by decide +kernel
theorem w_running : about1.status = .running := rfl
set_option maxRecDepth 65536 in
theorem w_room : about1.hasRoom e0.platform room_1 = true :=
  launch0.hasRoom_least _ room_1 (by decide +kernel) (by decide +kernel) (by decide +kernel) (by decide +kernel) (by decide +kernel) (by decide +kernel)
theorem allAtoms_all (ts : List Jvm.Cond) (a : Array Jvm.Value) (st : Jvm.State) : (allAtoms ts).before a st = ts.all (fun c => c.before a st) := by
  induction ts with
  | nil => rfl
  | cons c t ih =>
    show (Jvm.Cond.and c (allAtoms t)).before a st = _
    rw [Jvm.Cond.before_and, ih, List.all_cons]
def words1 : List Jvm.Cond := Jvm.Cond.code x code maxLocals ret :: tables_1
/-- a 'code' word, met by the world's own term for the bytes: nothing is compared byte by byte -/
theorem code_word {y : MethodName} {bytes : ByteArray} {mx : Nat} {rt : Option FieldType} {a : Array Value} {s : State} {m : MethodId} {meth : Method} {c : Code} (h1 : s.methodNamed? y = some m) (h2 : s.vm.method? m = some meth) (h3 : meth.code = some c) (h4 : c.code = bytes)
    (h5 : (c.maxLocals == mx && c.exceptionTable.isEmpty && decide (c.maxStack ≤ mostOperands) && decide (meth.sig.returnType = rt) && !meth.locks && decide (parseMethodDescriptor y.desc = some meth.sig)) = true) : (Jvm.Cond.code y bytes mx rt).before a s = true := by
  simp only [Bool.and_eq_true, beq_iff_eq, Bool.not_eq_true', decide_eq_true_eq] at h5
  obtain ⟨⟨⟨⟨⟨g1, g2⟩, g3⟩, g4⟩, g5⟩, g6⟩ := h5
  simp [Cond.before, Cond.holds, Cond.value, h1, h2, h3, h4, g1, g2, g3, g4, g5, g6]
def isCode : Jvm.Cond → Bool
  | .code _ _ _ _ => true
  | _ => false
theorem all_split {L : List Jvm.Cond} {P : Jvm.Cond → Bool} (h1 : L.all (fun c => isCode c || P c) = true) (h2 : ∀ c ∈ L.filter isCode, P c = true) : L.all P = true := by
  refine List.all_eq_true.mpr fun c hc => ?_
  have h := List.all_eq_true.mp h1 c hc
  rcases Bool.eq_false_or_eq_true (isCode c) with hi | hi
  · exact h2 c (List.mem_filter.mpr ⟨hc, hi⟩)
  · simpa [hi] using h
set_option maxRecDepth 65536 in
theorem w_c0 : (Jvm.Cond.code x code maxLocals ret).before args0 about1 = true := code_word (m := ⟨1, 1⟩) (meth := k1m1) (c := k1c1) (by decide +kernel) rfl rfl rfl (by decide +kernel)
set_option maxRecDepth 65536 in
theorem w_c1 : (Jvm.Cond.code ({ cls := "com/example/evenkey/evenkey/model/Column", name := "<init>", desc := "(Ljava/lang/String;[B)V" } : Jvm.MethodName) prog_6_method_1_code (3 : Nat) (Option.none : Option Jvm.ClassFile.FieldType)).before args0 about1 = true := code_word (m := ⟨9, 0⟩) (meth := k9m0) (c := k9c0) (by decide +kernel) rfl rfl rfl (by decide +kernel)
set_option maxRecDepth 65536 in
theorem w_c2 : (Jvm.Cond.code ({ cls := "java/lang/Record", name := "<init>", desc := "()V" } : Jvm.MethodName) jdk_30_method_1_code (1 : Nat) (Option.none : Option Jvm.ClassFile.FieldType)).before args0 about1 = true := code_word (m := ⟨8, 0⟩) (meth := k8m0) (c := k8c0) (by decide +kernel) rfl rfl rfl (by decide +kernel)
set_option maxRecDepth 65536 in
theorem w_c3 : (Jvm.Cond.code ({ cls := "java/lang/Object", name := "<init>", desc := "()V" } : Jvm.MethodName) object_method_1_code (1 : Nat) (Option.none : Option Jvm.ClassFile.FieldType)).before args0 about1 = true := code_word (m := ⟨0, 0⟩) (meth := k0m0) (c := k0c0) (by decide +kernel) rfl rfl rfl (by decide +kernel)
set_option maxRecDepth 65536 in
theorem w_c4 : (Jvm.Cond.code ({ cls := "java/util/Objects", name := "requireNonNull", desc := "(Ljava/lang/Object;Ljava/lang/String;)Ljava/lang/Object;" } : Jvm.MethodName) jdk_31_method_11_code (2 : Nat) (Option.some (Jvm.ClassFile.FieldType.object "java/lang/Object"))).before args0 about1 = true := code_word (m := ⟨10, 1⟩) (meth := k10m1) (c := k10c1) (by decide +kernel) rfl rfl rfl (by decide +kernel)
set_option maxRecDepth 65536 in
theorem w_c5 : (Jvm.Cond.code ({ cls := "com/example/evenkey/evenkey/model/Column", name := "hasQualifier", desc := "()Z" } : Jvm.MethodName) prog_6_method_4_code (1 : Nat) (Option.some Jvm.ClassFile.FieldType.boolean)).before args0 about1 = true := code_word (m := ⟨9, 1⟩) (meth := k9m1) (c := k9c1) (by decide +kernel) rfl rfl rfl (by decide +kernel)
set_option maxRecDepth 65536 in
theorem w_c6 : (Jvm.Cond.code ({ cls := "java/lang/String", name := "<init>", desc := "([C)V" } : Jvm.MethodName) jdk_42_method_3_code (2 : Nat) (Option.none : Option Jvm.ClassFile.FieldType)).before args0 about1 = true := code_word (m := ⟨7, 1⟩) (meth := k7m1) (c := k7c1) (by decide +kernel) rfl rfl rfl (by decide +kernel)
set_option maxRecDepth 65536 in
theorem w_c7 : (Jvm.Cond.code ({ cls := "java/lang/String", name := "<init>", desc := "([CIILjava/lang/Void;)V" } : Jvm.MethodName) jdk_42_method_149_code (6 : Nat) (Option.none : Option Jvm.ClassFile.FieldType)).before args0 about1 = true := code_word (m := ⟨7, 2⟩) (meth := k7m2) (c := k7c2) (by decide +kernel) rfl rfl rfl (by decide +kernel)
set_option maxRecDepth 65536 in
theorem w_c8 : (Jvm.Cond.code ({ cls := "java/lang/StringUTF16", name := "compress", desc := "([CII)[B" } : Jvm.MethodName) jdk_52_method_16_code (6 : Nat) (Option.some (Jvm.ClassFile.FieldType.array Jvm.ClassFile.FieldType.byte))).before args0 about1 = true := code_word (m := ⟨11, 2⟩) (meth := k11m2) (c := k11c2) (by decide +kernel) rfl rfl rfl (by decide +kernel)
set_option maxRecDepth 65536 in
theorem w_c9 : (Jvm.Cond.code ({ cls := "java/lang/StringUTF16", name := "compress", desc := "([CI[BII)I" } : Jvm.MethodName) jdk_52_method_21_code (7 : Nat) (Option.some Jvm.ClassFile.FieldType.int)).before args0 about1 = true := code_word (m := ⟨11, 3⟩) (meth := k11m3) (c := k11c3) (by decide +kernel) rfl rfl rfl (by decide +kernel)
set_option maxRecDepth 65536 in
theorem w_c10 : (Jvm.Cond.code ({ cls := "java/lang/StringUTF16", name := "coderFromArrayLen", desc := "([BI)B" } : Jvm.MethodName) jdk_52_method_15_code (2 : Nat) (Option.some Jvm.ClassFile.FieldType.byte)).before args0 about1 = true := code_word (m := ⟨11, 1⟩) (meth := k11m1) (c := k11c1) (by decide +kernel) rfl rfl rfl (by decide +kernel)
def codes1 : List Jvm.Cond := [Jvm.Cond.code x code maxLocals ret, Jvm.Cond.code ({ cls := "com/example/evenkey/evenkey/model/Column", name := "<init>", desc := "(Ljava/lang/String;[B)V" } : Jvm.MethodName) prog_6_method_1_code (3 : Nat) (Option.none : Option Jvm.ClassFile.FieldType), Jvm.Cond.code ({ cls := "java/lang/Record", name := "<init>", desc := "()V" } : Jvm.MethodName) jdk_30_method_1_code (1 : Nat) (Option.none : Option Jvm.ClassFile.FieldType), Jvm.Cond.code ({ cls := "java/lang/Object", name := "<init>", desc := "()V" } : Jvm.MethodName) object_method_1_code (1 : Nat) (Option.none : Option Jvm.ClassFile.FieldType), Jvm.Cond.code ({ cls := "java/util/Objects", name := "requireNonNull", desc := "(Ljava/lang/Object;Ljava/lang/String;)Ljava/lang/Object;" } : Jvm.MethodName) jdk_31_method_11_code (2 : Nat) (Option.some (Jvm.ClassFile.FieldType.object "java/lang/Object")), Jvm.Cond.code ({ cls := "com/example/evenkey/evenkey/model/Column", name := "hasQualifier", desc := "()Z" } : Jvm.MethodName) prog_6_method_4_code (1 : Nat) (Option.some Jvm.ClassFile.FieldType.boolean), Jvm.Cond.code ({ cls := "java/lang/String", name := "<init>", desc := "([C)V" } : Jvm.MethodName) jdk_42_method_3_code (2 : Nat) (Option.none : Option Jvm.ClassFile.FieldType), Jvm.Cond.code ({ cls := "java/lang/String", name := "<init>", desc := "([CIILjava/lang/Void;)V" } : Jvm.MethodName) jdk_42_method_149_code (6 : Nat) (Option.none : Option Jvm.ClassFile.FieldType), Jvm.Cond.code ({ cls := "java/lang/StringUTF16", name := "compress", desc := "([CII)[B" } : Jvm.MethodName) jdk_52_method_16_code (6 : Nat) (Option.some (Jvm.ClassFile.FieldType.array Jvm.ClassFile.FieldType.byte)), Jvm.Cond.code ({ cls := "java/lang/StringUTF16", name := "compress", desc := "([CI[BII)I" } : Jvm.MethodName) jdk_52_method_21_code (7 : Nat) (Option.some Jvm.ClassFile.FieldType.int), Jvm.Cond.code ({ cls := "java/lang/StringUTF16", name := "coderFromArrayLen", desc := "([BI)B" } : Jvm.MethodName) jdk_52_method_15_code (2 : Nat) (Option.some Jvm.ClassFile.FieldType.byte)]
set_option maxRecDepth 65536 in
theorem codes_eq : words1.filter isCode = codes1 := rfl
theorem w_codes : ∀ c ∈ words1.filter isCode, c.before args0 about1 = true := by
  rw [codes_eq]
  intro c hc
  simp only [codes1, List.mem_cons, List.not_mem_nil, or_false] at hc
  rcases hc with rfl | rfl | rfl | rfl | rfl | rfl | rfl | rfl | rfl | rfl | rfl
  · exact w_c0
  · exact w_c1
  · exact w_c2
  · exact w_c3
  · exact w_c4
  · exact w_c5
  · exact w_c6
  · exact w_c7
  · exact w_c8
  · exact w_c9
  · exact w_c10
set_option maxRecDepth 65536 in
theorem w_t1 : (words1.take 24).all (fun c => isCode c || c.before args0 about1) = true := by decide +kernel
set_option maxRecDepth 65536 in
theorem w_t2 : ((words1.drop 24).take 24).all (fun c => isCode c || c.before args0 about1) = true := by decide +kernel
set_option maxRecDepth 65536 in
theorem w_t3 : ((words1.drop 24).drop 24).all (fun c => isCode c || c.before args0 about1) = true := by decide +kernel
theorem w_tables : (allAtoms (Jvm.Cond.code x code maxLocals ret :: tables_1)).before args0 about1 = true := by
  rw [allAtoms_all]
  show words1.all (fun c => c.before args0 about1) = true
  refine all_split ?_ w_codes
  rw [← List.take_append_drop 24 words1, List.all_append, w_t1, ← List.take_append_drop 24 (words1.drop 24), List.all_append, w_t2, w_t3]
  rfl
set_option maxRecDepth 65536 in
theorem w_rest : rest_1_c.before args0 about1 = true := by decide +kernel
set_option maxRecDepth 65536 in
theorem w_case : (Jvm.Cond.and given_1 narrow_1).before args0 about1 = true := by decide +kernel
theorem w_applies : (headSpec (Jvm.Cond.code x code maxLocals ret :: tables_1) room_1).applies x e0.platform about1 = true :=
  (Spec.applies_iff w_frames).mpr ⟨w_running, w_runnable, w_alone, w_named, w_hears, w_ripe, w_room, w_tables⟩
theorem atStart : AtStart classFile x code maxLocals ret World_1 tables_1 room_1 Calls_1 rest_1 Pre_1 launch0 p0 e0 about1 theMethod args0 below0 :=
  ⟨lists_1, trivial, launch0.admits_env _ _ _, launch0.least_env, fairChoices_fair.cas, fairChoices_fair.clock, w_frames, w_args, w_heap, w_applies, trivial, w_rest, w_case⟩
end start1
theorem witness_1 : WitnessClaimed_1 := ⟨start1.p0, start1.e0, start1.about1, start1.theMethod, start1.args0, start1.below0, start1.atStart⟩
end Jvm.Pilot.@@N@@
