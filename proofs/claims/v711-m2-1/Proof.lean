import JvmDerived
import JvmDerived.Pilot.@@N@@Statement
import JvmDerived.Pilot.@@N@@Code
set_option linter.unusedVariables false
set_option linter.unusedSimpArgs false
namespace Jvm.RoadKit
open Sem ClassFile Op Lib Jvm.Stand Jvm.Free Jvm.LawKit
section New
variable {p : Program} {l : Launch} {e : Env} {R : Room} {s : State} {m : MethodId} {args : Array Value} {below : List Frame} {meth : Method} {c : Code} {T : State} {locs : List Loc} {cells slots : Nat}
theorem retI (X : Stand p l e R s m args below meth c T locs cells slots) (hx : p.tables.exec = Jvm.exec) {pc : Nat} {Ls : Array Slot} {z : Int32} {rest : List Value} (hret : meth.sig.returnType = some .int) (hd : decode c.code pc = .ok (.ireturn, 1)) {fs : List Frame}
    (hl : ∀ (f : JFrame) (acts : List Action), f.method = m → f.locked = none → f.entered = [] → (doReturn e (T.setTop f) acts (some (.int z))).1 = T.setFrames fs) : Steps p.tables e below (T.setTop (mkF m pc Ls (.int z :: rest))) (T.setFrames fs) := by
  have hm' : T.vm.method? m = some meth := X.method'
  have hn : narrow .int (.int z) = .int z := rfl
  show Steps p.tables e below (T.setTop { method := m, pc := pc, locals := Ls, stack := _ :: rest, locked := none }) _
  jvm_step X.here [X.here.top, hx, hd, hm', hret, hn]
  first | (intro acts; rw [hl _ acts rfl rfl rfl]) | rw [hl _ _ rfl rfl rfl]
  exact Steps.refl _
/-- the return of a reference, null or not -/
theorem own_retR (X : Stand p l e R s m args below meth c T locs cells slots) (hx : p.tables.exec = Jvm.exec) {pc : Nat} {Ls : Array Slot} {w : Value} {ty : FieldType} {rest : List Value} (hret : meth.sig.returnType = some ty) (ht : ty.isReference = true) (hw : w.isRef = true) (hd : decode c.code pc = .ok (.areturn, 1)) {fs : List Frame}
    (hl : ∀ (f : JFrame) (acts : List Action), f.method = m → f.locked = none → f.entered = [] → (doReturn e (T.setTop f) acts (some w)).1 = T.setFrames fs) : Steps p.tables e below (T.setTop (mkF m pc Ls (w :: rest))) (T.setFrames fs) := by
  have hm' : T.vm.method? m = some meth := X.method'
  show Steps p.tables e below (T.setTop { method := m, pc := pc, locals := Ls, stack := _ :: rest, locked := none }) _
  rcases ref_cases hw with rfl | ⟨z, rfl⟩
  all_goals
    jvm_step X.here [X.here.top, hx, hd, hm', hret, ht, Value.isRef]
    first | (intro acts; rw [hl _ acts rfl rfl rfl]) | rw [hl _ _ rfl rfl rfl]
    exact Steps.refl _
/-- what a walk owes from a state and a frame on -/
def own_G (p : Program) (e : Env) (below : List Frame) (s : State) (C N : Nat) (Q : Option Value → Heap → List Loc → Prop) (T : State) (g : JFrame) : Prop :=
  ∃ s₂ o, Steps p.tables e below (T.setTop g) s₂ ∧ s₂.status = .running ∧ Ended s₂ below o ∧ ∃ v L, o = .returned v ∧ Q v s₂.heap L ∧ FrameEnd s o s₂ L C N
variable {C N : Nat} {Q : Option Value → Heap → List Loc → Prop} {T' : State} {g g' : JFrame} {h : Heap}
theorem own_G.step (k : ∀ t, Steps p.tables e below (T'.setTop g') t → Steps p.tables e below (T.setTop g) t) (H : own_G p e below s C N Q T' g') : own_G p e below s C N Q T g := by
  obtain ⟨s₂, o, h1, r⟩ := H
  exact ⟨s₂, o, k _ h1, r⟩
theorem own_G.cast (q : g = g') (H : own_G p e below s C N Q T g') : own_G p e below s C N Q T g := by
  subst q
  exact H
theorem own_G.start (q : g = g') (H : own_G p e below s C N Q T g') : ∃ s₂ o, Steps p.tables e below (T.setTop g) s₂ ∧ s₂.status = .running ∧ Ended s₂ below o ∧ ∃ v L, o = .returned v ∧ Q v s₂.heap L ∧ FrameEnd s o s₂ L C N := by
  subst q
  exact H
theorem own_ret (X : Stand p l e R s m args below meth c T locs cells slots) (eT : T.heap = h) {v : Option Value} (hv : meth.sig.returnType = none → v = none) (hlk : meth.locks = false) (hq : Q v h locs) (hc : cells ≤ C) (hn : slots ≤ N)
    (st : ∀ fs, (∀ (f : JFrame) (acts : List Action), f.method = m → f.locked = none → f.entered = [] → (doReturn e (T.setTop f) acts v).1 = T.setFrames fs) → Steps p.tables e below (T.setTop g) (T.setFrames fs)) : own_G p e below s C N Q T g := by
  obtain ⟨fs, hr, hrun, hended, hW, hsame⟩ := X.leave (v := v) hv hlk
  subst eT
  exact ⟨_, _, st fs hr, hrun, hended, _, _, rfl, hq, ⟨_, rfl⟩, hW, hsame.mono hc hn⟩
/-- the same where String constants may be made on the way -/
def own_GW (p : Program) (e : Env) (below : List Frame) (s : State) (C N : Nat) (Q : Option Value → Heap → List Loc → Prop) (T : State) (g : JFrame) : Prop :=
  ∃ s₂ o, Steps p.tables e below (T.setTop g) s₂ ∧ s₂.status = .running ∧ Ended s₂ below o ∧ ∃ v L, o = .returned v ∧ Q v s₂.heap L ∧ ReturnedEndW s o s₂ L C N
theorem own_GW.step (k : ∀ t, Steps p.tables e below (T'.setTop g') t → Steps p.tables e below (T.setTop g) t) (H : own_GW p e below s C N Q T' g') : own_GW p e below s C N Q T g := by
  obtain ⟨s₂, o, h1, r⟩ := H
  exact ⟨s₂, o, k _ h1, r⟩
theorem own_GW.cast (q : g = g') (H : own_GW p e below s C N Q T g') : own_GW p e below s C N Q T g := by
  subst q
  exact H
theorem own_GW.start (q : g = g') (H : own_GW p e below s C N Q T g') : ∃ s₂ o, Steps p.tables e below (T.setTop g) s₂ ∧ s₂.status = .running ∧ Ended s₂ below o ∧ ∃ v L, o = .returned v ∧ Q v s₂.heap L ∧ ReturnedEndW s o s₂ L C N := by
  subst q
  exact H
theorem own_retW {vm₁ : Vm} {k : Nat} (X : Stand p l e R (s.setVm vm₁) m args below meth c T locs cells slots) (hS : s.Since vm₁ k) (eT : T.heap = h) (hk : k ≤ h.size) {v : Option Value} (hv : meth.sig.returnType = none → v = none) (hlk : meth.locks = false) (hq : Q v h locs) (hc : cells ≤ C) (hn : slots ≤ N)
    (st : ∀ fs, (∀ (f : JFrame) (acts : List Action), f.method = m → f.locked = none → f.entered = [] → (doReturn e (T.setTop f) acts v).1 = T.setFrames fs) → Steps p.tables e below (T.setTop g) (T.setFrames fs)) : own_GW p e below s C N Q T g := by
  obtain ⟨fs, hr, hrun, hended, hW, hsame⟩ := X.leave (v := v) hv hlk
  subst eT
  obtain ⟨a, b, d⟩ := hS.ended (U := T.setFrames fs) hW hk hsame
  exact ⟨_, _, st fs hr, hrun, hended, _, _, rfl, hq, ⟨_, rfl⟩, a, b, d.mono hc hn⟩
/-- the same where the held String constants are kept too -/
def own_GH (Z : State) (EL : List (String × Nat)) (p : Program) (e : Env) (below : List Frame) (s : State) (C N : Nat) (Q : Option Value → Heap → List Loc → Prop) (T : State) (g : JFrame) : Prop :=
  ∃ s₂ o, Steps p.tables e below (T.setTop g) s₂ ∧ s₂.status = .running ∧ Ended s₂ below o ∧ ∃ v L, o = .returned v ∧ Q v s₂.heap L ∧ CHr Z EL s.vm s.heap s₂.vm s₂.heap ∧ ReturnedEndW s o s₂ L C N
section HeldEnd
variable {Z : State} {EL : List (String × Nat)}
theorem own_GH.step (k : ∀ t, Steps p.tables e below (T'.setTop g') t → Steps p.tables e below (T.setTop g) t) (H : own_GH Z EL p e below s C N Q T' g') : own_GH Z EL p e below s C N Q T g := by
  obtain ⟨s₂, o, h1, r⟩ := H
  exact ⟨s₂, o, k _ h1, r⟩
theorem own_GH.cast (q : g = g') (H : own_GH Z EL p e below s C N Q T g') : own_GH Z EL p e below s C N Q T g := by
  subst q
  exact H
theorem own_GH.start (q : g = g') (H : own_GH Z EL p e below s C N Q T g') : ∃ s₂ o, Steps p.tables e below (T.setTop g) s₂ ∧ s₂.status = .running ∧ Ended s₂ below o ∧ ∃ v L, o = .returned v ∧ Q v s₂.heap L ∧ CHr Z EL s.vm s.heap s₂.vm s₂.heap ∧ ReturnedEndW s o s₂ L C N := by
  subst q
  exact H
theorem own_retH {vm₁ : Vm} {k : Nat} {h0 : Heap} {a0 : Array Value} (X : Stand p l e R (s.setVm vm₁) m args below meth c T locs cells slots) (hS : s.Since vm₁ k) (eT : T.heap = h) (hk : k ≤ h.size) (hZ : Z.Warmed39 vm₁) (ew : EW Z a0 EL) (hH : CHv Z EL vm₁ h) (hh : s.heap = h0) (hR : CHr Z EL s.vm h0 vm₁ h) {v : Option Value} (hv : meth.sig.returnType = none → v = none) (hlk : meth.locks = false) (hq : Q v h locs) (hc : cells ≤ C) (hn : slots ≤ N)
    (st : ∀ fs, (∀ (f : JFrame) (acts : List Action), f.method = m → f.locked = none → f.entered = [] → (doReturn e (T.setTop f) acts v).1 = T.setFrames fs) → Steps p.tables e below (T.setTop g) (T.setFrames fs)) : own_GH Z EL p e below s C N Q T g := by
  obtain ⟨fs, hr, hrun, hended, hW, hsame⟩ := X.leave (v := v) hv hlk
  subst eT
  subst hh
  have q := CHv.at X hZ ew hH
  obtain ⟨a, b, d⟩ := hS.ended (U := T.setFrames fs) hW hk hsame
  exact ⟨_, _, st fs hr, hrun, hended, _, _, rfl, hq, (show CHr Z EL s.vm s.heap (T.setFrames fs).vm (T.setFrames fs).heap from hR.trans q), ⟨_, rfl⟩, a, b, d.mono hc hn⟩
end HeldEnd
/-- an array of that length -/
def own_Len (Z : State) (h : Heap) (a : Addr) (n : Int32) : Prop := ∃ (c : Cell) (ty : FieldType), Arr Z h a c ty ∧ c.slots.size = n.toNatClampNeg ∧ ¬ n < 0
theorem own_Len.lt {Z : State} {a : Addr} {n : Int32} (F : own_Len Z h a n) : a < h.size := by
  obtain ⟨c, ty, A, -⟩ := F
  exact A.lt
theorem own_Len.ext {Z : State} {h' : Heap} {a : Addr} {n : Int32} (F : own_Len Z h a n) (E : Ext h h') : own_Len Z h' a n := by
  obtain ⟨c, ty, A, r⟩ := F
  exact ⟨c, ty, A.ext E, r⟩
theorem own_Len.other {Z : State} {h' : Heap} {a b : Addr} {n : Int32} {sl : Nat} {v : Value} (F : own_Len Z h b n) (W : Wr h h' a sl v) (q : b ≠ a) : own_Len Z h' b n := by
  obtain ⟨c, ty, A, r⟩ := F
  exact ⟨c, ty, A.other W q, r⟩
theorem own_Len.keep {Z : State} {h' : Heap} {a : Addr} {n : Int32} {ws : List Addr} (F : own_Len Z h a n) (K : Keep h h' ws) (q : a ∉ ws) : own_Len Z h' a n := by
  obtain ⟨c, ty, A, r⟩ := F
  exact ⟨c, ty, ⟨K.2.1 _ _ A.1 q, A.2⟩, r⟩
theorem own_Len.arv {Z : State} {a : Addr} {k : ClassId} {ty : FieldType} {n : Int32} {vs : List Value} {d : Value} (F : Arv Z h a k ty n vs d) : own_Len Z h a n := by
  obtain ⟨c, A, -, S, N, -⟩ := F
  exact ⟨c, ty, A, S, N⟩
theorem own_Len.start {Z : State} {a : Addr} {c : Cell} {ty : FieldType} {z : Int32} (A : Arr Z h a c ty) (q : c.slots.size < 2 ^ 31) (e : c.slots.size.toInt32 = z) (hz : ¬ z < 0) : own_Len Z h a z :=
  ⟨c, ty, A, by rw [← e]; simp only [Int32.toNatClampNeg, len_toInt q]; rfl, hz⟩
theorem own_join {α : Sort _} {P : α → Prop} {G : JFrame → Prop} {g : JFrame} (F : α → JFrame) (h1 : ∀ t, P t → G (F t)) (h2 : (∀ t, P t → G (F t)) → G g) : G g := h2 h1
/-- a byte of a byte[] -/
def own_At (Z : State) (h : Heap) (a : Addr) (i b : Int32) : Prop := ∃ c : Cell, Arr Z h a c .byte ∧ ¬ (i < 0 ∨ c.slots.size ≤ i.toNatClampNeg) ∧ c.slots[i.toNatClampNeg]? = some (.int b)
theorem own_At.arv {Z : State} {a : Addr} {k : ClassId} {n i b : Int32} {vs : List Value} {d : Value} (F : Arv Z h a k .byte n vs d) (h1 : ¬ i < 0 ∧ i < n) (h2 : vs.getD i.toNatClampNeg d = .int b) : own_At Z h a i b := by
  obtain ⟨c, A, -, S, N, H, -⟩ := F
  exact ⟨c, A, inb_of S h1, H.at (inb_of S h1) h2⟩
theorem own_cat {v : Value} (hv : v.isRef = true) : v.category = 1 := by rcases ref_cases hv with rfl | ⟨z, rfl⟩ <;> rfl
theorem own_fits {v : Value} {ty : FieldType} (hv : v.isRef = true) (ht : ty.isReference = true) : fits ty v = true := by
  rcases ref_cases hv with rfl | ⟨z, rfl⟩ <;> cases ty <;> first | rfl | (cases ht; done) | simp [fits]
theorem own_narrow {v : Value} {ty : FieldType} (hv : v.isRef = true) (ht : ty.isReference = true) : narrow ty v = v := by
  rcases ref_cases hv with rfl | ⟨z, rfl⟩ <;> cases ty <;> first | rfl | (cases ht; done)
theorem Old.le {Z : State} {n0 : Nat} (X : Old Z n0 h) : n0 ≤ h.size := X.1 ▸ X.2.1
end New
end Jvm.RoadKit
/- laws to paste: Road.backV (cut by pick.py; bodies as the Statement names them) -/
namespace Jvm.Pilot.@@N@@
namespace StrChars
open Jvm Sem ClassFile Op Lib Jvm.Stand Jvm.Free.XT Jvm.Free.ALB Jvm.Free.JM Jvm.Free
open Jvm.Lib.Cold (StaticIs)
/-- a char array whose places are chars -/
def Ch (a : Addr) (A : Cell) (U : State) : Prop := Arr .char a A U ∧ Typed .char A
theorem Ch.mv {a : Addr} {A : Cell} {U U' : State} (h : Ch a A U) (hal : U.vm.Alike U'.vm) (hh : U'.heap = U.heap) : Ch a A U' := ⟨h.1.mv hal hh, h.2⟩
theorem Ch.keep {a : Addr} {A : Cell} {U U' : State} (h : Ch a A U) (hal : U.vm.Alike U'.vm) (hk : U'.heap[a]? = some A) : Ch a A U' := ⟨h.1.keep hal hk, h.2⟩
/-- what place i of a char[]'s cell holds -/
def cv (A : Cell) (i : Nat) : Int32 := match A.slots[i]? with | some (.int x) => x | _ => 0
theorem Ch.get {a : Addr} {A : Cell} {U : State} (h : Ch a A U) {i : Nat} (hi : i < A.slots.size) : A.slots[i]? = some (.int (cv A i)) := by
  have e := Array.getElem?_eq_getElem hi
  have f := h.2 i _ e
  unfold cv; rw [e]
  generalize A.slots[i] = v at f
  cases v <;> simp [fits] at f ⊢
/-- the byte that i2b leaves of a char -/
def lo8 (x : Int32) : Int32 := x.toInt8.toInt32
theorem fits_lo8 (y : Int32) : fits .byte (.int (lo8 y)) = true := by
  have h1 := y.toInt8.le_toInt
  have h2 := y.toInt8.toInt_lt
  simp only [lo8, fits, Bool.and_eq_true, decide_eq_true_eq, Int32.le_iff_toInt_le, Int8.toInt_toInt32, show (-128 : Int32).toInt = -128 from by decide, show (127 : Int32).toInt = 127 from by decide]
  omega
/-- A' is A but that each place j of lo .. hi - 1 holds f j -/
def Laid (A A' : Cell) (lo hi : Nat) (f : Nat → Value) : Prop := A'.cls = A.cls ∧ A'.vm = A.vm ∧ A'.slots.size = A.slots.size ∧ ∀ i, A'.slots[i]? = if lo ≤ i ∧ i < hi then some (f i) else A.slots[i]?
theorem Laid.zero (A : Cell) (lo : Nat) (f : Nat → Value) : Laid A A lo (lo + 0) f := ⟨rfl, rfl, rfl, fun i => by rw [if_neg (by omega)]⟩
theorem Laid.step {A Ak : Cell} {lo k : Nat} {f : Nat → Value} {v : Value} (h : Laid A Ak lo k f) (hlo : lo ≤ k) (hk : k < Ak.slots.size) (hv : v = f k) : Laid A (Ak.setSlot k v) lo (k + 1) f := by
  refine ⟨h.1, h.2.1, by simpa [Cell.setSlot] using h.2.2.1, fun i => ?_⟩
  by_cases e : k = i
  · subst e; rw [Cell.slots_setSlot_self v hk, if_pos (by omega), hv]
  · rw [Cell.slots_setSlot_ne v e, h.2.2.2 i]
    by_cases q : lo ≤ i ∧ i < k
    · rw [if_pos q, if_pos (by omega)]
    · rw [if_neg q, if_neg (by omega)]
def U16 : String := "java/lang/StringUTF16"
namespace Cmp5
def yN : MethodName := ⟨"java/lang/StringUTF16", "compress", "([CI[BII)I"⟩
abbrev yB : ByteArray := jdk_52_method_21_code
theorem d0 : decode yB 0 = .ok (.iconst 0, 1) := by decide +kernel
theorem d1 : decode yB 1 = .ok (.istore 5, 2) := by decide +kernel
theorem d3 : decode yB 3 = .ok (.iload 5, 2) := by decide +kernel
theorem d5 : decode yB 5 = .ok (.iload 4, 2) := by decide +kernel
theorem d7 : decode yB 7 = .ok (.if_icmp (.ge) 37, 3) := by decide +kernel
theorem d10 : decode yB 10 = .ok (.aload_n 0, 1) := by decide +kernel
theorem d11 : decode yB 11 = .ok (.iload_n 1, 1) := by decide +kernel
theorem d12 : decode yB 12 = .ok (.caload, 1) := by decide +kernel
theorem d13 : decode yB 13 = .ok (.istore 6, 2) := by decide +kernel
theorem d15 : decode yB 15 = .ok (.iload 6, 2) := by decide +kernel
theorem d17 : decode yB 17 = .ok (.sipush 255, 3) := by decide +kernel
theorem d20 : decode yB 20 = .ok (.if_icmp (.le) 6, 3) := by decide +kernel
theorem d26 : decode yB 26 = .ok (.aload_n 2, 1) := by decide +kernel
theorem d27 : decode yB 27 = .ok (.iload_n 3, 1) := by decide +kernel
theorem d28 : decode yB 28 = .ok (.iload 6, 2) := by decide +kernel
theorem d30 : decode yB 30 = .ok (.i2b, 1) := by decide +kernel
theorem d31 : decode yB 31 = .ok (.bastore, 1) := by decide +kernel
theorem d32 : decode yB 32 = .ok (.iinc 1 1, 3) := by decide +kernel
theorem d35 : decode yB 35 = .ok (.iinc 3 1, 3) := by decide +kernel
theorem d38 : decode yB 38 = .ok (.iinc 5 1, 3) := by decide +kernel
theorem d41 : decode yB 41 = .ok (.goto (-38), 3) := by decide +kernel
theorem d44 : decode yB 44 = .ok (.iload 4, 2) := by decide +kernel
theorem d46 : decode yB 46 = .ok (.ireturn, 1) := by decide +kernel
def site : List Cond := []
def tab : Cond := tabOf yN yB 7 (some .int) site
def P (b : Addr) (A : Cell) (d : Addr) (B : Cell) (o q len : Nat) (args : Array Value) (s : State) : Prop := args = #[.ref b, .int (Int32.ofNat o), .ref d, .int (Int32.ofNat q), .int (Int32.ofNat len)] ∧ Ch b A s ∧ Arr .byte d B s ∧ b ≠ d ∧ o + len ≤ A.slots.size ∧ q + len ≤ B.slots.size ∧ ∀ i, i < len → ¬ 255 < cv A (o + i)
def E (b : Addr) (A : Cell) (d : Addr) (B : Cell) (o q len : Nat) (r : Option Value) (s u : State) : Prop := r = some (.int (Int32.ofNat len)) ∧ ∃ B', Put d B' s u ∧ Laid B B' q (q + len) (fun j => Value.int (lo8 (cv A (o + (j - q)))))
/-- no char of the range above 255: len; the places written hold each char's low byte -/
theorem law (l : Launch) (b : Addr) (A : Cell) (d : Addr) (B : Cell) (o q len : Nat) : Law l yN 5 5 0 0 yB 7 (some .int) site (P b A d B o q len) (E b A d B o q len) (copyLocs d q len) 0 0 := by
  refine Law.of_walk (plainFor_of_name (by decide +kernel)) (by decide +kernel) (by decide +kernel) (by decide) (fun _ _ h => by rw [h.1]; rfl) (fun _ U U' hal hh h => ⟨h.1, h.2.1.mv hal hh, h.2.2.1.mv hal hh, h.2.2.2⟩) (fun r U U' V V' h1 hal h2 h => ⟨h.1, h.2.elim fun B' q => ⟨B', q.1.mv h1 h2, q.2⟩⟩) ?_
  intro p e s m args below meth c s₁ X0 hexec hbytes hml hret hlk hnm hown hh0 W hP
  obtain ⟨rfl, hA, hB, hne, l1, l2, hp⟩ := hP
  have c1 : Steps p.tables e below (s₁.setTop (entryFrame m #[.ref b, .int (Int32.ofNat o), .ref d, .int (Int32.ofNat q), .int (Int32.ofNat len)] 7)) (s₁.setTop (mkF m 0 #[.val (.ref b), .val (.int (Int32.ofNat o)), .val (.ref d), .val (.int (Int32.ofNat q)), .val (.int (Int32.ofNat len)), .unset, .unset] [])) := entry rfl
  have hA0 := hA.1.mv X0.warmed.alike hh0
  have hB0 := hB.mv X0.warmed.alike hh0
  have a31 := hA.1.2.2.2
  have c2 : Steps p.tables e below (s₁.setTop (entryFrame m #[.ref b, .int (Int32.ofNat o), .ref d, .int (Int32.ofNat q), .int (Int32.ofNat len)] 7)) (s₁.setTop (mkF m 3 #[.val (.ref b), .val (.int (Int32.ofNat o)), .val (.ref d), .val (.int (Int32.ofNat q)), .val (.int (Int32.ofNat len)), .val (.int 0), .unset] [])) := c1.trans (by
    refine iconstV X0.here hexec rfl 0 (hb hbytes d0) (by decide) ?_
    refine XS.istore X0.here hexec rfl (hb hbytes d1) rfl rfl ?_
    exact Steps.refl _)
  have loop : ∀ (r i : Nat), i + r = len → ∀ (z : Slot), (z = .unset ∨ ∃ w, z = .val w ∧ w.category = 1) → ∀ (Tl : State) (Bk : Cell), Stand p l e { frames := 0, locals := 0, cells := 0, slots := 0 } s m #[.ref b, .int (Int32.ofNat o), .ref d, .int (Int32.ofNat q), .int (Int32.ofNat len)] below meth c Tl ([] ++ copyLocs d q i) 0 0 → Put d Bk s₁ Tl → Laid B Bk q (q + i) (fun j => Value.int (lo8 (cv A (o + (j - q))))) →
      Steps p.tables e below (s₁.setTop (entryFrame m #[.ref b, .int (Int32.ofNat o), .ref d, .int (Int32.ofNat q), .int (Int32.ofNat len)] 7)) (Tl.setTop (mkF m 3 #[.val (.ref b), .val (.int (Int32.ofNat (o + i))), .val (.ref d), .val (.int (Int32.ofNat (q + i))), .val (.int (Int32.ofNat len)), .val (.int (Int32.ofNat i)), z] [])) → ∃ (T' : State) (B' : Cell) (z' : Slot), Stand p l e { frames := 0, locals := 0, cells := 0, slots := 0 } s m #[.ref b, .int (Int32.ofNat o), .ref d, .int (Int32.ofNat q), .int (Int32.ofNat len)] below meth c T' ([] ++ copyLocs d q len) 0 0 ∧ Put d B' s₁ T' ∧ Laid B B' q (q + len) (fun j => Value.int (lo8 (cv A (o + (j - q))))) ∧
      Steps p.tables e below (s₁.setTop (entryFrame m #[.ref b, .int (Int32.ofNat o), .ref d, .int (Int32.ofNat q), .int (Int32.ofNat len)] 7)) (T'.setTop (mkF m 3 #[.val (.ref b), .val (.int (Int32.ofNat (o + len))), .val (.ref d), .val (.int (Int32.ofNat (q + len))), .val (.int (Int32.ofNat len)), .val (.int (Int32.ofNat len)), z'] [])) := by
    intro r
    induction r with
    | zero =>
      intro i hi z hz Tl Bk Xl pl fl cl
      have hil : i = len := by omega
      rw [hil] at Xl fl cl
      exact ⟨Tl, Bk, z, Xl, pl, fl, cl⟩
    | succ r ih =>
      intro i hi z hz Tl Bk Xl pl fl cl
      have all := X0.warmed.alike.symm.trans Xl.warmed.alike
      have hAl := hA0.keep all (pl.other hne hA0.1)
      have hBk := hB0.like all pl.1 fl.1 fl.2.1 fl.2.2.1
      have hlt : q + i < Bk.slots.size := by rw [fl.2.2.1]; omega
      have c3 : Steps p.tables e below (s₁.setTop (entryFrame m #[.ref b, .int (Int32.ofNat o), .ref d, .int (Int32.ofNat q), .int (Int32.ofNat len)] 7)) (Tl.setTop (mkF m 12 #[.val (.ref b), .val (.int (Int32.ofNat (o + i))), .val (.ref d), .val (.int (Int32.ofNat (q + i))), .val (.int (Int32.ofNat len)), .val (.int (Int32.ofNat i)), z] [.int (Int32.ofNat (o + i)), .ref b])) := cl.trans (by
        refine XS.iload Xl.here hexec rfl (hb hbytes d3) rfl ?_
        refine XS.iload Xl.here hexec rfl (hb hbytes d5) rfl ?_
        refine XS.icmpNo Xl.here hexec rfl (hb hbytes d7) rfl (ii_ge_f (lt32 (by omega) (by omega))) ?_
        refine XS.aloadN Xl.here hexec rfl (hb hbytes d10) rfl rfl ?_
        refine XS.iloadN Xl.here hexec rfl (hb hbytes d11) rfl ?_
        exact Steps.refl _)
      have c4 : Steps p.tables e below (s₁.setTop (entryFrame m #[.ref b, .int (Int32.ofNat o), .ref d, .int (Int32.ofNat q), .int (Int32.ofNat len)] 7)) (Tl.setTop (mkF m 13 #[.val (.ref b), .val (.int (Int32.ofNat (o + i))), .val (.ref d), .val (.int (Int32.ofNat (q + i))), .val (.int (Int32.ofNat len)), .val (.int (Int32.ofNat i)), z] [.int (cv A (o + i))])) := c3.trans (by
        refine Xl.aget hexec hAl rfl (hA.get (i := o + i) (by omega)) rfl rfl (hb hbytes d12) ?_
        exact Steps.refl _)
      have c5 : Steps p.tables e below (s₁.setTop (entryFrame m #[.ref b, .int (Int32.ofNat o), .ref d, .int (Int32.ofNat q), .int (Int32.ofNat len)] 7)) (Tl.setTop (mkF m 15 #[.val (.ref b), .val (.int (Int32.ofNat (o + i))), .val (.ref d), .val (.int (Int32.ofNat (q + i))), .val (.int (Int32.ofNat len)), .val (.int (Int32.ofNat i)), .val (.int (cv A (o + i)))] [])) := c4.trans (by
        refine XS.istoreS Xl.here hexec rfl (hb hbytes d13) rfl rfl hz ?_
        exact Steps.refl _)
      have c6 : Steps p.tables e below (s₁.setTop (entryFrame m #[.ref b, .int (Int32.ofNat o), .ref d, .int (Int32.ofNat q), .int (Int32.ofNat len)] 7)) (Tl.setTop (mkF m 31 #[.val (.ref b), .val (.int (Int32.ofNat (o + i))), .val (.ref d), .val (.int (Int32.ofNat (q + i))), .val (.int (Int32.ofNat len)), .val (.int (Int32.ofNat i)), .val (.int (cv A (o + i)))] [.int (lo8 (cv A (o + i))), .int (Int32.ofNat (q + i)), .ref d])) := c5.trans (by
        refine XS.iload Xl.here hexec rfl (hb hbytes d15) rfl ?_
        refine sipushV Xl.here hexec rfl 255 (hb hbytes d17) (by decide) ?_
        refine XS.icmpYes Xl.here hexec rfl (pc0 := 20) rfl (hb hbytes d20) rfl (ii_le_t (hp i (by omega))) (by decide) rfl ?_
        refine XS.aloadN Xl.here hexec rfl (hb hbytes d26) rfl rfl ?_
        refine XS.iloadN Xl.here hexec rfl (hb hbytes d27) rfl ?_
        refine XS.iload Xl.here hexec rfl (hb hbytes d28) rfl ?_
        refine i2b Xl.here hexec rfl (hb hbytes d30) rfl ?_
        exact Steps.refl _)
      obtain ⟨T7, X7, p7, st7⟩ := Xl.aput hexec hBk rfl hlt rfl (fits_lo8 (cv A (o + i))) (g := (mkF m 31 #[.val (.ref b), .val (.int (Int32.ofNat (o + i))), .val (.ref d), .val (.int (Int32.ofNat (q + i))), .val (.int (Int32.ofNat len)), .val (.int (Int32.ofNat i)), .val (.int (cv A (o + i)))] [.int (lo8 (cv A (o + i))), .int (Int32.ofNat (q + i)), .ref d])) rfl (rest := []) rfl (hb hbytes d31)
      have c8 : Steps p.tables e below (s₁.setTop (entryFrame m #[.ref b, .int (Int32.ofNat o), .ref d, .int (Int32.ofNat q), .int (Int32.ofNat len)] 7)) (T7.setTop (mkF m 32 #[.val (.ref b), .val (.int (Int32.ofNat (o + i))), .val (.ref d), .val (.int (Int32.ofNat (q + i))), .val (.int (Int32.ofNat len)), .val (.int (Int32.ofNat i)), .val (.int (cv A (o + i)))] [])) := c6.trans (st7 _ (Steps.refl _))
      have c9 : Steps p.tables e below (s₁.setTop (entryFrame m #[.ref b, .int (Int32.ofNat o), .ref d, .int (Int32.ofNat q), .int (Int32.ofNat len)] 7)) (T7.setTop (mkF m 3 #[.val (.ref b), .val (.int (Int32.ofNat (o + i) + 1)), .val (.ref d), .val (.int (Int32.ofNat (q + i) + 1)), .val (.int (Int32.ofNat len)), .val (.int (Int32.ofNat i + 1)), .val (.int (cv A (o + i)))] [])) := c8.trans (by
        refine iincV X7.here hexec rfl 1 (hb hbytes d32) (by decide) rfl rfl ?_
        refine iincV X7.here hexec rfl 1 (hb hbytes d35) (by decide) rfl rfl ?_
        refine iincV X7.here hexec rfl 1 (hb hbytes d38) (by decide) rfl rfl ?_
        refine XS.goto X7.here hexec rfl (pc0 := 41) rfl (hb hbytes d41) (by decide) rfl ?_
        exact Steps.refl _)
      have c10 : Steps p.tables e below (s₁.setTop (entryFrame m #[.ref b, .int (Int32.ofNat o), .ref d, .int (Int32.ofNat q), .int (Int32.ofNat len)] 7)) (T7.setTop (mkF m 3 #[.val (.ref b), .val (.int (Int32.ofNat (o + (i + 1)))), .val (.ref d), .val (.int (Int32.ofNat (q + (i + 1)))), .val (.int (Int32.ofNat len)), .val (.int (Int32.ofNat (i + 1))), .val (.int (cv A (o + i)))] [])) := by
        have := c9
        rw [succ32, succ32, succ32] at this
        exact this
      exact ih (i + 1) (by omega) _ (Or.inr ⟨_, rfl, rfl⟩) T7 _ (by rw [copyLocs_step, ← List.append_assoc]; exact X7) (pl.trans p7) (fl.step (by omega) hlt (by simp)) c10
  obtain ⟨T9, B9, z9, X9, p9, f9, g9⟩ := loop len 0 (by omega) .unset (Or.inl rfl) s₁ B (by simpa [copyLocs] using X0) ⟨hB0.1, fun _ _ => rfl, rfl⟩ (Laid.zero _ _ _) c2
  have c11 : Steps p.tables e below (s₁.setTop (entryFrame m #[.ref b, .int (Int32.ofNat o), .ref d, .int (Int32.ofNat q), .int (Int32.ofNat len)] 7)) (T9.setTop (mkF m 46 #[.val (.ref b), .val (.int (Int32.ofNat (o + len))), .val (.ref d), .val (.int (Int32.ofNat (q + len))), .val (.int (Int32.ofNat len)), .val (.int (Int32.ofNat len)), z9] [.int (Int32.ofNat len)])) := g9.trans (by
    refine XS.iload X9.here hexec rfl (hb hbytes d3) rfl ?_
    refine XS.iload X9.here hexec rfl (hb hbytes d5) rfl ?_
    refine XS.icmpYes X9.here hexec rfl (pc0 := 7) rfl (hb hbytes d7) rfl (ii_ge_t (nlt32 (by omega) (Nat.le_refl _))) (by decide) rfl ?_
    refine XS.iload X9.here hexec rfl (hb hbytes d44) rfl ?_
    exact Steps.refl _)
  exact ⟨T9, some (.int (Int32.ofNat len)), _, _, _, X9, by simp, rfl, rfl, (fun h => by cases h), ⟨rfl, B9, p9.from hh0, f9⟩, fun fs hl => c11.trans (X9.ireturnOut hexec hret rfl (Or.inl rfl) (hb hbytes d46) hl)⟩
end Cmp5
namespace Cmp3
def yN : MethodName := ⟨"java/lang/StringUTF16", "compress", "([CII)[B"⟩
abbrev yB : ByteArray := jdk_52_method_16_code
theorem d0 : decode yB 0 = .ok (.iload_n 2, 1) := by decide +kernel
theorem d1 : decode yB 1 = .ok (.newarray .byte, 2) := by decide +kernel
theorem d3 : decode yB 3 = .ok (.astore_n 3, 1) := by decide +kernel
theorem d4 : decode yB 4 = .ok (.aload_n 0, 1) := by decide +kernel
theorem d5 : decode yB 5 = .ok (.iload_n 1, 1) := by decide +kernel
theorem d6 : decode yB 6 = .ok (.aload_n 3, 1) := by decide +kernel
theorem d7 : decode yB 7 = .ok (.iconst 0, 1) := by decide +kernel
theorem d8 : decode yB 8 = .ok (.iload_n 2, 1) := by decide +kernel
theorem d9 : decode yB 9 = .ok (.invokestatic 115, 3) := by decide +kernel
theorem d12 : decode yB 12 = .ok (.istore 4, 2) := by decide +kernel
theorem d14 : decode yB 14 = .ok (.iload 4, 2) := by decide +kernel
theorem d16 : decode yB 16 = .ok (.iload_n 2, 1) := by decide +kernel
theorem d17 : decode yB 17 = .ok (.if_icmp (.eq) 40, 3) := by decide +kernel
theorem d57 : decode yB 57 = .ok (.aload_n 3, 1) := by decide +kernel
theorem d58 : decode yB 58 = .ok (.areturn, 1) := by decide +kernel
def site : List Cond := [.arrayClass .byte, Cmp5.tab] ++ staticW U16 115 Cmp5.yN
def tab : Cond := tabOf yN yB 6 (some (.array .byte)) site
def P (b : Addr) (A : Cell) (o len : Nat) (args : Array Value) (s : State) : Prop := args = #[.ref b, .int (Int32.ofNat o), .int (Int32.ofNat len)] ∧ Ch b A s ∧ o + len ≤ A.slots.size ∧ len ≤ 536870912 ∧ ∀ i, i < len → ¬ 255 < cv A (o + i)
def E (b : Addr) (A : Cell) (o len : Nat) (r : Option Value) (s u : State) : Prop := NewArr .byte "[B" len (fun j => .int (lo8 (cv A (o + j)))) r s u ∧ u.heap.size = s.heap.size + 1
/-- no char of the range above 255: a new byte[] of their low bytes -/
theorem law (l : Launch) (b : Addr) (A : Cell) (o len : Nat) : Law l yN 3 3 1 18 yB 6 (some (.array .byte)) site (P b A o len) (E b A o len) [] 1 len := by
  refine Law.of_walk (plainFor_of_name (by decide +kernel)) (by decide +kernel) (by decide +kernel) (by decide) (fun _ _ h => by rw [h.1]; rfl) (fun _ U U' hal hh h => ⟨h.1, h.2.1.mv hal hh, h.2.2⟩) (fun r U U' V V' h1 hal h2 h => ⟨NewArr.mv r U U' V V' h1 hal h2 h.1, by rw [h1, h2]; exact h.2⟩) ?_
  intro p e s m args below meth c s₁ X0 hexec hbytes hml hret hlk hnm hown hh0 W hP
  obtain ⟨rfl, hA, l1, l2, hp⟩ := hP
  have a31 := hA.1.2.2.2
  have c1 : Steps p.tables e below (s₁.setTop (entryFrame m #[.ref b, .int (Int32.ofNat o), .int (Int32.ofNat len)] 6)) (s₁.setTop (mkF m 0 #[.val (.ref b), .val (.int (Int32.ofNat o)), .val (.int (Int32.ofNat len)), .unset, .unset, .unset] [])) := entry rfl
  have c2 : Steps p.tables e below (s₁.setTop (entryFrame m #[.ref b, .int (Int32.ofNat o), .int (Int32.ofNat len)] 6)) (s₁.setTop (mkF m 1 #[.val (.ref b), .val (.int (Int32.ofNat o)), .val (.int (Int32.ofNat len)), .unset, .unset, .unset] [.int (Int32.ofNat len)])) := c1.trans (by
    refine XS.iloadN X0.here hexec rfl (hb hbytes d0) rfl ?_
    exact Steps.refl _)
  obtain ⟨T3, B3, X3, ba3, bs3, bv3, bh3, bf3, st3⟩ := X0.anew hexec (atype := .byte) (wk W (.arrayClass .byte)) rfl (by show len * 1 ≤ _; omega) (by omega) (g := (mkF m 1 #[.val (.ref b), .val (.int (Int32.ofNat o)), .val (.int (Int32.ofNat len)), .unset, .unset, .unset] [.int (Int32.ofNat len)])) rfl (hb hbytes d1) (rest := []) rfl (Nat.le_refl _) (by show 0 + len ≤ len; omega)
  rw [hh0] at ba3 st3
  have kp3 : XT.Kept s T3 := (XT.Kept.of_eq hh0).push bh3
  have hA3 := hA.keep X3.warmed.alike (kp3 _ _ hA.1.1)
  have hne : b ≠ s.heap.size := hA.1.ne
  have c4 : Steps p.tables e below (s₁.setTop (entryFrame m #[.ref b, .int (Int32.ofNat o), .int (Int32.ofNat len)] 6)) (T3.setTop (mkF m 3 #[.val (.ref b), .val (.int (Int32.ofNat o)), .val (.int (Int32.ofNat len)), .unset, .unset, .unset] [.ref s.heap.size])) := c2.trans (st3 _ (Steps.refl _))
  have c5 : Steps p.tables e below (s₁.setTop (entryFrame m #[.ref b, .int (Int32.ofNat o), .int (Int32.ofNat len)] 6)) (T3.setTop (mkF m 9 #[.val (.ref b), .val (.int (Int32.ofNat o)), .val (.int (Int32.ofNat len)), .val (.ref s.heap.size), .unset, .unset] [.int (Int32.ofNat len), .int 0, .ref s.heap.size, .int (Int32.ofNat o), .ref b])) := c4.trans (by
    refine XS.astoreN X3.here hexec rfl (hb hbytes d3) rfl rfl rfl ?_
    refine XS.aloadN X3.here hexec rfl (hb hbytes d4) rfl rfl ?_
    refine XS.iloadN X3.here hexec rfl (hb hbytes d5) rfl ?_
    refine XS.aloadN X3.here hexec rfl (hb hbytes d6) rfl rfl ?_
    refine iconstV X3.here hexec rfl 0 (hb hbytes d7) (by decide) ?_
    refine XS.iloadN X3.here hexec rfl (hb hbytes d8) rfl ?_
    exact Steps.refl _)
  obtain ⟨v6, T6, X6, E6, g6⟩ := X3.callS hexec (Cmp5.law l b A s.heap.size B3 o 0 len) hown (wks W (staticW U16 115 Cmp5.yN)) (wk W Cmp5.tab) (W := 0) (Nat.le_of_ble_eq_true rfl) (Nat.le_of_ble_eq_true rfl) (Nat.le_refl _) (by show 0 + len + 0 ≤ len; omega) (g := (mkF m 9 #[.val (.ref b), .val (.int (Int32.ofNat o)), .val (.int (Int32.ofNat len)), .val (.ref s.heap.size), .unset, .unset] [.int (Int32.ofNat len), .int (Int32.ofNat 0), .ref s.heap.size, .int (Int32.ofNat o), .ref b])) rfl (by rw [hml]; rfl) c5 (argsL := [.ref b, .int (Int32.ofNat o), .ref s.heap.size, .int (Int32.ofNat 0), .int (Int32.ofNat len)]) (rest := []) rfl rfl (by show 2 * 0 + 0 ≤ _; decide) (hb hbytes d9) (⟨rfl, hA3, ba3, hne, l1, by rw [bs3]; simp, hp⟩)
  obtain ⟨rfl, B6, p6, f6⟩ := E6
  have c7 : Steps p.tables e below (s₁.setTop (entryFrame m #[.ref b, .int (Int32.ofNat o), .int (Int32.ofNat len)] 6)) (T6.setTop (mkF m 12 #[.val (.ref b), .val (.int (Int32.ofNat o)), .val (.int (Int32.ofNat len)), .val (.ref s.heap.size), .unset, .unset] [.int (Int32.ofNat len)])) := g6
  have c8 : Steps p.tables e below (s₁.setTop (entryFrame m #[.ref b, .int (Int32.ofNat o), .int (Int32.ofNat len)] 6)) (T6.setTop (mkF m 58 #[.val (.ref b), .val (.int (Int32.ofNat o)), .val (.int (Int32.ofNat len)), .val (.ref s.heap.size), .val (.int (Int32.ofNat len)), .unset] [.ref s.heap.size])) := c7.trans (by
    refine XS.istore X6.here hexec rfl (hb hbytes d12) rfl rfl ?_
    refine XS.iload X6.here hexec rfl (hb hbytes d14) rfl ?_
    refine XS.iloadN X6.here hexec rfl (hb hbytes d16) rfl ?_
    refine XS.icmpYes X6.here hexec rfl (pc0 := 17) rfl (hb hbytes d17) rfl (ii_eq_t rfl) (by decide) rfl ?_
    refine XS.aloadN X6.here hexec rfl (hb hbytes d57) rfl rfl ?_
    exact Steps.refl _)
  have X8 := X6.wide (L' := []) (cells' := 1) (slots' := len) (fun x hx hlt => by
    simp only [List.nil_append, copyLocs, List.mem_map, List.mem_range] at hx
    obtain ⟨i, -, rfl⟩ := hx
    exact absurd hlt (Nat.lt_irrefl _)) (Nat.le_refl _) (by omega)
  exact ⟨T6, some (.ref s.heap.size), _, _, _, X8, rfl, rfl, rfl, (fun h => by cases h), ⟨⟨rfl, B6, ba3.like (X3.warmed.alike.symm.trans X6.warmed.alike) p6.1 f6.1 f6.2.1 f6.2.2.1, f6.2.1.trans bv3, by rw [X6.warmed.alike.findClass, f6.1]; exact bf3, by rw [f6.2.2.1, bs3]; simp, fun j hj => by rw [f6.2.2.2 j, if_pos (by omega)]; rfl, kp3.put p6 (Nat.le_refl _)⟩, by rw [p6.2.2, bh3, hh0]; simp⟩, fun fs hl => c8.trans (X8.areturnOut hexec rfl hret rfl (hb hbytes d58) hl)⟩
end Cmp3
namespace CodL
def yN : MethodName := ⟨"java/lang/StringUTF16", "coderFromArrayLen", "([BI)B"⟩
abbrev yB : ByteArray := jdk_52_method_15_code
theorem d0 : decode yB 0 = .ok (.iload_n 1, 1) := by decide +kernel
theorem d1 : decode yB 1 = .ok (.aload_n 0, 1) := by decide +kernel
theorem d2 : decode yB 2 = .ok (.arraylength, 1) := by decide +kernel
theorem d3 : decode yB 3 = .ok (.isub, 1) := by decide +kernel
theorem d4 : decode yB 4 = .ok (.bipush 31, 2) := by decide +kernel
theorem d6 : decode yB 6 = .ok (.iushr, 1) := by decide +kernel
theorem d7 : decode yB 7 = .ok (.i2b, 1) := by decide +kernel
theorem d8 : decode yB 8 = .ok (.ireturn, 1) := by decide +kernel
def site : List Cond := []
def tab : Cond := tabOf yN yB 2 (some .byte) site
def P (d : Addr) (B : Cell) (args : Array Value) (s : State) : Prop := args = #[.ref d, .int (Int32.ofNat B.slots.size)] ∧ Arr .byte d B s
def E (r : Option Value) (s u : State) : Prop := XT.PureE (some (.int 0)) r s u
/-- an array as long as the number of chars: LATIN1 -/
theorem law (l : Launch) (d : Addr) (B : Cell) : Law l yN 2 2 0 0 yB 2 (some .byte) site (P d B) E [] 0 0 := by
  refine Law.of_walk (plainFor_of_name (by decide +kernel)) (by decide +kernel) (by decide +kernel) (by decide) (fun _ _ h => by rw [h.1]; rfl) (fun _ U U' hal hh h => ⟨h.1, h.2.mv hal hh⟩) (fun r U U' V V' h1 hal h2 h => XT.PureE.mv r U U' V V' h1 hal h2 h) ?_
  intro p e s m args below meth c s₁ X0 hexec hbytes hml hret hlk hnm hown hh0 W hP
  obtain ⟨rfl, hB⟩ := hP
  have hB0 := hB.mv X0.warmed.alike hh0
  have c1 : Steps p.tables e below (s₁.setTop (entryFrame m #[.ref d, .int (Int32.ofNat B.slots.size)] 2)) (s₁.setTop (mkF m 0 #[.val (.ref d), .val (.int (Int32.ofNat B.slots.size))] [])) := entry rfl
  have c2 : Steps p.tables e below (s₁.setTop (entryFrame m #[.ref d, .int (Int32.ofNat B.slots.size)] 2)) (s₁.setTop (mkF m 2 #[.val (.ref d), .val (.int (Int32.ofNat B.slots.size))] [.ref d, .int (Int32.ofNat B.slots.size)])) := c1.trans (by
    refine XS.iloadN X0.here hexec rfl (hb hbytes d0) rfl ?_
    refine XS.aloadN X0.here hexec rfl (hb hbytes d1) rfl rfl ?_
    exact Steps.refl _)
  have c3 : Steps p.tables e below (s₁.setTop (entryFrame m #[.ref d, .int (Int32.ofNat B.slots.size)] 2)) (s₁.setTop (mkF m 8 #[.val (.ref d), .val (.int (Int32.ofNat B.slots.size))] [.int (lo8 (ushr (Int32.ofNat B.slots.size - Int32.ofNat B.slots.size) 31))])) := c2.trans (by
    refine X0.alen hexec hB0 rfl rfl (hb hbytes d2) ?_
    refine XS.isub X0.here hexec rfl (hb hbytes d3) rfl ?_
    refine bipushV X0.here hexec rfl 31 (hb hbytes d4) (by decide) ?_
    refine iushr X0.here hexec rfl (hb hbytes d6) rfl ?_
    refine i2b X0.here hexec rfl (hb hbytes d7) rfl ?_
    exact Steps.refl _)
  have e0 : lo8 (ushr (Int32.ofNat B.slots.size - Int32.ofNat B.slots.size) 31) = 0 := by rw [Int32.sub_self]; decide
  rw [e0] at c3
  exact ⟨s₁, some (.int 0), _, _, _, X0, rfl, rfl, rfl, (fun h => by cases h), ⟨rfl, hh0⟩, fun fs hl => c3.trans (X0.ireturnOut hexec hret rfl (Or.inr (Or.inr (Or.inl rfl))) (hb hbytes d8) hl)⟩
end CodL
/-- the String at a is Latin-1 over a new byte[] (the heap's one new cell): the low bytes of the len chars of A from o on; every cell but a is kept -/
def Got (a : Addr) (D : Cell) (fV fC : Field) (A : Cell) (o len : Nat) (r : Option Value) (s u : State) : Prop := r = none ∧ ∃ D' V : Cell, Blank "java/lang/String" a D' u ∧ Same D D' [fV.slot, fC.slot] ∧ D'.slots[fV.slot]? = some (.ref s.heap.size) ∧ D'.slots[fC.slot]? = some (.int 0) ∧ Arr .byte s.heap.size V u ∧ V.vm = .none ∧ u.vm.findClass "[B" = some V.cls ∧ V.slots.size = len ∧ (∀ j, j < len → V.slots[j]? = some (.int (lo8 (cv A (o + j))))) ∧ (∀ (y : Addr) (c : Cell), y ≠ a → s.heap[y]? = some c → u.heap[y]? = some c) ∧ u.heap.size = s.heap.size + 1
theorem Got.mv {a : Addr} {D A : Cell} {fV fC : Field} {o len : Nat} : ∀ r (U U' V V' : State), U'.heap = U.heap → V.vm.Alike V'.vm → V'.heap = V.heap → Got a D fV fC A o len r U V → Got a D fV fC A o len r U' V' :=
  fun r U U' V V' h1 hal h2 ⟨e0, D', X, a1, a2, a3, a4, a5, a6, a7, a8, a9, a10, a11⟩ => ⟨e0, D', X, a1.mv hal h2, a2, by rw [h1]; exact a3, a4, by rw [h1]; exact a5.mv hal h2, a6, by rw [hal.findClass]; exact a7, a8, a9, by rw [h1, h2]; exact a10, by rw [h1, h2]; exact a11⟩
namespace New4
def yN : MethodName := ⟨"java/lang/String", "<init>", "([CIILjava/lang/Void;)V"⟩
abbrev yB : ByteArray := jdk_42_method_149_code
theorem d0 : decode yB 0 = .ok (.aload_n 0, 1) := by decide +kernel
theorem d1 : decode yB 1 = .ok (.invokespecial 1, 3) := by decide +kernel
theorem d4 : decode yB 4 = .ok (.iload_n 3, 1) := by decide +kernel
theorem d5 : decode yB 5 = .ok (.ifCond (.ne) 22, 3) := by decide +kernel
theorem d27 : decode yB 27 = .ok (.getstatic 38, 3) := by decide +kernel
theorem d30 : decode yB 30 = .ok (.ifCond (.eq) 28, 3) := by decide +kernel
theorem d33 : decode yB 33 = .ok (.aload_n 1, 1) := by decide +kernel
theorem d34 : decode yB 34 = .ok (.iload_n 2, 1) := by decide +kernel
theorem d35 : decode yB 35 = .ok (.iload_n 3, 1) := by decide +kernel
theorem d36 : decode yB 36 = .ok (.invokestatic 177, 3) := by decide +kernel
theorem d39 : decode yB 39 = .ok (.astore 5, 2) := by decide +kernel
theorem d41 : decode yB 41 = .ok (.aload_n 0, 1) := by decide +kernel
theorem d42 : decode yB 42 = .ok (.aload 5, 2) := by decide +kernel
theorem d44 : decode yB 44 = .ok (.iload_n 3, 1) := by decide +kernel
theorem d45 : decode yB 45 = .ok (.invokestatic 47, 3) := by decide +kernel
theorem d48 : decode yB 48 = .ok (.putfield 15, 3) := by decide +kernel
theorem d51 : decode yB 51 = .ok (.aload_n 0, 1) := by decide +kernel
theorem d52 : decode yB 52 = .ok (.aload 5, 2) := by decide +kernel
theorem d54 : decode yB 54 = .ok (.putfield 9, 3) := by decide +kernel
theorem d57 : decode yB 57 = .ok (.return_, 1) := by decide +kernel
def site : List Cond := [.fieldLink "java/lang/String" 38 "java/lang/String" "COMPACT_STRINGS" "Z", Cmp3.tab, CodL.tab, .laysFinal "java/lang/String" "java/lang/String" "value" "[B", .fieldLink "java/lang/String" 9 "java/lang/String" "value" "[B", .laysFinal "java/lang/String" "java/lang/String" "coder" "B", .fieldLink "java/lang/String" 15 "java/lang/String" "coder" "B"] ++ objW "java/lang/String" 1 ++ staticW "java/lang/String" 177 Cmp3.yN ++ staticW "java/lang/String" 47 CodL.yN
def tab : Cond := tabOf yN yB 6 none site
def P (a : Addr) (D : Cell) (fV fC : Field) (b : Addr) (A : Cell) (z : Int32) (o len : Nat) (args : Array Value) (s : State) : Prop := args = #[.ref a, .ref b, .int (Int32.ofNat o), .int (Int32.ofNat len), .null] ∧ Blank "java/lang/String" a D s ∧ Found "java/lang/String" "value" "[B" fV s ∧ Found "java/lang/String" "coder" "B" fC s ∧ Ch b A s ∧ StaticIs s "java/lang/String" "COMPACT_STRINGS" "Z" (.int z) ∧ ¬ z = 0 ∧ 0 < len ∧ o + len ≤ A.slots.size ∧ len ≤ 536870912 ∧ ∀ i, i < len → ¬ 255 < cv A (o + i)
def E (a : Addr) (D : Cell) (fV fC : Field) (A : Cell) (o len : Nat) (r : Option Value) (s u : State) : Prop := Got a D fV fC A o len r s u
/-- len > 0, no char of the range above 255: a Latin-1 String of their low bytes -/
theorem law (l : Launch) (a : Addr) (D : Cell) (fV fC : Field) (b : Addr) (A : Cell) (z : Int32) (o len : Nat) : Law l yN 5 4 2 35 yB 6 none site (P a D fV fC b A z o len) (E a D fV fC A o len) [⟨a, fC.slot⟩, ⟨a, fV.slot⟩] 1 len := by
  refine Law.of_walk (plainFor_of_name (by decide +kernel)) (by decide +kernel) (by decide +kernel) (by decide) (fun _ _ h => by rw [h.1]; rfl) (fun _ U U' hal hh h => ⟨h.1, h.2.1.mv hal hh, h.2.2.1.al hal, h.2.2.2.1.al hal, h.2.2.2.2.1.mv hal hh, h.2.2.2.2.2.1.there hal hh, h.2.2.2.2.2.2⟩) (fun r U U' V V' h1 hal h2 h => Got.mv r U U' V V' h1 hal h2 h) ?_
  intro p e s m args below meth c s₁ X0 hexec hbytes hml hret hlk hnm hown hh0 W hP
  obtain ⟨rfl, hB, f1, f2, hA, s1, hz, l0, l1, l2, hp⟩ := hP
  have a31 := hA.1.2.2.2
  have c1 : Steps p.tables e below (s₁.setTop (entryFrame m #[.ref a, .ref b, .int (Int32.ofNat o), .int (Int32.ofNat len), .null] 6)) (s₁.setTop (mkF m 0 #[.val (.ref a), .val (.ref b), .val (.int (Int32.ofNat o)), .val (.int (Int32.ofNat len)), .val .null, .unset] [])) := entry rfl
  have c2 : Steps p.tables e below (s₁.setTop (entryFrame m #[.ref a, .ref b, .int (Int32.ofNat o), .int (Int32.ofNat len), .null] 6)) (s₁.setTop (mkF m 1 #[.val (.ref a), .val (.ref b), .val (.int (Int32.ofNat o)), .val (.int (Int32.ofNat len)), .val .null, .unset] [.ref a])) := c1.trans (by
    refine XS.aloadN X0.here hexec rfl (hb hbytes d0) rfl rfl ?_
    exact Steps.refl _)
  obtain ⟨T3, X3, q3, st3⟩ := X0.oinit hexec hown (wks W (objW "java/lang/String" 1)) (g := (mkF m 1 #[.val (.ref a), .val (.ref b), .val (.int (Int32.ofNat o)), .val (.int (Int32.ofNat len)), .val .null, .unset] [.ref a])) rfl (by rw [hml]; rfl) (rest := []) rfl (hb hbytes d1) (W := 0) (by show 2 * 0 + 0 ≤ _; decide) (Nat.le_of_ble_eq_true rfl) (Nat.le_of_ble_eq_true rfl)
  have hh3 := q3.trans hh0
  have c4 : Steps p.tables e below (s₁.setTop (entryFrame m #[.ref a, .ref b, .int (Int32.ofNat o), .int (Int32.ofNat len), .null] 6)) (T3.setTop (mkF m 27 #[.val (.ref a), .val (.ref b), .val (.int (Int32.ofNat o)), .val (.int (Int32.ofNat len)), .val .null, .unset] [])) := (c2.trans (st3 _ (Steps.refl _))).trans (by
    refine XS.iloadN X3.here hexec rfl (hb hbytes d4) rfl ?_
    refine XS.ifYes X3.here hexec rfl (pc0 := 5) rfl (hb hbytes d5) rfl (i0_ne_t (nz32 (by omega) l0)) (by decide) rfl ?_
    exact Steps.refl _)
  obtain ⟨T5, X5, q5, st5⟩ := X3.sget hexec hown (wk W (.fieldLink "java/lang/String" 38 "java/lang/String" "COMPACT_STRINGS" "Z")) s1 (fun _ _ h => by rw [hh3]; exact h) (g := (mkF m 27 #[.val (.ref a), .val (.ref b), .val (.int (Int32.ofNat o)), .val (.int (Int32.ofNat len)), .val .null, .unset] [])) rfl (hb hbytes d27)
  have hh5 := q5.trans hh3
  have c6 : Steps p.tables e below (s₁.setTop (entryFrame m #[.ref a, .ref b, .int (Int32.ofNat o), .int (Int32.ofNat len), .null] 6)) (T5.setTop (mkF m 30 #[.val (.ref a), .val (.ref b), .val (.int (Int32.ofNat o)), .val (.int (Int32.ofNat len)), .val .null, .unset] [.int z])) := c4.trans (st5 _ (Steps.refl _))
  have c7 : Steps p.tables e below (s₁.setTop (entryFrame m #[.ref a, .ref b, .int (Int32.ofNat o), .int (Int32.ofNat len), .null] 6)) (T5.setTop (mkF m 36 #[.val (.ref a), .val (.ref b), .val (.int (Int32.ofNat o)), .val (.int (Int32.ofNat len)), .val .null, .unset] [.int (Int32.ofNat len), .int (Int32.ofNat o), .ref b])) := c6.trans (by
    refine XS.ifNo X5.here hexec rfl (hb hbytes d30) rfl (i0_eq_f hz) ?_
    refine XS.aloadN X5.here hexec rfl (hb hbytes d33) rfl rfl ?_
    refine XS.iloadN X5.here hexec rfl (hb hbytes d34) rfl ?_
    refine XS.iloadN X5.here hexec rfl (hb hbytes d35) rfl ?_
    exact Steps.refl _)
  obtain ⟨v8, T8, X8, E8, g8⟩ := X5.callS hexec (Cmp3.law l b A o len) hown (wks W (staticW "java/lang/String" 177 Cmp3.yN)) (wk W Cmp3.tab) (W := 0) (Nat.le_of_ble_eq_true rfl) (Nat.le_of_ble_eq_true rfl) (Nat.le_refl _) (by show 0 + len ≤ len; omega) (g := (mkF m 36 #[.val (.ref a), .val (.ref b), .val (.int (Int32.ofNat o)), .val (.int (Int32.ofNat len)), .val .null, .unset] [.int (Int32.ofNat len), .int (Int32.ofNat o), .ref b])) rfl (by rw [hml]; rfl) c7 (argsL := [.ref b, .int (Int32.ofNat o), .int (Int32.ofNat len)]) (rest := []) rfl rfl (by show 2 * 0 + 0 ≤ _; decide) (hb hbytes d36) (⟨rfl, hA.mv X5.warmed.alike hh5, l1, l2, hp⟩)
  obtain ⟨e8, z8⟩ := E8
  obtain ⟨rfl, N, n1, n2, n3, n4, n5, n6⟩ := NewArr.mv _ T5 s _ _ hh5.symm (Vm.Alike.refl _) rfl e8
  rw [hh5] at z8
  have hB1 := hB.keep X8.warmed.alike (n6 _ _ hB.1)
  have hne : s.heap.size ≠ a := (Nat.ne_of_lt (Array.getElem?_eq_some_iff.mp hB.1).1).symm
  have c9 : Steps p.tables e below (s₁.setTop (entryFrame m #[.ref a, .ref b, .int (Int32.ofNat o), .int (Int32.ofNat len), .null] 6)) (T8.setTop (mkF m 39 #[.val (.ref a), .val (.ref b), .val (.int (Int32.ofNat o)), .val (.int (Int32.ofNat len)), .val .null, .unset] [.ref s.heap.size])) := g8
  have c10 : Steps p.tables e below (s₁.setTop (entryFrame m #[.ref a, .ref b, .int (Int32.ofNat o), .int (Int32.ofNat len), .null] 6)) (T8.setTop (mkF m 45 #[.val (.ref a), .val (.ref b), .val (.int (Int32.ofNat o)), .val (.int (Int32.ofNat len)), .val .null, .val (.ref s.heap.size)] [.int (Int32.ofNat N.slots.size), .ref s.heap.size, .ref a])) := by
    have hc : Steps p.tables e below (s₁.setTop (entryFrame m #[.ref a, .ref b, .int (Int32.ofNat o), .int (Int32.ofNat len), .null] 6)) (T8.setTop (mkF m 45 #[.val (.ref a), .val (.ref b), .val (.int (Int32.ofNat o)), .val (.int (Int32.ofNat len)), .val .null, .val (.ref s.heap.size)] [.int (Int32.ofNat len), .ref s.heap.size, .ref a])) := c9.trans (by
      refine XS.astore X8.here hexec rfl (hb hbytes d39) rfl rfl rfl ?_
      refine XS.aloadN X8.here hexec rfl (hb hbytes d41) rfl rfl ?_
      refine XS.aload X8.here hexec rfl (hb hbytes d42) rfl rfl ?_
      refine XS.iloadN X8.here hexec rfl (hb hbytes d44) rfl ?_
      exact Steps.refl _)
    rw [n4]; exact hc
  obtain ⟨v11, T11, X11, E11, g11⟩ := X8.callS hexec (CodL.law l s.heap.size N) hown (wks W (staticW "java/lang/String" 47 CodL.yN)) (wk W CodL.tab) (W := 1) (Nat.le_of_ble_eq_true rfl) (Nat.le_of_ble_eq_true rfl) (Nat.le_refl _) (by show 0 + len + 0 ≤ len; omega) (g := (mkF m 45 #[.val (.ref a), .val (.ref b), .val (.int (Int32.ofNat o)), .val (.int (Int32.ofNat len)), .val .null, .val (.ref s.heap.size)] [.int (Int32.ofNat N.slots.size), .ref s.heap.size, .ref a])) rfl (by rw [hml]; rfl) c10 (argsL := [.ref s.heap.size, .int (Int32.ofNat N.slots.size)]) (rest := [.ref a]) rfl rfl (by show 2 * 0 + (1 + 0) ≤ _; decide) (hb hbytes d45) (⟨rfl, n1⟩)
  obtain ⟨rfl, q11⟩ := E11
  have hB11 := hB1.mv (X8.warmed.alike.symm.trans X11.warmed.alike) q11
  have c12 : Steps p.tables e below (s₁.setTop (entryFrame m #[.ref a, .ref b, .int (Int32.ofNat o), .int (Int32.ofNat len), .null] 6)) (T11.setTop (mkF m 48 #[.val (.ref a), .val (.ref b), .val (.int (Int32.ofNat o)), .val (.int (Int32.ofNat len)), .val .null, .val (.ref s.heap.size)] [.int 0, .ref a])) := g11
  obtain ⟨T13, X13, p13, bl13, sl13, st13⟩ := X11.finit hexec hown (wk W (.fieldLink "java/lang/String" 15 "java/lang/String" "coder" "B")) (Or.inr ⟨_, (wk W (.laysFinal "java/lang/String" "java/lang/String" "coder" "B"))⟩) (Or.inl ⟨rfl, hnm⟩) f2 (Or.inl rfl) hB11 (t := .byte) (by decide +kernel) rfl (g := (mkF m 48 #[.val (.ref a), .val (.ref b), .val (.int (Int32.ofNat o)), .val (.int (Int32.ofNat len)), .val .null, .val (.ref s.heap.size)] [.int 0, .ref a])) rfl (rest := []) rfl (hb hbytes d48)
  have c14 : Steps p.tables e below (s₁.setTop (entryFrame m #[.ref a, .ref b, .int (Int32.ofNat o), .int (Int32.ofNat len), .null] 6)) (T13.setTop (mkF m 54 #[.val (.ref a), .val (.ref b), .val (.int (Int32.ofNat o)), .val (.int (Int32.ofNat len)), .val .null, .val (.ref s.heap.size)] [.ref s.heap.size, .ref a])) := (c12.trans (st13 _ (Steps.refl _))).trans (by
    refine XS.aloadN X13.here hexec rfl (hb hbytes d51) rfl rfl ?_
    refine XS.aload X13.here hexec rfl (hb hbytes d52) rfl rfl ?_
    exact Steps.refl _)
  obtain ⟨T15, X15, p15, bl15, sl15, st15⟩ := X13.finit hexec hown (wk W (.fieldLink "java/lang/String" 9 "java/lang/String" "value" "[B")) (Or.inr ⟨_, (wk W (.laysFinal "java/lang/String" "java/lang/String" "value" "[B"))⟩) (Or.inl ⟨rfl, hnm⟩) f1 (Or.inl rfl) bl13 (t := (.array .byte)) (by decide +kernel) rfl (g := (mkF m 54 #[.val (.ref a), .val (.ref b), .val (.int (Int32.ofNat o)), .val (.int (Int32.ofNat len)), .val .null, .val (.ref s.heap.size)] [.ref s.heap.size, .ref a])) rfl (rest := []) rfl (hb hbytes d54)
  have c16 : Steps p.tables e below (s₁.setTop (entryFrame m #[.ref a, .ref b, .int (Int32.ofNat o), .int (Int32.ofNat len), .null] 6)) (T15.setTop (mkF m 57 #[.val (.ref a), .val (.ref b), .val (.int (Int32.ofNat o)), .val (.int (Int32.ofNat len)), .val .null, .val (.ref s.heap.size)] [])) := c14.trans (st15 _ (Steps.refl _))
  have ap := apart (Or.inr ⟨_, (wk W (.laysFinal "java/lang/String" "java/lang/String" "value" "[B"))⟩) (Or.inr ⟨_, (wk W (.laysFinal "java/lang/String" "java/lang/String" "coder" "B"))⟩) f1 f2 (t₁ := .array .byte) (t₂ := .byte) (by decide +kernel) (by decide +kernel) (by decide)
  have al := X8.warmed.alike.symm.trans X15.warmed.alike
  have n7 : T11.heap[s.heap.size]? = some N := by rw [q11]; exact n1.1
  exact ⟨T15, none, _, _, _, X15, by simp, rfl, by omega, (fun _ => rfl), ⟨rfl, _, N, bl15, ((Same.refl D _).set _ (by simp)).set _ (by simp), sl15, (Cell.slots_setSlot_ne _ ap).trans sl13, n1.keep al (p15.other hne (p13.other hne n7)), n2, by rw [al.findClass]; exact n3, n4, n5, fun y c h1 h2 => p15.other h1 (p13.other h1 (by rw [q11]; exact n6 y c h2)), by rw [p15.2.2, p13.2.2, q11]; exact z8⟩, fun fs hl => c16.trans (X15.returnOut hexec hret (hb hbytes d57) hl)⟩
end New4
namespace New1
def yN : MethodName := ⟨"java/lang/String", "<init>", "([C)V"⟩
abbrev yB : ByteArray := jdk_42_method_3_code
theorem d0 : decode yB 0 = .ok (.aload_n 0, 1) := by decide +kernel
theorem d1 : decode yB 1 = .ok (.aload_n 1, 1) := by decide +kernel
theorem d2 : decode yB 2 = .ok (.iconst 0, 1) := by decide +kernel
theorem d3 : decode yB 3 = .ok (.aload_n 1, 1) := by decide +kernel
theorem d4 : decode yB 4 = .ok (.arraylength, 1) := by decide +kernel
theorem d5 : decode yB 5 = .ok (.aconst_null, 1) := by decide +kernel
theorem d6 : decode yB 6 = .ok (.invokespecial 27, 3) := by decide +kernel
theorem d9 : decode yB 9 = .ok (.return_, 1) := by decide +kernel
def site : List Cond := [New4.tab] ++ initW "java/lang/String" 27 New4.yN
def tab : Cond := tabOf yN yB 2 none site
def P (a : Addr) (D : Cell) (fV fC : Field) (b : Addr) (A : Cell) (z : Int32) (args : Array Value) (s : State) : Prop := args = #[.ref a, .ref b] ∧ Blank "java/lang/String" a D s ∧ Found "java/lang/String" "value" "[B" fV s ∧ Found "java/lang/String" "coder" "B" fC s ∧ Ch b A s ∧ StaticIs s "java/lang/String" "COMPACT_STRINGS" "Z" (.int z) ∧ ¬ z = 0 ∧ 0 < A.slots.size ∧ A.slots.size ≤ 536870912 ∧ ∀ i, i < A.slots.size → ¬ 255 < cv A i
def E (a : Addr) (D : Cell) (fV fC : Field) (A : Cell) (r : Option Value) (s u : State) : Prop := Got a D fV fC A 0 A.slots.size r s u
/-- new String(chars), not empty, no char above 255: a Latin-1 String of their low bytes -/
theorem law (l : Launch) (a : Addr) (D : Cell) (fV fC : Field) (b : Addr) (A : Cell) (z : Int32) : Law l yN 2 1 3 52 yB 2 none site (P a D fV fC b A z) (E a D fV fC A) [⟨a, fC.slot⟩, ⟨a, fV.slot⟩] 1 A.slots.size := by
  refine Law.of_walk (plainFor_of_name (by decide +kernel)) (by decide +kernel) (by decide +kernel) (by decide) (fun _ _ h => by rw [h.1]; rfl) (fun _ U U' hal hh h => ⟨h.1, h.2.1.mv hal hh, h.2.2.1.al hal, h.2.2.2.1.al hal, h.2.2.2.2.1.mv hal hh, h.2.2.2.2.2.1.there hal hh, h.2.2.2.2.2.2⟩) (fun r U U' V V' h1 hal h2 h => Got.mv r U U' V V' h1 hal h2 h) ?_
  intro p e s m args below meth c s₁ X0 hexec hbytes hml hret hlk hnm hown hh0 W hP
  obtain ⟨rfl, hB, f1, f2, hA, s1, hz, l0, l2, hp⟩ := hP
  have c1 : Steps p.tables e below (s₁.setTop (entryFrame m #[.ref a, .ref b] 2)) (s₁.setTop (mkF m 0 #[.val (.ref a), .val (.ref b)] [])) := entry rfl
  have c2 : Steps p.tables e below (s₁.setTop (entryFrame m #[.ref a, .ref b] 2)) (s₁.setTop (mkF m 6 #[.val (.ref a), .val (.ref b)] [.null, .int (Int32.ofNat A.slots.size), .int 0, .ref b, .ref a])) := c1.trans (by
    refine XS.aloadN X0.here hexec rfl (hb hbytes d0) rfl rfl ?_
    refine XS.aloadN X0.here hexec rfl (hb hbytes d1) rfl rfl ?_
    refine iconstV X0.here hexec rfl 0 (hb hbytes d2) (by decide) ?_
    refine XS.aloadN X0.here hexec rfl (hb hbytes d3) rfl rfl ?_
    refine X0.alen hexec (hA.1.mv X0.warmed.alike hh0) rfl rfl (hb hbytes d4) ?_
    refine XS.aconstNull X0.here hexec rfl (hb hbytes d5) ?_
    exact Steps.refl _)
  obtain ⟨v3, T3, X3, E3, g3⟩ := X0.callN hexec (New4.law l a D fV fC b A z 0 A.slots.size) rfl hown (wks W (initW "java/lang/String" 27 New4.yN)) (W New4.tab (by simp only [site, List.mem_cons, List.mem_append, true_or, or_true])) (W := 0) (Nat.le_of_ble_eq_true rfl) (Nat.le_of_ble_eq_true rfl) (Nat.le_refl _) (by show 0 + A.slots.size ≤ A.slots.size; omega) (g := (mkF m 6 #[.val (.ref a), .val (.ref b)] [.null, .int (Int32.ofNat A.slots.size), .int (Int32.ofNat 0), .ref b, .ref a])) rfl (by rw [hml]; rfl) c2 (argsL := [.ref b, .int (Int32.ofNat 0), .int (Int32.ofNat A.slots.size), .null]) (rest := []) rfl rfl (by show 2 * 0 + 0 ≤ _; decide) (hb hbytes d6) (⟨rfl, hB.mv X0.warmed.alike hh0, f1.al X0.warmed.alike, f2.al X0.warmed.alike, hA.mv X0.warmed.alike hh0, s1.there X0.warmed.alike hh0, hz, l0, by omega, l2, fun i hi => by rw [Nat.zero_add]; exact hp i hi⟩)
  have e0 := Got.mv _ s₁ s _ _ hh0.symm (Vm.Alike.refl _) rfl E3
  obtain rfl := e0.1
  have c4 : Steps p.tables e below (s₁.setTop (entryFrame m #[.ref a, .ref b] 2)) (T3.setTop (mkF m 9 #[.val (.ref a), .val (.ref b)] [])) := g3
  exact ⟨T3, none, _, _, _, X3, by simp, rfl, by omega, (fun _ => rfl), e0, fun fs hl => c4.trans (X3.returnOut hexec hret (hb hbytes d9) hl)⟩
theorem pays {l : Launch} {R : Room} {p : Program} {e : Env} {below : List Frame} {s : State} {sargs : Array Value} {len W : Nat} (a : Addr) (D : Cell) (fV fC : Field) (b : Addr) (A : Cell) (z : Int32) (htab : tab.before sargs s = true) (hfr : 4 ≤ R.frames) (hlo : W + 65 ≤ R.locals) :
    Back l R p e below s sargs yN len W (fun A₁ a₁ => A₁.cells + 1 ≤ R.cells ∧ A₁.slots + A.slots.size ≤ R.slots ∧ P a D fV fC b A z a₁ A₁.U) (fun A₁ _ v₁ B₁ => E a D fV fC A v₁ A₁.U B₁.U ∧ B₁.locs = A₁.locs ++ [⟨a, fC.slot⟩, ⟨a, fV.slot⟩] ∧ B₁.cells = A₁.cells + 1 ∧ B₁.slots = A₁.slots + A.slots.size) :=
  (law l a D fV fC b A z).pays htab hfr (by omega)
end New1
end StrChars
namespace StrChars.Road
open Jvm Sem ClassFile Op Lib Jvm.Stand Jvm.Free Jvm.Free.XT
open Jvm.Lib.Cold (StaticIs)
abbrev ST : String := "java/lang/String"
/-- every table word that New1's law asks, flat -/
abbrev words : List Jvm.Cond := [.code New1.yN New1.yB 2 none, .initialized ST, .methodLink ST 27 New4.yN, .instanceMethod New4.yN,
  .code New4.yN New4.yB 6 none, .fieldLink ST 38 ST "COMPACT_STRINGS" "Z", .laysFinal ST ST "value" "[B", .fieldLink ST 9 ST "value" "[B", .laysFinal ST ST "coder" "B", .fieldLink ST 15 ST "coder" "B",
  .methodLink ST 1 Lib.objectInit, .instanceMethod Lib.objectInit, .code Lib.objectInit ⟨#[0xb1]⟩ 1 none, .methodLink ST 177 Cmp3.yN, .static Cmp3.yN, .methodLink ST 47 CodL.yN, .static CodL.yN,
  .code Cmp3.yN Cmp3.yB 6 (some (.array .byte)), .initialized U16, .arrayClass .byte, .methodLink U16 115 Cmp5.yN, .static Cmp5.yN, .code Cmp5.yN Cmp5.yB 7 (some .int), .code CodL.yN CodL.yB 2 (some .byte)]
theorem tab_of {a : Array Value} {s : State} (h : ∀ w ∈ words, w.before a s = true) : New1.tab.before a s = true := by
  have h5 : Cmp5.tab.before a s = true := unparts (wk h (.code Cmp5.yN Cmp5.yB 7 (some .int))) (wks h (.initialized Cmp5.yN.cls :: Cmp5.site))
  have hc : CodL.tab.before a s = true := unparts (wk h (.code CodL.yN CodL.yB 2 (some .byte))) (wks h (.initialized CodL.yN.cls :: CodL.site))
  have q5 : ∀ w ∈ Cmp5.tab :: words, w.before a s = true := fun w hw => (List.mem_cons.mp hw).elim (fun e => e ▸ h5) (h w)
  have h3 : Cmp3.tab.before a s = true := unparts (wk q5 (.code Cmp3.yN Cmp3.yB 6 (some (.array .byte)))) (wks q5 (.initialized Cmp3.yN.cls :: Cmp3.site))
  have q3 : ∀ w ∈ Cmp3.tab :: CodL.tab :: words, w.before a s = true := fun w hw => (List.mem_cons.mp hw).elim (fun e => e ▸ h3) fun hw => (List.mem_cons.mp hw).elim (fun e => e ▸ hc) (h w)
  have h4 : New4.tab.before a s = true := unparts (wk q3 (.code New4.yN New4.yB 6 none)) (wks q3 (.initialized New4.yN.cls :: New4.site))
  have q4 : ∀ w ∈ New4.tab :: words, w.before a s = true := fun w hw => (List.mem_cons.mp hw).elim (fun e => e ▸ h4) (h w)
  exact unparts (wk q4 (.code New1.yN New1.yB 2 none)) (wks q4 (.initialized New1.yN.cls :: New1.site))
/-- the words ride from the start Z to the walk's own state -/
theorem moved {Z s : State} {a0 args : Array Value} (hZ : Z.Warmed39 s.vm) (hw : ∀ d ∈ words, d.before a0 Z = true) : ∀ d ∈ words, d.before args s = true := fun d hd => by
  have q := hw d hd
  have t : ∀ d ∈ words, d = .arrayClass .byte ∨ (d.onTables && d.keepsFace) = true := by decide +kernel
  rcases t d hd with rfl | t
  · exact RoadKit.mvA hZ q
  · exact RoadKit.mv hZ q t
/-- WHAT COMES BACK, over the tables of the start Z: h the heap at the call, h' behind it -/
def Q (Z : State) (x : Addr) (A : Cell) (h : Heap) (v : Option Value) (h' : Heap) (L : List Loc) : Prop := v = none ∧ (∀ y ∈ L, y.base = x) ∧ RoadKit.Keep h h' [x] ∧ h'.size = h.size + 1 ∧ RoadKit.Exa Z h' x ST ∧ RoadKit.Fld Z h' x ST "value" "[B" (.ref h.size) ∧ RoadKit.Fld Z h' x ST "coder" "B" (.int 0) ∧
  (∃ V : Cell, RoadKit.Arr Z h' h.size V .byte ∧ V.vm = .none ∧ Z.vm.findClass "[B" = some V.cls ∧ V.slots.size = A.slots.size ∧ ∀ j, j < A.slots.size → V.slots[j]? = some (.int (lo8 (cv A j)))) ∧
  ∀ (O n d : String) (w : Value), RoadKit.Fld Z h x O n d w → RoadKit.slotOf Z O n d ≠ RoadKit.slotOf Z ST "value" "[B" → RoadKit.slotOf Z O n d ≠ RoadKit.slotOf Z ST "coder" "B" → RoadKit.Fld Z h' x O n d w
/-- **new String(chars) AT A CALL, IN THE ROAD'S FORM**: for specialBack behind newO: x the fresh String, b the char[] with the cell A -/
theorem back {p : Program} {l : Launch} {e : Env} {R : Room} {s : State} {args : Array Value} {below : List Frame} {len W : Nat} {Z : State} {a0 : Array Value} {h : Heap} (hZ : Z.Warmed39 s.vm) (hw : ∀ d ∈ words, d.before a0 Z = true) {kI : Nat} (wi : (Jvm.Cond.instantiable ST kI).before a0 Z = true)
    {x b : Addr} {A : Cell} {z : Int32} {v0 c0 : Value} (E : RoadKit.Exa Z h x ST) (V : RoadKit.Fld Z h x ST "value" "[B" v0) (C : RoadKit.Fld Z h x ST "coder" "B" c0) (K : RoadKit.Arr Z h b A .char) (hty : Typed .char A) (S : RoadKit.Sta Z h ST "COMPACT_STRINGS" "Z" (.int z)) (hz : ¬ z = 0)
    (l0 : 0 < A.slots.size) (l2 : A.slots.size ≤ 536870912) (hp : ∀ i, i < A.slots.size → ¬ 255 < cv A i) (hfr : 4 ≤ R.frames) (hlo : W + 65 ≤ R.locals) :
    Back l R p e below s args New1.yN len W (fun P a => a = #[.ref x, .ref b] ∧ P.U.heap = h ∧ P.cells + 1 ≤ R.cells ∧ P.slots + A.slots.size ≤ R.slots)
      (fun P _ v B => ∃ L, Q Z x A h v B.U.heap L ∧ B.locs = P.locs ++ L ∧ B.cells = P.cells + 1 ∧ B.slots = P.slots + A.slots.size) := by
  intro m meth c P g ig mk a X hg hsize hdg hW hn hp'
  obtain ⟨rfl, rfl, r1, r2⟩ := hp'
  have al : Z.vm.Alike P.U.vm := hZ.alike.trans X.warmed.alike
  obtain ⟨D, cfV, kV, iV, fV, hD, gV, stV, knV, obV, asV, slV⟩ := id V
  obtain ⟨D', cfC, kC, iC, fC, hD', gC, stC, -, -, asC, slC⟩ := id C
  cases hD.symm.trans hD'
  obtain ⟨D2, kD, e1, e2, e3, e4, e5⟩ := id E
  cases hD.symm.trans e1
  obtain ⟨c2, k2, i1, i2, i3, -⟩ := Cond.instantiable_spec wi
  cases e2.symm.trans i1
  cases e3.symm.trans i2
  obtain ⟨kU, u1, u2⟩ := al.2.2 _ _ e3
  have hB : Blank ST x D P.U := ⟨hD, ⟨knV, fun q hq => by rw [hq] at obV; cases obV⟩, by rw [al.findClass]; exact e2, kU, u1, by rw [u2]; exact i3, by rw [u2]; exact e5 i3⟩
  have F1 : Found ST "value" "[B" fV P.U := ⟨SBG.found_only al ⟨cfV, kV, iV, gV⟩, stV⟩
  have F2 : Found ST "coder" "B" fC P.U := ⟨SBG.found_only al ⟨cfC, kC, iC, gC⟩, stC⟩
  have hA : Ch b A P.U := ⟨⟨K.1, State.isArrayOf_alike al K.2.1, K.2.2, by omega⟩, hty⟩
  have hS : StaticIs P.U ST "COMPACT_STRINGS" "Z" (.int z) := by
    obtain ⟨cfS, iS, kS, fS, st, cS, t1, t2, t3, t4, t5, t6, t7⟩ := S
    exact StaticIs.there (s := { Z with heap := P.U.heap }) ⟨cfS, iS, kS, fS, st, cS, t1, t2, t3, t4, t5, (fun q => by rw [q] at t6; cases t6), t7⟩ al rfl
  obtain ⟨v, B, X', ⟨⟨hv, E', V', q1, q2, q3, q4, q5, q6, q7, q8, q9, q10, q11⟩, hl, hc, hs⟩, st⟩ := New1.pays x D fV fC b A z (tab_of (moved hZ hw)) hfr hlo m meth c P g ig mk _ X hg hsize hdg hW hn ⟨r1, r2, rfl, hB, F1, F2, hA, hS, hz, l0, l2, hp⟩
  have al' : Z.vm.Alike B.U.vm := hZ.alike.trans X'.warmed.alike
  have hsz : E'.slots.size = D.slots.size := by
    obtain ⟨-, -, -, kB, w1, w2, w3⟩ := q1
    obtain ⟨kB', y1, y2⟩ := al'.2.2 _ _ e3
    rw [q2.2.1] at w1
    cases w1.symm.trans y1
    rw [w3, e5 i3, y2]
  refine ⟨v, B, X', ⟨_, ⟨hv, ?_, ⟨by omega, fun y cy hy hn' => q10 y cy (by simpa using hn') hy, fun y cy hy => ?_⟩, q11, ⟨E', _, q1.1, by rw [q2.2.1]; exact e2, by rw [q2.2.1]; exact e3, by rw [q2.1]; exact obV, fun _ => by rw [hsz]; exact e5 i3⟩,
    ⟨E', cfV, kV, iV, fV, q1.1, gV, stV, by rw [q2.1]; exact knV, by rw [q2.1]; exact obV, by rw [q2.2.1]; exact asV, q3⟩, ⟨E', cfC, kC, iC, fC, q1.1, gC, stC, by rw [q2.1]; exact knV, by rw [q2.1]; exact obV, by rw [q2.2.1]; exact asC, q4⟩,
    ⟨V', ⟨q5.1, State.isArrayOf_alike al'.symm q5.2.1, q5.2.2.1⟩, q6, by rw [← al'.findClass]; exact q7, q8, fun j hj => by have := q9 j hj; rwa [Nat.zero_add] at this⟩, fun O n d w F n1 n2 => ?_⟩, hl, hc, hs⟩, st⟩
  · intro y hy
    simp only [List.mem_cons, List.not_mem_nil, or_false] at hy
    rcases hy with rfl | rfl <;> rfl
  · by_cases q : y = x
    · subst q
      cases hD.symm.trans hy
      exact ⟨E', q1.1, q2.2.1, q2.1, hsz⟩
    · exact ⟨cy, q10 y cy q hy, rfl, rfl, rfl⟩
  · obtain ⟨D3, cf, k, i, f, g1, g2, g3, g4, g5, g6, g7⟩ := F
    cases hD.symm.trans g1
    simp only [RoadKit.slotOf, g2, gV, gC, Option.map_some, Option.getD_some] at n1 n2
    exact ⟨E', cf, k, i, f, q1.1, g2, g3, by rw [q2.1]; exact g4, by rw [q2.1]; exact g5, by rw [q2.2.1]; exact g6, by rw [q2.2.2 f.slot (by simp [n1, n2])]; exact g7⟩
end StrChars.Road
namespace StrChars.Road
open Jvm Sem ClassFile Op Lib Jvm.Stand Jvm.Free Jvm.Free.XT
/-- WHAT COMES BACK, the byte[] as a list of values -/
def QA (Z : State) (x : Addr) (zn : Int32) (cs : List Int32) (h : Heap) (v : Option Value) (h' : Heap) (L : List Loc) : Prop := v = none ∧ (∀ y ∈ L, y.base = x) ∧ RoadKit.Keep h h' [x] ∧ h'.size = h.size + 1 ∧ RoadKit.Exa Z h' x ST ∧ RoadKit.Fld Z h' x ST "value" "[B" (.ref h.size) ∧ RoadKit.Fld Z h' x ST "coder" "B" (.int 0) ∧
  (∃ kb, Z.vm.findClass "[B" = some kb ∧ RoadKit.Arv Z h' h.size kb .byte zn (cs.map fun c => .int (lo8 c)) (.int 0)) ∧
  ∀ (O n d : String) (w : Value), RoadKit.Fld Z h x O n d w → RoadKit.slotOf Z O n d ≠ RoadKit.slotOf Z ST "value" "[B" → RoadKit.slotOf Z O n d ≠ RoadKit.slotOf Z ST "coder" "B" → RoadKit.Fld Z h' x O n d w
/-- **new String(chars) AT A CALL, THE ARRAYS AS LISTS**: the char[] at b holds cs, not empty, no char above 255 -/
theorem backArv {p : Program} {l : Launch} {e : Env} {R : Room} {s : State} {args : Array Value} {below : List Frame} {len W : Nat} {Z : State} {a0 : Array Value} {h : Heap} (hZ : Z.Warmed39 s.vm) (hw : ∀ d ∈ words, d.before a0 Z = true) {kI : Nat} (wi : (Jvm.Cond.instantiable ST kI).before a0 Z = true)
    {x b : Addr} {k : ClassId} {zn z : Int32} {cs : List Int32} {dv v0 c0 : Value} (E : RoadKit.Exa Z h x ST) (V : RoadKit.Fld Z h x ST "value" "[B" v0) (C : RoadKit.Fld Z h x ST "coder" "B" c0) (K : RoadKit.Arv Z h b k .char zn (cs.map Value.int) dv) (S : RoadKit.Sta Z h ST "COMPACT_STRINGS" "Z" (.int z)) (hz : ¬ z = 0)
    (hlen : zn.toNatClampNeg = cs.length) (h0 : 0 < cs.length) (hbig : cs.length ≤ 536870912) (hall : ∀ c ∈ cs, ¬ 255 < c) (hfr : 4 ≤ R.frames) (hlo : W + 65 ≤ R.locals) :
    Back l R p e below s args New1.yN len W (fun P a => a = #[.ref x, .ref b] ∧ P.U.heap = h ∧ P.cells + 1 ≤ R.cells ∧ P.slots + cs.length ≤ R.slots)
      (fun P _ v B => ∃ L, QA Z x zn cs h v B.U.heap L ∧ B.locs = P.locs ++ L ∧ B.cells = P.cells + 1 ∧ B.slots = P.slots + cs.length) := by
  obtain ⟨A, K1, K2, K3, K4, K5, K6⟩ := K
  have e : A.slots.size = cs.length := K3.trans hlen
  have hat : ∀ (i : Nat) (hi : i < cs.length), A.slots[i]? = some (.int cs[i]) := fun i hi => by rw [K5 i (by omega)]; simp [List.getD_eq_getElem?_getD, hi]
  have hcv : ∀ (i : Nat) (hi : i < cs.length), cv A i = cs[i] := fun i hi => by unfold cv; rw [hat i hi]
  have hty : Typed .char A := fun i v hv => by
    have hi : i < A.slots.size := (Array.getElem?_eq_some_iff.mp hv).1
    have q := K5 i hi
    rw [hv] at q
    rw [Option.some.inj q]
    exact K6 i hi
  refine Back.mono (back hZ hw wi E V C K1 hty S hz (by omega) (by omega) (fun i hi => by rw [hcv i (by omega)]; exact hall _ (List.getElem_mem _)) hfr hlo) (fun P a hp => ⟨hp.1, hp.2.1, hp.2.2.1, by rw [e]; exact hp.2.2.2⟩) (fun P a v B hp hq => ?_)
  obtain ⟨L, ⟨q1, q2, q3, q4, q5, q6, q7, ⟨V', v1, v2, v3, v4, v5⟩, q9⟩, hl, hc, hs⟩ := hq
  refine ⟨L, ⟨q1, q2, q3, q4, q5, q6, q7, ⟨V'.cls, v3, V', v1, rfl, by rw [v4, e, hlen], K4, fun i hi => ?_, fun i hi => ?_⟩, q9⟩, hl, hc, by rw [hs, e]⟩
  · have hi' : i < cs.length := by omega
    rw [v5 i (by omega), hcv i hi']; simp [List.getD_eq_getElem?_getD, hi']
  · have hi' : i < cs.length := by omega
    simp only [List.getD_eq_getElem?_getD, List.getElem?_map, List.getElem?_eq_getElem hi', Option.map_some, Option.getD_some]
    exact fits_lo8 _
end StrChars.Road
namespace StrChars.Road
open Jvm Sem ClassFile Op Lib Jvm.Stand Jvm.Free Jvm.Free.XT
/-- WHAT COMES BACK, in the writer's own shape -/
def QV (Z : State) (x : Addr) (N : Int32) (bs : List Int32) (h : Heap) (n0 : Nat) (v : Option Value) (h' : Heap) (L : List Loc) : Prop := v = none ∧ RoadKit.Fr n0 L ∧ RoadKit.Keep h h' [x] ∧ RoadKit.Exa Z h' x ST ∧ RoadKit.Fld Z h' x ST "coder" "B" (.int 0) ∧
  ∃ (t : Addr) (kb : ClassId), n0 ≤ t ∧ h.size ≤ t ∧ ¬ t = x ∧ RoadKit.Fld Z h' x ST "value" "[B" (.ref t) ∧ RoadKit.Arv Z h' t kb .byte N (bs.map Value.int) (.int 0)
/-- **new String(chars) AT A CALL, FOR THE WRITER**: a char[] of n known ints, each 0 to 255 -/
theorem backV {p : Program} {l : Launch} {e : Env} {R : Room} {s : State} {args : Array Value} {below : List Frame} {len W : Nat} {Z : State} {a0 : Array Value} {h : Heap} (hZ : Z.Warmed39 s.vm) (hw : ∀ d ∈ words, d.before a0 Z = true) {kI : Nat} (wi : (Jvm.Cond.instantiable ST kI).before a0 Z = true)
    {x b : Addr} {kC : ClassId} {cs bs : List Int32} {d v0 c0 : Value} {z N : Int32} {n n0 : Nat} (hx0 : n0 ≤ x) (hh0 : n0 ≤ h.size) (E : RoadKit.Exa Z h x ST) (V : RoadKit.Fld Z h x ST "value" "[B" v0) (C : RoadKit.Fld Z h x ST "coder" "B" c0) (K : RoadKit.Arv Z h b kC .char N (cs.map Value.int) d) (S : RoadKit.Sta Z h ST "COMPACT_STRINGS" "Z" (.int z)) (hz : ¬ z = 0)
    (hn : cs.length = n) (hN : N = Int32.ofNat n) (l0 : 0 < n) (l2 : n ≤ 4000) (hp : ∀ c ∈ cs, ¬ c < 0 ∧ ¬ (255 : Int32) < c) (hb : bs = cs.map (fun c => c.toInt8.toInt32)) (hfr : 4 ≤ R.frames) (hlo : W + 65 ≤ R.locals) :
    Back l R p e below s args (⟨"java/lang/String", "<init>", "([C)V"⟩ : MethodName) len W (fun P a => a = #[.ref x, .ref b] ∧ P.U.heap = h ∧ P.cells + 1 ≤ R.cells ∧ P.slots + n ≤ R.slots)
      (fun P _ v B => ∃ L, QV Z x N bs h n0 v B.U.heap L ∧ B.locs = P.locs ++ L ∧ B.cells = P.cells + 1 ∧ B.slots = P.slots + n) := by
  subst hn hN hb
  refine Back.mono (backArv hZ hw wi E V C K S hz (n32 (by omega)) l0 (by omega) (fun c hc => (hp c hc).2) hfr hlo) (fun P a hp => hp) (fun P a v B hp hq => ?_)
  obtain ⟨L, ⟨q1, q2, q3, q4, q5, q6, q7, ⟨kb, v1, v2⟩, q9⟩, hl, hc, hs⟩ := hq
  exact ⟨L, ⟨q1, fun y hy => by rw [q2 y hy]; exact hx0, q3, q5, q7, h.size, kb, hh0, Nat.le_refl _, Nat.ne_of_gt E.lt, q6, by rw [List.map_map]; exact v2⟩, hl, hc, hs⟩
end StrChars.Road
end Jvm.Pilot.@@N@@
namespace Jvm.Pilot.@@N@@
open Jvm Jvm.ClassFile Sem Op Lib Jvm.Free Jvm.Stand Jvm.LawKit Jvm.RoadKit Bundle Jvm.Pilot.@@N@@.Jvm.D
theorem own_toInt {a b : Int32} (h : a.toInt = b.toInt) : a = b := Int32.toInt_inj.mp h
theorem own_eight (x : Int32) : (x &&& (2147483647 : Int32)) % (8 : Int32) = (0 : Int32) ∨ (x &&& (2147483647 : Int32)) % (8 : Int32) = (1 : Int32) ∨ (x &&& (2147483647 : Int32)) % (8 : Int32) = (2 : Int32) ∨ (x &&& (2147483647 : Int32)) % (8 : Int32) = (3 : Int32) ∨ (x &&& (2147483647 : Int32)) % (8 : Int32) = (4 : Int32) ∨ (x &&& (2147483647 : Int32)) % (8 : Int32) = (5 : Int32) ∨ (x &&& (2147483647 : Int32)) % (8 : Int32) = (6 : Int32) ∨ (x &&& (2147483647 : Int32)) % (8 : Int32) = (7 : Int32) := by
  have h1 := c_mask x (2147483647 : Int32) 31 (by decide) (by decide)
  have h2 := (c_irem (x &&& (2147483647 : Int32)) (8 : Int32) 8 (by decide)).1 (by rw [h1]; omega)
  have h3 : ((x &&& (2147483647 : Int32)) % (8 : Int32)).toInt = 0 ∨ ((x &&& (2147483647 : Int32)) % (8 : Int32)).toInt = 1 ∨ ((x &&& (2147483647 : Int32)) % (8 : Int32)).toInt = 2 ∨ ((x &&& (2147483647 : Int32)) % (8 : Int32)).toInt = 3 ∨ ((x &&& (2147483647 : Int32)) % (8 : Int32)).toInt = 4 ∨ ((x &&& (2147483647 : Int32)) % (8 : Int32)).toInt = 5 ∨ ((x &&& (2147483647 : Int32)) % (8 : Int32)).toInt = 6 ∨ ((x &&& (2147483647 : Int32)) % (8 : Int32)).toInt = 7 := by omega
  rcases h3 with h | h | h | h | h | h | h | h
  · exact Or.inl (own_toInt h)
  · exact Or.inr (Or.inl (own_toInt h))
  · exact Or.inr (Or.inr (Or.inl (own_toInt h)))
  · exact Or.inr (Or.inr (Or.inr (Or.inl (own_toInt h))))
  · exact Or.inr (Or.inr (Or.inr (Or.inr (Or.inl (own_toInt h)))))
  · exact Or.inr (Or.inr (Or.inr (Or.inr (Or.inr (Or.inl (own_toInt h))))))
  · exact Or.inr (Or.inr (Or.inr (Or.inr (Or.inr (Or.inr (Or.inl (own_toInt h)))))))
  · exact Or.inr (Or.inr (Or.inr (Or.inr (Or.inr (Or.inr (Or.inr ((own_toInt h))))))))
theorem own_len {args : Array Value} {s : State} {t : Term} {a : Addr} {cl : Cell} {n : Int32} (ht : t.eval args s none [] s = some (.ref a)) (ha : s.arrayAt? a = some cl) (h : (Term.length t).eval args s none [] s = some (.int n)) : cl.slots.size < 2 ^ 31 ∧ cl.slots.size.toInt32 = n := by
  by_cases q : cl.slots.size < 2147483648
  · simp [Term.eval, ht, ha, q] at h
    exact ⟨q, h⟩
  · simp [Term.eval, ht, ha, q] at h
theorem own_idx {args : Array Value} {s : State} {j : Int32} (hj : ¬ j < 0) : (Term.index 0).eval args s none [j.toNatClampNeg] s = some (.int j) := idx_at hj
theorem own_sub {args : Array Value} {s : State} {idx : List Nat} {a : Term} {x y : Int32} (ha : a.eval args s none idx s = some (.int x)) : (Term.sub a (.int y)).eval args s none idx s = some (.int (x - y)) := by simp [Term.eval, ha]
theorem own_box_in {i : Int32} {cc : Cell} (S : cc.slots.size = (256 : Int32).toNatClampNeg) (h1 : ¬ i < (-128 : Int32)) (h2 : ¬ (127 : Int32) < i) : ¬ ((i + (128 : Int32)) < 0 ∨ cc.slots.size ≤ (i + (128 : Int32)).toNatClampNeg) := by
  refine inb_of S ?_
  simp only [Int32.lt_iff_toInt_lt, Int32.toInt_add] at h1 h2 ⊢
  have e1 : (-128 : Int32).toInt = -128 := by decide
  have e2 : (127 : Int32).toInt = 127 := by decide
  have e3 : (128 : Int32).toInt = 128 := by decide
  have e4 : (256 : Int32).toInt = 256 := by decide
  have e5 : (0 : Int32).toInt = 0 := by decide
  rw [e1] at h1
  rw [e2] at h2
  rw [e3, e4, e5, bmod32 (by omega) (by omega)]
  omega
theorem own_lbox_in {j : Int64} {cc : Cell} (S : cc.slots.size = (256 : Int32).toNatClampNeg) (h1 : ¬ (lcmpW j (-128 : Int64)) < (0 : Int32)) (h2 : ¬ (0 : Int32) < (lcmpW j (127 : Int64))) : ¬ ((j.toInt32 + (128 : Int32)) < 0 ∨ cc.slots.size ≤ (j.toInt32 + (128 : Int32)).toNatClampNeg) := by
  refine inb_of S ?_
  rw [lw_lt] at h1
  rw [lw_gt] at h2
  simp only [Int32.lt_iff_toInt_lt, Int64.lt_iff_toInt_lt] at h1 h2 ⊢
  have a1 := c_l2i j
  have a2 := c_iadd j.toInt32 (128 : Int32)
  have a3 := rng32 j.toInt32
  have a4 := rng32 (j.toInt32 + (128 : Int32))
  have e1 : (-128 : Int64).toInt = -128 := by decide
  have e2 : (127 : Int64).toInt = 127 := by decide
  have e3 : (128 : Int32).toInt = 128 := by decide
  have e4 : (256 : Int32).toInt = 256 := by decide
  have e5 : (0 : Int32).toInt = 0 := by decide
  omega
theorem own_ch255 (x : Int32) : ¬ nar .char ((x &&& (255 : Int32)).toUInt32.toUInt16.toUInt32.toInt32) < 0 ∧ ¬ (255 : Int32) < nar .char ((x &&& (255 : Int32)).toUInt32.toUInt16.toUInt32.toInt32) := by
  have h1 := c_mask x (255 : Int32) 8 (by decide) (by decide)
  have h2 := c_i2c (x &&& (255 : Int32))
  have h3 := c_i2c ((x &&& (255 : Int32)).toUInt32.toUInt16.toUInt32.toInt32)
  have e : nar .char ((x &&& (255 : Int32)).toUInt32.toUInt16.toUInt32.toInt32) = ((x &&& (255 : Int32)).toUInt32.toUInt16.toUInt32.toInt32).toUInt32.toUInt16.toUInt32.toInt32 := rfl
  rw [e]
  simp only [Int32.lt_iff_toInt_lt]
  have e0 : (0 : Int32).toInt = 0 := by decide
  have e1 : (255 : Int32).toInt = 255 := by decide
  omega
theorem d11_0 : decode jdk_18_method_1_code 0 = .ok (.aload_n 0, 1) := by decide +kernel
theorem d11_1 : decode jdk_18_method_1_code 1 = .ok (.invokespecial 1, 3) := by decide +kernel
theorem d11_4 : decode jdk_18_method_1_code 4 = .ok (.return_, 1) := by decide +kernel
theorem pn_java_2flang_2fNumber : plainName "java/lang/Number" = true := by first | (simp [plainName, overriddenIn]; done) | decide +kernel
theorem ef_numinit (m : MethodId) (a : Addr) : entryFrame m #[(.ref a)] 1 = mkF m 0 #[.val (.ref a)] [] := by
  first | (simp [entryFrame, mkF, argsToLocals, Value.category]; done) | rfl
def Q_numinit (Z : State) (a : Addr) (h0 : Heap) (n0 : Nat) (v : Option Value) (h : Heap) (L : List Loc) : Prop := v = none ∧ Fr n0 L ∧ h = h0
set_option maxRecDepth 65536 in
set_option maxHeartbeats 40000000 in
theorem rm_numinit (l : Launch) (Z : State) (a0 : Array Value) (hw : ∀ d ∈ tables_1, d.before a0 Z = true) (ws : List Jvm.Cond) (a : Addr) (h0 : Heap) (n0 : Nat) (O0 : Old Z n0 h0) :
    MetFree l (⟨"java/lang/Number", "<init>", "()V"⟩ : MethodName) (head1 (Jvm.Cond.code (⟨"java/lang/Number", "<init>", "()V"⟩ : MethodName) jdk_18_method_1_code 1 none :: ws) ({ frames := 1, cells := 0, slots := 0, locals := 12 } : Room)) (fun aq_ Uq_ => aq_ = #[(.ref a)] ∧ Z.Warmed39 Uq_.vm ∧ Uq_.heap = h0) (fun _ _ _ _ _ => True) (fun _ Uq_ oq_ Ur_ => ∃ vq_ Lq_, oq_ = .returned vq_ ∧ Q_numinit Z a h0 n0 vq_ Ur_.heap Lq_ ∧ FrameEnd Uq_ oq_ Ur_ Lq_ ({ frames := 1, cells := 0, slots := 0, locals := 12 } : Room).cells ({ frames := 1, cells := 0, slots := 0, locals := 12 } : Room).slots) := by
  refine MetFree.of_bodySF (plainFor_of_name pn_java_2flang_2fNumber) hisR ?_
  intro p e s m args below meth c s₁ Bd hml0 hP hK
  obtain ⟨rfl, hZ, hh⟩ := hP
  have hx := Bd.exec
  have hby := Bd.bytes
  have hml : c.maxLocals = 1 := hml0
  have hown : s.vm.findClass "java/lang/Number" = some m.cls := findClass_of_methodNamed Bd.named
  have hnm := (name_of_methodNamed Bd.named Bd.method).1
  have X0 : Stand p l e ({ frames := 1, cells := 0, slots := 0, locals := 12 } : Room) s m #[(.ref a)] below meth c s₁ [] 0 0 := Stand.of_body Bd
  have e0 : s₁.heap = h0 := by rw [← hh, Bd.state]; rfl
  have N0 := Fr.nil n0
  have K0 := Keep.refl h0 []
  refine own_G.start (Q := Q_numinit Z a h0 n0) (ef_numinit m a) ?_
  refine own_G.step (g' := (mkF m 1 #[.val (.ref a)] [(.ref a)])) (fun tq_ kq_ => XS.aloadN X0.here hx rfl (hb hby d11_0) rfl rfl kq_) ?_
  obtain ⟨T1, X1, e1, st1⟩ := initO X0 hx hZ hown (hw _ (List.mem_of_getElem? (i := 64) rfl)) (hw _ (List.mem_of_getElem? (i := 13) rfl)) (hw _ (List.mem_of_getElem? (i := 14) rfl)) e0 (g := (mkF m 1 #[.val (.ref a)] [(.ref a)])) rfl (by rw [hml]; rfl) rfl (hb hby d11_1) (by decide) (W := 0) (by show 2 * 0 + _ ≤ _; exact Nat.le_of_eq rfl) (by decide)
  refine own_G.step (T' := T1) (g' := (mkF m 4 #[.val (.ref a)] [])) st1 ?_
  exact own_ret X1 e1 (v := none) (fun _ => rfl) Bd.notSynchronized ⟨rfl, N0, rfl⟩ (by decide) (by decide) (fun fs hr => X1.returnOut hx Bd.returns (hb hby d11_4) hr)
theorem pd__28_29V : parseMethodDescriptor "()V" = some ⟨[], none⟩ := by decide +kernel
theorem d12_0 : decode jdk_33_method_23_code 0 = .ok (.aload_n 0, 1) := by decide +kernel
theorem d12_1 : decode jdk_33_method_23_code 1 = .ok (.invokespecial 202, 3) := by decide +kernel
theorem d12_4 : decode jdk_33_method_23_code 4 = .ok (.aload_n 0, 1) := by decide +kernel
theorem d12_5 : decode jdk_33_method_23_code 5 = .ok (.iload_n 1, 1) := by decide +kernel
theorem d12_6 : decode jdk_33_method_23_code 6 = .ok (.putfield 205, 3) := by decide +kernel
theorem d12_9 : decode jdk_33_method_23_code 9 = .ok (.return_, 1) := by decide +kernel
theorem pn_java_2flang_2fInteger : plainName "java/lang/Integer" = true := by first | (simp [plainName, overriddenIn]; done) | decide +kernel
theorem ef_intinit (m : MethodId) (a : Addr) (i : Int32) : entryFrame m #[(.ref a), (.int i)] 2 = mkF m 0 #[.val (.ref a), .val (.int i)] [] := by
  first | (simp [entryFrame, mkF, argsToLocals, Value.category]; done) | rfl
def Q_intinit (Z : State) (a : Addr) (i : Int32) (h0 : Heap) (n0 : Nat) (v : Option Value) (h : Heap) (L : List Loc) : Prop := v = none ∧ Fr n0 L ∧ Keep h0 h [a] ∧ Exa Z h a "java/lang/Integer" ∧ Fld Z h a "java/lang/Integer" "value" "I" (.int i)
set_option maxRecDepth 65536 in
set_option maxHeartbeats 40000000 in
theorem rm_intinit (l : Launch) (Z : State) (a0 : Array Value) (hw : ∀ d ∈ tables_1, d.before a0 Z = true) (ws : List Jvm.Cond) (a : Addr) (i : Int32) (h0 : Heap) (n0 : Nat) (O0 : Old Z n0 h0) (F0 : Fld Z h0 a "java/lang/Integer" "value" "I" (.int (0 : Int32))) (E0 : Exa Z h0 a "java/lang/Integer") (ga : n0 ≤ a) :
    MetFree l (⟨"java/lang/Integer", "<init>", "(I)V"⟩ : MethodName) (head1 (Jvm.Cond.code (⟨"java/lang/Integer", "<init>", "(I)V"⟩ : MethodName) jdk_33_method_23_code 2 none :: ws) ({ frames := 2, cells := 0, slots := 0, locals := 24 } : Room)) (fun aq_ Uq_ => aq_ = #[(.ref a), (.int i)] ∧ Z.Warmed39 Uq_.vm ∧ Uq_.heap = h0) (fun _ _ _ _ _ => True) (fun _ Uq_ oq_ Ur_ => ∃ vq_ Lq_, oq_ = .returned vq_ ∧ Q_intinit Z a i h0 n0 vq_ Ur_.heap Lq_ ∧ FrameEnd Uq_ oq_ Ur_ Lq_ ({ frames := 2, cells := 0, slots := 0, locals := 24 } : Room).cells ({ frames := 2, cells := 0, slots := 0, locals := 24 } : Room).slots) := by
  refine MetFree.of_bodySF (plainFor_of_name pn_java_2flang_2fInteger) hisR ?_
  intro p e s m args below meth c s₁ Bd hml0 hP hK
  obtain ⟨rfl, hZ, hh⟩ := hP
  have hx := Bd.exec
  have hby := Bd.bytes
  have hml : c.maxLocals = 2 := hml0
  have hown : s.vm.findClass "java/lang/Integer" = some m.cls := findClass_of_methodNamed Bd.named
  have hnm := (name_of_methodNamed Bd.named Bd.method).1
  have X0 : Stand p l e ({ frames := 2, cells := 0, slots := 0, locals := 24 } : Room) s m #[(.ref a), (.int i)] below meth c s₁ [] 0 0 := Stand.of_body Bd
  have e0 : s₁.heap = h0 := by rw [← hh, Bd.state]; rfl
  have N0 := Fr.nil n0
  have K0 := Keep.refl h0 [a]
  refine own_G.start (Q := Q_intinit Z a i h0 n0) (ef_intinit m a i) ?_
  refine own_G.step (g' := (mkF m 1 #[.val (.ref a), .val (.int i)] [(.ref a)])) (fun tq_ kq_ => XS.aloadN X0.here hx rfl (hb hby d12_0) rfl rfl kq_) ?_
  obtain ⟨_, _, ⟨T1, L1, k1, n1⟩, -, X1, ⟨Lc1, hQ1, l1, y1, z1⟩, st1⟩ := X0.specialBack hx (y := (⟨"java/lang/Number", "<init>", "()V"⟩ : MethodName)) rfl hown (mvT hZ (hw _ (List.mem_of_getElem? (i := 75) rfl))) (mvT hZ (hw _ (List.mem_of_getElem? (i := 59) rfl))) (mvT hZ (hw _ (List.mem_of_getElem? (i := 63) rfl))) (by decide) (backOf (W := 0) (rm_numinit l Z a0 hw [] a h0 n0 O0 ) hZ (hw _ (List.mem_of_getElem? (i := 63) rfl)) (hw _ (List.mem_of_getElem? (i := 62) rfl)) (by decide) (by decide)) (g := (mkF m 1 #[.val (.ref a), .val (.int i)] [(.ref a)])) rfl (by rw [hml]; rfl) (Steps.refl _) (a := a) (argsL := []) (rest := []) (lenOf pd__28_29V rfl) rfl (by show 2 * 0 + _ ≤ _; exact Nat.le_of_eq rfl) (hb hby d12_1) (fun _ _ => ⟨rfl, e0, (by decide : 0 + 0 ≤ _), (by decide : 0 + 0 ≤ _)⟩)
  dsimp only [Pt.U, Pt.locs, Pt.cells, Pt.slots] at X1 l1 y1 z1 st1 hQ1
  subst l1 y1 z1
  obtain ⟨rfl, Nq1, P2⟩ := hQ1
  have N1 := Fr.app N0 Nq1
  refine own_G.step (T' := T1) (g' := (mkF m 4 #[.val (.ref a), .val (.int i)] [])) (fun tq_ kq_ => st1.trans kq_) ?_
  refine own_G.step (g' := (mkF m 5 #[.val (.ref a), .val (.int i)] [(.ref a)])) (fun tq_ kq_ => XS.aloadN X1.here hx rfl (hb hby d12_4) rfl rfl kq_) ?_
  refine own_G.step (g' := (mkF m 6 #[.val (.ref a), .val (.int i)] [(.int i), (.ref a)])) (fun tq_ kq_ => XS.iloadN X1.here hx rfl (hb hby d12_5) rfl kq_) ?_
  obtain ⟨T3, h3, X3, e3, W3, st3⟩ := putF X1 hx hZ hown (host := "") (Or.inl (hw _ (List.mem_of_getElem? (i := 77) rfl))) Via.refl P2 F0 E0 (Or.inr ⟨(hw _ (List.mem_of_getElem? (i := 78) rfl)), rfl, hnm⟩) (hw _ (List.mem_of_getElem? (i := 70) rfl)) (ty := .int) (by decide) rfl rfl (g := (mkF m 6 #[.val (.ref a), .val (.int i)] [(.int i), (.ref a)])) rfl rfl (hb hby d12_6)
  have N3 := Fr.snoc X3 N1 ga
  have F4 := F0.same W3
  have F5 := E0.wr W3
  have O6 := O0.wr W3 ga
  have K7 := K0.wr W3 (Or.inl (List.mem_of_getElem? (i := 0) rfl))
  refine own_G.step (T' := T3) (g' := (mkF m 9 #[.val (.ref a), .val (.int i)] [])) st3 ?_
  exact own_ret X3 e3 (v := none) (fun _ => rfl) Bd.notSynchronized ⟨rfl, N3, K7, F5, F4⟩ (by decide) (by decide) (fun fs hr => X3.returnOut hx Bd.returns (hb hby d12_9) hr)
theorem pd__28I_29V : parseMethodDescriptor "(I)V" = some ⟨[.int], none⟩ := by decide +kernel
theorem d8_0 : decode jdk_33_method_22_code 0 = .ok (.iload_n 0, 1) := by decide +kernel
theorem d8_1 : decode jdk_33_method_22_code 1 = .ok (.bipush (-128), 2) := by decide +kernel
theorem d8_3 : decode jdk_33_method_22_code 3 = .ok (.if_icmp .lt 20, 3) := by decide +kernel
theorem d8_6 : decode jdk_33_method_22_code 6 = .ok (.iload_n 0, 1) := by decide +kernel
theorem d8_7 : decode jdk_33_method_22_code 7 = .ok (.getstatic 191, 3) := by decide +kernel
theorem d8_10 : decode jdk_33_method_22_code 10 = .ok (.if_icmp .gt 13, 3) := by decide +kernel
theorem d8_13 : decode jdk_33_method_22_code 13 = .ok (.getstatic 195, 3) := by decide +kernel
theorem d8_16 : decode jdk_33_method_22_code 16 = .ok (.iload_n 0, 1) := by decide +kernel
theorem d8_17 : decode jdk_33_method_22_code 17 = .ok (.sipush 128, 3) := by decide +kernel
theorem d8_20 : decode jdk_33_method_22_code 20 = .ok (.iadd, 1) := by decide +kernel
theorem d8_21 : decode jdk_33_method_22_code 21 = .ok (.aaload, 1) := by decide +kernel
theorem d8_22 : decode jdk_33_method_22_code 22 = .ok (.areturn, 1) := by decide +kernel
theorem d8_23 : decode jdk_33_method_22_code 23 = .ok (.new 1, 3) := by decide +kernel
theorem d8_26 : decode jdk_33_method_22_code 26 = .ok (.dup, 1) := by decide +kernel
theorem d8_27 : decode jdk_33_method_22_code 27 = .ok (.iload_n 0, 1) := by decide +kernel
theorem d8_28 : decode jdk_33_method_22_code 28 = .ok (.invokespecial 199, 3) := by decide +kernel
theorem d8_31 : decode jdk_33_method_22_code 31 = .ok (.areturn, 1) := by decide +kernel
theorem ef_valueOf (m : MethodId) (i : Int32) : entryFrame m #[(.int i)] 1 = mkF m 0 #[.val (.int i)] [] := by
  first | (simp [entryFrame, mkF, argsToLocals, Value.category]; done) | rfl
def Q_valueOf (Z : State) (i : Int32) (ca : Addr) (cc : Cell) (h0 : Heap) (n0 : Nat) (v : Option Value) (h : Heap) (L : List Loc) : Prop := ∃ (b : Addr), v = some (.ref b) ∧ Fr n0 L ∧ Keep h0 h [] ∧ Exa Z h b "java/lang/Integer" ∧ Fld Z h b "java/lang/Integer" "value" "I" (.int i)
set_option maxRecDepth 65536 in
set_option maxHeartbeats 40000000 in
theorem rm_valueOf (l : Launch) (Z : State) (a0 : Array Value) (hw : ∀ d ∈ tables_1, d.before a0 Z = true) (ws : List Jvm.Cond) (i : Int32) (ca : Addr) (cc : Cell) (h0 : Heap) (n0 : Nat) (O0 : Old Z n0 h0) (S_high : Sta Z Z.heap "java/lang/Integer$IntegerCache" "high" "I" (.int (127 : Int32))) (S_cache : Sta Z Z.heap "java/lang/Integer$IntegerCache" "cache" "[Ljava/lang/Integer;" (.ref ca)) (BX : Bxs Z ca cc "java/lang/Integer" "I" (256 : Int32) (fun j => .int (j - 128))) :
    MetFree l (⟨"java/lang/Integer", "valueOf", "(I)Ljava/lang/Integer;"⟩ : MethodName) (head1 (Jvm.Cond.code (⟨"java/lang/Integer", "valueOf", "(I)Ljava/lang/Integer;"⟩ : MethodName) jdk_33_method_22_code 1 (some (.object "java/lang/Integer")) :: ws) ({ frames := 3, cells := 1, slots := 1, locals := 38 } : Room)) (fun aq_ Uq_ => aq_ = #[(.int i)] ∧ Z.Warmed39 Uq_.vm ∧ Uq_.heap = h0) (fun _ _ _ _ _ => True) (fun _ Uq_ oq_ Ur_ => ∃ vq_ Lq_, oq_ = .returned vq_ ∧ Q_valueOf Z i ca cc h0 n0 vq_ Ur_.heap Lq_ ∧ FrameEnd Uq_ oq_ Ur_ Lq_ ({ frames := 3, cells := 1, slots := 1, locals := 38 } : Room).cells ({ frames := 3, cells := 1, slots := 1, locals := 38 } : Room).slots) := by
  refine MetFree.of_bodySF (plainFor_of_name pn_java_2flang_2fInteger) hisR ?_
  intro p e s m args below meth c s₁ Bd hml0 hP hK
  obtain ⟨rfl, hZ, hh⟩ := hP
  have hx := Bd.exec
  have hby := Bd.bytes
  have hml : c.maxLocals = 1 := hml0
  have hown : s.vm.findClass "java/lang/Integer" = some m.cls := findClass_of_methodNamed Bd.named
  have hnm := (name_of_methodNamed Bd.named Bd.method).1
  have X0 : Stand p l e ({ frames := 3, cells := 1, slots := 1, locals := 38 } : Room) s m #[(.int i)] below meth c s₁ [] 0 0 := Stand.of_body Bd
  have e0 : s₁.heap = h0 := by rw [← hh, Bd.state]; rfl
  have N0 := Fr.nil n0
  have K0 := Keep.refl h0 []
  refine own_G.start (Q := Q_valueOf Z i ca cc h0 n0) (ef_valueOf m i) ?_
  refine own_G.step (g' := (mkF m 1 #[.val (.int i)] [(.int i)])) (fun tq_ kq_ => XS.iloadN X0.here hx rfl (hb hby d8_0) rfl kq_) ?_
  refine own_G.step (g' := (mkF m 3 #[.val (.int i)] [(.int (-128 : Int32)), (.int i)])) (fun tq_ kq_ => XS.bipush X0.here hx rfl (hb hby d8_1) kq_) ?_
  rcases Classical.em (i < (-128 : Int32)) with hc3 | hc3
  · refine own_G.step (g' := (mkF m 23 #[.val (.int i)] [])) (fun tq_ kq_ => XS.icmpYes X0.here hx rfl (pc0 := 3) (pc' := 23) rfl (hb hby d8_3) rfl (tlt hc3).1 (by decide) (by decide) kq_) ?_
    obtain ⟨T1, h1, X1, e1, E1, A1, D1, -, st1⟩ := newO X0 hx hZ hown (hw _ (List.mem_of_getElem? (i := 69) rfl)) (hw _ (List.mem_of_getElem? (i := 70) rfl)) (hw _ (List.mem_of_getElem? (i := 40) rfl)) e0 (g := (mkF m 23 #[.val (.int i)] [])) rfl (hb hby d8_23) (by decide) (by decide)
    obtain ⟨b1, g1⟩ : ∃ z, z = h0.size := ⟨_, rfl⟩
    rw [← g1] at A1 D1 st1
    have g2 : n0 ≤ b1 := Nat.le_trans O0.le (Nat.le_of_eq g1.symm)
    have z3 : h0.size ≤ b1 := Nat.le_trans K0.1 (Nat.le_of_eq g1.symm)
    have O4 := O0.ext E1
    have K5 := K0.ext E1
    have F6 : Fld Z h1 b1 "java/lang/Integer" "value" "I" (.int (0 : Int32)) := D1 (Or.inr (hw _ (List.mem_of_getElem? (i := 78) rfl))) (ty := .int) (by decide)
    refine own_G.step (T' := T1) (g' := (mkF m 26 #[.val (.int i)] [(.ref b1)])) st1 ?_
    refine own_G.step (g' := (mkF m 27 #[.val (.int i)] [(.ref b1), (.ref b1)])) (fun tq_ kq_ => XS.dup X1.here hx rfl (hb hby d8_26) rfl rfl kq_) ?_
    refine own_G.step (g' := (mkF m 28 #[.val (.int i)] [(.int i), (.ref b1), (.ref b1)])) (fun tq_ kq_ => XS.iloadN X1.here hx rfl (hb hby d8_27) rfl kq_) ?_
    obtain ⟨_, _, ⟨T7, L7, k7, n7⟩, -, X7, ⟨Lc7, hQ7, l7, y7, z7⟩, st7⟩ := X1.specialBack hx (y := (⟨"java/lang/Integer", "<init>", "(I)V"⟩ : MethodName)) rfl hown (mvT hZ (hw _ (List.mem_of_getElem? (i := 71) rfl))) (mvT hZ (hw _ (List.mem_of_getElem? (i := 72) rfl))) (mvT hZ (hw _ (List.mem_of_getElem? (i := 74) rfl))) (by decide) (backOf (W := 1) (rm_intinit l Z a0 hw [] b1 i h1 n0 O4 F6 A1 g2) hZ (hw _ (List.mem_of_getElem? (i := 74) rfl)) (hw _ (List.mem_of_getElem? (i := 40) rfl)) (by decide) (by decide)) (g := (mkF m 28 #[.val (.int i)] [(.int i), (.ref b1), (.ref b1)])) rfl (by rw [hml]; rfl) (Steps.refl _) (a := b1) (argsL := [(.int i)]) (rest := [(.ref b1)]) (lenOf pd__28I_29V rfl) rfl (by show 2 * 0 + _ ≤ _; exact Nat.le_of_eq rfl) (hb hby d8_28) (fun _ _ => ⟨rfl, e1, (by decide : 1 + 0 ≤ _), (by decide : 1 + 0 ≤ _)⟩)
    dsimp only [Pt.U, Pt.locs, Pt.cells, Pt.slots] at X7 l7 y7 z7 st7 hQ7
    subst l7 y7 z7
    obtain ⟨rfl, Nq7, P8, P9, P10⟩ := hQ7
    have N7 := Fr.app N0 Nq7
    have F11 := A1.keep P8
    have O12 := O4.keep P8 (allS g2 all0)
    have K13 := K5.trans P8 (allS (Or.inr z3) all0)
    refine own_G.step (T' := T7) (g' := (mkF m 31 #[.val (.int i)] [(.ref b1)])) (fun tq_ kq_ => st7.trans kq_) ?_
    exact own_ret X7 rfl (v := some (.ref b1)) (fun h => by rw [Bd.returns] at h; cases h) Bd.notSynchronized ⟨b1, rfl, N7, K13, P9, P10⟩ (by decide) (by decide) (fun fs hr => own_retR X7 hx Bd.returns rfl rfl (hb hby d8_31) hr)
  · refine own_G.step (g' := (mkF m 6 #[.val (.int i)] [])) (fun tq_ kq_ => XS.icmpNo X0.here hx rfl (hb hby d8_3) rfl (flt hc3).1 kq_) ?_
    refine own_G.step (g' := (mkF m 7 #[.val (.int i)] [(.int i)])) (fun tq_ kq_ => XS.iloadN X0.here hx rfl (hb hby d8_6) rfl kq_) ?_
    obtain ⟨T14, X14, e14, st14⟩ := getS2 X0 hx hZ hown (host := "") (Or.inl (hw _ (List.mem_of_getElem? (i := 42) rfl))) Via.refl e0 (Sta.ext O0.2 S_high) (g := (mkF m 7 #[.val (.int i)] [(.int i)])) rfl (hb hby d8_7)
    refine own_G.step (T' := T14) (g' := (mkF m 10 #[.val (.int i)] [(.int (127 : Int32)), (.int i)])) st14 ?_
    rcases Classical.em ((127 : Int32) < i) with hc10 | hc10
    · refine own_G.step (g' := (mkF m 23 #[.val (.int i)] [])) (fun tq_ kq_ => XS.icmpYes X14.here hx rfl (pc0 := 10) (pc' := 23) rfl (hb hby d8_10) rfl (tlt hc10).2.2.1 (by decide) (by decide) kq_) ?_
      obtain ⟨T15, h15, X15, e15, E15, A15, D15, -, st15⟩ := newO X14 hx hZ hown (hw _ (List.mem_of_getElem? (i := 69) rfl)) (hw _ (List.mem_of_getElem? (i := 70) rfl)) (hw _ (List.mem_of_getElem? (i := 40) rfl)) e14 (g := (mkF m 23 #[.val (.int i)] [])) rfl (hb hby d8_23) (by decide) (by decide)
      obtain ⟨b15, g15⟩ : ∃ z, z = h0.size := ⟨_, rfl⟩
      rw [← g15] at A15 D15 st15
      have g16 : n0 ≤ b15 := Nat.le_trans O0.le (Nat.le_of_eq g15.symm)
      have z17 : h0.size ≤ b15 := Nat.le_trans K0.1 (Nat.le_of_eq g15.symm)
      have O18 := O0.ext E15
      have K19 := K0.ext E15
      have F20 : Fld Z h15 b15 "java/lang/Integer" "value" "I" (.int (0 : Int32)) := D15 (Or.inr (hw _ (List.mem_of_getElem? (i := 78) rfl))) (ty := .int) (by decide)
      refine own_G.step (T' := T15) (g' := (mkF m 26 #[.val (.int i)] [(.ref b15)])) st15 ?_
      refine own_G.step (g' := (mkF m 27 #[.val (.int i)] [(.ref b15), (.ref b15)])) (fun tq_ kq_ => XS.dup X15.here hx rfl (hb hby d8_26) rfl rfl kq_) ?_
      refine own_G.step (g' := (mkF m 28 #[.val (.int i)] [(.int i), (.ref b15), (.ref b15)])) (fun tq_ kq_ => XS.iloadN X15.here hx rfl (hb hby d8_27) rfl kq_) ?_
      obtain ⟨_, _, ⟨T21, L21, k21, n21⟩, -, X21, ⟨Lc21, hQ21, l21, y21, z21⟩, st21⟩ := X15.specialBack hx (y := (⟨"java/lang/Integer", "<init>", "(I)V"⟩ : MethodName)) rfl hown (mvT hZ (hw _ (List.mem_of_getElem? (i := 71) rfl))) (mvT hZ (hw _ (List.mem_of_getElem? (i := 72) rfl))) (mvT hZ (hw _ (List.mem_of_getElem? (i := 74) rfl))) (by decide) (backOf (W := 1) (rm_intinit l Z a0 hw [] b15 i h15 n0 O18 F20 A15 g16) hZ (hw _ (List.mem_of_getElem? (i := 74) rfl)) (hw _ (List.mem_of_getElem? (i := 40) rfl)) (by decide) (by decide)) (g := (mkF m 28 #[.val (.int i)] [(.int i), (.ref b15), (.ref b15)])) rfl (by rw [hml]; rfl) (Steps.refl _) (a := b15) (argsL := [(.int i)]) (rest := [(.ref b15)]) (lenOf pd__28I_29V rfl) rfl (by show 2 * 0 + _ ≤ _; exact Nat.le_of_eq rfl) (hb hby d8_28) (fun _ _ => ⟨rfl, e15, (by decide : 1 + 0 ≤ _), (by decide : 1 + 0 ≤ _)⟩)
      dsimp only [Pt.U, Pt.locs, Pt.cells, Pt.slots] at X21 l21 y21 z21 st21 hQ21
      subst l21 y21 z21
      obtain ⟨rfl, Nq21, P22, P23, P24⟩ := hQ21
      have N21 := Fr.app N0 Nq21
      have F25 := A15.keep P22
      have O26 := O18.keep P22 (allS g16 all0)
      have K27 := K19.trans P22 (allS (Or.inr z17) all0)
      refine own_G.step (T' := T21) (g' := (mkF m 31 #[.val (.int i)] [(.ref b15)])) (fun tq_ kq_ => st21.trans kq_) ?_
      exact own_ret X21 rfl (v := some (.ref b15)) (fun h => by rw [Bd.returns] at h; cases h) Bd.notSynchronized ⟨b15, rfl, N21, K27, P23, P24⟩ (by decide) (by decide) (fun fs hr => own_retR X21 hx Bd.returns rfl rfl (hb hby d8_31) hr)
    · refine own_G.step (g' := (mkF m 13 #[.val (.int i)] [])) (fun tq_ kq_ => XS.icmpNo X14.here hx rfl (hb hby d8_10) rfl (flt hc10).2.2.1 kq_) ?_
      obtain ⟨T28, X28, e28, st28⟩ := getS2 X14 hx hZ hown (host := "") (Or.inl (hw _ (List.mem_of_getElem? (i := 44) rfl))) Via.refl e14 (Sta.ext O0.2 S_cache) (g := (mkF m 13 #[.val (.int i)] [])) rfl (hb hby d8_13)
      refine own_G.step (T' := T28) (g' := (mkF m 16 #[.val (.int i)] [(.ref ca)])) st28 ?_
      refine own_G.step (g' := (mkF m 17 #[.val (.int i)] [(.int i), (.ref ca)])) (fun tq_ kq_ => XS.iloadN X28.here hx rfl (hb hby d8_16) rfl kq_) ?_
      refine own_G.step (g' := (mkF m 20 #[.val (.int i)] [(.int (128 : Int32)), (.int i), (.ref ca)])) (fun tq_ kq_ => XS.sipush X28.here hx rfl (hb hby d8_17) kq_) ?_
      refine own_G.step (g' := (mkF m 21 #[.val (.int i)] [(.int (i + (128 : Int32))), (.ref ca)])) (fun tq_ kq_ => XS.iadd X28.here hx rfl (hb hby d8_20) rfl kq_) ?_
      have hin29 := own_box_in BX.2.1 hc3 hc10
      obtain ⟨b29, hat29, Eb29, Fb29⟩ := BX.2.2.2 _ hin29
      have Ar29 := (BX.ext O0.2).1
      have Eb29' := Exa.ext O0.2 Eb29
      have Fb29' : Fld Z h0 b29 "java/lang/Integer" "value" "I" (.int ((i + (128 : Int32)) - 128)) := Fld.ext O0.2 Fb29
      have qv29 : (i + (128 : Int32)) - 128 = i := Int32.add_sub_cancel i 128
      rw [qv29] at Fb29'
      refine own_G.step (g' := (mkF m 22 #[.val (.int i)] [(.ref b29)])) (fun tq_ kq_ => X28.aaload hx (j := (i + (128 : Int32))) (v := (.ref b29)) (by rw [e28]; exact Ar29.1) (State.isArrayOf_alike hZ.alike Ar29.2.1) rfl Ar29.2.2 hin29 hat29 (g := (mkF m 21 #[.val (.int i)] [(.int (i + (128 : Int32))), (.ref ca)])) rfl rfl (hb hby d8_21) _ kq_) ?_
      exact own_ret X28 e28 (v := some (.ref b29)) (fun h => by rw [Bd.returns] at h; cases h) Bd.notSynchronized ⟨b29, rfl, N0, K0, Eb29', Fb29'⟩ (by decide) (by decide) (fun fs hr => own_retR X28 hx Bd.returns rfl rfl (hb hby d8_22) hr)
theorem d10_0 : decode jdk_35_method_26_code 0 = .ok (.aload_n 0, 1) := by decide +kernel
theorem d10_1 : decode jdk_35_method_26_code 1 = .ok (.invokespecial 270, 3) := by decide +kernel
theorem d10_4 : decode jdk_35_method_26_code 4 = .ok (.aload_n 0, 1) := by decide +kernel
theorem d10_5 : decode jdk_35_method_26_code 5 = .ok (.lload_n 1, 1) := by decide +kernel
theorem d10_6 : decode jdk_35_method_26_code 6 = .ok (.putfield 273, 3) := by decide +kernel
theorem d10_9 : decode jdk_35_method_26_code 9 = .ok (.return_, 1) := by decide +kernel
theorem pn_java_2flang_2fLong : plainName "java/lang/Long" = true := by first | (simp [plainName, overriddenIn]; done) | decide +kernel
theorem ef_lnginit (m : MethodId) (a : Addr) (j : Int64) : entryFrame m #[(.ref a), (.long j)] 3 = mkF m 0 #[.val (.ref a), .val (.long j), .second] [] := by
  first | (simp [entryFrame, mkF, argsToLocals, Value.category]; done) | rfl
def Q_lnginit (Z : State) (a : Addr) (j : Int64) (h0 : Heap) (n0 : Nat) (v : Option Value) (h : Heap) (L : List Loc) : Prop := v = none ∧ Fr n0 L ∧ Keep h0 h [a] ∧ Exa Z h a "java/lang/Long"
set_option maxRecDepth 65536 in
set_option maxHeartbeats 40000000 in
theorem rm_lnginit (l : Launch) (Z : State) (a0 : Array Value) (hw : ∀ d ∈ tables_1, d.before a0 Z = true) (ws : List Jvm.Cond) (a : Addr) (j : Int64) (h0 : Heap) (n0 : Nat) (O0 : Old Z n0 h0) (F0 : Fld Z h0 a "java/lang/Long" "value" "J" (.long (0 : Int64))) (E0 : Exa Z h0 a "java/lang/Long") (ga : n0 ≤ a) :
    MetFree l (⟨"java/lang/Long", "<init>", "(J)V"⟩ : MethodName) (head1 (Jvm.Cond.code (⟨"java/lang/Long", "<init>", "(J)V"⟩ : MethodName) jdk_35_method_26_code 3 none :: ws) ({ frames := 2, cells := 0, slots := 0, locals := 24 } : Room)) (fun aq_ Uq_ => aq_ = #[(.ref a), (.long j)] ∧ Z.Warmed39 Uq_.vm ∧ Uq_.heap = h0) (fun _ _ _ _ _ => True) (fun _ Uq_ oq_ Ur_ => ∃ vq_ Lq_, oq_ = .returned vq_ ∧ Q_lnginit Z a j h0 n0 vq_ Ur_.heap Lq_ ∧ FrameEnd Uq_ oq_ Ur_ Lq_ ({ frames := 2, cells := 0, slots := 0, locals := 24 } : Room).cells ({ frames := 2, cells := 0, slots := 0, locals := 24 } : Room).slots) := by
  refine MetFree.of_bodySF (plainFor_of_name pn_java_2flang_2fLong) hisR ?_
  intro p e s m args below meth c s₁ Bd hml0 hP hK
  obtain ⟨rfl, hZ, hh⟩ := hP
  have hx := Bd.exec
  have hby := Bd.bytes
  have hml : c.maxLocals = 3 := hml0
  have hown : s.vm.findClass "java/lang/Long" = some m.cls := findClass_of_methodNamed Bd.named
  have hnm := (name_of_methodNamed Bd.named Bd.method).1
  have X0 : Stand p l e ({ frames := 2, cells := 0, slots := 0, locals := 24 } : Room) s m #[(.ref a), (.long j)] below meth c s₁ [] 0 0 := Stand.of_body Bd
  have e0 : s₁.heap = h0 := by rw [← hh, Bd.state]; rfl
  have N0 := Fr.nil n0
  have K0 := Keep.refl h0 [a]
  refine own_G.start (Q := Q_lnginit Z a j h0 n0) (ef_lnginit m a j) ?_
  refine own_G.step (g' := (mkF m 1 #[.val (.ref a), .val (.long j), .second] [(.ref a)])) (fun tq_ kq_ => XS.aloadN X0.here hx rfl (hb hby d10_0) rfl rfl kq_) ?_
  obtain ⟨_, _, ⟨T1, L1, k1, n1⟩, -, X1, ⟨Lc1, hQ1, l1, y1, z1⟩, st1⟩ := X0.specialBack hx (y := (⟨"java/lang/Number", "<init>", "()V"⟩ : MethodName)) rfl hown (mvT hZ (hw _ (List.mem_of_getElem? (i := 58) rfl))) (mvT hZ (hw _ (List.mem_of_getElem? (i := 59) rfl))) (mvT hZ (hw _ (List.mem_of_getElem? (i := 63) rfl))) (by decide) (backOf (W := 0) (rm_numinit l Z a0 hw [] a h0 n0 O0 ) hZ (hw _ (List.mem_of_getElem? (i := 63) rfl)) (hw _ (List.mem_of_getElem? (i := 62) rfl)) (by decide) (by decide)) (g := (mkF m 1 #[.val (.ref a), .val (.long j), .second] [(.ref a)])) rfl (by rw [hml]; rfl) (Steps.refl _) (a := a) (argsL := []) (rest := []) (lenOf pd__28_29V rfl) rfl (by show 2 * 0 + _ ≤ _; exact Nat.le_of_eq rfl) (hb hby d10_1) (fun _ _ => ⟨rfl, e0, (by decide : 0 + 0 ≤ _), (by decide : 0 + 0 ≤ _)⟩)
  dsimp only [Pt.U, Pt.locs, Pt.cells, Pt.slots] at X1 l1 y1 z1 st1 hQ1
  subst l1 y1 z1
  obtain ⟨rfl, Nq1, P2⟩ := hQ1
  have N1 := Fr.app N0 Nq1
  refine own_G.step (T' := T1) (g' := (mkF m 4 #[.val (.ref a), .val (.long j), .second] [])) (fun tq_ kq_ => st1.trans kq_) ?_
  refine own_G.step (g' := (mkF m 5 #[.val (.ref a), .val (.long j), .second] [(.ref a)])) (fun tq_ kq_ => XS.aloadN X1.here hx rfl (hb hby d10_4) rfl rfl kq_) ?_
  refine own_G.step (g' := (mkF m 6 #[.val (.ref a), .val (.long j), .second] [(.long j), (.ref a)])) (fun tq_ kq_ => XS.lloadN X1.here hx rfl (hb hby d10_5) rfl kq_) ?_
  obtain ⟨T3, h3, X3, e3, W3, st3⟩ := putF X1 hx hZ hown (host := "") (Or.inl (hw _ (List.mem_of_getElem? (i := 65) rfl))) Via.refl P2 F0 E0 (Or.inr ⟨(hw _ (List.mem_of_getElem? (i := 66) rfl)), rfl, hnm⟩) (hw _ (List.mem_of_getElem? (i := 53) rfl)) (ty := .long) (by decide) rfl rfl (g := (mkF m 6 #[.val (.ref a), .val (.long j), .second] [(.long j), (.ref a)])) rfl rfl (hb hby d10_6)
  have N3 := Fr.snoc X3 N1 ga
  have F4 := F0.same W3
  have F5 := E0.wr W3
  have O6 := O0.wr W3 ga
  have K7 := K0.wr W3 (Or.inl (List.mem_of_getElem? (i := 0) rfl))
  refine own_G.step (T' := T3) (g' := (mkF m 9 #[.val (.ref a), .val (.long j), .second] [])) st3 ?_
  exact own_ret X3 e3 (v := none) (fun _ => rfl) Bd.notSynchronized ⟨rfl, N3, K7, F5⟩ (by decide) (by decide) (fun fs hr => X3.returnOut hx Bd.returns (hb hby d10_9) hr)
theorem pd__28J_29V : parseMethodDescriptor "(J)V" = some ⟨[.long], none⟩ := by decide +kernel
theorem d9_0 : decode jdk_35_method_24_code 0 = .ok (.sipush 128, 3) := by decide +kernel
theorem d9_3 : decode jdk_35_method_24_code 3 = .ok (.istore_n 2, 1) := by decide +kernel
theorem d9_4 : decode jdk_35_method_24_code 4 = .ok (.lload_n 0, 1) := by decide +kernel
theorem d9_5 : decode jdk_35_method_24_code 5 = .ok (.ldc2_w 230, 3) := by decide +kernel
theorem d9_8 : decode jdk_35_method_24_code 8 = .ok (.lcmp, 1) := by decide +kernel
theorem d9_9 : decode jdk_35_method_24_code 9 = .ok (.ifCond .lt 22, 3) := by decide +kernel
theorem d9_12 : decode jdk_35_method_24_code 12 = .ok (.lload_n 0, 1) := by decide +kernel
theorem d9_13 : decode jdk_35_method_24_code 13 = .ok (.ldc2_w 232, 3) := by decide +kernel
theorem d9_16 : decode jdk_35_method_24_code 16 = .ok (.lcmp, 1) := by decide +kernel
theorem d9_17 : decode jdk_35_method_24_code 17 = .ok (.ifCond .gt 14, 3) := by decide +kernel
theorem d9_20 : decode jdk_35_method_24_code 20 = .ok (.getstatic 234, 3) := by decide +kernel
theorem d9_23 : decode jdk_35_method_24_code 23 = .ok (.lload_n 0, 1) := by decide +kernel
theorem d9_24 : decode jdk_35_method_24_code 24 = .ok (.l2i, 1) := by decide +kernel
theorem d9_25 : decode jdk_35_method_24_code 25 = .ok (.sipush 128, 3) := by decide +kernel
theorem d9_28 : decode jdk_35_method_24_code 28 = .ok (.iadd, 1) := by decide +kernel
theorem d9_29 : decode jdk_35_method_24_code 29 = .ok (.aaload, 1) := by decide +kernel
theorem d9_30 : decode jdk_35_method_24_code 30 = .ok (.areturn, 1) := by decide +kernel
theorem d9_31 : decode jdk_35_method_24_code 31 = .ok (.new 1, 3) := by decide +kernel
theorem d9_34 : decode jdk_35_method_24_code 34 = .ok (.dup, 1) := by decide +kernel
theorem d9_35 : decode jdk_35_method_24_code 35 = .ok (.lload_n 0, 1) := by decide +kernel
theorem d9_36 : decode jdk_35_method_24_code 36 = .ok (.invokespecial 240, 3) := by decide +kernel
theorem d9_39 : decode jdk_35_method_24_code 39 = .ok (.areturn, 1) := by decide +kernel
theorem ef_lvalueOf (m : MethodId) (j : Int64) : entryFrame m #[(.long j)] 3 = mkF m 0 #[.val (.long j), .second, .unset] [] := by
  first | (simp [entryFrame, mkF, argsToLocals, Value.category]; done) | rfl
def Q_lvalueOf (Z : State) (j : Int64) (la : Addr) (lc : Cell) (h0 : Heap) (n0 : Nat) (v : Option Value) (h : Heap) (L : List Loc) : Prop := ∃ (b : Addr), v = some (.ref b) ∧ Fr n0 L ∧ Keep h0 h [] ∧ Exa Z h b "java/lang/Long"
set_option maxRecDepth 65536 in
set_option maxHeartbeats 40000000 in
theorem rm_lvalueOf (l : Launch) (Z : State) (a0 : Array Value) (hw : ∀ d ∈ tables_1, d.before a0 Z = true) (ws : List Jvm.Cond) (j : Int64) (la : Addr) (lc : Cell) (h0 : Heap) (n0 : Nat) (O0 : Old Z n0 h0) (S_lcache : Sta Z Z.heap "java/lang/Long$LongCache" "cache" "[Ljava/lang/Long;" (.ref la)) (LX : Bxs Z la lc "java/lang/Long" "J" (256 : Int32) (fun j => .long (j - 128).toInt64)) :
    MetFree l (⟨"java/lang/Long", "valueOf", "(J)Ljava/lang/Long;"⟩ : MethodName) (head1 (Jvm.Cond.code (⟨"java/lang/Long", "valueOf", "(J)Ljava/lang/Long;"⟩ : MethodName) jdk_35_method_24_code 3 (some (.object "java/lang/Long")) :: ws) ({ frames := 3, cells := 1, slots := 1, locals := 39 } : Room)) (fun aq_ Uq_ => aq_ = #[(.long j)] ∧ Z.Warmed39 Uq_.vm ∧ Uq_.heap = h0) (fun _ _ _ _ _ => True) (fun _ Uq_ oq_ Ur_ => ∃ vq_ Lq_, oq_ = .returned vq_ ∧ Q_lvalueOf Z j la lc h0 n0 vq_ Ur_.heap Lq_ ∧ FrameEnd Uq_ oq_ Ur_ Lq_ ({ frames := 3, cells := 1, slots := 1, locals := 39 } : Room).cells ({ frames := 3, cells := 1, slots := 1, locals := 39 } : Room).slots) := by
  refine MetFree.of_bodySF (plainFor_of_name pn_java_2flang_2fLong) hisR ?_
  intro p e s m args below meth c s₁ Bd hml0 hP hK
  obtain ⟨rfl, hZ, hh⟩ := hP
  have hx := Bd.exec
  have hby := Bd.bytes
  have hml : c.maxLocals = 3 := hml0
  have hown : s.vm.findClass "java/lang/Long" = some m.cls := findClass_of_methodNamed Bd.named
  have hnm := (name_of_methodNamed Bd.named Bd.method).1
  have X0 : Stand p l e ({ frames := 3, cells := 1, slots := 1, locals := 39 } : Room) s m #[(.long j)] below meth c s₁ [] 0 0 := Stand.of_body Bd
  have e0 : s₁.heap = h0 := by rw [← hh, Bd.state]; rfl
  have N0 := Fr.nil n0
  have K0 := Keep.refl h0 []
  refine own_G.start (Q := Q_lvalueOf Z j la lc h0 n0) (ef_lvalueOf m j) ?_
  refine own_G.step (g' := (mkF m 3 #[.val (.long j), .second, .unset] [(.int (128 : Int32))])) (fun tq_ kq_ => XS.sipush X0.here hx rfl (hb hby d9_0) kq_) ?_
  refine own_G.step (g' := (mkF m 4 #[.val (.long j), .second, .val (.int (128 : Int32))] [])) (fun tq_ kq_ => XS.istoreN X0.here hx rfl (hb hby d9_3) rfl (l' := #[.val (.long j), .second, .val (.int (128 : Int32))]) rfl kq_) ?_
  refine own_G.step (g' := (mkF m 5 #[.val (.long j), .second, .val (.int (128 : Int32))] [(.long j)])) (fun tq_ kq_ => XS.lloadN X0.here hx rfl (hb hby d9_4) rfl kq_) ?_
  refine own_G.step (g' := (mkF m 8 #[.val (.long j), .second, .val (.int (128 : Int32))] [(.long (-128 : Int64)), (.long j)])) (fun tq_ kq_ => X0.ldc2Long hx hown (mvT hZ (hw _ (List.mem_of_getElem? (i := 51) rfl))) (g := (mkF m 5 #[.val (.long j), .second, .val (.int (128 : Int32))] [(.long j)])) rfl (hb hby d9_5) _ kq_) ?_
  refine own_G.step (g' := (mkF m 9 #[.val (.long j), .second, .val (.int (128 : Int32))] [(.int (lcmpW j (-128 : Int64)))])) (fun tq_ kq_ => XS.lcmp X0.here hx rfl (hb hby d9_8) rfl kq_) ?_
  rcases Classical.em ((lcmpW j (-128 : Int64)) < (0 : Int32)) with hc9 | hc9
  · refine own_G.step (g' := (mkF m 31 #[.val (.long j), .second, .val (.int (128 : Int32))] [])) (fun tq_ kq_ => XS.ifYes X0.here hx rfl (pc0 := 9) (pc' := 31) rfl (hb hby d9_9) rfl ((if0 _ _).trans (tlt hc9).1) (by decide) (by decide) kq_) ?_
    obtain ⟨T1, h1, X1, e1, E1, A1, D1, -, st1⟩ := newO X0 hx hZ hown (hw _ (List.mem_of_getElem? (i := 52) rfl)) (hw _ (List.mem_of_getElem? (i := 53) rfl)) (hw _ (List.mem_of_getElem? (i := 49) rfl)) e0 (g := (mkF m 31 #[.val (.long j), .second, .val (.int (128 : Int32))] [])) rfl (hb hby d9_31) (by decide) (by decide)
    obtain ⟨b1, g1⟩ : ∃ z, z = h0.size := ⟨_, rfl⟩
    rw [← g1] at A1 D1 st1
    have g2 : n0 ≤ b1 := Nat.le_trans O0.le (Nat.le_of_eq g1.symm)
    have z3 : h0.size ≤ b1 := Nat.le_trans K0.1 (Nat.le_of_eq g1.symm)
    have O4 := O0.ext E1
    have K5 := K0.ext E1
    have F6 : Fld Z h1 b1 "java/lang/Long" "value" "J" (.long (0 : Int64)) := D1 (Or.inr (hw _ (List.mem_of_getElem? (i := 66) rfl))) (ty := .long) (by decide)
    refine own_G.step (T' := T1) (g' := (mkF m 34 #[.val (.long j), .second, .val (.int (128 : Int32))] [(.ref b1)])) st1 ?_
    refine own_G.step (g' := (mkF m 35 #[.val (.long j), .second, .val (.int (128 : Int32))] [(.ref b1), (.ref b1)])) (fun tq_ kq_ => XS.dup X1.here hx rfl (hb hby d9_34) rfl rfl kq_) ?_
    refine own_G.step (g' := (mkF m 36 #[.val (.long j), .second, .val (.int (128 : Int32))] [(.long j), (.ref b1), (.ref b1)])) (fun tq_ kq_ => XS.lloadN X1.here hx rfl (hb hby d9_35) rfl kq_) ?_
    obtain ⟨_, _, ⟨T7, L7, k7, n7⟩, -, X7, ⟨Lc7, hQ7, l7, y7, z7⟩, st7⟩ := X1.specialBack hx (y := (⟨"java/lang/Long", "<init>", "(J)V"⟩ : MethodName)) rfl hown (mvT hZ (hw _ (List.mem_of_getElem? (i := 54) rfl))) (mvT hZ (hw _ (List.mem_of_getElem? (i := 55) rfl))) (mvT hZ (hw _ (List.mem_of_getElem? (i := 57) rfl))) (by decide) (backOf (W := 1) (rm_lnginit l Z a0 hw [] b1 j h1 n0 O4 F6 A1 g2) hZ (hw _ (List.mem_of_getElem? (i := 57) rfl)) (hw _ (List.mem_of_getElem? (i := 49) rfl)) (by decide) (by decide)) (g := (mkF m 36 #[.val (.long j), .second, .val (.int (128 : Int32))] [(.long j), (.ref b1), (.ref b1)])) rfl (by rw [hml]; rfl) (Steps.refl _) (a := b1) (argsL := [(.long j)]) (rest := [(.ref b1)]) (lenOf pd__28J_29V rfl) rfl (by show 2 * 0 + _ ≤ _; exact Nat.le_of_eq rfl) (hb hby d9_36) (fun _ _ => ⟨rfl, e1, (by decide : 1 + 0 ≤ _), (by decide : 1 + 0 ≤ _)⟩)
    dsimp only [Pt.U, Pt.locs, Pt.cells, Pt.slots] at X7 l7 y7 z7 st7 hQ7
    subst l7 y7 z7
    obtain ⟨rfl, Nq7, P8, P9⟩ := hQ7
    have N7 := Fr.app N0 Nq7
    have F10 := A1.keep P8
    have O11 := O4.keep P8 (allS g2 all0)
    have K12 := K5.trans P8 (allS (Or.inr z3) all0)
    refine own_G.step (T' := T7) (g' := (mkF m 39 #[.val (.long j), .second, .val (.int (128 : Int32))] [(.ref b1)])) (fun tq_ kq_ => st7.trans kq_) ?_
    exact own_ret X7 rfl (v := some (.ref b1)) (fun h => by rw [Bd.returns] at h; cases h) Bd.notSynchronized ⟨b1, rfl, N7, K12, P9⟩ (by decide) (by decide) (fun fs hr => own_retR X7 hx Bd.returns rfl rfl (hb hby d9_39) hr)
  · refine own_G.step (g' := (mkF m 12 #[.val (.long j), .second, .val (.int (128 : Int32))] [])) (fun tq_ kq_ => XS.ifNo X0.here hx rfl (hb hby d9_9) rfl ((if0 _ _).trans (flt hc9).1) kq_) ?_
    refine own_G.step (g' := (mkF m 13 #[.val (.long j), .second, .val (.int (128 : Int32))] [(.long j)])) (fun tq_ kq_ => XS.lloadN X0.here hx rfl (hb hby d9_12) rfl kq_) ?_
    refine own_G.step (g' := (mkF m 16 #[.val (.long j), .second, .val (.int (128 : Int32))] [(.long (127 : Int64)), (.long j)])) (fun tq_ kq_ => X0.ldc2Long hx hown (mvT hZ (hw _ (List.mem_of_getElem? (i := 80) rfl))) (g := (mkF m 13 #[.val (.long j), .second, .val (.int (128 : Int32))] [(.long j)])) rfl (hb hby d9_13) _ kq_) ?_
    refine own_G.step (g' := (mkF m 17 #[.val (.long j), .second, .val (.int (128 : Int32))] [(.int (lcmpW j (127 : Int64)))])) (fun tq_ kq_ => XS.lcmp X0.here hx rfl (hb hby d9_16) rfl kq_) ?_
    rcases Classical.em ((0 : Int32) < (lcmpW j (127 : Int64))) with hc17 | hc17
    · refine own_G.step (g' := (mkF m 31 #[.val (.long j), .second, .val (.int (128 : Int32))] [])) (fun tq_ kq_ => XS.ifYes X0.here hx rfl (pc0 := 17) (pc' := 31) rfl (hb hby d9_17) rfl ((if0 _ _).trans (tlt hc17).2.2.1) (by decide) (by decide) kq_) ?_
      obtain ⟨T13, h13, X13, e13, E13, A13, D13, -, st13⟩ := newO X0 hx hZ hown (hw _ (List.mem_of_getElem? (i := 52) rfl)) (hw _ (List.mem_of_getElem? (i := 53) rfl)) (hw _ (List.mem_of_getElem? (i := 49) rfl)) e0 (g := (mkF m 31 #[.val (.long j), .second, .val (.int (128 : Int32))] [])) rfl (hb hby d9_31) (by decide) (by decide)
      obtain ⟨b13, g13⟩ : ∃ z, z = h0.size := ⟨_, rfl⟩
      rw [← g13] at A13 D13 st13
      have g14 : n0 ≤ b13 := Nat.le_trans O0.le (Nat.le_of_eq g13.symm)
      have z15 : h0.size ≤ b13 := Nat.le_trans K0.1 (Nat.le_of_eq g13.symm)
      have O16 := O0.ext E13
      have K17 := K0.ext E13
      have F18 : Fld Z h13 b13 "java/lang/Long" "value" "J" (.long (0 : Int64)) := D13 (Or.inr (hw _ (List.mem_of_getElem? (i := 66) rfl))) (ty := .long) (by decide)
      refine own_G.step (T' := T13) (g' := (mkF m 34 #[.val (.long j), .second, .val (.int (128 : Int32))] [(.ref b13)])) st13 ?_
      refine own_G.step (g' := (mkF m 35 #[.val (.long j), .second, .val (.int (128 : Int32))] [(.ref b13), (.ref b13)])) (fun tq_ kq_ => XS.dup X13.here hx rfl (hb hby d9_34) rfl rfl kq_) ?_
      refine own_G.step (g' := (mkF m 36 #[.val (.long j), .second, .val (.int (128 : Int32))] [(.long j), (.ref b13), (.ref b13)])) (fun tq_ kq_ => XS.lloadN X13.here hx rfl (hb hby d9_35) rfl kq_) ?_
      obtain ⟨_, _, ⟨T19, L19, k19, n19⟩, -, X19, ⟨Lc19, hQ19, l19, y19, z19⟩, st19⟩ := X13.specialBack hx (y := (⟨"java/lang/Long", "<init>", "(J)V"⟩ : MethodName)) rfl hown (mvT hZ (hw _ (List.mem_of_getElem? (i := 54) rfl))) (mvT hZ (hw _ (List.mem_of_getElem? (i := 55) rfl))) (mvT hZ (hw _ (List.mem_of_getElem? (i := 57) rfl))) (by decide) (backOf (W := 1) (rm_lnginit l Z a0 hw [] b13 j h13 n0 O16 F18 A13 g14) hZ (hw _ (List.mem_of_getElem? (i := 57) rfl)) (hw _ (List.mem_of_getElem? (i := 49) rfl)) (by decide) (by decide)) (g := (mkF m 36 #[.val (.long j), .second, .val (.int (128 : Int32))] [(.long j), (.ref b13), (.ref b13)])) rfl (by rw [hml]; rfl) (Steps.refl _) (a := b13) (argsL := [(.long j)]) (rest := [(.ref b13)]) (lenOf pd__28J_29V rfl) rfl (by show 2 * 0 + _ ≤ _; exact Nat.le_of_eq rfl) (hb hby d9_36) (fun _ _ => ⟨rfl, e13, (by decide : 1 + 0 ≤ _), (by decide : 1 + 0 ≤ _)⟩)
      dsimp only [Pt.U, Pt.locs, Pt.cells, Pt.slots] at X19 l19 y19 z19 st19 hQ19
      subst l19 y19 z19
      obtain ⟨rfl, Nq19, P20, P21⟩ := hQ19
      have N19 := Fr.app N0 Nq19
      have F22 := A13.keep P20
      have O23 := O16.keep P20 (allS g14 all0)
      have K24 := K17.trans P20 (allS (Or.inr z15) all0)
      refine own_G.step (T' := T19) (g' := (mkF m 39 #[.val (.long j), .second, .val (.int (128 : Int32))] [(.ref b13)])) (fun tq_ kq_ => st19.trans kq_) ?_
      exact own_ret X19 rfl (v := some (.ref b13)) (fun h => by rw [Bd.returns] at h; cases h) Bd.notSynchronized ⟨b13, rfl, N19, K24, P21⟩ (by decide) (by decide) (fun fs hr => own_retR X19 hx Bd.returns rfl rfl (hb hby d9_39) hr)
    · refine own_G.step (g' := (mkF m 20 #[.val (.long j), .second, .val (.int (128 : Int32))] [])) (fun tq_ kq_ => XS.ifNo X0.here hx rfl (hb hby d9_17) rfl ((if0 _ _).trans (flt hc17).2.2.1) kq_) ?_
      obtain ⟨T25, X25, e25, st25⟩ := getS2 X0 hx hZ hown (host := "") (Or.inl (hw _ (List.mem_of_getElem? (i := 81) rfl))) Via.refl e0 (Sta.ext O0.2 S_lcache) (g := (mkF m 20 #[.val (.long j), .second, .val (.int (128 : Int32))] [])) rfl (hb hby d9_20)
      refine own_G.step (T' := T25) (g' := (mkF m 23 #[.val (.long j), .second, .val (.int (128 : Int32))] [(.ref la)])) st25 ?_
      refine own_G.step (g' := (mkF m 24 #[.val (.long j), .second, .val (.int (128 : Int32))] [(.long j), (.ref la)])) (fun tq_ kq_ => XS.lloadN X25.here hx rfl (hb hby d9_23) rfl kq_) ?_
      refine own_G.step (g' := (mkF m 25 #[.val (.long j), .second, .val (.int (128 : Int32))] [(.int (j.toInt32)), (.ref la)])) (fun tq_ kq_ => XS.l2i X25.here hx rfl (hb hby d9_24) rfl kq_) ?_
      refine own_G.step (g' := (mkF m 28 #[.val (.long j), .second, .val (.int (128 : Int32))] [(.int (128 : Int32)), (.int (j.toInt32)), (.ref la)])) (fun tq_ kq_ => XS.sipush X25.here hx rfl (hb hby d9_25) kq_) ?_
      refine own_G.step (g' := (mkF m 29 #[.val (.long j), .second, .val (.int (128 : Int32))] [(.int ((j.toInt32) + (128 : Int32))), (.ref la)])) (fun tq_ kq_ => XS.iadd X25.here hx rfl (hb hby d9_28) rfl kq_) ?_
      have hin26 := own_lbox_in LX.2.1 hc9 hc17
      obtain ⟨b26, hat26, Eb26, Fb26⟩ := LX.2.2.2 _ hin26
      have Ar26 := (LX.ext O0.2).1
      have Eb26' := Exa.ext O0.2 Eb26
      refine own_G.step (g' := (mkF m 30 #[.val (.long j), .second, .val (.int (128 : Int32))] [(.ref b26)])) (fun tq_ kq_ => X25.aaload hx (j := ((j.toInt32) + (128 : Int32))) (v := (.ref b26)) (by rw [e25]; exact Ar26.1) (State.isArrayOf_alike hZ.alike Ar26.2.1) rfl Ar26.2.2 hin26 hat26 (g := (mkF m 29 #[.val (.long j), .second, .val (.int (128 : Int32))] [(.int ((j.toInt32) + (128 : Int32))), (.ref la)])) rfl rfl (hb hby d9_29) _ kq_) ?_
      exact own_ret X25 e25 (v := some (.ref b26)) (fun h => by rw [Bd.returns] at h; cases h) Bd.notSynchronized ⟨b26, rfl, N0, K0, Eb26'⟩ (by decide) (by decide) (fun fs hr => own_retR X25 hx Bd.returns rfl rfl (hb hby d9_30) hr)
def own_bnd (a : Value) (w0 w1 : Addr) : Int32 := if a = .ref w0 then 1 else if a = .ref w1 then 1 else 0
theorem d7_0 : decode prog_14_method_18_code 0 = .ok (.aload_n 0, 1) := by decide +kernel
theorem d7_1 : decode prog_14_method_18_code 1 = .ok (.getstatic 44, 3) := by decide +kernel
theorem d7_4 : decode prog_14_method_18_code 4 = .ok (.if_acmp .eq 10, 3) := by decide +kernel
theorem d7_7 : decode prog_14_method_18_code 7 = .ok (.aload_n 0, 1) := by decide +kernel
theorem d7_8 : decode prog_14_method_18_code 8 = .ok (.getstatic 180, 3) := by decide +kernel
theorem d7_11 : decode prog_14_method_18_code 11 = .ok (.if_acmp .ne 7, 3) := by decide +kernel
theorem d7_14 : decode prog_14_method_18_code 14 = .ok (.iconst 1, 1) := by decide +kernel
theorem d7_15 : decode prog_14_method_18_code 15 = .ok (.goto 4, 3) := by decide +kernel
theorem d7_18 : decode prog_14_method_18_code 18 = .ok (.iconst 0, 1) := by decide +kernel
theorem d7_19 : decode prog_14_method_18_code 19 = .ok (.ireturn, 1) := by decide +kernel
theorem pn_com_2fexample_2fbough_2fbough_2fKeyOrder : plainName "com/example/bough/bough/KeyOrder" = true := by first | (simp [plainName, overriddenIn]; done) | decide +kernel
theorem ef_bnd (m : MethodId) (a : Value) (ra : a.isRef = true) : entryFrame m #[a] 1 = mkF m 0 #[.val a] [] := by
  rcases ref_cases ra with rfl | ⟨z, rfl⟩ <;> first | (simp [entryFrame, mkF, argsToLocals, Value.category]; done) | rfl
def Q_bnd (Z : State) (a : Value) (w0 : Addr) (w1 : Addr) (h0 : Heap) (n0 : Nat) (v : Option Value) (h : Heap) (L : List Loc) : Prop := v = some (.int (own_bnd a w0 w1)) ∧ Fr n0 L ∧ h = h0
set_option maxRecDepth 65536 in
set_option maxHeartbeats 40000000 in
theorem rm_bnd (l : Launch) (Z : State) (a0 : Array Value) (hw : ∀ d ∈ tables_1, d.before a0 Z = true) (ws : List Jvm.Cond) (a : Value) (w0 : Addr) (w1 : Addr) (h0 : Heap) (n0 : Nat) (O0 : Old Z n0 h0) (ra : a.isRef = true) (S_INF1 : Sta Z Z.heap "com/example/bough/bough/KeyOrder" "INF1" "Ljava/lang/Object;" (.ref w0)) (S_INF2 : Sta Z Z.heap "com/example/bough/bough/KeyOrder" "INF2" "Ljava/lang/Object;" (.ref w1)) :
    MetFree l (⟨"com/example/bough/bough/KeyOrder", "isBoundary", "(Ljava/lang/Object;)Z"⟩ : MethodName) (head1 (Jvm.Cond.code (⟨"com/example/bough/bough/KeyOrder", "isBoundary", "(Ljava/lang/Object;)Z"⟩ : MethodName) prog_14_method_18_code 1 (some .boolean) :: ws) ({ frames := 0, cells := 0, slots := 0, locals := 0 } : Room)) (fun aq_ Uq_ => aq_ = #[a] ∧ Z.Warmed39 Uq_.vm ∧ Uq_.heap = h0) (fun _ _ _ _ _ => True) (fun _ Uq_ oq_ Ur_ => ∃ vq_ Lq_, oq_ = .returned vq_ ∧ Q_bnd Z a w0 w1 h0 n0 vq_ Ur_.heap Lq_ ∧ FrameEnd Uq_ oq_ Ur_ Lq_ ({ frames := 0, cells := 0, slots := 0, locals := 0 } : Room).cells ({ frames := 0, cells := 0, slots := 0, locals := 0 } : Room).slots) := by
  refine MetFree.of_bodySF (plainFor_of_name pn_com_2fexample_2fbough_2fbough_2fKeyOrder) hisR ?_
  intro p e s m args below meth c s₁ Bd hml0 hP hK
  obtain ⟨rfl, hZ, hh⟩ := hP
  have hx := Bd.exec
  have hby := Bd.bytes
  have hml : c.maxLocals = 1 := hml0
  have hown : s.vm.findClass "com/example/bough/bough/KeyOrder" = some m.cls := findClass_of_methodNamed Bd.named
  have hnm := (name_of_methodNamed Bd.named Bd.method).1
  have X0 : Stand p l e ({ frames := 0, cells := 0, slots := 0, locals := 0 } : Room) s m #[a] below meth c s₁ [] 0 0 := Stand.of_body Bd
  have e0 : s₁.heap = h0 := by rw [← hh, Bd.state]; rfl
  have N0 := Fr.nil n0
  have K0 := Keep.refl h0 []
  refine own_G.start (Q := Q_bnd Z a w0 w1 h0 n0) (ef_bnd m a ra) ?_
  refine own_G.step (g' := (mkF m 1 #[.val a] [a])) (fun tq_ kq_ => XS.aloadN X0.here hx rfl (hb hby d7_0) rfl ra kq_) ?_
  obtain ⟨T1, X1, e1, st1⟩ := getS2 X0 hx hZ hown (host := "") (Or.inl (hw _ (List.mem_of_getElem? (i := 37) rfl))) Via.refl e0 (Sta.ext O0.2 S_INF1) (g := (mkF m 1 #[.val a] [a])) rfl (hb hby d7_1)
  refine own_G.step (T' := T1) (g' := (mkF m 4 #[.val a] [(.ref w0), a])) st1 ?_
  rcases Classical.em ((a : Value) = (.ref w0)) with hc4 | hc4
  · refine own_G.step (g' := (mkF m 14 #[.val a] [])) (fun tq_ kq_ => Jvm.RoadKit.acmp (g := (mkF m 4 #[.val a] [(.ref w0), a])) X1 hx rfl ra rfl (pc0 := 4) (pc' := 14) (same := true) rfl (hb hby d7_4) rfl (decide_eq_true (show (a : Value) = (.ref w0) from hc4)) (by decide) (by decide) kq_) ?_
    refine own_G.step (g' := (mkF m 15 #[.val a] [(.int (1 : Int32))])) (fun tq_ kq_ => XS.iconst X1.here hx rfl (hb hby d7_14) kq_) ?_
    refine own_G.step (g' := (mkF m 19 #[.val a] [(.int (1 : Int32))])) (fun tq_ kq_ => XS.goto X1.here hx rfl (pc0 := 15) (pc' := 19) rfl (hb hby d7_15) (by decide) (by decide) kq_) ?_
    exact own_ret X1 e1 (v := some (.int (1 : Int32))) (fun h => by rw [Bd.returns] at h; cases h) Bd.notSynchronized ⟨(by simp [own_bnd, hc4]), N0, rfl⟩ (by decide) (by decide) (fun fs hr => retN X1 hx (t := .boolean) Bd.returns (by simp) (hb hby d7_19) hr)
  · refine own_G.step (g' := (mkF m 7 #[.val a] [])) (fun tq_ kq_ => Jvm.RoadKit.acmp (g := (mkF m 4 #[.val a] [(.ref w0), a])) X1 hx rfl ra rfl (pc0 := 4) (pc' := 7) (same := false) rfl (hb hby d7_4) rfl (decide_eq_false (show ¬ ((a : Value) = (.ref w0)) from hc4)) (by decide) (by decide) kq_) ?_
    refine own_G.step (g' := (mkF m 8 #[.val a] [a])) (fun tq_ kq_ => XS.aloadN X1.here hx rfl (hb hby d7_7) rfl ra kq_) ?_
    obtain ⟨T2, X2, e2, st2⟩ := getS2 X1 hx hZ hown (host := "") (Or.inl (hw _ (List.mem_of_getElem? (i := 45) rfl))) Via.refl e1 (Sta.ext O0.2 S_INF2) (g := (mkF m 8 #[.val a] [a])) rfl (hb hby d7_8)
    refine own_G.step (T' := T2) (g' := (mkF m 11 #[.val a] [(.ref w1), a])) st2 ?_
    rcases Classical.em ((a : Value) = (.ref w1)) with hc11 | hc11
    · refine own_G.step (g' := (mkF m 14 #[.val a] [])) (fun tq_ kq_ => Jvm.RoadKit.acmp (g := (mkF m 11 #[.val a] [(.ref w1), a])) X2 hx rfl ra rfl (pc0 := 11) (pc' := 14) (same := true) rfl (hb hby d7_11) rfl (decide_eq_true (show (a : Value) = (.ref w1) from hc11)) (by decide) (by decide) kq_) ?_
      refine own_G.step (g' := (mkF m 15 #[.val a] [(.int (1 : Int32))])) (fun tq_ kq_ => XS.iconst X2.here hx rfl (hb hby d7_14) kq_) ?_
      refine own_G.step (g' := (mkF m 19 #[.val a] [(.int (1 : Int32))])) (fun tq_ kq_ => XS.goto X2.here hx rfl (pc0 := 15) (pc' := 19) rfl (hb hby d7_15) (by decide) (by decide) kq_) ?_
      exact own_ret X2 e2 (v := some (.int (1 : Int32))) (fun h => by rw [Bd.returns] at h; cases h) Bd.notSynchronized ⟨(by simp [own_bnd, hc4, hc11]), N0, rfl⟩ (by decide) (by decide) (fun fs hr => retN X2 hx (t := .boolean) Bd.returns (by simp) (hb hby d7_19) hr)
    · refine own_G.step (g' := (mkF m 18 #[.val a] [])) (fun tq_ kq_ => Jvm.RoadKit.acmp (g := (mkF m 11 #[.val a] [(.ref w1), a])) X2 hx rfl ra rfl (pc0 := 11) (pc' := 18) (same := false) rfl (hb hby d7_11) rfl (decide_eq_false (show ¬ ((a : Value) = (.ref w1)) from hc11)) (by decide) (by decide) kq_) ?_
      refine own_G.step (g' := (mkF m 19 #[.val a] [(.int (0 : Int32))])) (fun tq_ kq_ => XS.iconst X2.here hx rfl (hb hby d7_18) kq_) ?_
      exact own_ret X2 e2 (v := some (.int (0 : Int32))) (fun h => by rw [Bd.returns] at h; cases h) Bd.notSynchronized ⟨(by simp [own_bnd, hc4, hc11]), N0, rfl⟩ (by decide) (by decide) (fun fs hr => retN X2 hx (t := .boolean) Bd.returns (by simp) (hb hby d7_19) hr)
theorem pd__28_5bC_29V : parseMethodDescriptor "([C)V" = some ⟨[(.array .char)], none⟩ := by decide +kernel
theorem pd__28Ljava_2flang_2fObject_3b_29Z : parseMethodDescriptor "(Ljava/lang/Object;)Z" = some ⟨[(.object "java/lang/Object")], some .boolean⟩ := by decide +kernel
theorem pd__28I_29Ljava_2flang_2fInteger_3b : parseMethodDescriptor "(I)Ljava/lang/Integer;" = some ⟨[.int], some (.object "java/lang/Integer")⟩ := by decide +kernel
theorem pd__28J_29Ljava_2flang_2fLong_3b : parseMethodDescriptor "(J)Ljava/lang/Long;" = some ⟨[.long], some (.object "java/lang/Long")⟩ := by decide +kernel
theorem pn_com_2fexample_2fbough_2fbough_2fKeyOrderIsBoundaryPinLaw : plainName "com/example/bough/bough/KeyOrderIsBoundaryPinLaw" = true := by first | (simp [plainName, overriddenIn]; done) | decide +kernel
theorem ef_law (m : MethodId) (i0 : Int32) (i1 : Int32) (i2 : Int64) (i3 : Int32) (i4 : Int32) : entryFrame m #[(.int i0), (.int i1), (.long i2), (.int i3), (.int i4)] maxLocals = mkF m 0 #[.val (.int i0), .val (.int i1), .val (.long i2), .second, .val (.int i3), .val (.int i4), .unset, .unset, .unset, .unset, .unset] [] := by
  first | (simp [entryFrame, mkF, argsToLocals, Value.category, maxLocals]; done) | rfl
def Q_law (Z : State) (i0 : Int32) (i1 : Int32) (i2 : Int64) (i3 : Int32) (i4 : Int32) (w0 : Addr) (w1 : Addr) (w2 : Addr) (w3 : Addr) (csz : Int32) (ca : Addr) (cc : Cell) (la : Addr) (lc : Cell) (h0 : Heap) (n0 : Nat) (v : Option Value) (h : Heap) (L : List Loc) : Prop := v = some (.int 1) ∧ Fr n0 L
set_option maxRecDepth 65536 in
set_option maxHeartbeats 40000000 in
theorem rm_law (l : Launch) (Z : State) (a0 : Array Value) (hw : ∀ d ∈ tables_1, d.before a0 Z = true) (ws : List Jvm.Cond) (i0 : Int32) (i1 : Int32) (i2 : Int64) (i3 : Int32) (i4 : Int32) (w0 : Addr) (w1 : Addr) (w2 : Addr) (w3 : Addr) (csz : Int32) (ca : Addr) (cc : Cell) (la : Addr) (lc : Cell) (h0 : Heap) (n0 : Nat) (O0 : Old Z n0 h0) (S_INF1 : Sta Z Z.heap "com/example/bough/bough/KeyOrder" "INF1" "Ljava/lang/Object;" (.ref w0)) (S_INF2 : Sta Z Z.heap "com/example/bough/bough/KeyOrder" "INF2" "Ljava/lang/Object;" (.ref w1)) (S_LOWEST : Sta Z Z.heap "com/example/bough/bough/KeyOrder" "LOWEST" "Ljava/lang/Object;" (.ref w2)) (S_HIGHEST : Sta Z Z.heap "com/example/bough/bough/KeyOrder" "HIGHEST" "Ljava/lang/Object;" (.ref w3)) (E_INF1 : Exa Z Z.heap w0 "java/lang/Object") (E_INF2 : Exa Z Z.heap w1 "java/lang/Object") (E_LOWEST : Exa Z Z.heap w2 "java/lang/Object") (E_HIGHEST : Exa Z Z.heap w3 "java/lang/Object") (n30 : w3 ≠ w0) (n31 : w3 ≠ w1) (n01 : w0 ≠ w1) (n02 : w0 ≠ w2) (n12 : w1 ≠ w2) (S_CS : Sta Z Z.heap "java/lang/String" "COMPACT_STRINGS" "Z" (.int csz)) (hcs : ¬ csz = (0 : Int32)) (S_high : Sta Z Z.heap "java/lang/Integer$IntegerCache" "high" "I" (.int (127 : Int32))) (S_cache : Sta Z Z.heap "java/lang/Integer$IntegerCache" "cache" "[Ljava/lang/Integer;" (.ref ca)) (BX : Bxs Z ca cc "java/lang/Integer" "I" (256 : Int32) (fun j => .int (j - 128))) (S_lcache : Sta Z Z.heap "java/lang/Long$LongCache" "cache" "[Ljava/lang/Long;" (.ref la)) (LX : Bxs Z la lc "java/lang/Long" "J" (256 : Int32) (fun j => .long (j - 128).toInt64)) :
    MetFree l x (head1 (Jvm.Cond.code x code maxLocals ret :: ws) room_1) (fun aq_ Uq_ => aq_ = #[(.int i0), (.int i1), (.long i2), (.int i3), (.int i4)] ∧ Z.Warmed39 Uq_.vm ∧ Uq_.heap = h0) (fun _ _ _ _ _ => True) (fun _ Uq_ oq_ Ur_ => ∃ vq_ Lq_, oq_ = .returned vq_ ∧ Q_law Z i0 i1 i2 i3 i4 w0 w1 w2 w3 csz ca cc la lc h0 n0 vq_ Ur_.heap Lq_ ∧ FrameEnd Uq_ oq_ Ur_ Lq_ 4 9) := by
  refine MetFree.of_bodySF (plainFor_of_name pn_com_2fexample_2fbough_2fbough_2fKeyOrderIsBoundaryPinLaw) hisR ?_
  intro p e s m args below meth c s₁ Bd hml0 hP hK
  obtain ⟨rfl, hZ, hh⟩ := hP
  have hx := Bd.exec
  have hby := Bd.bytes
  have hml : c.maxLocals = 11 := hml0
  have hown : s.vm.findClass "com/example/bough/bough/KeyOrderIsBoundaryPinLaw" = some m.cls := findClass_of_methodNamed Bd.named
  have hnm := (name_of_methodNamed Bd.named Bd.method).1
  have X0 : Stand p l e room_1 s m #[(.int i0), (.int i1), (.long i2), (.int i3), (.int i4)] below meth c s₁ [] 0 0 := Stand.of_body Bd
  have e0 : s₁.heap = h0 := by rw [← hh, Bd.state]; rfl
  have N0 := Fr.nil n0
  have K0 := Keep.refl h0 []
  refine own_G.start (Q := Q_law Z i0 i1 i2 i3 i4 w0 w1 w2 w3 csz ca cc la lc h0 n0) (ef_law m i0 i1 i2 i3 i4) ?_
  refine own_G.step (g' := (mkF m 1 #[.val (.int i0), .val (.int i1), .val (.long i2), .second, .val (.int i3), .val (.int i4), .unset, .unset, .unset, .unset, .unset] [(.int i0)])) (fun tq_ kq_ => XS.iloadN X0.here hx rfl (hb hby at_0) rfl kq_) ?_
  refine own_G.step (g' := (mkF m 3 #[.val (.int i0), .val (.int i1), .val (.long i2), .second, .val (.int i3), .val (.int i4), .unset, .unset, .unset, .unset, .unset] [(.int (2147483647 : Int32)), (.int i0)])) (fun tq_ kq_ => X0.ldcInt hx hown (mvT hZ (hw _ (List.mem_of_getElem? (i := 0) rfl))) (g := (mkF m 1 #[.val (.int i0), .val (.int i1), .val (.long i2), .second, .val (.int i3), .val (.int i4), .unset, .unset, .unset, .unset, .unset] [(.int i0)])) rfl (hb hby at_1) _ kq_) ?_
  refine own_G.step (g' := (mkF m 4 #[.val (.int i0), .val (.int i1), .val (.long i2), .second, .val (.int i3), .val (.int i4), .unset, .unset, .unset, .unset, .unset] [(.int (i0 &&& (2147483647 : Int32)))])) (fun tq_ kq_ => XS.iand X0.here hx rfl (hb hby at_3) rfl kq_) ?_
  refine own_G.step (g' := (mkF m 6 #[.val (.int i0), .val (.int i1), .val (.long i2), .second, .val (.int i3), .val (.int i4), .unset, .unset, .unset, .unset, .unset] [(.int (8 : Int32)), (.int (i0 &&& (2147483647 : Int32)))])) (fun tq_ kq_ => XS.bipush X0.here hx rfl (hb hby at_4) kq_) ?_
  refine own_G.step (g' := (mkF m 7 #[.val (.int i0), .val (.int i1), .val (.long i2), .second, .val (.int i3), .val (.int i4), .unset, .unset, .unset, .unset, .unset] [(.int ((i0 &&& (2147483647 : Int32)) % (8 : Int32)))])) (fun tq_ kq_ => iremM (g := (mkF m 6 #[.val (.int i0), .val (.int i1), .val (.long i2), .second, .val (.int i3), .val (.int i4), .unset, .unset, .unset, .unset, .unset] [(.int (8 : Int32)), (.int (i0 &&& (2147483647 : Int32)))])) X0 hx rfl (hb hby at_6) rfl (by decide) kq_) ?_
  refine own_G.step (g' := (mkF m 9 #[.val (.int i0), .val (.int i1), .val (.long i2), .second, .val (.int i3), .val (.int i4), .val (.int ((i0 &&& (2147483647 : Int32)) % (8 : Int32))), .unset, .unset, .unset, .unset] [])) (fun tq_ kq_ => XS.istore X0.here hx rfl (hb hby at_7) rfl (l' := #[.val (.int i0), .val (.int i1), .val (.long i2), .second, .val (.int i3), .val (.int i4), .val (.int ((i0 &&& (2147483647 : Int32)) % (8 : Int32))), .unset, .unset, .unset, .unset]) rfl kq_) ?_
  obtain ⟨i, hi⟩ : ∃ z, z = ((i0 &&& (2147483647 : Int32)) % (8 : Int32)) := ⟨_, rfl⟩
  refine own_G.cast (g' := (mkF m 9 #[.val (.int i0), .val (.int i1), .val (.long i2), .second, .val (.int i3), .val (.int i4), .val (.int i), .unset, .unset, .unset, .unset] [])) (by rw [hi]) ?_
  have hte := own_eight i0
  rw [← hi] at hte
  have hws : ∀ d ∈ StrChars.Road.words, d.before a0 Z = true := fun d hd => hw d ((by decide +kernel : ∀ d ∈ StrChars.Road.words, d ∈ tables_1) d hd)
  refine own_G.step (g' := (mkF m 10 #[.val (.int i0), .val (.int i1), .val (.long i2), .second, .val (.int i3), .val (.int i4), .val (.int i), .unset, .unset, .unset, .unset] [(.int (2 : Int32))])) (fun tq_ kq_ => XS.iconst X0.here hx rfl (hb hby at_9) kq_) ?_
  obtain ⟨T1, h1, k1, X1, e1, E1, A1, st1⟩ := newP X0 hx hZ (hw _ (List.mem_of_getElem? (i := 1) rfl)) e0 (g := (mkF m 10 #[.val (.int i0), .val (.int i1), .val (.long i2), .second, .val (.int i3), .val (.int i4), .val (.int i), .unset, .unset, .unset, .unset] [(.int (2 : Int32))])) rfl (hb hby at_10) rfl (by decide) (cap := 2) (by decide) (by decide) (by decide) (by decide)
  obtain ⟨b1, g1⟩ : ∃ z, z = h0.size := ⟨_, rfl⟩
  rw [← g1] at A1 st1
  have g2 : n0 ≤ b1 := Nat.le_trans O0.le (Nat.le_of_eq g1.symm)
  have z3 : h0.size ≤ b1 := Nat.le_trans K0.1 (Nat.le_of_eq g1.symm)
  have O4 := O0.ext E1
  have K5 := K0.ext E1
  have F6 : Arv Z h1 b1 k1 .char (2 : Int32) [(.int (0 : Int32)), (.int (0 : Int32))] (.int (0 : Int32)) := (Arv.new A1 (by decide)).pad (pad_rep [] (.int (0 : Int32)) 2)
  refine own_G.step (T' := T1) (g' := (mkF m 12 #[.val (.int i0), .val (.int i1), .val (.long i2), .second, .val (.int i3), .val (.int i4), .val (.int i), .unset, .unset, .unset, .unset] [(.ref b1)])) st1 ?_
  refine own_G.step (g' := (mkF m 14 #[.val (.int i0), .val (.int i1), .val (.long i2), .second, .val (.int i3), .val (.int i4), .val (.int i), .val (.ref b1), .unset, .unset, .unset] [])) (fun tq_ kq_ => XS.astore X1.here hx rfl (hb hby at_12) rfl rfl (l' := #[.val (.int i0), .val (.int i1), .val (.long i2), .second, .val (.int i3), .val (.int i4), .val (.int i), .val (.ref b1), .unset, .unset, .unset]) rfl kq_) ?_
  refine own_G.step (g' := (mkF m 16 #[.val (.int i0), .val (.int i1), .val (.long i2), .second, .val (.int i3), .val (.int i4), .val (.int i), .val (.ref b1), .unset, .unset, .unset] [(.ref b1)])) (fun tq_ kq_ => XS.aload X1.here hx rfl (hb hby at_14) rfl rfl kq_) ?_
  refine own_G.step (g' := (mkF m 17 #[.val (.int i0), .val (.int i1), .val (.long i2), .second, .val (.int i3), .val (.int i4), .val (.int i), .val (.ref b1), .unset, .unset, .unset] [(.int (0 : Int32)), (.ref b1)])) (fun tq_ kq_ => XS.iconst X1.here hx rfl (hb hby at_16) kq_) ?_
  refine own_G.step (g' := (mkF m 19 #[.val (.int i0), .val (.int i1), .val (.long i2), .second, .val (.int i3), .val (.int i4), .val (.int i), .val (.ref b1), .unset, .unset, .unset] [(.int i3), (.int (0 : Int32)), (.ref b1)])) (fun tq_ kq_ => XS.iload X1.here hx rfl (hb hby at_17) rfl kq_) ?_
  refine own_G.step (g' := (mkF m 22 #[.val (.int i0), .val (.int i1), .val (.long i2), .second, .val (.int i3), .val (.int i4), .val (.int i), .val (.ref b1), .unset, .unset, .unset] [(.int (255 : Int32)), (.int i3), (.int (0 : Int32)), (.ref b1)])) (fun tq_ kq_ => XS.sipush X1.here hx rfl (hb hby at_19) kq_) ?_
  refine own_G.step (g' := (mkF m 23 #[.val (.int i0), .val (.int i1), .val (.long i2), .second, .val (.int i3), .val (.int i4), .val (.int i), .val (.ref b1), .unset, .unset, .unset] [(.int (i3 &&& (255 : Int32))), (.int (0 : Int32)), (.ref b1)])) (fun tq_ kq_ => XS.iand X1.here hx rfl (hb hby at_22) rfl kq_) ?_
  refine own_G.step (g' := (mkF m 24 #[.val (.int i0), .val (.int i1), .val (.long i2), .second, .val (.int i3), .val (.int i4), .val (.int i), .val (.ref b1), .unset, .unset, .unset] [(.int ((i3 &&& (255 : Int32)).toUInt32.toUInt16.toUInt32.toInt32)), (.int (0 : Int32)), (.ref b1)])) (fun tq_ kq_ => XS.i2c X1.here hx rfl (hb hby at_23) rfl kq_) ?_
  obtain ⟨cl7, Ar7, q17, Sz7, Nz7, Hh7, Gg7⟩ := id F6
  obtain ⟨T7, h7, X7, e7, W7, st7⟩ := stC X1 hx hZ e1 Ar7 (j := (0 : Int32)) (inb_of Sz7 ⟨by decide, by decide⟩) (g := (mkF m 24 #[.val (.int i0), .val (.int i1), .val (.long i2), .second, .val (.int i3), .val (.int i4), .val (.int i), .val (.ref b1), .unset, .unset, .unset] [(.int ((i3 &&& (255 : Int32)).toUInt32.toUInt16.toUInt32.toInt32)), (.int (0 : Int32)), (.ref b1)])) rfl rfl (hb hby at_24)
  have F8 : Arv Z h7 b1 k1 .char (2 : Int32) [(.int (nar .char ((i3 &&& (255 : Int32)).toUInt32.toUInt16.toUInt32.toInt32))), (.int (0 : Int32))] (.int (0 : Int32)) := Arv.set Ar7 q17 Sz7 Nz7 Hh7 Gg7 (fits_nar_char _) W7 0 rfl (Nat.le_of_ble_eq_true rfl)
  have N7 := Fr.snoc X7 N0 g2
  have O10 := O4.wr W7 g2
  have K11 := K5.wr W7 (Or.inr z3)
  refine own_G.step (T' := T7) (g' := (mkF m 25 #[.val (.int i0), .val (.int i1), .val (.long i2), .second, .val (.int i3), .val (.int i4), .val (.int i), .val (.ref b1), .unset, .unset, .unset] [])) st7 ?_
  refine own_G.step (g' := (mkF m 27 #[.val (.int i0), .val (.int i1), .val (.long i2), .second, .val (.int i3), .val (.int i4), .val (.int i), .val (.ref b1), .unset, .unset, .unset] [(.ref b1)])) (fun tq_ kq_ => XS.aload X7.here hx rfl (hb hby at_25) rfl rfl kq_) ?_
  refine own_G.step (g' := (mkF m 28 #[.val (.int i0), .val (.int i1), .val (.long i2), .second, .val (.int i3), .val (.int i4), .val (.int i), .val (.ref b1), .unset, .unset, .unset] [(.int (1 : Int32)), (.ref b1)])) (fun tq_ kq_ => XS.iconst X7.here hx rfl (hb hby at_27) kq_) ?_
  refine own_G.step (g' := (mkF m 30 #[.val (.int i0), .val (.int i1), .val (.long i2), .second, .val (.int i3), .val (.int i4), .val (.int i), .val (.ref b1), .unset, .unset, .unset] [(.int i4), (.int (1 : Int32)), (.ref b1)])) (fun tq_ kq_ => XS.iload X7.here hx rfl (hb hby at_28) rfl kq_) ?_
  refine own_G.step (g' := (mkF m 33 #[.val (.int i0), .val (.int i1), .val (.long i2), .second, .val (.int i3), .val (.int i4), .val (.int i), .val (.ref b1), .unset, .unset, .unset] [(.int (255 : Int32)), (.int i4), (.int (1 : Int32)), (.ref b1)])) (fun tq_ kq_ => XS.sipush X7.here hx rfl (hb hby at_30) kq_) ?_
  refine own_G.step (g' := (mkF m 34 #[.val (.int i0), .val (.int i1), .val (.long i2), .second, .val (.int i3), .val (.int i4), .val (.int i), .val (.ref b1), .unset, .unset, .unset] [(.int (i4 &&& (255 : Int32))), (.int (1 : Int32)), (.ref b1)])) (fun tq_ kq_ => XS.iand X7.here hx rfl (hb hby at_33) rfl kq_) ?_
  refine own_G.step (g' := (mkF m 35 #[.val (.int i0), .val (.int i1), .val (.long i2), .second, .val (.int i3), .val (.int i4), .val (.int i), .val (.ref b1), .unset, .unset, .unset] [(.int ((i4 &&& (255 : Int32)).toUInt32.toUInt16.toUInt32.toInt32)), (.int (1 : Int32)), (.ref b1)])) (fun tq_ kq_ => XS.i2c X7.here hx rfl (hb hby at_34) rfl kq_) ?_
  obtain ⟨cl12, Ar12, q112, Sz12, Nz12, Hh12, Gg12⟩ := id F8
  obtain ⟨T12, h12, X12, e12, W12, st12⟩ := stC X7 hx hZ e7 Ar12 (j := (1 : Int32)) (inb_of Sz12 ⟨by decide, by decide⟩) (g := (mkF m 35 #[.val (.int i0), .val (.int i1), .val (.long i2), .second, .val (.int i3), .val (.int i4), .val (.int i), .val (.ref b1), .unset, .unset, .unset] [(.int ((i4 &&& (255 : Int32)).toUInt32.toUInt16.toUInt32.toInt32)), (.int (1 : Int32)), (.ref b1)])) rfl rfl (hb hby at_35)
  have F13 : Arv Z h12 b1 k1 .char (2 : Int32) [(.int (nar .char ((i3 &&& (255 : Int32)).toUInt32.toUInt16.toUInt32.toInt32))), (.int (nar .char ((i4 &&& (255 : Int32)).toUInt32.toUInt16.toUInt32.toInt32)))] (.int (0 : Int32)) := Arv.set Ar12 q112 Sz12 Nz12 Hh12 Gg12 (fits_nar_char _) W12 1 rfl (Nat.le_of_ble_eq_true rfl)
  have N12 := Fr.snoc X12 N7 g2
  have O15 := O10.wr W12 g2
  have K16 := K11.wr W12 (Or.inr z3)
  refine own_G.step (T' := T12) (g' := (mkF m 36 #[.val (.int i0), .val (.int i1), .val (.long i2), .second, .val (.int i3), .val (.int i4), .val (.int i), .val (.ref b1), .unset, .unset, .unset] [])) st12 ?_
  obtain ⟨T17, h17, X17, e17, E17, A17, D17, -, st17⟩ := newO X12 hx hZ hown (hw _ (List.mem_of_getElem? (i := 2) rfl)) (hw _ (List.mem_of_getElem? (i := 3) rfl)) (hw _ (List.mem_of_getElem? (i := 4) rfl)) e12 (g := (mkF m 36 #[.val (.int i0), .val (.int i1), .val (.long i2), .second, .val (.int i3), .val (.int i4), .val (.int i), .val (.ref b1), .unset, .unset, .unset] [])) rfl (hb hby at_36) (by decide) (by decide)
  obtain ⟨b17, g17⟩ : ∃ z, z = h12.size := ⟨_, rfl⟩
  rw [← g17] at A17 D17 st17
  have ne18 : b1 ≠ b17 := Nat.ne_of_lt (Nat.lt_of_lt_of_le F13.lt (Nat.le_of_eq g17.symm))
  have g19 : n0 ≤ b17 := Nat.le_trans O15.le (Nat.le_of_eq g17.symm)
  have z20 : h0.size ≤ b17 := Nat.le_trans K16.1 (Nat.le_of_eq g17.symm)
  have F21 := F13.ext E17
  have O22 := O15.ext E17
  have K23 := K16.ext E17
  have F24 : Fld Z h17 b17 "java/lang/String" "coder" "B" (.int (0 : Int32)) := D17 (Or.inr (hw _ (List.mem_of_getElem? (i := 28) rfl))) (ty := .byte) (by decide)
  have F25 : Fld Z h17 b17 "java/lang/String" "value" "[B" .null := D17 (Or.inr (hw _ (List.mem_of_getElem? (i := 30) rfl))) (ty := (.array .byte)) (by decide)
  refine own_G.step (T' := T17) (g' := (mkF m 39 #[.val (.int i0), .val (.int i1), .val (.long i2), .second, .val (.int i3), .val (.int i4), .val (.int i), .val (.ref b1), .unset, .unset, .unset] [(.ref b17)])) st17 ?_
  refine own_G.step (g' := (mkF m 40 #[.val (.int i0), .val (.int i1), .val (.long i2), .second, .val (.int i3), .val (.int i4), .val (.int i), .val (.ref b1), .unset, .unset, .unset] [(.ref b17), (.ref b17)])) (fun tq_ kq_ => XS.dup X17.here hx rfl (hb hby at_39) rfl rfl kq_) ?_
  refine own_G.step (g' := (mkF m 42 #[.val (.int i0), .val (.int i1), .val (.long i2), .second, .val (.int i3), .val (.int i4), .val (.int i), .val (.ref b1), .unset, .unset, .unset] [(.ref b1), (.ref b17), (.ref b17)])) (fun tq_ kq_ => XS.aload X17.here hx rfl (hb hby at_40) rfl rfl kq_) ?_
  have hp26 : ∀ c ∈ ([(nar .char ((i3 &&& (255 : Int32)).toUInt32.toUInt16.toUInt32.toInt32)), (nar .char ((i4 &&& (255 : Int32)).toUInt32.toUInt16.toUInt32.toInt32))] : List Int32), ¬ c < 0 ∧ ¬ (255 : Int32) < c := by
    intro c hc
    simp only [List.mem_cons, List.not_mem_nil, or_false] at hc
    rcases hc with rfl | rfl
    · exact own_ch255 i3
    · exact own_ch255 i4
  obtain ⟨_, _, ⟨T27, L27, k27, n27⟩, -, X27, ⟨Lc27, hQ27, l27, y27, z27⟩, st27⟩ := X17.specialBack hx (y := (⟨"java/lang/String", "<init>", "([C)V"⟩ : MethodName)) rfl hown (mvT hZ (hw _ (List.mem_of_getElem? (i := 5) rfl))) (mvT hZ (hw _ (List.mem_of_getElem? (i := 6) rfl))) (mvT hZ (hw _ (List.mem_of_getElem? (i := 7) rfl))) (by decide) (StrChars.Road.backV (W := 1) hZ hws (kI := 4) (hw _ (List.mem_of_getElem? (i := 3) rfl)) (cs := ([(nar .char ((i3 &&& (255 : Int32)).toUInt32.toUInt16.toUInt32.toInt32)), (nar .char ((i4 &&& (255 : Int32)).toUInt32.toUInt16.toUInt32.toInt32))] : List Int32)) (bs := (([(nar .char ((i3 &&& (255 : Int32)).toUInt32.toUInt16.toUInt32.toInt32)), (nar .char ((i4 &&& (255 : Int32)).toUInt32.toUInt16.toUInt32.toInt32))] : List Int32).map (fun c => c.toInt8.toInt32))) (n := 2) g19 O22.le A17 F25 F24 F21 (Sta.ext O22.2 S_CS) hcs rfl rfl (by decide) (by decide) hp26 rfl (by decide) (by decide)) (g := (mkF m 42 #[.val (.int i0), .val (.int i1), .val (.long i2), .second, .val (.int i3), .val (.int i4), .val (.int i), .val (.ref b1), .unset, .unset, .unset] [(.ref b1), (.ref b17), (.ref b17)])) rfl (by rw [hml]; rfl) (Steps.refl _) (a := b17) (argsL := [(.ref b1)]) (rest := [(.ref b17)]) (lenOf pd__28_5bC_29V rfl) rfl (by show 2 * 0 + _ ≤ _; exact Nat.le_of_eq rfl) (hb hby at_42) (fun _ _ => ⟨rfl, e17, (by decide : 2 + 1 ≤ _), (by decide : 6 + 2 ≤ _)⟩)
  dsimp only [Pt.U, Pt.locs, Pt.cells, Pt.slots] at X27 l27 y27 z27 st27 hQ27
  subst l27 y27 z27
  obtain ⟨rfl, P28, P29, P30, P31, b32, kx33, P34, P35, P36, P37, P38⟩ := hQ27
  have N27 := Fr.app N12 P28
  have ne39 : b1 ≠ b32 := Nat.ne_of_lt (Nat.lt_of_lt_of_le F21.lt P35)
  have ne40 : b17 ≠ b32 := Nat.ne_of_lt (Nat.lt_of_lt_of_le A17.lt P35)
  have g41 : n0 ≤ b32 := Nat.le_trans O22.le P35
  have z42 : h0.size ≤ b32 := Nat.le_trans K23.1 P35
  have F43 := F21.keep P29 (ninS ne18 nin0)
  have F44 := A17.keep P29
  have O45 := O22.keep P29 (allS g19 all0)
  have K46 := K23.trans P29 (allS (Or.inr z20) all0)
  refine own_G.step (T' := T27) (g' := (mkF m 45 #[.val (.int i0), .val (.int i1), .val (.long i2), .second, .val (.int i3), .val (.int i4), .val (.int i), .val (.ref b1), .unset, .unset, .unset] [(.ref b17)])) (fun tq_ kq_ => st27.trans kq_) ?_
  refine own_G.step (g' := (mkF m 47 #[.val (.int i0), .val (.int i1), .val (.long i2), .second, .val (.int i3), .val (.int i4), .val (.int i), .val (.ref b1), .val (.ref b17), .unset, .unset] [])) (fun tq_ kq_ => XS.astore X27.here hx rfl (hb hby at_45) rfl rfl (l' := #[.val (.int i0), .val (.int i1), .val (.long i2), .second, .val (.int i3), .val (.int i4), .val (.int i), .val (.ref b1), .val (.ref b17), .unset, .unset]) rfl kq_) ?_
  rcases hte with rfl | rfl | rfl | rfl | rfl | rfl | rfl | rfl
  · refine own_G.step (g' := (mkF m 49 #[.val (.int i0), .val (.int i1), .val (.long i2), .second, .val (.int i3), .val (.int i4), .val (.int (0 : Int32)), .val (.ref b1), .val (.ref b17), .unset, .unset] [(.int (0 : Int32))])) (fun tq_ kq_ => XS.iload X27.here hx rfl (hb hby at_47) rfl kq_) ?_
    have hc49 : (0 : Int32) = (0 : Int32) := (by decide)
    refine own_G.step (g' := (mkF m 52 #[.val (.int i0), .val (.int i1), .val (.long i2), .second, .val (.int i3), .val (.int i4), .val (.int (0 : Int32)), .val (.ref b1), .val (.ref b17), .unset, .unset] [])) (fun tq_ kq_ => XS.ifNo X27.here hx rfl (hb hby at_49) rfl ((if0 _ _).trans (teq hc49).2) kq_) ?_
    obtain ⟨T47, X47, e47, st47⟩ := getS2 X27 hx hZ hown (host := "") (Or.inl (hw _ (List.mem_of_getElem? (i := 31) rfl))) Via.refl rfl (Sta.ext O45.2 S_INF1) (g := (mkF m 52 #[.val (.int i0), .val (.int i1), .val (.long i2), .second, .val (.int i3), .val (.int i4), .val (.int (0 : Int32)), .val (.ref b1), .val (.ref b17), .unset, .unset] [])) rfl (hb hby at_52)
    refine own_G.step (T' := T47) (g' := (mkF m 55 #[.val (.int i0), .val (.int i1), .val (.long i2), .second, .val (.int i3), .val (.int i4), .val (.int (0 : Int32)), .val (.ref b1), .val (.ref b17), .unset, .unset] [(.ref w0)])) st47 ?_
    refine own_G.step (g' := (mkF m 57 #[.val (.int i0), .val (.int i1), .val (.long i2), .second, .val (.int i3), .val (.int i4), .val (.int (0 : Int32)), .val (.ref b1), .val (.ref b17), .val (.ref w0), .unset] [])) (fun tq_ kq_ => XS.astore X47.here hx rfl (hb hby at_55) rfl rfl (l' := #[.val (.int i0), .val (.int i1), .val (.long i2), .second, .val (.int i3), .val (.int i4), .val (.int (0 : Int32)), .val (.ref b1), .val (.ref b17), .val (.ref w0), .unset]) rfl kq_) ?_
    refine own_G.step (g' := (mkF m 149 #[.val (.int i0), .val (.int i1), .val (.long i2), .second, .val (.int i3), .val (.int i4), .val (.int (0 : Int32)), .val (.ref b1), .val (.ref b17), .val (.ref w0), .unset] [])) (fun tq_ kq_ => XS.goto X47.here hx rfl (pc0 := 57) (pc' := 149) rfl (hb hby at_57) (by decide) (by decide) kq_) ?_
    refine own_G.step (g' := (mkF m 151 #[.val (.int i0), .val (.int i1), .val (.long i2), .second, .val (.int i3), .val (.int i4), .val (.int (0 : Int32)), .val (.ref b1), .val (.ref b17), .val (.ref w0), .unset] [(.int (0 : Int32))])) (fun tq_ kq_ => XS.iload X47.here hx rfl (hb hby at_149) rfl kq_) ?_
    have hc151 : (0 : Int32) = (0 : Int32) := (by decide)
    refine own_G.step (g' := (mkF m 160 #[.val (.int i0), .val (.int i1), .val (.long i2), .second, .val (.int i3), .val (.int i4), .val (.int (0 : Int32)), .val (.ref b1), .val (.ref b17), .val (.ref w0), .unset] [])) (fun tq_ kq_ => XS.ifYes X47.here hx rfl (pc0 := 151) (pc' := 160) rfl (hb hby at_151) rfl ((if0 _ _).trans (teq hc151).1) (by decide) (by decide) kq_) ?_
    refine own_G.step (g' := (mkF m 161 #[.val (.int i0), .val (.int i1), .val (.long i2), .second, .val (.int i3), .val (.int i4), .val (.int (0 : Int32)), .val (.ref b1), .val (.ref b17), .val (.ref w0), .unset] [(.int (1 : Int32))])) (fun tq_ kq_ => XS.iconst X47.here hx rfl (hb hby at_160) kq_) ?_
    refine own_G.step (g' := (mkF m 165 #[.val (.int i0), .val (.int i1), .val (.long i2), .second, .val (.int i3), .val (.int i4), .val (.int (0 : Int32)), .val (.ref b1), .val (.ref b17), .val (.ref w0), .unset] [(.int (1 : Int32))])) (fun tq_ kq_ => XS.goto X47.here hx rfl (pc0 := 161) (pc' := 165) rfl (hb hby at_161) (by decide) (by decide) kq_) ?_
    refine own_G.step (g' := (mkF m 167 #[.val (.int i0), .val (.int i1), .val (.long i2), .second, .val (.int i3), .val (.int i4), .val (.int (0 : Int32)), .val (.ref b1), .val (.ref b17), .val (.ref w0), .val (.int (1 : Int32))] [])) (fun tq_ kq_ => XS.istore X47.here hx rfl (hb hby at_165) rfl (l' := #[.val (.int i0), .val (.int i1), .val (.long i2), .second, .val (.int i3), .val (.int i4), .val (.int (0 : Int32)), .val (.ref b1), .val (.ref b17), .val (.ref w0), .val (.int (1 : Int32))]) rfl kq_) ?_
    refine own_G.step (g' := (mkF m 169 #[.val (.int i0), .val (.int i1), .val (.long i2), .second, .val (.int i3), .val (.int i4), .val (.int (0 : Int32)), .val (.ref b1), .val (.ref b17), .val (.ref w0), .val (.int (1 : Int32))] [(.ref w0)])) (fun tq_ kq_ => XS.aload X47.here hx rfl (hb hby at_167) rfl rfl kq_) ?_
    obtain ⟨_, _, ⟨T48, L48, k48, n48⟩, -, X48, ⟨Lc48, hQ48, l48, y48, z48⟩, st48⟩ := Jvm.LawKit.callS X47 hx (y := (⟨"com/example/bough/bough/KeyOrder", "isBoundary", "(Ljava/lang/Object;)Z"⟩ : MethodName)) hown (mvT hZ (hw _ (List.mem_of_getElem? (i := 34) rfl))) (mvT hZ (hw _ (List.mem_of_getElem? (i := 35) rfl))) (mvT hZ (hw _ (List.mem_of_getElem? (i := 32) rfl))) (mvT hZ (hw _ (List.mem_of_getElem? (i := 36) rfl))) (by decide) (backOf (W := 0) (rm_bnd l Z a0 hw [] (.ref w0) w0 w1 T27.heap n0 O45 rfl S_INF1 S_INF2) hZ (hw _ (List.mem_of_getElem? (i := 36) rfl)) (hw _ (List.mem_of_getElem? (i := 32) rfl)) (by decide) (by decide)) (g := (mkF m 169 #[.val (.int i0), .val (.int i1), .val (.long i2), .second, .val (.int i3), .val (.int i4), .val (.int (0 : Int32)), .val (.ref b1), .val (.ref b17), .val (.ref w0), .val (.int (1 : Int32))] [(.ref w0)])) rfl (by rw [hml]; rfl) (argsL := [(.ref w0)]) (rest := []) (lenOf pd__28Ljava_2flang_2fObject_3b_29Z rfl) rfl (by show 2 * 0 + _ ≤ _; exact Nat.le_of_eq rfl) (hb hby at_169) (fun _ _ => ⟨rfl, e47, (by decide : 3 + 0 ≤ _), (by decide : 8 + 0 ≤ _)⟩)
    dsimp only [Pt.U, Pt.locs, Pt.cells, Pt.slots] at X48 l48 y48 z48 st48 hQ48
    subst l48 y48 z48
    obtain ⟨rfl, Nq48, P49⟩ := hQ48
    have N48 := Fr.app N27 Nq48
    refine own_G.step (T' := T48) (g' := (mkF m 172 #[.val (.int i0), .val (.int i1), .val (.long i2), .second, .val (.int i3), .val (.int i4), .val (.int (0 : Int32)), .val (.ref b1), .val (.ref b17), .val (.ref w0), .val (.int (1 : Int32))] [(.int (own_bnd (.ref w0) w0 w1))])) (fun tq_ kq_ => st48 _ kq_) ?_
    have hg : own_bnd (.ref w0) w0 w1 = (1 : Int32) := by simp [own_bnd]
    refine own_G.cast (g' := (mkF m 172 #[.val (.int i0), .val (.int i1), .val (.long i2), .second, .val (.int i3), .val (.int i4), .val (.int (0 : Int32)), .val (.ref b1), .val (.ref b17), .val (.ref w0), .val (.int (1 : Int32))] [(.int (1 : Int32))])) (by rw [hg]) ?_
    refine own_G.step (g' := (mkF m 174 #[.val (.int i0), .val (.int i1), .val (.long i2), .second, .val (.int i3), .val (.int i4), .val (.int (0 : Int32)), .val (.ref b1), .val (.ref b17), .val (.ref w0), .val (.int (1 : Int32))] [(.int (1 : Int32)), (.int (1 : Int32))])) (fun tq_ kq_ => XS.iload X48.here hx rfl (hb hby at_172) rfl kq_) ?_
    have hc174 : (1 : Int32) = (1 : Int32) := (by decide)
    refine own_G.step (g' := (mkF m 177 #[.val (.int i0), .val (.int i1), .val (.long i2), .second, .val (.int i3), .val (.int i4), .val (.int (0 : Int32)), .val (.ref b1), .val (.ref b17), .val (.ref w0), .val (.int (1 : Int32))] [])) (fun tq_ kq_ => XS.icmpNo X48.here hx rfl (hb hby at_174) rfl (teq hc174).2 kq_) ?_
    refine own_G.step (g' := (mkF m 178 #[.val (.int i0), .val (.int i1), .val (.long i2), .second, .val (.int i3), .val (.int i4), .val (.int (0 : Int32)), .val (.ref b1), .val (.ref b17), .val (.ref w0), .val (.int (1 : Int32))] [(.int (1 : Int32))])) (fun tq_ kq_ => XS.iconst X48.here hx rfl (hb hby at_177) kq_) ?_
    refine own_G.step (g' := (mkF m 182 #[.val (.int i0), .val (.int i1), .val (.long i2), .second, .val (.int i3), .val (.int i4), .val (.int (0 : Int32)), .val (.ref b1), .val (.ref b17), .val (.ref w0), .val (.int (1 : Int32))] [(.int (1 : Int32))])) (fun tq_ kq_ => XS.goto X48.here hx rfl (pc0 := 178) (pc' := 182) rfl (hb hby at_178) (by decide) (by decide) kq_) ?_
    exact own_ret X48 P49 (v := some (.int (1 : Int32))) (fun h => by rw [Bd.returns] at h; cases h) Bd.notSynchronized ⟨rfl, N48⟩ (by decide) (by decide) (fun fs hr => retN X48 hx (t := .boolean) Bd.returns (by simp) (hb hby at_182) hr)
  · refine own_G.step (g' := (mkF m 49 #[.val (.int i0), .val (.int i1), .val (.long i2), .second, .val (.int i3), .val (.int i4), .val (.int (1 : Int32)), .val (.ref b1), .val (.ref b17), .unset, .unset] [(.int (1 : Int32))])) (fun tq_ kq_ => XS.iload X27.here hx rfl (hb hby at_47) rfl kq_) ?_
    have hc49 : ¬ ((1 : Int32) = (0 : Int32)) := (by decide)
    refine own_G.step (g' := (mkF m 60 #[.val (.int i0), .val (.int i1), .val (.long i2), .second, .val (.int i3), .val (.int i4), .val (.int (1 : Int32)), .val (.ref b1), .val (.ref b17), .unset, .unset] [])) (fun tq_ kq_ => XS.ifYes X27.here hx rfl (pc0 := 49) (pc' := 60) rfl (hb hby at_49) rfl ((if0 _ _).trans (feq hc49).2) (by decide) (by decide) kq_) ?_
    refine own_G.step (g' := (mkF m 62 #[.val (.int i0), .val (.int i1), .val (.long i2), .second, .val (.int i3), .val (.int i4), .val (.int (1 : Int32)), .val (.ref b1), .val (.ref b17), .unset, .unset] [(.int (1 : Int32))])) (fun tq_ kq_ => XS.iload X27.here hx rfl (hb hby at_60) rfl kq_) ?_
    refine own_G.step (g' := (mkF m 63 #[.val (.int i0), .val (.int i1), .val (.long i2), .second, .val (.int i3), .val (.int i4), .val (.int (1 : Int32)), .val (.ref b1), .val (.ref b17), .unset, .unset] [(.int (1 : Int32)), (.int (1 : Int32))])) (fun tq_ kq_ => XS.iconst X27.here hx rfl (hb hby at_62) kq_) ?_
    have hc63 : (1 : Int32) = (1 : Int32) := (by decide)
    refine own_G.step (g' := (mkF m 66 #[.val (.int i0), .val (.int i1), .val (.long i2), .second, .val (.int i3), .val (.int i4), .val (.int (1 : Int32)), .val (.ref b1), .val (.ref b17), .unset, .unset] [])) (fun tq_ kq_ => XS.icmpNo X27.here hx rfl (hb hby at_63) rfl (teq hc63).2 kq_) ?_
    obtain ⟨T50, X50, e50, st50⟩ := getS2 X27 hx hZ hown (host := "") (Or.inl (hw _ (List.mem_of_getElem? (i := 79) rfl))) Via.refl rfl (Sta.ext O45.2 S_INF2) (g := (mkF m 66 #[.val (.int i0), .val (.int i1), .val (.long i2), .second, .val (.int i3), .val (.int i4), .val (.int (1 : Int32)), .val (.ref b1), .val (.ref b17), .unset, .unset] [])) rfl (hb hby at_66)
    refine own_G.step (T' := T50) (g' := (mkF m 69 #[.val (.int i0), .val (.int i1), .val (.long i2), .second, .val (.int i3), .val (.int i4), .val (.int (1 : Int32)), .val (.ref b1), .val (.ref b17), .unset, .unset] [(.ref w1)])) st50 ?_
    refine own_G.step (g' := (mkF m 71 #[.val (.int i0), .val (.int i1), .val (.long i2), .second, .val (.int i3), .val (.int i4), .val (.int (1 : Int32)), .val (.ref b1), .val (.ref b17), .val (.ref w1), .unset] [])) (fun tq_ kq_ => XS.astore X50.here hx rfl (hb hby at_69) rfl rfl (l' := #[.val (.int i0), .val (.int i1), .val (.long i2), .second, .val (.int i3), .val (.int i4), .val (.int (1 : Int32)), .val (.ref b1), .val (.ref b17), .val (.ref w1), .unset]) rfl kq_) ?_
    refine own_G.step (g' := (mkF m 149 #[.val (.int i0), .val (.int i1), .val (.long i2), .second, .val (.int i3), .val (.int i4), .val (.int (1 : Int32)), .val (.ref b1), .val (.ref b17), .val (.ref w1), .unset] [])) (fun tq_ kq_ => XS.goto X50.here hx rfl (pc0 := 71) (pc' := 149) rfl (hb hby at_71) (by decide) (by decide) kq_) ?_
    refine own_G.step (g' := (mkF m 151 #[.val (.int i0), .val (.int i1), .val (.long i2), .second, .val (.int i3), .val (.int i4), .val (.int (1 : Int32)), .val (.ref b1), .val (.ref b17), .val (.ref w1), .unset] [(.int (1 : Int32))])) (fun tq_ kq_ => XS.iload X50.here hx rfl (hb hby at_149) rfl kq_) ?_
    have hc151 : ¬ ((1 : Int32) = (0 : Int32)) := (by decide)
    refine own_G.step (g' := (mkF m 154 #[.val (.int i0), .val (.int i1), .val (.long i2), .second, .val (.int i3), .val (.int i4), .val (.int (1 : Int32)), .val (.ref b1), .val (.ref b17), .val (.ref w1), .unset] [])) (fun tq_ kq_ => XS.ifNo X50.here hx rfl (hb hby at_151) rfl ((if0 _ _).trans (feq hc151).1) kq_) ?_
    refine own_G.step (g' := (mkF m 156 #[.val (.int i0), .val (.int i1), .val (.long i2), .second, .val (.int i3), .val (.int i4), .val (.int (1 : Int32)), .val (.ref b1), .val (.ref b17), .val (.ref w1), .unset] [(.int (1 : Int32))])) (fun tq_ kq_ => XS.iload X50.here hx rfl (hb hby at_154) rfl kq_) ?_
    refine own_G.step (g' := (mkF m 157 #[.val (.int i0), .val (.int i1), .val (.long i2), .second, .val (.int i3), .val (.int i4), .val (.int (1 : Int32)), .val (.ref b1), .val (.ref b17), .val (.ref w1), .unset] [(.int (1 : Int32)), (.int (1 : Int32))])) (fun tq_ kq_ => XS.iconst X50.here hx rfl (hb hby at_156) kq_) ?_
    have hc157 : (1 : Int32) = (1 : Int32) := (by decide)
    refine own_G.step (g' := (mkF m 160 #[.val (.int i0), .val (.int i1), .val (.long i2), .second, .val (.int i3), .val (.int i4), .val (.int (1 : Int32)), .val (.ref b1), .val (.ref b17), .val (.ref w1), .unset] [])) (fun tq_ kq_ => XS.icmpNo X50.here hx rfl (hb hby at_157) rfl (teq hc157).2 kq_) ?_
    refine own_G.step (g' := (mkF m 161 #[.val (.int i0), .val (.int i1), .val (.long i2), .second, .val (.int i3), .val (.int i4), .val (.int (1 : Int32)), .val (.ref b1), .val (.ref b17), .val (.ref w1), .unset] [(.int (1 : Int32))])) (fun tq_ kq_ => XS.iconst X50.here hx rfl (hb hby at_160) kq_) ?_
    refine own_G.step (g' := (mkF m 165 #[.val (.int i0), .val (.int i1), .val (.long i2), .second, .val (.int i3), .val (.int i4), .val (.int (1 : Int32)), .val (.ref b1), .val (.ref b17), .val (.ref w1), .unset] [(.int (1 : Int32))])) (fun tq_ kq_ => XS.goto X50.here hx rfl (pc0 := 161) (pc' := 165) rfl (hb hby at_161) (by decide) (by decide) kq_) ?_
    refine own_G.step (g' := (mkF m 167 #[.val (.int i0), .val (.int i1), .val (.long i2), .second, .val (.int i3), .val (.int i4), .val (.int (1 : Int32)), .val (.ref b1), .val (.ref b17), .val (.ref w1), .val (.int (1 : Int32))] [])) (fun tq_ kq_ => XS.istore X50.here hx rfl (hb hby at_165) rfl (l' := #[.val (.int i0), .val (.int i1), .val (.long i2), .second, .val (.int i3), .val (.int i4), .val (.int (1 : Int32)), .val (.ref b1), .val (.ref b17), .val (.ref w1), .val (.int (1 : Int32))]) rfl kq_) ?_
    refine own_G.step (g' := (mkF m 169 #[.val (.int i0), .val (.int i1), .val (.long i2), .second, .val (.int i3), .val (.int i4), .val (.int (1 : Int32)), .val (.ref b1), .val (.ref b17), .val (.ref w1), .val (.int (1 : Int32))] [(.ref w1)])) (fun tq_ kq_ => XS.aload X50.here hx rfl (hb hby at_167) rfl rfl kq_) ?_
    obtain ⟨_, _, ⟨T51, L51, k51, n51⟩, -, X51, ⟨Lc51, hQ51, l51, y51, z51⟩, st51⟩ := Jvm.LawKit.callS X50 hx (y := (⟨"com/example/bough/bough/KeyOrder", "isBoundary", "(Ljava/lang/Object;)Z"⟩ : MethodName)) hown (mvT hZ (hw _ (List.mem_of_getElem? (i := 34) rfl))) (mvT hZ (hw _ (List.mem_of_getElem? (i := 35) rfl))) (mvT hZ (hw _ (List.mem_of_getElem? (i := 32) rfl))) (mvT hZ (hw _ (List.mem_of_getElem? (i := 36) rfl))) (by decide) (backOf (W := 0) (rm_bnd l Z a0 hw [] (.ref w1) w0 w1 T27.heap n0 O45 rfl S_INF1 S_INF2) hZ (hw _ (List.mem_of_getElem? (i := 36) rfl)) (hw _ (List.mem_of_getElem? (i := 32) rfl)) (by decide) (by decide)) (g := (mkF m 169 #[.val (.int i0), .val (.int i1), .val (.long i2), .second, .val (.int i3), .val (.int i4), .val (.int (1 : Int32)), .val (.ref b1), .val (.ref b17), .val (.ref w1), .val (.int (1 : Int32))] [(.ref w1)])) rfl (by rw [hml]; rfl) (argsL := [(.ref w1)]) (rest := []) (lenOf pd__28Ljava_2flang_2fObject_3b_29Z rfl) rfl (by show 2 * 0 + _ ≤ _; exact Nat.le_of_eq rfl) (hb hby at_169) (fun _ _ => ⟨rfl, e50, (by decide : 3 + 0 ≤ _), (by decide : 8 + 0 ≤ _)⟩)
    dsimp only [Pt.U, Pt.locs, Pt.cells, Pt.slots] at X51 l51 y51 z51 st51 hQ51
    subst l51 y51 z51
    obtain ⟨rfl, Nq51, P52⟩ := hQ51
    have N51 := Fr.app N27 Nq51
    refine own_G.step (T' := T51) (g' := (mkF m 172 #[.val (.int i0), .val (.int i1), .val (.long i2), .second, .val (.int i3), .val (.int i4), .val (.int (1 : Int32)), .val (.ref b1), .val (.ref b17), .val (.ref w1), .val (.int (1 : Int32))] [(.int (own_bnd (.ref w1) w0 w1))])) (fun tq_ kq_ => st51 _ kq_) ?_
    have hg : own_bnd (.ref w1) w0 w1 = (1 : Int32) := by simp [own_bnd, n01, Ne.symm n01]
    refine own_G.cast (g' := (mkF m 172 #[.val (.int i0), .val (.int i1), .val (.long i2), .second, .val (.int i3), .val (.int i4), .val (.int (1 : Int32)), .val (.ref b1), .val (.ref b17), .val (.ref w1), .val (.int (1 : Int32))] [(.int (1 : Int32))])) (by rw [hg]) ?_
    refine own_G.step (g' := (mkF m 174 #[.val (.int i0), .val (.int i1), .val (.long i2), .second, .val (.int i3), .val (.int i4), .val (.int (1 : Int32)), .val (.ref b1), .val (.ref b17), .val (.ref w1), .val (.int (1 : Int32))] [(.int (1 : Int32)), (.int (1 : Int32))])) (fun tq_ kq_ => XS.iload X51.here hx rfl (hb hby at_172) rfl kq_) ?_
    have hc174 : (1 : Int32) = (1 : Int32) := (by decide)
    refine own_G.step (g' := (mkF m 177 #[.val (.int i0), .val (.int i1), .val (.long i2), .second, .val (.int i3), .val (.int i4), .val (.int (1 : Int32)), .val (.ref b1), .val (.ref b17), .val (.ref w1), .val (.int (1 : Int32))] [])) (fun tq_ kq_ => XS.icmpNo X51.here hx rfl (hb hby at_174) rfl (teq hc174).2 kq_) ?_
    refine own_G.step (g' := (mkF m 178 #[.val (.int i0), .val (.int i1), .val (.long i2), .second, .val (.int i3), .val (.int i4), .val (.int (1 : Int32)), .val (.ref b1), .val (.ref b17), .val (.ref w1), .val (.int (1 : Int32))] [(.int (1 : Int32))])) (fun tq_ kq_ => XS.iconst X51.here hx rfl (hb hby at_177) kq_) ?_
    refine own_G.step (g' := (mkF m 182 #[.val (.int i0), .val (.int i1), .val (.long i2), .second, .val (.int i3), .val (.int i4), .val (.int (1 : Int32)), .val (.ref b1), .val (.ref b17), .val (.ref w1), .val (.int (1 : Int32))] [(.int (1 : Int32))])) (fun tq_ kq_ => XS.goto X51.here hx rfl (pc0 := 178) (pc' := 182) rfl (hb hby at_178) (by decide) (by decide) kq_) ?_
    exact own_ret X51 P52 (v := some (.int (1 : Int32))) (fun h => by rw [Bd.returns] at h; cases h) Bd.notSynchronized ⟨rfl, N51⟩ (by decide) (by decide) (fun fs hr => retN X51 hx (t := .boolean) Bd.returns (by simp) (hb hby at_182) hr)
  · refine own_G.step (g' := (mkF m 49 #[.val (.int i0), .val (.int i1), .val (.long i2), .second, .val (.int i3), .val (.int i4), .val (.int (2 : Int32)), .val (.ref b1), .val (.ref b17), .unset, .unset] [(.int (2 : Int32))])) (fun tq_ kq_ => XS.iload X27.here hx rfl (hb hby at_47) rfl kq_) ?_
    have hc49 : ¬ ((2 : Int32) = (0 : Int32)) := (by decide)
    refine own_G.step (g' := (mkF m 60 #[.val (.int i0), .val (.int i1), .val (.long i2), .second, .val (.int i3), .val (.int i4), .val (.int (2 : Int32)), .val (.ref b1), .val (.ref b17), .unset, .unset] [])) (fun tq_ kq_ => XS.ifYes X27.here hx rfl (pc0 := 49) (pc' := 60) rfl (hb hby at_49) rfl ((if0 _ _).trans (feq hc49).2) (by decide) (by decide) kq_) ?_
    refine own_G.step (g' := (mkF m 62 #[.val (.int i0), .val (.int i1), .val (.long i2), .second, .val (.int i3), .val (.int i4), .val (.int (2 : Int32)), .val (.ref b1), .val (.ref b17), .unset, .unset] [(.int (2 : Int32))])) (fun tq_ kq_ => XS.iload X27.here hx rfl (hb hby at_60) rfl kq_) ?_
    refine own_G.step (g' := (mkF m 63 #[.val (.int i0), .val (.int i1), .val (.long i2), .second, .val (.int i3), .val (.int i4), .val (.int (2 : Int32)), .val (.ref b1), .val (.ref b17), .unset, .unset] [(.int (1 : Int32)), (.int (2 : Int32))])) (fun tq_ kq_ => XS.iconst X27.here hx rfl (hb hby at_62) kq_) ?_
    have hc63 : ¬ ((2 : Int32) = (1 : Int32)) := (by decide)
    refine own_G.step (g' := (mkF m 74 #[.val (.int i0), .val (.int i1), .val (.long i2), .second, .val (.int i3), .val (.int i4), .val (.int (2 : Int32)), .val (.ref b1), .val (.ref b17), .unset, .unset] [])) (fun tq_ kq_ => XS.icmpYes X27.here hx rfl (pc0 := 63) (pc' := 74) rfl (hb hby at_63) rfl (feq hc63).2 (by decide) (by decide) kq_) ?_
    refine own_G.step (g' := (mkF m 76 #[.val (.int i0), .val (.int i1), .val (.long i2), .second, .val (.int i3), .val (.int i4), .val (.int (2 : Int32)), .val (.ref b1), .val (.ref b17), .unset, .unset] [(.int (2 : Int32))])) (fun tq_ kq_ => XS.iload X27.here hx rfl (hb hby at_74) rfl kq_) ?_
    refine own_G.step (g' := (mkF m 77 #[.val (.int i0), .val (.int i1), .val (.long i2), .second, .val (.int i3), .val (.int i4), .val (.int (2 : Int32)), .val (.ref b1), .val (.ref b17), .unset, .unset] [(.int (2 : Int32)), (.int (2 : Int32))])) (fun tq_ kq_ => XS.iconst X27.here hx rfl (hb hby at_76) kq_) ?_
    have hc77 : (2 : Int32) = (2 : Int32) := (by decide)
    refine own_G.step (g' := (mkF m 80 #[.val (.int i0), .val (.int i1), .val (.long i2), .second, .val (.int i3), .val (.int i4), .val (.int (2 : Int32)), .val (.ref b1), .val (.ref b17), .unset, .unset] [])) (fun tq_ kq_ => XS.icmpNo X27.here hx rfl (hb hby at_77) rfl (teq hc77).2 kq_) ?_
    obtain ⟨T53, X53, e53, st53⟩ := getS2 X27 hx hZ hown (host := "") (Or.inl (hw _ (List.mem_of_getElem? (i := 83) rfl))) Via.refl rfl (Sta.ext O45.2 S_LOWEST) (g := (mkF m 80 #[.val (.int i0), .val (.int i1), .val (.long i2), .second, .val (.int i3), .val (.int i4), .val (.int (2 : Int32)), .val (.ref b1), .val (.ref b17), .unset, .unset] [])) rfl (hb hby at_80)
    refine own_G.step (T' := T53) (g' := (mkF m 83 #[.val (.int i0), .val (.int i1), .val (.long i2), .second, .val (.int i3), .val (.int i4), .val (.int (2 : Int32)), .val (.ref b1), .val (.ref b17), .unset, .unset] [(.ref w2)])) st53 ?_
    refine own_G.step (g' := (mkF m 85 #[.val (.int i0), .val (.int i1), .val (.long i2), .second, .val (.int i3), .val (.int i4), .val (.int (2 : Int32)), .val (.ref b1), .val (.ref b17), .val (.ref w2), .unset] [])) (fun tq_ kq_ => XS.astore X53.here hx rfl (hb hby at_83) rfl rfl (l' := #[.val (.int i0), .val (.int i1), .val (.long i2), .second, .val (.int i3), .val (.int i4), .val (.int (2 : Int32)), .val (.ref b1), .val (.ref b17), .val (.ref w2), .unset]) rfl kq_) ?_
    refine own_G.step (g' := (mkF m 149 #[.val (.int i0), .val (.int i1), .val (.long i2), .second, .val (.int i3), .val (.int i4), .val (.int (2 : Int32)), .val (.ref b1), .val (.ref b17), .val (.ref w2), .unset] [])) (fun tq_ kq_ => XS.goto X53.here hx rfl (pc0 := 85) (pc' := 149) rfl (hb hby at_85) (by decide) (by decide) kq_) ?_
    refine own_G.step (g' := (mkF m 151 #[.val (.int i0), .val (.int i1), .val (.long i2), .second, .val (.int i3), .val (.int i4), .val (.int (2 : Int32)), .val (.ref b1), .val (.ref b17), .val (.ref w2), .unset] [(.int (2 : Int32))])) (fun tq_ kq_ => XS.iload X53.here hx rfl (hb hby at_149) rfl kq_) ?_
    have hc151 : ¬ ((2 : Int32) = (0 : Int32)) := (by decide)
    refine own_G.step (g' := (mkF m 154 #[.val (.int i0), .val (.int i1), .val (.long i2), .second, .val (.int i3), .val (.int i4), .val (.int (2 : Int32)), .val (.ref b1), .val (.ref b17), .val (.ref w2), .unset] [])) (fun tq_ kq_ => XS.ifNo X53.here hx rfl (hb hby at_151) rfl ((if0 _ _).trans (feq hc151).1) kq_) ?_
    refine own_G.step (g' := (mkF m 156 #[.val (.int i0), .val (.int i1), .val (.long i2), .second, .val (.int i3), .val (.int i4), .val (.int (2 : Int32)), .val (.ref b1), .val (.ref b17), .val (.ref w2), .unset] [(.int (2 : Int32))])) (fun tq_ kq_ => XS.iload X53.here hx rfl (hb hby at_154) rfl kq_) ?_
    refine own_G.step (g' := (mkF m 157 #[.val (.int i0), .val (.int i1), .val (.long i2), .second, .val (.int i3), .val (.int i4), .val (.int (2 : Int32)), .val (.ref b1), .val (.ref b17), .val (.ref w2), .unset] [(.int (1 : Int32)), (.int (2 : Int32))])) (fun tq_ kq_ => XS.iconst X53.here hx rfl (hb hby at_156) kq_) ?_
    have hc157 : ¬ ((2 : Int32) = (1 : Int32)) := (by decide)
    refine own_G.step (g' := (mkF m 164 #[.val (.int i0), .val (.int i1), .val (.long i2), .second, .val (.int i3), .val (.int i4), .val (.int (2 : Int32)), .val (.ref b1), .val (.ref b17), .val (.ref w2), .unset] [])) (fun tq_ kq_ => XS.icmpYes X53.here hx rfl (pc0 := 157) (pc' := 164) rfl (hb hby at_157) rfl (feq hc157).2 (by decide) (by decide) kq_) ?_
    refine own_G.step (g' := (mkF m 165 #[.val (.int i0), .val (.int i1), .val (.long i2), .second, .val (.int i3), .val (.int i4), .val (.int (2 : Int32)), .val (.ref b1), .val (.ref b17), .val (.ref w2), .unset] [(.int (0 : Int32))])) (fun tq_ kq_ => XS.iconst X53.here hx rfl (hb hby at_164) kq_) ?_
    refine own_G.step (g' := (mkF m 167 #[.val (.int i0), .val (.int i1), .val (.long i2), .second, .val (.int i3), .val (.int i4), .val (.int (2 : Int32)), .val (.ref b1), .val (.ref b17), .val (.ref w2), .val (.int (0 : Int32))] [])) (fun tq_ kq_ => XS.istore X53.here hx rfl (hb hby at_165) rfl (l' := #[.val (.int i0), .val (.int i1), .val (.long i2), .second, .val (.int i3), .val (.int i4), .val (.int (2 : Int32)), .val (.ref b1), .val (.ref b17), .val (.ref w2), .val (.int (0 : Int32))]) rfl kq_) ?_
    refine own_G.step (g' := (mkF m 169 #[.val (.int i0), .val (.int i1), .val (.long i2), .second, .val (.int i3), .val (.int i4), .val (.int (2 : Int32)), .val (.ref b1), .val (.ref b17), .val (.ref w2), .val (.int (0 : Int32))] [(.ref w2)])) (fun tq_ kq_ => XS.aload X53.here hx rfl (hb hby at_167) rfl rfl kq_) ?_
    obtain ⟨_, _, ⟨T54, L54, k54, n54⟩, -, X54, ⟨Lc54, hQ54, l54, y54, z54⟩, st54⟩ := Jvm.LawKit.callS X53 hx (y := (⟨"com/example/bough/bough/KeyOrder", "isBoundary", "(Ljava/lang/Object;)Z"⟩ : MethodName)) hown (mvT hZ (hw _ (List.mem_of_getElem? (i := 34) rfl))) (mvT hZ (hw _ (List.mem_of_getElem? (i := 35) rfl))) (mvT hZ (hw _ (List.mem_of_getElem? (i := 32) rfl))) (mvT hZ (hw _ (List.mem_of_getElem? (i := 36) rfl))) (by decide) (backOf (W := 0) (rm_bnd l Z a0 hw [] (.ref w2) w0 w1 T27.heap n0 O45 rfl S_INF1 S_INF2) hZ (hw _ (List.mem_of_getElem? (i := 36) rfl)) (hw _ (List.mem_of_getElem? (i := 32) rfl)) (by decide) (by decide)) (g := (mkF m 169 #[.val (.int i0), .val (.int i1), .val (.long i2), .second, .val (.int i3), .val (.int i4), .val (.int (2 : Int32)), .val (.ref b1), .val (.ref b17), .val (.ref w2), .val (.int (0 : Int32))] [(.ref w2)])) rfl (by rw [hml]; rfl) (argsL := [(.ref w2)]) (rest := []) (lenOf pd__28Ljava_2flang_2fObject_3b_29Z rfl) rfl (by show 2 * 0 + _ ≤ _; exact Nat.le_of_eq rfl) (hb hby at_169) (fun _ _ => ⟨rfl, e53, (by decide : 3 + 0 ≤ _), (by decide : 8 + 0 ≤ _)⟩)
    dsimp only [Pt.U, Pt.locs, Pt.cells, Pt.slots] at X54 l54 y54 z54 st54 hQ54
    subst l54 y54 z54
    obtain ⟨rfl, Nq54, P55⟩ := hQ54
    have N54 := Fr.app N27 Nq54
    refine own_G.step (T' := T54) (g' := (mkF m 172 #[.val (.int i0), .val (.int i1), .val (.long i2), .second, .val (.int i3), .val (.int i4), .val (.int (2 : Int32)), .val (.ref b1), .val (.ref b17), .val (.ref w2), .val (.int (0 : Int32))] [(.int (own_bnd (.ref w2) w0 w1))])) (fun tq_ kq_ => st54 _ kq_) ?_
    have hg : own_bnd (.ref w2) w0 w1 = (0 : Int32) := by simp [own_bnd, n02, Ne.symm n02, n12, Ne.symm n12]
    refine own_G.cast (g' := (mkF m 172 #[.val (.int i0), .val (.int i1), .val (.long i2), .second, .val (.int i3), .val (.int i4), .val (.int (2 : Int32)), .val (.ref b1), .val (.ref b17), .val (.ref w2), .val (.int (0 : Int32))] [(.int (0 : Int32))])) (by rw [hg]) ?_
    refine own_G.step (g' := (mkF m 174 #[.val (.int i0), .val (.int i1), .val (.long i2), .second, .val (.int i3), .val (.int i4), .val (.int (2 : Int32)), .val (.ref b1), .val (.ref b17), .val (.ref w2), .val (.int (0 : Int32))] [(.int (0 : Int32)), (.int (0 : Int32))])) (fun tq_ kq_ => XS.iload X54.here hx rfl (hb hby at_172) rfl kq_) ?_
    have hc174 : (0 : Int32) = (0 : Int32) := (by decide)
    refine own_G.step (g' := (mkF m 177 #[.val (.int i0), .val (.int i1), .val (.long i2), .second, .val (.int i3), .val (.int i4), .val (.int (2 : Int32)), .val (.ref b1), .val (.ref b17), .val (.ref w2), .val (.int (0 : Int32))] [])) (fun tq_ kq_ => XS.icmpNo X54.here hx rfl (hb hby at_174) rfl (teq hc174).2 kq_) ?_
    refine own_G.step (g' := (mkF m 178 #[.val (.int i0), .val (.int i1), .val (.long i2), .second, .val (.int i3), .val (.int i4), .val (.int (2 : Int32)), .val (.ref b1), .val (.ref b17), .val (.ref w2), .val (.int (0 : Int32))] [(.int (1 : Int32))])) (fun tq_ kq_ => XS.iconst X54.here hx rfl (hb hby at_177) kq_) ?_
    refine own_G.step (g' := (mkF m 182 #[.val (.int i0), .val (.int i1), .val (.long i2), .second, .val (.int i3), .val (.int i4), .val (.int (2 : Int32)), .val (.ref b1), .val (.ref b17), .val (.ref w2), .val (.int (0 : Int32))] [(.int (1 : Int32))])) (fun tq_ kq_ => XS.goto X54.here hx rfl (pc0 := 178) (pc' := 182) rfl (hb hby at_178) (by decide) (by decide) kq_) ?_
    exact own_ret X54 P55 (v := some (.int (1 : Int32))) (fun h => by rw [Bd.returns] at h; cases h) Bd.notSynchronized ⟨rfl, N54⟩ (by decide) (by decide) (fun fs hr => retN X54 hx (t := .boolean) Bd.returns (by simp) (hb hby at_182) hr)
  · refine own_G.step (g' := (mkF m 49 #[.val (.int i0), .val (.int i1), .val (.long i2), .second, .val (.int i3), .val (.int i4), .val (.int (3 : Int32)), .val (.ref b1), .val (.ref b17), .unset, .unset] [(.int (3 : Int32))])) (fun tq_ kq_ => XS.iload X27.here hx rfl (hb hby at_47) rfl kq_) ?_
    have hc49 : ¬ ((3 : Int32) = (0 : Int32)) := (by decide)
    refine own_G.step (g' := (mkF m 60 #[.val (.int i0), .val (.int i1), .val (.long i2), .second, .val (.int i3), .val (.int i4), .val (.int (3 : Int32)), .val (.ref b1), .val (.ref b17), .unset, .unset] [])) (fun tq_ kq_ => XS.ifYes X27.here hx rfl (pc0 := 49) (pc' := 60) rfl (hb hby at_49) rfl ((if0 _ _).trans (feq hc49).2) (by decide) (by decide) kq_) ?_
    refine own_G.step (g' := (mkF m 62 #[.val (.int i0), .val (.int i1), .val (.long i2), .second, .val (.int i3), .val (.int i4), .val (.int (3 : Int32)), .val (.ref b1), .val (.ref b17), .unset, .unset] [(.int (3 : Int32))])) (fun tq_ kq_ => XS.iload X27.here hx rfl (hb hby at_60) rfl kq_) ?_
    refine own_G.step (g' := (mkF m 63 #[.val (.int i0), .val (.int i1), .val (.long i2), .second, .val (.int i3), .val (.int i4), .val (.int (3 : Int32)), .val (.ref b1), .val (.ref b17), .unset, .unset] [(.int (1 : Int32)), (.int (3 : Int32))])) (fun tq_ kq_ => XS.iconst X27.here hx rfl (hb hby at_62) kq_) ?_
    have hc63 : ¬ ((3 : Int32) = (1 : Int32)) := (by decide)
    refine own_G.step (g' := (mkF m 74 #[.val (.int i0), .val (.int i1), .val (.long i2), .second, .val (.int i3), .val (.int i4), .val (.int (3 : Int32)), .val (.ref b1), .val (.ref b17), .unset, .unset] [])) (fun tq_ kq_ => XS.icmpYes X27.here hx rfl (pc0 := 63) (pc' := 74) rfl (hb hby at_63) rfl (feq hc63).2 (by decide) (by decide) kq_) ?_
    refine own_G.step (g' := (mkF m 76 #[.val (.int i0), .val (.int i1), .val (.long i2), .second, .val (.int i3), .val (.int i4), .val (.int (3 : Int32)), .val (.ref b1), .val (.ref b17), .unset, .unset] [(.int (3 : Int32))])) (fun tq_ kq_ => XS.iload X27.here hx rfl (hb hby at_74) rfl kq_) ?_
    refine own_G.step (g' := (mkF m 77 #[.val (.int i0), .val (.int i1), .val (.long i2), .second, .val (.int i3), .val (.int i4), .val (.int (3 : Int32)), .val (.ref b1), .val (.ref b17), .unset, .unset] [(.int (2 : Int32)), (.int (3 : Int32))])) (fun tq_ kq_ => XS.iconst X27.here hx rfl (hb hby at_76) kq_) ?_
    have hc77 : ¬ ((3 : Int32) = (2 : Int32)) := (by decide)
    refine own_G.step (g' := (mkF m 88 #[.val (.int i0), .val (.int i1), .val (.long i2), .second, .val (.int i3), .val (.int i4), .val (.int (3 : Int32)), .val (.ref b1), .val (.ref b17), .unset, .unset] [])) (fun tq_ kq_ => XS.icmpYes X27.here hx rfl (pc0 := 77) (pc' := 88) rfl (hb hby at_77) rfl (feq hc77).2 (by decide) (by decide) kq_) ?_
    refine own_G.step (g' := (mkF m 90 #[.val (.int i0), .val (.int i1), .val (.long i2), .second, .val (.int i3), .val (.int i4), .val (.int (3 : Int32)), .val (.ref b1), .val (.ref b17), .unset, .unset] [(.int (3 : Int32))])) (fun tq_ kq_ => XS.iload X27.here hx rfl (hb hby at_88) rfl kq_) ?_
    refine own_G.step (g' := (mkF m 91 #[.val (.int i0), .val (.int i1), .val (.long i2), .second, .val (.int i3), .val (.int i4), .val (.int (3 : Int32)), .val (.ref b1), .val (.ref b17), .unset, .unset] [(.int (3 : Int32)), (.int (3 : Int32))])) (fun tq_ kq_ => XS.iconst X27.here hx rfl (hb hby at_90) kq_) ?_
    have hc91 : (3 : Int32) = (3 : Int32) := (by decide)
    refine own_G.step (g' := (mkF m 94 #[.val (.int i0), .val (.int i1), .val (.long i2), .second, .val (.int i3), .val (.int i4), .val (.int (3 : Int32)), .val (.ref b1), .val (.ref b17), .unset, .unset] [])) (fun tq_ kq_ => XS.icmpNo X27.here hx rfl (hb hby at_91) rfl (teq hc91).2 kq_) ?_
    obtain ⟨T56, X56, e56, st56⟩ := getS2 X27 hx hZ hown (host := "") (Or.inl (hw _ (List.mem_of_getElem? (i := 67) rfl))) Via.refl rfl (Sta.ext O45.2 S_HIGHEST) (g := (mkF m 94 #[.val (.int i0), .val (.int i1), .val (.long i2), .second, .val (.int i3), .val (.int i4), .val (.int (3 : Int32)), .val (.ref b1), .val (.ref b17), .unset, .unset] [])) rfl (hb hby at_94)
    refine own_G.step (T' := T56) (g' := (mkF m 97 #[.val (.int i0), .val (.int i1), .val (.long i2), .second, .val (.int i3), .val (.int i4), .val (.int (3 : Int32)), .val (.ref b1), .val (.ref b17), .unset, .unset] [(.ref w3)])) st56 ?_
    refine own_G.step (g' := (mkF m 99 #[.val (.int i0), .val (.int i1), .val (.long i2), .second, .val (.int i3), .val (.int i4), .val (.int (3 : Int32)), .val (.ref b1), .val (.ref b17), .val (.ref w3), .unset] [])) (fun tq_ kq_ => XS.astore X56.here hx rfl (hb hby at_97) rfl rfl (l' := #[.val (.int i0), .val (.int i1), .val (.long i2), .second, .val (.int i3), .val (.int i4), .val (.int (3 : Int32)), .val (.ref b1), .val (.ref b17), .val (.ref w3), .unset]) rfl kq_) ?_
    refine own_G.step (g' := (mkF m 149 #[.val (.int i0), .val (.int i1), .val (.long i2), .second, .val (.int i3), .val (.int i4), .val (.int (3 : Int32)), .val (.ref b1), .val (.ref b17), .val (.ref w3), .unset] [])) (fun tq_ kq_ => XS.goto X56.here hx rfl (pc0 := 99) (pc' := 149) rfl (hb hby at_99) (by decide) (by decide) kq_) ?_
    refine own_G.step (g' := (mkF m 151 #[.val (.int i0), .val (.int i1), .val (.long i2), .second, .val (.int i3), .val (.int i4), .val (.int (3 : Int32)), .val (.ref b1), .val (.ref b17), .val (.ref w3), .unset] [(.int (3 : Int32))])) (fun tq_ kq_ => XS.iload X56.here hx rfl (hb hby at_149) rfl kq_) ?_
    have hc151 : ¬ ((3 : Int32) = (0 : Int32)) := (by decide)
    refine own_G.step (g' := (mkF m 154 #[.val (.int i0), .val (.int i1), .val (.long i2), .second, .val (.int i3), .val (.int i4), .val (.int (3 : Int32)), .val (.ref b1), .val (.ref b17), .val (.ref w3), .unset] [])) (fun tq_ kq_ => XS.ifNo X56.here hx rfl (hb hby at_151) rfl ((if0 _ _).trans (feq hc151).1) kq_) ?_
    refine own_G.step (g' := (mkF m 156 #[.val (.int i0), .val (.int i1), .val (.long i2), .second, .val (.int i3), .val (.int i4), .val (.int (3 : Int32)), .val (.ref b1), .val (.ref b17), .val (.ref w3), .unset] [(.int (3 : Int32))])) (fun tq_ kq_ => XS.iload X56.here hx rfl (hb hby at_154) rfl kq_) ?_
    refine own_G.step (g' := (mkF m 157 #[.val (.int i0), .val (.int i1), .val (.long i2), .second, .val (.int i3), .val (.int i4), .val (.int (3 : Int32)), .val (.ref b1), .val (.ref b17), .val (.ref w3), .unset] [(.int (1 : Int32)), (.int (3 : Int32))])) (fun tq_ kq_ => XS.iconst X56.here hx rfl (hb hby at_156) kq_) ?_
    have hc157 : ¬ ((3 : Int32) = (1 : Int32)) := (by decide)
    refine own_G.step (g' := (mkF m 164 #[.val (.int i0), .val (.int i1), .val (.long i2), .second, .val (.int i3), .val (.int i4), .val (.int (3 : Int32)), .val (.ref b1), .val (.ref b17), .val (.ref w3), .unset] [])) (fun tq_ kq_ => XS.icmpYes X56.here hx rfl (pc0 := 157) (pc' := 164) rfl (hb hby at_157) rfl (feq hc157).2 (by decide) (by decide) kq_) ?_
    refine own_G.step (g' := (mkF m 165 #[.val (.int i0), .val (.int i1), .val (.long i2), .second, .val (.int i3), .val (.int i4), .val (.int (3 : Int32)), .val (.ref b1), .val (.ref b17), .val (.ref w3), .unset] [(.int (0 : Int32))])) (fun tq_ kq_ => XS.iconst X56.here hx rfl (hb hby at_164) kq_) ?_
    refine own_G.step (g' := (mkF m 167 #[.val (.int i0), .val (.int i1), .val (.long i2), .second, .val (.int i3), .val (.int i4), .val (.int (3 : Int32)), .val (.ref b1), .val (.ref b17), .val (.ref w3), .val (.int (0 : Int32))] [])) (fun tq_ kq_ => XS.istore X56.here hx rfl (hb hby at_165) rfl (l' := #[.val (.int i0), .val (.int i1), .val (.long i2), .second, .val (.int i3), .val (.int i4), .val (.int (3 : Int32)), .val (.ref b1), .val (.ref b17), .val (.ref w3), .val (.int (0 : Int32))]) rfl kq_) ?_
    refine own_G.step (g' := (mkF m 169 #[.val (.int i0), .val (.int i1), .val (.long i2), .second, .val (.int i3), .val (.int i4), .val (.int (3 : Int32)), .val (.ref b1), .val (.ref b17), .val (.ref w3), .val (.int (0 : Int32))] [(.ref w3)])) (fun tq_ kq_ => XS.aload X56.here hx rfl (hb hby at_167) rfl rfl kq_) ?_
    obtain ⟨_, _, ⟨T57, L57, k57, n57⟩, -, X57, ⟨Lc57, hQ57, l57, y57, z57⟩, st57⟩ := Jvm.LawKit.callS X56 hx (y := (⟨"com/example/bough/bough/KeyOrder", "isBoundary", "(Ljava/lang/Object;)Z"⟩ : MethodName)) hown (mvT hZ (hw _ (List.mem_of_getElem? (i := 34) rfl))) (mvT hZ (hw _ (List.mem_of_getElem? (i := 35) rfl))) (mvT hZ (hw _ (List.mem_of_getElem? (i := 32) rfl))) (mvT hZ (hw _ (List.mem_of_getElem? (i := 36) rfl))) (by decide) (backOf (W := 0) (rm_bnd l Z a0 hw [] (.ref w3) w0 w1 T27.heap n0 O45 rfl S_INF1 S_INF2) hZ (hw _ (List.mem_of_getElem? (i := 36) rfl)) (hw _ (List.mem_of_getElem? (i := 32) rfl)) (by decide) (by decide)) (g := (mkF m 169 #[.val (.int i0), .val (.int i1), .val (.long i2), .second, .val (.int i3), .val (.int i4), .val (.int (3 : Int32)), .val (.ref b1), .val (.ref b17), .val (.ref w3), .val (.int (0 : Int32))] [(.ref w3)])) rfl (by rw [hml]; rfl) (argsL := [(.ref w3)]) (rest := []) (lenOf pd__28Ljava_2flang_2fObject_3b_29Z rfl) rfl (by show 2 * 0 + _ ≤ _; exact Nat.le_of_eq rfl) (hb hby at_169) (fun _ _ => ⟨rfl, e56, (by decide : 3 + 0 ≤ _), (by decide : 8 + 0 ≤ _)⟩)
    dsimp only [Pt.U, Pt.locs, Pt.cells, Pt.slots] at X57 l57 y57 z57 st57 hQ57
    subst l57 y57 z57
    obtain ⟨rfl, Nq57, P58⟩ := hQ57
    have N57 := Fr.app N27 Nq57
    refine own_G.step (T' := T57) (g' := (mkF m 172 #[.val (.int i0), .val (.int i1), .val (.long i2), .second, .val (.int i3), .val (.int i4), .val (.int (3 : Int32)), .val (.ref b1), .val (.ref b17), .val (.ref w3), .val (.int (0 : Int32))] [(.int (own_bnd (.ref w3) w0 w1))])) (fun tq_ kq_ => st57 _ kq_) ?_
    have hg : own_bnd (.ref w3) w0 w1 = (0 : Int32) := by simp [own_bnd, n30, n31]
    refine own_G.cast (g' := (mkF m 172 #[.val (.int i0), .val (.int i1), .val (.long i2), .second, .val (.int i3), .val (.int i4), .val (.int (3 : Int32)), .val (.ref b1), .val (.ref b17), .val (.ref w3), .val (.int (0 : Int32))] [(.int (0 : Int32))])) (by rw [hg]) ?_
    refine own_G.step (g' := (mkF m 174 #[.val (.int i0), .val (.int i1), .val (.long i2), .second, .val (.int i3), .val (.int i4), .val (.int (3 : Int32)), .val (.ref b1), .val (.ref b17), .val (.ref w3), .val (.int (0 : Int32))] [(.int (0 : Int32)), (.int (0 : Int32))])) (fun tq_ kq_ => XS.iload X57.here hx rfl (hb hby at_172) rfl kq_) ?_
    have hc174 : (0 : Int32) = (0 : Int32) := (by decide)
    refine own_G.step (g' := (mkF m 177 #[.val (.int i0), .val (.int i1), .val (.long i2), .second, .val (.int i3), .val (.int i4), .val (.int (3 : Int32)), .val (.ref b1), .val (.ref b17), .val (.ref w3), .val (.int (0 : Int32))] [])) (fun tq_ kq_ => XS.icmpNo X57.here hx rfl (hb hby at_174) rfl (teq hc174).2 kq_) ?_
    refine own_G.step (g' := (mkF m 178 #[.val (.int i0), .val (.int i1), .val (.long i2), .second, .val (.int i3), .val (.int i4), .val (.int (3 : Int32)), .val (.ref b1), .val (.ref b17), .val (.ref w3), .val (.int (0 : Int32))] [(.int (1 : Int32))])) (fun tq_ kq_ => XS.iconst X57.here hx rfl (hb hby at_177) kq_) ?_
    refine own_G.step (g' := (mkF m 182 #[.val (.int i0), .val (.int i1), .val (.long i2), .second, .val (.int i3), .val (.int i4), .val (.int (3 : Int32)), .val (.ref b1), .val (.ref b17), .val (.ref w3), .val (.int (0 : Int32))] [(.int (1 : Int32))])) (fun tq_ kq_ => XS.goto X57.here hx rfl (pc0 := 178) (pc' := 182) rfl (hb hby at_178) (by decide) (by decide) kq_) ?_
    exact own_ret X57 P58 (v := some (.int (1 : Int32))) (fun h => by rw [Bd.returns] at h; cases h) Bd.notSynchronized ⟨rfl, N57⟩ (by decide) (by decide) (fun fs hr => retN X57 hx (t := .boolean) Bd.returns (by simp) (hb hby at_182) hr)
  · refine own_G.step (g' := (mkF m 49 #[.val (.int i0), .val (.int i1), .val (.long i2), .second, .val (.int i3), .val (.int i4), .val (.int (4 : Int32)), .val (.ref b1), .val (.ref b17), .unset, .unset] [(.int (4 : Int32))])) (fun tq_ kq_ => XS.iload X27.here hx rfl (hb hby at_47) rfl kq_) ?_
    have hc49 : ¬ ((4 : Int32) = (0 : Int32)) := (by decide)
    refine own_G.step (g' := (mkF m 60 #[.val (.int i0), .val (.int i1), .val (.long i2), .second, .val (.int i3), .val (.int i4), .val (.int (4 : Int32)), .val (.ref b1), .val (.ref b17), .unset, .unset] [])) (fun tq_ kq_ => XS.ifYes X27.here hx rfl (pc0 := 49) (pc' := 60) rfl (hb hby at_49) rfl ((if0 _ _).trans (feq hc49).2) (by decide) (by decide) kq_) ?_
    refine own_G.step (g' := (mkF m 62 #[.val (.int i0), .val (.int i1), .val (.long i2), .second, .val (.int i3), .val (.int i4), .val (.int (4 : Int32)), .val (.ref b1), .val (.ref b17), .unset, .unset] [(.int (4 : Int32))])) (fun tq_ kq_ => XS.iload X27.here hx rfl (hb hby at_60) rfl kq_) ?_
    refine own_G.step (g' := (mkF m 63 #[.val (.int i0), .val (.int i1), .val (.long i2), .second, .val (.int i3), .val (.int i4), .val (.int (4 : Int32)), .val (.ref b1), .val (.ref b17), .unset, .unset] [(.int (1 : Int32)), (.int (4 : Int32))])) (fun tq_ kq_ => XS.iconst X27.here hx rfl (hb hby at_62) kq_) ?_
    have hc63 : ¬ ((4 : Int32) = (1 : Int32)) := (by decide)
    refine own_G.step (g' := (mkF m 74 #[.val (.int i0), .val (.int i1), .val (.long i2), .second, .val (.int i3), .val (.int i4), .val (.int (4 : Int32)), .val (.ref b1), .val (.ref b17), .unset, .unset] [])) (fun tq_ kq_ => XS.icmpYes X27.here hx rfl (pc0 := 63) (pc' := 74) rfl (hb hby at_63) rfl (feq hc63).2 (by decide) (by decide) kq_) ?_
    refine own_G.step (g' := (mkF m 76 #[.val (.int i0), .val (.int i1), .val (.long i2), .second, .val (.int i3), .val (.int i4), .val (.int (4 : Int32)), .val (.ref b1), .val (.ref b17), .unset, .unset] [(.int (4 : Int32))])) (fun tq_ kq_ => XS.iload X27.here hx rfl (hb hby at_74) rfl kq_) ?_
    refine own_G.step (g' := (mkF m 77 #[.val (.int i0), .val (.int i1), .val (.long i2), .second, .val (.int i3), .val (.int i4), .val (.int (4 : Int32)), .val (.ref b1), .val (.ref b17), .unset, .unset] [(.int (2 : Int32)), (.int (4 : Int32))])) (fun tq_ kq_ => XS.iconst X27.here hx rfl (hb hby at_76) kq_) ?_
    have hc77 : ¬ ((4 : Int32) = (2 : Int32)) := (by decide)
    refine own_G.step (g' := (mkF m 88 #[.val (.int i0), .val (.int i1), .val (.long i2), .second, .val (.int i3), .val (.int i4), .val (.int (4 : Int32)), .val (.ref b1), .val (.ref b17), .unset, .unset] [])) (fun tq_ kq_ => XS.icmpYes X27.here hx rfl (pc0 := 77) (pc' := 88) rfl (hb hby at_77) rfl (feq hc77).2 (by decide) (by decide) kq_) ?_
    refine own_G.step (g' := (mkF m 90 #[.val (.int i0), .val (.int i1), .val (.long i2), .second, .val (.int i3), .val (.int i4), .val (.int (4 : Int32)), .val (.ref b1), .val (.ref b17), .unset, .unset] [(.int (4 : Int32))])) (fun tq_ kq_ => XS.iload X27.here hx rfl (hb hby at_88) rfl kq_) ?_
    refine own_G.step (g' := (mkF m 91 #[.val (.int i0), .val (.int i1), .val (.long i2), .second, .val (.int i3), .val (.int i4), .val (.int (4 : Int32)), .val (.ref b1), .val (.ref b17), .unset, .unset] [(.int (3 : Int32)), (.int (4 : Int32))])) (fun tq_ kq_ => XS.iconst X27.here hx rfl (hb hby at_90) kq_) ?_
    have hc91 : ¬ ((4 : Int32) = (3 : Int32)) := (by decide)
    refine own_G.step (g' := (mkF m 102 #[.val (.int i0), .val (.int i1), .val (.long i2), .second, .val (.int i3), .val (.int i4), .val (.int (4 : Int32)), .val (.ref b1), .val (.ref b17), .unset, .unset] [])) (fun tq_ kq_ => XS.icmpYes X27.here hx rfl (pc0 := 91) (pc' := 102) rfl (hb hby at_91) rfl (feq hc91).2 (by decide) (by decide) kq_) ?_
    refine own_G.step (g' := (mkF m 104 #[.val (.int i0), .val (.int i1), .val (.long i2), .second, .val (.int i3), .val (.int i4), .val (.int (4 : Int32)), .val (.ref b1), .val (.ref b17), .unset, .unset] [(.int (4 : Int32))])) (fun tq_ kq_ => XS.iload X27.here hx rfl (hb hby at_102) rfl kq_) ?_
    refine own_G.step (g' := (mkF m 105 #[.val (.int i0), .val (.int i1), .val (.long i2), .second, .val (.int i3), .val (.int i4), .val (.int (4 : Int32)), .val (.ref b1), .val (.ref b17), .unset, .unset] [(.int (4 : Int32)), (.int (4 : Int32))])) (fun tq_ kq_ => XS.iconst X27.here hx rfl (hb hby at_104) kq_) ?_
    have hc105 : (4 : Int32) = (4 : Int32) := (by decide)
    refine own_G.step (g' := (mkF m 108 #[.val (.int i0), .val (.int i1), .val (.long i2), .second, .val (.int i3), .val (.int i4), .val (.int (4 : Int32)), .val (.ref b1), .val (.ref b17), .unset, .unset] [])) (fun tq_ kq_ => XS.icmpNo X27.here hx rfl (hb hby at_105) rfl (teq hc105).2 kq_) ?_
    refine own_G.step (g' := (mkF m 109 #[.val (.int i0), .val (.int i1), .val (.long i2), .second, .val (.int i3), .val (.int i4), .val (.int (4 : Int32)), .val (.ref b1), .val (.ref b17), .unset, .unset] [(.int i1)])) (fun tq_ kq_ => XS.iloadN X27.here hx rfl (hb hby at_108) rfl kq_) ?_
    obtain ⟨_, _, ⟨T59, L59, k59, n59⟩, -, X59, ⟨Lc59, hQ59, l59, y59, z59⟩, st59⟩ := Jvm.LawKit.callS X27 hx (y := (⟨"java/lang/Integer", "valueOf", "(I)Ljava/lang/Integer;"⟩ : MethodName)) hown (mvT hZ (hw _ (List.mem_of_getElem? (i := 38) rfl))) (mvT hZ (hw _ (List.mem_of_getElem? (i := 39) rfl))) (mvT hZ (hw _ (List.mem_of_getElem? (i := 40) rfl))) (mvT hZ (hw _ (List.mem_of_getElem? (i := 41) rfl))) (by decide) (backOf (W := 0) (rm_valueOf l Z a0 hw [] i1 ca cc T27.heap n0 O45 S_high S_cache BX) hZ (hw _ (List.mem_of_getElem? (i := 41) rfl)) (hw _ (List.mem_of_getElem? (i := 40) rfl)) (by decide) (by decide)) (g := (mkF m 109 #[.val (.int i0), .val (.int i1), .val (.long i2), .second, .val (.int i3), .val (.int i4), .val (.int (4 : Int32)), .val (.ref b1), .val (.ref b17), .unset, .unset] [(.int i1)])) rfl (by rw [hml]; rfl) (argsL := [(.int i1)]) (rest := []) (lenOf pd__28I_29Ljava_2flang_2fInteger_3b rfl) rfl (by show 2 * 0 + _ ≤ _; exact Nat.le_of_eq rfl) (hb hby at_109) (fun _ _ => ⟨rfl, rfl, (by decide : 3 + 1 ≤ _), (by decide : 8 + 1 ≤ _)⟩)
    dsimp only [Pt.U, Pt.locs, Pt.cells, Pt.slots] at X59 l59 y59 z59 st59 hQ59
    subst l59 y59 z59
    obtain ⟨b60, rfl, Nq59, P61, P62, P63⟩ := hQ59
    have N59 := Fr.app N27 Nq59
    have F64 := F43.keep P61 nin0
    have F65 := P30.keep P61
    have F66 := P31.keep P61 nin0
    have F67 := P37.keep P61 nin0
    have F68 := P38.keep P61 nin0
    have O69 := O45.keep P61 all0
    have K70 := K46.trans P61 all0
    refine own_G.step (T' := T59) (g' := (mkF m 112 #[.val (.int i0), .val (.int i1), .val (.long i2), .second, .val (.int i3), .val (.int i4), .val (.int (4 : Int32)), .val (.ref b1), .val (.ref b17), .unset, .unset] [(.ref b60)])) (fun tq_ kq_ => st59 _ kq_) ?_
    refine own_G.step (g' := (mkF m 114 #[.val (.int i0), .val (.int i1), .val (.long i2), .second, .val (.int i3), .val (.int i4), .val (.int (4 : Int32)), .val (.ref b1), .val (.ref b17), .val (.ref b60), .unset] [])) (fun tq_ kq_ => XS.astore X59.here hx rfl (hb hby at_112) rfl rfl (l' := #[.val (.int i0), .val (.int i1), .val (.long i2), .second, .val (.int i3), .val (.int i4), .val (.int (4 : Int32)), .val (.ref b1), .val (.ref b17), .val (.ref b60), .unset]) rfl kq_) ?_
    refine own_G.step (g' := (mkF m 149 #[.val (.int i0), .val (.int i1), .val (.long i2), .second, .val (.int i3), .val (.int i4), .val (.int (4 : Int32)), .val (.ref b1), .val (.ref b17), .val (.ref b60), .unset] [])) (fun tq_ kq_ => XS.goto X59.here hx rfl (pc0 := 114) (pc' := 149) rfl (hb hby at_114) (by decide) (by decide) kq_) ?_
    refine own_G.step (g' := (mkF m 151 #[.val (.int i0), .val (.int i1), .val (.long i2), .second, .val (.int i3), .val (.int i4), .val (.int (4 : Int32)), .val (.ref b1), .val (.ref b17), .val (.ref b60), .unset] [(.int (4 : Int32))])) (fun tq_ kq_ => XS.iload X59.here hx rfl (hb hby at_149) rfl kq_) ?_
    have hc151 : ¬ ((4 : Int32) = (0 : Int32)) := (by decide)
    refine own_G.step (g' := (mkF m 154 #[.val (.int i0), .val (.int i1), .val (.long i2), .second, .val (.int i3), .val (.int i4), .val (.int (4 : Int32)), .val (.ref b1), .val (.ref b17), .val (.ref b60), .unset] [])) (fun tq_ kq_ => XS.ifNo X59.here hx rfl (hb hby at_151) rfl ((if0 _ _).trans (feq hc151).1) kq_) ?_
    refine own_G.step (g' := (mkF m 156 #[.val (.int i0), .val (.int i1), .val (.long i2), .second, .val (.int i3), .val (.int i4), .val (.int (4 : Int32)), .val (.ref b1), .val (.ref b17), .val (.ref b60), .unset] [(.int (4 : Int32))])) (fun tq_ kq_ => XS.iload X59.here hx rfl (hb hby at_154) rfl kq_) ?_
    refine own_G.step (g' := (mkF m 157 #[.val (.int i0), .val (.int i1), .val (.long i2), .second, .val (.int i3), .val (.int i4), .val (.int (4 : Int32)), .val (.ref b1), .val (.ref b17), .val (.ref b60), .unset] [(.int (1 : Int32)), (.int (4 : Int32))])) (fun tq_ kq_ => XS.iconst X59.here hx rfl (hb hby at_156) kq_) ?_
    have hc157 : ¬ ((4 : Int32) = (1 : Int32)) := (by decide)
    refine own_G.step (g' := (mkF m 164 #[.val (.int i0), .val (.int i1), .val (.long i2), .second, .val (.int i3), .val (.int i4), .val (.int (4 : Int32)), .val (.ref b1), .val (.ref b17), .val (.ref b60), .unset] [])) (fun tq_ kq_ => XS.icmpYes X59.here hx rfl (pc0 := 157) (pc' := 164) rfl (hb hby at_157) rfl (feq hc157).2 (by decide) (by decide) kq_) ?_
    refine own_G.step (g' := (mkF m 165 #[.val (.int i0), .val (.int i1), .val (.long i2), .second, .val (.int i3), .val (.int i4), .val (.int (4 : Int32)), .val (.ref b1), .val (.ref b17), .val (.ref b60), .unset] [(.int (0 : Int32))])) (fun tq_ kq_ => XS.iconst X59.here hx rfl (hb hby at_164) kq_) ?_
    refine own_G.step (g' := (mkF m 167 #[.val (.int i0), .val (.int i1), .val (.long i2), .second, .val (.int i3), .val (.int i4), .val (.int (4 : Int32)), .val (.ref b1), .val (.ref b17), .val (.ref b60), .val (.int (0 : Int32))] [])) (fun tq_ kq_ => XS.istore X59.here hx rfl (hb hby at_165) rfl (l' := #[.val (.int i0), .val (.int i1), .val (.long i2), .second, .val (.int i3), .val (.int i4), .val (.int (4 : Int32)), .val (.ref b1), .val (.ref b17), .val (.ref b60), .val (.int (0 : Int32))]) rfl kq_) ?_
    refine own_G.step (g' := (mkF m 169 #[.val (.int i0), .val (.int i1), .val (.long i2), .second, .val (.int i3), .val (.int i4), .val (.int (4 : Int32)), .val (.ref b1), .val (.ref b17), .val (.ref b60), .val (.int (0 : Int32))] [(.ref b60)])) (fun tq_ kq_ => XS.aload X59.here hx rfl (hb hby at_167) rfl rfl kq_) ?_
    obtain ⟨_, _, ⟨T71, L71, k71, n71⟩, -, X71, ⟨Lc71, hQ71, l71, y71, z71⟩, st71⟩ := Jvm.LawKit.callS X59 hx (y := (⟨"com/example/bough/bough/KeyOrder", "isBoundary", "(Ljava/lang/Object;)Z"⟩ : MethodName)) hown (mvT hZ (hw _ (List.mem_of_getElem? (i := 34) rfl))) (mvT hZ (hw _ (List.mem_of_getElem? (i := 35) rfl))) (mvT hZ (hw _ (List.mem_of_getElem? (i := 32) rfl))) (mvT hZ (hw _ (List.mem_of_getElem? (i := 36) rfl))) (by decide) (backOf (W := 0) (rm_bnd l Z a0 hw [] (.ref b60) w0 w1 T59.heap n0 O69 rfl S_INF1 S_INF2) hZ (hw _ (List.mem_of_getElem? (i := 36) rfl)) (hw _ (List.mem_of_getElem? (i := 32) rfl)) (by decide) (by decide)) (g := (mkF m 169 #[.val (.int i0), .val (.int i1), .val (.long i2), .second, .val (.int i3), .val (.int i4), .val (.int (4 : Int32)), .val (.ref b1), .val (.ref b17), .val (.ref b60), .val (.int (0 : Int32))] [(.ref b60)])) rfl (by rw [hml]; rfl) (argsL := [(.ref b60)]) (rest := []) (lenOf pd__28Ljava_2flang_2fObject_3b_29Z rfl) rfl (by show 2 * 0 + _ ≤ _; exact Nat.le_of_eq rfl) (hb hby at_169) (fun _ _ => ⟨rfl, rfl, (by decide : 4 + 0 ≤ _), (by decide : 9 + 0 ≤ _)⟩)
    dsimp only [Pt.U, Pt.locs, Pt.cells, Pt.slots] at X71 l71 y71 z71 st71 hQ71
    subst l71 y71 z71
    obtain ⟨rfl, Nq71, P72⟩ := hQ71
    have N71 := Fr.app N59 Nq71
    refine own_G.step (T' := T71) (g' := (mkF m 172 #[.val (.int i0), .val (.int i1), .val (.long i2), .second, .val (.int i3), .val (.int i4), .val (.int (4 : Int32)), .val (.ref b1), .val (.ref b17), .val (.ref b60), .val (.int (0 : Int32))] [(.int (own_bnd (.ref b60) w0 w1))])) (fun tq_ kq_ => st71 _ kq_) ?_
    have nw0 : b60 ≠ w0 := ne_exa P62 (Exa.ext O69.2 E_INF1) (by decide)
    have nw1 : b60 ≠ w1 := ne_exa P62 (Exa.ext O69.2 E_INF2) (by decide)
    have hg : own_bnd (.ref b60) w0 w1 = (0 : Int32) := by simp [own_bnd, nw0, nw1]
    refine own_G.cast (g' := (mkF m 172 #[.val (.int i0), .val (.int i1), .val (.long i2), .second, .val (.int i3), .val (.int i4), .val (.int (4 : Int32)), .val (.ref b1), .val (.ref b17), .val (.ref b60), .val (.int (0 : Int32))] [(.int (0 : Int32))])) (by rw [hg]) ?_
    refine own_G.step (g' := (mkF m 174 #[.val (.int i0), .val (.int i1), .val (.long i2), .second, .val (.int i3), .val (.int i4), .val (.int (4 : Int32)), .val (.ref b1), .val (.ref b17), .val (.ref b60), .val (.int (0 : Int32))] [(.int (0 : Int32)), (.int (0 : Int32))])) (fun tq_ kq_ => XS.iload X71.here hx rfl (hb hby at_172) rfl kq_) ?_
    have hc174 : (0 : Int32) = (0 : Int32) := (by decide)
    refine own_G.step (g' := (mkF m 177 #[.val (.int i0), .val (.int i1), .val (.long i2), .second, .val (.int i3), .val (.int i4), .val (.int (4 : Int32)), .val (.ref b1), .val (.ref b17), .val (.ref b60), .val (.int (0 : Int32))] [])) (fun tq_ kq_ => XS.icmpNo X71.here hx rfl (hb hby at_174) rfl (teq hc174).2 kq_) ?_
    refine own_G.step (g' := (mkF m 178 #[.val (.int i0), .val (.int i1), .val (.long i2), .second, .val (.int i3), .val (.int i4), .val (.int (4 : Int32)), .val (.ref b1), .val (.ref b17), .val (.ref b60), .val (.int (0 : Int32))] [(.int (1 : Int32))])) (fun tq_ kq_ => XS.iconst X71.here hx rfl (hb hby at_177) kq_) ?_
    refine own_G.step (g' := (mkF m 182 #[.val (.int i0), .val (.int i1), .val (.long i2), .second, .val (.int i3), .val (.int i4), .val (.int (4 : Int32)), .val (.ref b1), .val (.ref b17), .val (.ref b60), .val (.int (0 : Int32))] [(.int (1 : Int32))])) (fun tq_ kq_ => XS.goto X71.here hx rfl (pc0 := 178) (pc' := 182) rfl (hb hby at_178) (by decide) (by decide) kq_) ?_
    exact own_ret X71 P72 (v := some (.int (1 : Int32))) (fun h => by rw [Bd.returns] at h; cases h) Bd.notSynchronized ⟨rfl, N71⟩ (by decide) (by decide) (fun fs hr => retN X71 hx (t := .boolean) Bd.returns (by simp) (hb hby at_182) hr)
  · refine own_G.step (g' := (mkF m 49 #[.val (.int i0), .val (.int i1), .val (.long i2), .second, .val (.int i3), .val (.int i4), .val (.int (5 : Int32)), .val (.ref b1), .val (.ref b17), .unset, .unset] [(.int (5 : Int32))])) (fun tq_ kq_ => XS.iload X27.here hx rfl (hb hby at_47) rfl kq_) ?_
    have hc49 : ¬ ((5 : Int32) = (0 : Int32)) := (by decide)
    refine own_G.step (g' := (mkF m 60 #[.val (.int i0), .val (.int i1), .val (.long i2), .second, .val (.int i3), .val (.int i4), .val (.int (5 : Int32)), .val (.ref b1), .val (.ref b17), .unset, .unset] [])) (fun tq_ kq_ => XS.ifYes X27.here hx rfl (pc0 := 49) (pc' := 60) rfl (hb hby at_49) rfl ((if0 _ _).trans (feq hc49).2) (by decide) (by decide) kq_) ?_
    refine own_G.step (g' := (mkF m 62 #[.val (.int i0), .val (.int i1), .val (.long i2), .second, .val (.int i3), .val (.int i4), .val (.int (5 : Int32)), .val (.ref b1), .val (.ref b17), .unset, .unset] [(.int (5 : Int32))])) (fun tq_ kq_ => XS.iload X27.here hx rfl (hb hby at_60) rfl kq_) ?_
    refine own_G.step (g' := (mkF m 63 #[.val (.int i0), .val (.int i1), .val (.long i2), .second, .val (.int i3), .val (.int i4), .val (.int (5 : Int32)), .val (.ref b1), .val (.ref b17), .unset, .unset] [(.int (1 : Int32)), (.int (5 : Int32))])) (fun tq_ kq_ => XS.iconst X27.here hx rfl (hb hby at_62) kq_) ?_
    have hc63 : ¬ ((5 : Int32) = (1 : Int32)) := (by decide)
    refine own_G.step (g' := (mkF m 74 #[.val (.int i0), .val (.int i1), .val (.long i2), .second, .val (.int i3), .val (.int i4), .val (.int (5 : Int32)), .val (.ref b1), .val (.ref b17), .unset, .unset] [])) (fun tq_ kq_ => XS.icmpYes X27.here hx rfl (pc0 := 63) (pc' := 74) rfl (hb hby at_63) rfl (feq hc63).2 (by decide) (by decide) kq_) ?_
    refine own_G.step (g' := (mkF m 76 #[.val (.int i0), .val (.int i1), .val (.long i2), .second, .val (.int i3), .val (.int i4), .val (.int (5 : Int32)), .val (.ref b1), .val (.ref b17), .unset, .unset] [(.int (5 : Int32))])) (fun tq_ kq_ => XS.iload X27.here hx rfl (hb hby at_74) rfl kq_) ?_
    refine own_G.step (g' := (mkF m 77 #[.val (.int i0), .val (.int i1), .val (.long i2), .second, .val (.int i3), .val (.int i4), .val (.int (5 : Int32)), .val (.ref b1), .val (.ref b17), .unset, .unset] [(.int (2 : Int32)), (.int (5 : Int32))])) (fun tq_ kq_ => XS.iconst X27.here hx rfl (hb hby at_76) kq_) ?_
    have hc77 : ¬ ((5 : Int32) = (2 : Int32)) := (by decide)
    refine own_G.step (g' := (mkF m 88 #[.val (.int i0), .val (.int i1), .val (.long i2), .second, .val (.int i3), .val (.int i4), .val (.int (5 : Int32)), .val (.ref b1), .val (.ref b17), .unset, .unset] [])) (fun tq_ kq_ => XS.icmpYes X27.here hx rfl (pc0 := 77) (pc' := 88) rfl (hb hby at_77) rfl (feq hc77).2 (by decide) (by decide) kq_) ?_
    refine own_G.step (g' := (mkF m 90 #[.val (.int i0), .val (.int i1), .val (.long i2), .second, .val (.int i3), .val (.int i4), .val (.int (5 : Int32)), .val (.ref b1), .val (.ref b17), .unset, .unset] [(.int (5 : Int32))])) (fun tq_ kq_ => XS.iload X27.here hx rfl (hb hby at_88) rfl kq_) ?_
    refine own_G.step (g' := (mkF m 91 #[.val (.int i0), .val (.int i1), .val (.long i2), .second, .val (.int i3), .val (.int i4), .val (.int (5 : Int32)), .val (.ref b1), .val (.ref b17), .unset, .unset] [(.int (3 : Int32)), (.int (5 : Int32))])) (fun tq_ kq_ => XS.iconst X27.here hx rfl (hb hby at_90) kq_) ?_
    have hc91 : ¬ ((5 : Int32) = (3 : Int32)) := (by decide)
    refine own_G.step (g' := (mkF m 102 #[.val (.int i0), .val (.int i1), .val (.long i2), .second, .val (.int i3), .val (.int i4), .val (.int (5 : Int32)), .val (.ref b1), .val (.ref b17), .unset, .unset] [])) (fun tq_ kq_ => XS.icmpYes X27.here hx rfl (pc0 := 91) (pc' := 102) rfl (hb hby at_91) rfl (feq hc91).2 (by decide) (by decide) kq_) ?_
    refine own_G.step (g' := (mkF m 104 #[.val (.int i0), .val (.int i1), .val (.long i2), .second, .val (.int i3), .val (.int i4), .val (.int (5 : Int32)), .val (.ref b1), .val (.ref b17), .unset, .unset] [(.int (5 : Int32))])) (fun tq_ kq_ => XS.iload X27.here hx rfl (hb hby at_102) rfl kq_) ?_
    refine own_G.step (g' := (mkF m 105 #[.val (.int i0), .val (.int i1), .val (.long i2), .second, .val (.int i3), .val (.int i4), .val (.int (5 : Int32)), .val (.ref b1), .val (.ref b17), .unset, .unset] [(.int (4 : Int32)), (.int (5 : Int32))])) (fun tq_ kq_ => XS.iconst X27.here hx rfl (hb hby at_104) kq_) ?_
    have hc105 : ¬ ((5 : Int32) = (4 : Int32)) := (by decide)
    refine own_G.step (g' := (mkF m 117 #[.val (.int i0), .val (.int i1), .val (.long i2), .second, .val (.int i3), .val (.int i4), .val (.int (5 : Int32)), .val (.ref b1), .val (.ref b17), .unset, .unset] [])) (fun tq_ kq_ => XS.icmpYes X27.here hx rfl (pc0 := 105) (pc' := 117) rfl (hb hby at_105) rfl (feq hc105).2 (by decide) (by decide) kq_) ?_
    refine own_G.step (g' := (mkF m 119 #[.val (.int i0), .val (.int i1), .val (.long i2), .second, .val (.int i3), .val (.int i4), .val (.int (5 : Int32)), .val (.ref b1), .val (.ref b17), .unset, .unset] [(.int (5 : Int32))])) (fun tq_ kq_ => XS.iload X27.here hx rfl (hb hby at_117) rfl kq_) ?_
    refine own_G.step (g' := (mkF m 120 #[.val (.int i0), .val (.int i1), .val (.long i2), .second, .val (.int i3), .val (.int i4), .val (.int (5 : Int32)), .val (.ref b1), .val (.ref b17), .unset, .unset] [(.int (5 : Int32)), (.int (5 : Int32))])) (fun tq_ kq_ => XS.iconst X27.here hx rfl (hb hby at_119) kq_) ?_
    have hc120 : (5 : Int32) = (5 : Int32) := (by decide)
    refine own_G.step (g' := (mkF m 123 #[.val (.int i0), .val (.int i1), .val (.long i2), .second, .val (.int i3), .val (.int i4), .val (.int (5 : Int32)), .val (.ref b1), .val (.ref b17), .unset, .unset] [])) (fun tq_ kq_ => XS.icmpNo X27.here hx rfl (hb hby at_120) rfl (teq hc120).2 kq_) ?_
    refine own_G.step (g' := (mkF m 124 #[.val (.int i0), .val (.int i1), .val (.long i2), .second, .val (.int i3), .val (.int i4), .val (.int (5 : Int32)), .val (.ref b1), .val (.ref b17), .unset, .unset] [(.long i2)])) (fun tq_ kq_ => XS.lloadN X27.here hx rfl (hb hby at_123) rfl kq_) ?_
    obtain ⟨_, _, ⟨T73, L73, k73, n73⟩, -, X73, ⟨Lc73, hQ73, l73, y73, z73⟩, st73⟩ := Jvm.LawKit.callS X27 hx (y := (⟨"java/lang/Long", "valueOf", "(J)Ljava/lang/Long;"⟩ : MethodName)) hown (mvT hZ (hw _ (List.mem_of_getElem? (i := 47) rfl))) (mvT hZ (hw _ (List.mem_of_getElem? (i := 48) rfl))) (mvT hZ (hw _ (List.mem_of_getElem? (i := 49) rfl))) (mvT hZ (hw _ (List.mem_of_getElem? (i := 50) rfl))) (by decide) (backOf (W := 0) (rm_lvalueOf l Z a0 hw [] i2 la lc T27.heap n0 O45 S_lcache LX) hZ (hw _ (List.mem_of_getElem? (i := 50) rfl)) (hw _ (List.mem_of_getElem? (i := 49) rfl)) (by decide) (by decide)) (g := (mkF m 124 #[.val (.int i0), .val (.int i1), .val (.long i2), .second, .val (.int i3), .val (.int i4), .val (.int (5 : Int32)), .val (.ref b1), .val (.ref b17), .unset, .unset] [(.long i2)])) rfl (by rw [hml]; rfl) (argsL := [(.long i2)]) (rest := []) (lenOf pd__28J_29Ljava_2flang_2fLong_3b rfl) rfl (by show 2 * 0 + _ ≤ _; exact Nat.le_of_eq rfl) (hb hby at_124) (fun _ _ => ⟨rfl, rfl, (by decide : 3 + 1 ≤ _), (by decide : 8 + 1 ≤ _)⟩)
    dsimp only [Pt.U, Pt.locs, Pt.cells, Pt.slots] at X73 l73 y73 z73 st73 hQ73
    subst l73 y73 z73
    obtain ⟨b74, rfl, Nq73, P75, P76⟩ := hQ73
    have N73 := Fr.app N27 Nq73
    have F77 := F43.keep P75 nin0
    have F78 := P30.keep P75
    have F79 := P31.keep P75 nin0
    have F80 := P37.keep P75 nin0
    have F81 := P38.keep P75 nin0
    have O82 := O45.keep P75 all0
    have K83 := K46.trans P75 all0
    refine own_G.step (T' := T73) (g' := (mkF m 127 #[.val (.int i0), .val (.int i1), .val (.long i2), .second, .val (.int i3), .val (.int i4), .val (.int (5 : Int32)), .val (.ref b1), .val (.ref b17), .unset, .unset] [(.ref b74)])) (fun tq_ kq_ => st73 _ kq_) ?_
    refine own_G.step (g' := (mkF m 129 #[.val (.int i0), .val (.int i1), .val (.long i2), .second, .val (.int i3), .val (.int i4), .val (.int (5 : Int32)), .val (.ref b1), .val (.ref b17), .val (.ref b74), .unset] [])) (fun tq_ kq_ => XS.astore X73.here hx rfl (hb hby at_127) rfl rfl (l' := #[.val (.int i0), .val (.int i1), .val (.long i2), .second, .val (.int i3), .val (.int i4), .val (.int (5 : Int32)), .val (.ref b1), .val (.ref b17), .val (.ref b74), .unset]) rfl kq_) ?_
    refine own_G.step (g' := (mkF m 149 #[.val (.int i0), .val (.int i1), .val (.long i2), .second, .val (.int i3), .val (.int i4), .val (.int (5 : Int32)), .val (.ref b1), .val (.ref b17), .val (.ref b74), .unset] [])) (fun tq_ kq_ => XS.goto X73.here hx rfl (pc0 := 129) (pc' := 149) rfl (hb hby at_129) (by decide) (by decide) kq_) ?_
    refine own_G.step (g' := (mkF m 151 #[.val (.int i0), .val (.int i1), .val (.long i2), .second, .val (.int i3), .val (.int i4), .val (.int (5 : Int32)), .val (.ref b1), .val (.ref b17), .val (.ref b74), .unset] [(.int (5 : Int32))])) (fun tq_ kq_ => XS.iload X73.here hx rfl (hb hby at_149) rfl kq_) ?_
    have hc151 : ¬ ((5 : Int32) = (0 : Int32)) := (by decide)
    refine own_G.step (g' := (mkF m 154 #[.val (.int i0), .val (.int i1), .val (.long i2), .second, .val (.int i3), .val (.int i4), .val (.int (5 : Int32)), .val (.ref b1), .val (.ref b17), .val (.ref b74), .unset] [])) (fun tq_ kq_ => XS.ifNo X73.here hx rfl (hb hby at_151) rfl ((if0 _ _).trans (feq hc151).1) kq_) ?_
    refine own_G.step (g' := (mkF m 156 #[.val (.int i0), .val (.int i1), .val (.long i2), .second, .val (.int i3), .val (.int i4), .val (.int (5 : Int32)), .val (.ref b1), .val (.ref b17), .val (.ref b74), .unset] [(.int (5 : Int32))])) (fun tq_ kq_ => XS.iload X73.here hx rfl (hb hby at_154) rfl kq_) ?_
    refine own_G.step (g' := (mkF m 157 #[.val (.int i0), .val (.int i1), .val (.long i2), .second, .val (.int i3), .val (.int i4), .val (.int (5 : Int32)), .val (.ref b1), .val (.ref b17), .val (.ref b74), .unset] [(.int (1 : Int32)), (.int (5 : Int32))])) (fun tq_ kq_ => XS.iconst X73.here hx rfl (hb hby at_156) kq_) ?_
    have hc157 : ¬ ((5 : Int32) = (1 : Int32)) := (by decide)
    refine own_G.step (g' := (mkF m 164 #[.val (.int i0), .val (.int i1), .val (.long i2), .second, .val (.int i3), .val (.int i4), .val (.int (5 : Int32)), .val (.ref b1), .val (.ref b17), .val (.ref b74), .unset] [])) (fun tq_ kq_ => XS.icmpYes X73.here hx rfl (pc0 := 157) (pc' := 164) rfl (hb hby at_157) rfl (feq hc157).2 (by decide) (by decide) kq_) ?_
    refine own_G.step (g' := (mkF m 165 #[.val (.int i0), .val (.int i1), .val (.long i2), .second, .val (.int i3), .val (.int i4), .val (.int (5 : Int32)), .val (.ref b1), .val (.ref b17), .val (.ref b74), .unset] [(.int (0 : Int32))])) (fun tq_ kq_ => XS.iconst X73.here hx rfl (hb hby at_164) kq_) ?_
    refine own_G.step (g' := (mkF m 167 #[.val (.int i0), .val (.int i1), .val (.long i2), .second, .val (.int i3), .val (.int i4), .val (.int (5 : Int32)), .val (.ref b1), .val (.ref b17), .val (.ref b74), .val (.int (0 : Int32))] [])) (fun tq_ kq_ => XS.istore X73.here hx rfl (hb hby at_165) rfl (l' := #[.val (.int i0), .val (.int i1), .val (.long i2), .second, .val (.int i3), .val (.int i4), .val (.int (5 : Int32)), .val (.ref b1), .val (.ref b17), .val (.ref b74), .val (.int (0 : Int32))]) rfl kq_) ?_
    refine own_G.step (g' := (mkF m 169 #[.val (.int i0), .val (.int i1), .val (.long i2), .second, .val (.int i3), .val (.int i4), .val (.int (5 : Int32)), .val (.ref b1), .val (.ref b17), .val (.ref b74), .val (.int (0 : Int32))] [(.ref b74)])) (fun tq_ kq_ => XS.aload X73.here hx rfl (hb hby at_167) rfl rfl kq_) ?_
    obtain ⟨_, _, ⟨T84, L84, k84, n84⟩, -, X84, ⟨Lc84, hQ84, l84, y84, z84⟩, st84⟩ := Jvm.LawKit.callS X73 hx (y := (⟨"com/example/bough/bough/KeyOrder", "isBoundary", "(Ljava/lang/Object;)Z"⟩ : MethodName)) hown (mvT hZ (hw _ (List.mem_of_getElem? (i := 34) rfl))) (mvT hZ (hw _ (List.mem_of_getElem? (i := 35) rfl))) (mvT hZ (hw _ (List.mem_of_getElem? (i := 32) rfl))) (mvT hZ (hw _ (List.mem_of_getElem? (i := 36) rfl))) (by decide) (backOf (W := 0) (rm_bnd l Z a0 hw [] (.ref b74) w0 w1 T73.heap n0 O82 rfl S_INF1 S_INF2) hZ (hw _ (List.mem_of_getElem? (i := 36) rfl)) (hw _ (List.mem_of_getElem? (i := 32) rfl)) (by decide) (by decide)) (g := (mkF m 169 #[.val (.int i0), .val (.int i1), .val (.long i2), .second, .val (.int i3), .val (.int i4), .val (.int (5 : Int32)), .val (.ref b1), .val (.ref b17), .val (.ref b74), .val (.int (0 : Int32))] [(.ref b74)])) rfl (by rw [hml]; rfl) (argsL := [(.ref b74)]) (rest := []) (lenOf pd__28Ljava_2flang_2fObject_3b_29Z rfl) rfl (by show 2 * 0 + _ ≤ _; exact Nat.le_of_eq rfl) (hb hby at_169) (fun _ _ => ⟨rfl, rfl, (by decide : 4 + 0 ≤ _), (by decide : 9 + 0 ≤ _)⟩)
    dsimp only [Pt.U, Pt.locs, Pt.cells, Pt.slots] at X84 l84 y84 z84 st84 hQ84
    subst l84 y84 z84
    obtain ⟨rfl, Nq84, P85⟩ := hQ84
    have N84 := Fr.app N73 Nq84
    refine own_G.step (T' := T84) (g' := (mkF m 172 #[.val (.int i0), .val (.int i1), .val (.long i2), .second, .val (.int i3), .val (.int i4), .val (.int (5 : Int32)), .val (.ref b1), .val (.ref b17), .val (.ref b74), .val (.int (0 : Int32))] [(.int (own_bnd (.ref b74) w0 w1))])) (fun tq_ kq_ => st84 _ kq_) ?_
    have nw0 : b74 ≠ w0 := ne_exa P76 (Exa.ext O82.2 E_INF1) (by decide)
    have nw1 : b74 ≠ w1 := ne_exa P76 (Exa.ext O82.2 E_INF2) (by decide)
    have hg : own_bnd (.ref b74) w0 w1 = (0 : Int32) := by simp [own_bnd, nw0, nw1]
    refine own_G.cast (g' := (mkF m 172 #[.val (.int i0), .val (.int i1), .val (.long i2), .second, .val (.int i3), .val (.int i4), .val (.int (5 : Int32)), .val (.ref b1), .val (.ref b17), .val (.ref b74), .val (.int (0 : Int32))] [(.int (0 : Int32))])) (by rw [hg]) ?_
    refine own_G.step (g' := (mkF m 174 #[.val (.int i0), .val (.int i1), .val (.long i2), .second, .val (.int i3), .val (.int i4), .val (.int (5 : Int32)), .val (.ref b1), .val (.ref b17), .val (.ref b74), .val (.int (0 : Int32))] [(.int (0 : Int32)), (.int (0 : Int32))])) (fun tq_ kq_ => XS.iload X84.here hx rfl (hb hby at_172) rfl kq_) ?_
    have hc174 : (0 : Int32) = (0 : Int32) := (by decide)
    refine own_G.step (g' := (mkF m 177 #[.val (.int i0), .val (.int i1), .val (.long i2), .second, .val (.int i3), .val (.int i4), .val (.int (5 : Int32)), .val (.ref b1), .val (.ref b17), .val (.ref b74), .val (.int (0 : Int32))] [])) (fun tq_ kq_ => XS.icmpNo X84.here hx rfl (hb hby at_174) rfl (teq hc174).2 kq_) ?_
    refine own_G.step (g' := (mkF m 178 #[.val (.int i0), .val (.int i1), .val (.long i2), .second, .val (.int i3), .val (.int i4), .val (.int (5 : Int32)), .val (.ref b1), .val (.ref b17), .val (.ref b74), .val (.int (0 : Int32))] [(.int (1 : Int32))])) (fun tq_ kq_ => XS.iconst X84.here hx rfl (hb hby at_177) kq_) ?_
    refine own_G.step (g' := (mkF m 182 #[.val (.int i0), .val (.int i1), .val (.long i2), .second, .val (.int i3), .val (.int i4), .val (.int (5 : Int32)), .val (.ref b1), .val (.ref b17), .val (.ref b74), .val (.int (0 : Int32))] [(.int (1 : Int32))])) (fun tq_ kq_ => XS.goto X84.here hx rfl (pc0 := 178) (pc' := 182) rfl (hb hby at_178) (by decide) (by decide) kq_) ?_
    exact own_ret X84 P85 (v := some (.int (1 : Int32))) (fun h => by rw [Bd.returns] at h; cases h) Bd.notSynchronized ⟨rfl, N84⟩ (by decide) (by decide) (fun fs hr => retN X84 hx (t := .boolean) Bd.returns (by simp) (hb hby at_182) hr)
  · refine own_G.step (g' := (mkF m 49 #[.val (.int i0), .val (.int i1), .val (.long i2), .second, .val (.int i3), .val (.int i4), .val (.int (6 : Int32)), .val (.ref b1), .val (.ref b17), .unset, .unset] [(.int (6 : Int32))])) (fun tq_ kq_ => XS.iload X27.here hx rfl (hb hby at_47) rfl kq_) ?_
    have hc49 : ¬ ((6 : Int32) = (0 : Int32)) := (by decide)
    refine own_G.step (g' := (mkF m 60 #[.val (.int i0), .val (.int i1), .val (.long i2), .second, .val (.int i3), .val (.int i4), .val (.int (6 : Int32)), .val (.ref b1), .val (.ref b17), .unset, .unset] [])) (fun tq_ kq_ => XS.ifYes X27.here hx rfl (pc0 := 49) (pc' := 60) rfl (hb hby at_49) rfl ((if0 _ _).trans (feq hc49).2) (by decide) (by decide) kq_) ?_
    refine own_G.step (g' := (mkF m 62 #[.val (.int i0), .val (.int i1), .val (.long i2), .second, .val (.int i3), .val (.int i4), .val (.int (6 : Int32)), .val (.ref b1), .val (.ref b17), .unset, .unset] [(.int (6 : Int32))])) (fun tq_ kq_ => XS.iload X27.here hx rfl (hb hby at_60) rfl kq_) ?_
    refine own_G.step (g' := (mkF m 63 #[.val (.int i0), .val (.int i1), .val (.long i2), .second, .val (.int i3), .val (.int i4), .val (.int (6 : Int32)), .val (.ref b1), .val (.ref b17), .unset, .unset] [(.int (1 : Int32)), (.int (6 : Int32))])) (fun tq_ kq_ => XS.iconst X27.here hx rfl (hb hby at_62) kq_) ?_
    have hc63 : ¬ ((6 : Int32) = (1 : Int32)) := (by decide)
    refine own_G.step (g' := (mkF m 74 #[.val (.int i0), .val (.int i1), .val (.long i2), .second, .val (.int i3), .val (.int i4), .val (.int (6 : Int32)), .val (.ref b1), .val (.ref b17), .unset, .unset] [])) (fun tq_ kq_ => XS.icmpYes X27.here hx rfl (pc0 := 63) (pc' := 74) rfl (hb hby at_63) rfl (feq hc63).2 (by decide) (by decide) kq_) ?_
    refine own_G.step (g' := (mkF m 76 #[.val (.int i0), .val (.int i1), .val (.long i2), .second, .val (.int i3), .val (.int i4), .val (.int (6 : Int32)), .val (.ref b1), .val (.ref b17), .unset, .unset] [(.int (6 : Int32))])) (fun tq_ kq_ => XS.iload X27.here hx rfl (hb hby at_74) rfl kq_) ?_
    refine own_G.step (g' := (mkF m 77 #[.val (.int i0), .val (.int i1), .val (.long i2), .second, .val (.int i3), .val (.int i4), .val (.int (6 : Int32)), .val (.ref b1), .val (.ref b17), .unset, .unset] [(.int (2 : Int32)), (.int (6 : Int32))])) (fun tq_ kq_ => XS.iconst X27.here hx rfl (hb hby at_76) kq_) ?_
    have hc77 : ¬ ((6 : Int32) = (2 : Int32)) := (by decide)
    refine own_G.step (g' := (mkF m 88 #[.val (.int i0), .val (.int i1), .val (.long i2), .second, .val (.int i3), .val (.int i4), .val (.int (6 : Int32)), .val (.ref b1), .val (.ref b17), .unset, .unset] [])) (fun tq_ kq_ => XS.icmpYes X27.here hx rfl (pc0 := 77) (pc' := 88) rfl (hb hby at_77) rfl (feq hc77).2 (by decide) (by decide) kq_) ?_
    refine own_G.step (g' := (mkF m 90 #[.val (.int i0), .val (.int i1), .val (.long i2), .second, .val (.int i3), .val (.int i4), .val (.int (6 : Int32)), .val (.ref b1), .val (.ref b17), .unset, .unset] [(.int (6 : Int32))])) (fun tq_ kq_ => XS.iload X27.here hx rfl (hb hby at_88) rfl kq_) ?_
    refine own_G.step (g' := (mkF m 91 #[.val (.int i0), .val (.int i1), .val (.long i2), .second, .val (.int i3), .val (.int i4), .val (.int (6 : Int32)), .val (.ref b1), .val (.ref b17), .unset, .unset] [(.int (3 : Int32)), (.int (6 : Int32))])) (fun tq_ kq_ => XS.iconst X27.here hx rfl (hb hby at_90) kq_) ?_
    have hc91 : ¬ ((6 : Int32) = (3 : Int32)) := (by decide)
    refine own_G.step (g' := (mkF m 102 #[.val (.int i0), .val (.int i1), .val (.long i2), .second, .val (.int i3), .val (.int i4), .val (.int (6 : Int32)), .val (.ref b1), .val (.ref b17), .unset, .unset] [])) (fun tq_ kq_ => XS.icmpYes X27.here hx rfl (pc0 := 91) (pc' := 102) rfl (hb hby at_91) rfl (feq hc91).2 (by decide) (by decide) kq_) ?_
    refine own_G.step (g' := (mkF m 104 #[.val (.int i0), .val (.int i1), .val (.long i2), .second, .val (.int i3), .val (.int i4), .val (.int (6 : Int32)), .val (.ref b1), .val (.ref b17), .unset, .unset] [(.int (6 : Int32))])) (fun tq_ kq_ => XS.iload X27.here hx rfl (hb hby at_102) rfl kq_) ?_
    refine own_G.step (g' := (mkF m 105 #[.val (.int i0), .val (.int i1), .val (.long i2), .second, .val (.int i3), .val (.int i4), .val (.int (6 : Int32)), .val (.ref b1), .val (.ref b17), .unset, .unset] [(.int (4 : Int32)), (.int (6 : Int32))])) (fun tq_ kq_ => XS.iconst X27.here hx rfl (hb hby at_104) kq_) ?_
    have hc105 : ¬ ((6 : Int32) = (4 : Int32)) := (by decide)
    refine own_G.step (g' := (mkF m 117 #[.val (.int i0), .val (.int i1), .val (.long i2), .second, .val (.int i3), .val (.int i4), .val (.int (6 : Int32)), .val (.ref b1), .val (.ref b17), .unset, .unset] [])) (fun tq_ kq_ => XS.icmpYes X27.here hx rfl (pc0 := 105) (pc' := 117) rfl (hb hby at_105) rfl (feq hc105).2 (by decide) (by decide) kq_) ?_
    refine own_G.step (g' := (mkF m 119 #[.val (.int i0), .val (.int i1), .val (.long i2), .second, .val (.int i3), .val (.int i4), .val (.int (6 : Int32)), .val (.ref b1), .val (.ref b17), .unset, .unset] [(.int (6 : Int32))])) (fun tq_ kq_ => XS.iload X27.here hx rfl (hb hby at_117) rfl kq_) ?_
    refine own_G.step (g' := (mkF m 120 #[.val (.int i0), .val (.int i1), .val (.long i2), .second, .val (.int i3), .val (.int i4), .val (.int (6 : Int32)), .val (.ref b1), .val (.ref b17), .unset, .unset] [(.int (5 : Int32)), (.int (6 : Int32))])) (fun tq_ kq_ => XS.iconst X27.here hx rfl (hb hby at_119) kq_) ?_
    have hc120 : ¬ ((6 : Int32) = (5 : Int32)) := (by decide)
    refine own_G.step (g' := (mkF m 132 #[.val (.int i0), .val (.int i1), .val (.long i2), .second, .val (.int i3), .val (.int i4), .val (.int (6 : Int32)), .val (.ref b1), .val (.ref b17), .unset, .unset] [])) (fun tq_ kq_ => XS.icmpYes X27.here hx rfl (pc0 := 120) (pc' := 132) rfl (hb hby at_120) rfl (feq hc120).2 (by decide) (by decide) kq_) ?_
    refine own_G.step (g' := (mkF m 134 #[.val (.int i0), .val (.int i1), .val (.long i2), .second, .val (.int i3), .val (.int i4), .val (.int (6 : Int32)), .val (.ref b1), .val (.ref b17), .unset, .unset] [(.int (6 : Int32))])) (fun tq_ kq_ => XS.iload X27.here hx rfl (hb hby at_132) rfl kq_) ?_
    refine own_G.step (g' := (mkF m 136 #[.val (.int i0), .val (.int i1), .val (.long i2), .second, .val (.int i3), .val (.int i4), .val (.int (6 : Int32)), .val (.ref b1), .val (.ref b17), .unset, .unset] [(.int (6 : Int32)), (.int (6 : Int32))])) (fun tq_ kq_ => XS.bipush X27.here hx rfl (hb hby at_134) kq_) ?_
    have hc136 : (6 : Int32) = (6 : Int32) := (by decide)
    refine own_G.step (g' := (mkF m 139 #[.val (.int i0), .val (.int i1), .val (.long i2), .second, .val (.int i3), .val (.int i4), .val (.int (6 : Int32)), .val (.ref b1), .val (.ref b17), .unset, .unset] [])) (fun tq_ kq_ => XS.icmpNo X27.here hx rfl (hb hby at_136) rfl (teq hc136).2 kq_) ?_
    refine own_G.step (g' := (mkF m 141 #[.val (.int i0), .val (.int i1), .val (.long i2), .second, .val (.int i3), .val (.int i4), .val (.int (6 : Int32)), .val (.ref b1), .val (.ref b17), .unset, .unset] [(.ref b17)])) (fun tq_ kq_ => XS.aload X27.here hx rfl (hb hby at_139) rfl rfl kq_) ?_
    refine own_G.step (g' := (mkF m 143 #[.val (.int i0), .val (.int i1), .val (.long i2), .second, .val (.int i3), .val (.int i4), .val (.int (6 : Int32)), .val (.ref b1), .val (.ref b17), .val (.ref b17), .unset] [])) (fun tq_ kq_ => XS.astore X27.here hx rfl (hb hby at_141) rfl rfl (l' := #[.val (.int i0), .val (.int i1), .val (.long i2), .second, .val (.int i3), .val (.int i4), .val (.int (6 : Int32)), .val (.ref b1), .val (.ref b17), .val (.ref b17), .unset]) rfl kq_) ?_
    refine own_G.step (g' := (mkF m 149 #[.val (.int i0), .val (.int i1), .val (.long i2), .second, .val (.int i3), .val (.int i4), .val (.int (6 : Int32)), .val (.ref b1), .val (.ref b17), .val (.ref b17), .unset] [])) (fun tq_ kq_ => XS.goto X27.here hx rfl (pc0 := 143) (pc' := 149) rfl (hb hby at_143) (by decide) (by decide) kq_) ?_
    refine own_G.step (g' := (mkF m 151 #[.val (.int i0), .val (.int i1), .val (.long i2), .second, .val (.int i3), .val (.int i4), .val (.int (6 : Int32)), .val (.ref b1), .val (.ref b17), .val (.ref b17), .unset] [(.int (6 : Int32))])) (fun tq_ kq_ => XS.iload X27.here hx rfl (hb hby at_149) rfl kq_) ?_
    have hc151 : ¬ ((6 : Int32) = (0 : Int32)) := (by decide)
    refine own_G.step (g' := (mkF m 154 #[.val (.int i0), .val (.int i1), .val (.long i2), .second, .val (.int i3), .val (.int i4), .val (.int (6 : Int32)), .val (.ref b1), .val (.ref b17), .val (.ref b17), .unset] [])) (fun tq_ kq_ => XS.ifNo X27.here hx rfl (hb hby at_151) rfl ((if0 _ _).trans (feq hc151).1) kq_) ?_
    refine own_G.step (g' := (mkF m 156 #[.val (.int i0), .val (.int i1), .val (.long i2), .second, .val (.int i3), .val (.int i4), .val (.int (6 : Int32)), .val (.ref b1), .val (.ref b17), .val (.ref b17), .unset] [(.int (6 : Int32))])) (fun tq_ kq_ => XS.iload X27.here hx rfl (hb hby at_154) rfl kq_) ?_
    refine own_G.step (g' := (mkF m 157 #[.val (.int i0), .val (.int i1), .val (.long i2), .second, .val (.int i3), .val (.int i4), .val (.int (6 : Int32)), .val (.ref b1), .val (.ref b17), .val (.ref b17), .unset] [(.int (1 : Int32)), (.int (6 : Int32))])) (fun tq_ kq_ => XS.iconst X27.here hx rfl (hb hby at_156) kq_) ?_
    have hc157 : ¬ ((6 : Int32) = (1 : Int32)) := (by decide)
    refine own_G.step (g' := (mkF m 164 #[.val (.int i0), .val (.int i1), .val (.long i2), .second, .val (.int i3), .val (.int i4), .val (.int (6 : Int32)), .val (.ref b1), .val (.ref b17), .val (.ref b17), .unset] [])) (fun tq_ kq_ => XS.icmpYes X27.here hx rfl (pc0 := 157) (pc' := 164) rfl (hb hby at_157) rfl (feq hc157).2 (by decide) (by decide) kq_) ?_
    refine own_G.step (g' := (mkF m 165 #[.val (.int i0), .val (.int i1), .val (.long i2), .second, .val (.int i3), .val (.int i4), .val (.int (6 : Int32)), .val (.ref b1), .val (.ref b17), .val (.ref b17), .unset] [(.int (0 : Int32))])) (fun tq_ kq_ => XS.iconst X27.here hx rfl (hb hby at_164) kq_) ?_
    refine own_G.step (g' := (mkF m 167 #[.val (.int i0), .val (.int i1), .val (.long i2), .second, .val (.int i3), .val (.int i4), .val (.int (6 : Int32)), .val (.ref b1), .val (.ref b17), .val (.ref b17), .val (.int (0 : Int32))] [])) (fun tq_ kq_ => XS.istore X27.here hx rfl (hb hby at_165) rfl (l' := #[.val (.int i0), .val (.int i1), .val (.long i2), .second, .val (.int i3), .val (.int i4), .val (.int (6 : Int32)), .val (.ref b1), .val (.ref b17), .val (.ref b17), .val (.int (0 : Int32))]) rfl kq_) ?_
    refine own_G.step (g' := (mkF m 169 #[.val (.int i0), .val (.int i1), .val (.long i2), .second, .val (.int i3), .val (.int i4), .val (.int (6 : Int32)), .val (.ref b1), .val (.ref b17), .val (.ref b17), .val (.int (0 : Int32))] [(.ref b17)])) (fun tq_ kq_ => XS.aload X27.here hx rfl (hb hby at_167) rfl rfl kq_) ?_
    obtain ⟨_, _, ⟨T86, L86, k86, n86⟩, -, X86, ⟨Lc86, hQ86, l86, y86, z86⟩, st86⟩ := Jvm.LawKit.callS X27 hx (y := (⟨"com/example/bough/bough/KeyOrder", "isBoundary", "(Ljava/lang/Object;)Z"⟩ : MethodName)) hown (mvT hZ (hw _ (List.mem_of_getElem? (i := 34) rfl))) (mvT hZ (hw _ (List.mem_of_getElem? (i := 35) rfl))) (mvT hZ (hw _ (List.mem_of_getElem? (i := 32) rfl))) (mvT hZ (hw _ (List.mem_of_getElem? (i := 36) rfl))) (by decide) (backOf (W := 0) (rm_bnd l Z a0 hw [] (.ref b17) w0 w1 T27.heap n0 O45 rfl S_INF1 S_INF2) hZ (hw _ (List.mem_of_getElem? (i := 36) rfl)) (hw _ (List.mem_of_getElem? (i := 32) rfl)) (by decide) (by decide)) (g := (mkF m 169 #[.val (.int i0), .val (.int i1), .val (.long i2), .second, .val (.int i3), .val (.int i4), .val (.int (6 : Int32)), .val (.ref b1), .val (.ref b17), .val (.ref b17), .val (.int (0 : Int32))] [(.ref b17)])) rfl (by rw [hml]; rfl) (argsL := [(.ref b17)]) (rest := []) (lenOf pd__28Ljava_2flang_2fObject_3b_29Z rfl) rfl (by show 2 * 0 + _ ≤ _; exact Nat.le_of_eq rfl) (hb hby at_169) (fun _ _ => ⟨rfl, rfl, (by decide : 3 + 0 ≤ _), (by decide : 8 + 0 ≤ _)⟩)
    dsimp only [Pt.U, Pt.locs, Pt.cells, Pt.slots] at X86 l86 y86 z86 st86 hQ86
    subst l86 y86 z86
    obtain ⟨rfl, Nq86, P87⟩ := hQ86
    have N86 := Fr.app N27 Nq86
    refine own_G.step (T' := T86) (g' := (mkF m 172 #[.val (.int i0), .val (.int i1), .val (.long i2), .second, .val (.int i3), .val (.int i4), .val (.int (6 : Int32)), .val (.ref b1), .val (.ref b17), .val (.ref b17), .val (.int (0 : Int32))] [(.int (own_bnd (.ref b17) w0 w1))])) (fun tq_ kq_ => st86 _ kq_) ?_
    have nw0 : b17 ≠ w0 := ne_exa P30 (Exa.ext O45.2 E_INF1) (by decide)
    have nw1 : b17 ≠ w1 := ne_exa P30 (Exa.ext O45.2 E_INF2) (by decide)
    have hg : own_bnd (.ref b17) w0 w1 = (0 : Int32) := by simp [own_bnd, nw0, nw1]
    refine own_G.cast (g' := (mkF m 172 #[.val (.int i0), .val (.int i1), .val (.long i2), .second, .val (.int i3), .val (.int i4), .val (.int (6 : Int32)), .val (.ref b1), .val (.ref b17), .val (.ref b17), .val (.int (0 : Int32))] [(.int (0 : Int32))])) (by rw [hg]) ?_
    refine own_G.step (g' := (mkF m 174 #[.val (.int i0), .val (.int i1), .val (.long i2), .second, .val (.int i3), .val (.int i4), .val (.int (6 : Int32)), .val (.ref b1), .val (.ref b17), .val (.ref b17), .val (.int (0 : Int32))] [(.int (0 : Int32)), (.int (0 : Int32))])) (fun tq_ kq_ => XS.iload X86.here hx rfl (hb hby at_172) rfl kq_) ?_
    have hc174 : (0 : Int32) = (0 : Int32) := (by decide)
    refine own_G.step (g' := (mkF m 177 #[.val (.int i0), .val (.int i1), .val (.long i2), .second, .val (.int i3), .val (.int i4), .val (.int (6 : Int32)), .val (.ref b1), .val (.ref b17), .val (.ref b17), .val (.int (0 : Int32))] [])) (fun tq_ kq_ => XS.icmpNo X86.here hx rfl (hb hby at_174) rfl (teq hc174).2 kq_) ?_
    refine own_G.step (g' := (mkF m 178 #[.val (.int i0), .val (.int i1), .val (.long i2), .second, .val (.int i3), .val (.int i4), .val (.int (6 : Int32)), .val (.ref b1), .val (.ref b17), .val (.ref b17), .val (.int (0 : Int32))] [(.int (1 : Int32))])) (fun tq_ kq_ => XS.iconst X86.here hx rfl (hb hby at_177) kq_) ?_
    refine own_G.step (g' := (mkF m 182 #[.val (.int i0), .val (.int i1), .val (.long i2), .second, .val (.int i3), .val (.int i4), .val (.int (6 : Int32)), .val (.ref b1), .val (.ref b17), .val (.ref b17), .val (.int (0 : Int32))] [(.int (1 : Int32))])) (fun tq_ kq_ => XS.goto X86.here hx rfl (pc0 := 178) (pc' := 182) rfl (hb hby at_178) (by decide) (by decide) kq_) ?_
    exact own_ret X86 P87 (v := some (.int (1 : Int32))) (fun h => by rw [Bd.returns] at h; cases h) Bd.notSynchronized ⟨rfl, N86⟩ (by decide) (by decide) (fun fs hr => retN X86 hx (t := .boolean) Bd.returns (by simp) (hb hby at_182) hr)
  · refine own_G.step (g' := (mkF m 49 #[.val (.int i0), .val (.int i1), .val (.long i2), .second, .val (.int i3), .val (.int i4), .val (.int (7 : Int32)), .val (.ref b1), .val (.ref b17), .unset, .unset] [(.int (7 : Int32))])) (fun tq_ kq_ => XS.iload X27.here hx rfl (hb hby at_47) rfl kq_) ?_
    have hc49 : ¬ ((7 : Int32) = (0 : Int32)) := (by decide)
    refine own_G.step (g' := (mkF m 60 #[.val (.int i0), .val (.int i1), .val (.long i2), .second, .val (.int i3), .val (.int i4), .val (.int (7 : Int32)), .val (.ref b1), .val (.ref b17), .unset, .unset] [])) (fun tq_ kq_ => XS.ifYes X27.here hx rfl (pc0 := 49) (pc' := 60) rfl (hb hby at_49) rfl ((if0 _ _).trans (feq hc49).2) (by decide) (by decide) kq_) ?_
    refine own_G.step (g' := (mkF m 62 #[.val (.int i0), .val (.int i1), .val (.long i2), .second, .val (.int i3), .val (.int i4), .val (.int (7 : Int32)), .val (.ref b1), .val (.ref b17), .unset, .unset] [(.int (7 : Int32))])) (fun tq_ kq_ => XS.iload X27.here hx rfl (hb hby at_60) rfl kq_) ?_
    refine own_G.step (g' := (mkF m 63 #[.val (.int i0), .val (.int i1), .val (.long i2), .second, .val (.int i3), .val (.int i4), .val (.int (7 : Int32)), .val (.ref b1), .val (.ref b17), .unset, .unset] [(.int (1 : Int32)), (.int (7 : Int32))])) (fun tq_ kq_ => XS.iconst X27.here hx rfl (hb hby at_62) kq_) ?_
    have hc63 : ¬ ((7 : Int32) = (1 : Int32)) := (by decide)
    refine own_G.step (g' := (mkF m 74 #[.val (.int i0), .val (.int i1), .val (.long i2), .second, .val (.int i3), .val (.int i4), .val (.int (7 : Int32)), .val (.ref b1), .val (.ref b17), .unset, .unset] [])) (fun tq_ kq_ => XS.icmpYes X27.here hx rfl (pc0 := 63) (pc' := 74) rfl (hb hby at_63) rfl (feq hc63).2 (by decide) (by decide) kq_) ?_
    refine own_G.step (g' := (mkF m 76 #[.val (.int i0), .val (.int i1), .val (.long i2), .second, .val (.int i3), .val (.int i4), .val (.int (7 : Int32)), .val (.ref b1), .val (.ref b17), .unset, .unset] [(.int (7 : Int32))])) (fun tq_ kq_ => XS.iload X27.here hx rfl (hb hby at_74) rfl kq_) ?_
    refine own_G.step (g' := (mkF m 77 #[.val (.int i0), .val (.int i1), .val (.long i2), .second, .val (.int i3), .val (.int i4), .val (.int (7 : Int32)), .val (.ref b1), .val (.ref b17), .unset, .unset] [(.int (2 : Int32)), (.int (7 : Int32))])) (fun tq_ kq_ => XS.iconst X27.here hx rfl (hb hby at_76) kq_) ?_
    have hc77 : ¬ ((7 : Int32) = (2 : Int32)) := (by decide)
    refine own_G.step (g' := (mkF m 88 #[.val (.int i0), .val (.int i1), .val (.long i2), .second, .val (.int i3), .val (.int i4), .val (.int (7 : Int32)), .val (.ref b1), .val (.ref b17), .unset, .unset] [])) (fun tq_ kq_ => XS.icmpYes X27.here hx rfl (pc0 := 77) (pc' := 88) rfl (hb hby at_77) rfl (feq hc77).2 (by decide) (by decide) kq_) ?_
    refine own_G.step (g' := (mkF m 90 #[.val (.int i0), .val (.int i1), .val (.long i2), .second, .val (.int i3), .val (.int i4), .val (.int (7 : Int32)), .val (.ref b1), .val (.ref b17), .unset, .unset] [(.int (7 : Int32))])) (fun tq_ kq_ => XS.iload X27.here hx rfl (hb hby at_88) rfl kq_) ?_
    refine own_G.step (g' := (mkF m 91 #[.val (.int i0), .val (.int i1), .val (.long i2), .second, .val (.int i3), .val (.int i4), .val (.int (7 : Int32)), .val (.ref b1), .val (.ref b17), .unset, .unset] [(.int (3 : Int32)), (.int (7 : Int32))])) (fun tq_ kq_ => XS.iconst X27.here hx rfl (hb hby at_90) kq_) ?_
    have hc91 : ¬ ((7 : Int32) = (3 : Int32)) := (by decide)
    refine own_G.step (g' := (mkF m 102 #[.val (.int i0), .val (.int i1), .val (.long i2), .second, .val (.int i3), .val (.int i4), .val (.int (7 : Int32)), .val (.ref b1), .val (.ref b17), .unset, .unset] [])) (fun tq_ kq_ => XS.icmpYes X27.here hx rfl (pc0 := 91) (pc' := 102) rfl (hb hby at_91) rfl (feq hc91).2 (by decide) (by decide) kq_) ?_
    refine own_G.step (g' := (mkF m 104 #[.val (.int i0), .val (.int i1), .val (.long i2), .second, .val (.int i3), .val (.int i4), .val (.int (7 : Int32)), .val (.ref b1), .val (.ref b17), .unset, .unset] [(.int (7 : Int32))])) (fun tq_ kq_ => XS.iload X27.here hx rfl (hb hby at_102) rfl kq_) ?_
    refine own_G.step (g' := (mkF m 105 #[.val (.int i0), .val (.int i1), .val (.long i2), .second, .val (.int i3), .val (.int i4), .val (.int (7 : Int32)), .val (.ref b1), .val (.ref b17), .unset, .unset] [(.int (4 : Int32)), (.int (7 : Int32))])) (fun tq_ kq_ => XS.iconst X27.here hx rfl (hb hby at_104) kq_) ?_
    have hc105 : ¬ ((7 : Int32) = (4 : Int32)) := (by decide)
    refine own_G.step (g' := (mkF m 117 #[.val (.int i0), .val (.int i1), .val (.long i2), .second, .val (.int i3), .val (.int i4), .val (.int (7 : Int32)), .val (.ref b1), .val (.ref b17), .unset, .unset] [])) (fun tq_ kq_ => XS.icmpYes X27.here hx rfl (pc0 := 105) (pc' := 117) rfl (hb hby at_105) rfl (feq hc105).2 (by decide) (by decide) kq_) ?_
    refine own_G.step (g' := (mkF m 119 #[.val (.int i0), .val (.int i1), .val (.long i2), .second, .val (.int i3), .val (.int i4), .val (.int (7 : Int32)), .val (.ref b1), .val (.ref b17), .unset, .unset] [(.int (7 : Int32))])) (fun tq_ kq_ => XS.iload X27.here hx rfl (hb hby at_117) rfl kq_) ?_
    refine own_G.step (g' := (mkF m 120 #[.val (.int i0), .val (.int i1), .val (.long i2), .second, .val (.int i3), .val (.int i4), .val (.int (7 : Int32)), .val (.ref b1), .val (.ref b17), .unset, .unset] [(.int (5 : Int32)), (.int (7 : Int32))])) (fun tq_ kq_ => XS.iconst X27.here hx rfl (hb hby at_119) kq_) ?_
    have hc120 : ¬ ((7 : Int32) = (5 : Int32)) := (by decide)
    refine own_G.step (g' := (mkF m 132 #[.val (.int i0), .val (.int i1), .val (.long i2), .second, .val (.int i3), .val (.int i4), .val (.int (7 : Int32)), .val (.ref b1), .val (.ref b17), .unset, .unset] [])) (fun tq_ kq_ => XS.icmpYes X27.here hx rfl (pc0 := 120) (pc' := 132) rfl (hb hby at_120) rfl (feq hc120).2 (by decide) (by decide) kq_) ?_
    refine own_G.step (g' := (mkF m 134 #[.val (.int i0), .val (.int i1), .val (.long i2), .second, .val (.int i3), .val (.int i4), .val (.int (7 : Int32)), .val (.ref b1), .val (.ref b17), .unset, .unset] [(.int (7 : Int32))])) (fun tq_ kq_ => XS.iload X27.here hx rfl (hb hby at_132) rfl kq_) ?_
    refine own_G.step (g' := (mkF m 136 #[.val (.int i0), .val (.int i1), .val (.long i2), .second, .val (.int i3), .val (.int i4), .val (.int (7 : Int32)), .val (.ref b1), .val (.ref b17), .unset, .unset] [(.int (6 : Int32)), (.int (7 : Int32))])) (fun tq_ kq_ => XS.bipush X27.here hx rfl (hb hby at_134) kq_) ?_
    have hc136 : ¬ ((7 : Int32) = (6 : Int32)) := (by decide)
    refine own_G.step (g' := (mkF m 146 #[.val (.int i0), .val (.int i1), .val (.long i2), .second, .val (.int i3), .val (.int i4), .val (.int (7 : Int32)), .val (.ref b1), .val (.ref b17), .unset, .unset] [])) (fun tq_ kq_ => XS.icmpYes X27.here hx rfl (pc0 := 136) (pc' := 146) rfl (hb hby at_136) rfl (feq hc136).2 (by decide) (by decide) kq_) ?_
    refine own_G.step (g' := (mkF m 147 #[.val (.int i0), .val (.int i1), .val (.long i2), .second, .val (.int i3), .val (.int i4), .val (.int (7 : Int32)), .val (.ref b1), .val (.ref b17), .unset, .unset] [.null])) (fun tq_ kq_ => XS.aconstNull X27.here hx rfl (hb hby at_146) kq_) ?_
    refine own_G.step (g' := (mkF m 149 #[.val (.int i0), .val (.int i1), .val (.long i2), .second, .val (.int i3), .val (.int i4), .val (.int (7 : Int32)), .val (.ref b1), .val (.ref b17), .val .null, .unset] [])) (fun tq_ kq_ => XS.astore X27.here hx rfl (hb hby at_147) rfl rfl (l' := #[.val (.int i0), .val (.int i1), .val (.long i2), .second, .val (.int i3), .val (.int i4), .val (.int (7 : Int32)), .val (.ref b1), .val (.ref b17), .val .null, .unset]) rfl kq_) ?_
    refine own_G.step (g' := (mkF m 151 #[.val (.int i0), .val (.int i1), .val (.long i2), .second, .val (.int i3), .val (.int i4), .val (.int (7 : Int32)), .val (.ref b1), .val (.ref b17), .val .null, .unset] [(.int (7 : Int32))])) (fun tq_ kq_ => XS.iload X27.here hx rfl (hb hby at_149) rfl kq_) ?_
    have hc151 : ¬ ((7 : Int32) = (0 : Int32)) := (by decide)
    refine own_G.step (g' := (mkF m 154 #[.val (.int i0), .val (.int i1), .val (.long i2), .second, .val (.int i3), .val (.int i4), .val (.int (7 : Int32)), .val (.ref b1), .val (.ref b17), .val .null, .unset] [])) (fun tq_ kq_ => XS.ifNo X27.here hx rfl (hb hby at_151) rfl ((if0 _ _).trans (feq hc151).1) kq_) ?_
    refine own_G.step (g' := (mkF m 156 #[.val (.int i0), .val (.int i1), .val (.long i2), .second, .val (.int i3), .val (.int i4), .val (.int (7 : Int32)), .val (.ref b1), .val (.ref b17), .val .null, .unset] [(.int (7 : Int32))])) (fun tq_ kq_ => XS.iload X27.here hx rfl (hb hby at_154) rfl kq_) ?_
    refine own_G.step (g' := (mkF m 157 #[.val (.int i0), .val (.int i1), .val (.long i2), .second, .val (.int i3), .val (.int i4), .val (.int (7 : Int32)), .val (.ref b1), .val (.ref b17), .val .null, .unset] [(.int (1 : Int32)), (.int (7 : Int32))])) (fun tq_ kq_ => XS.iconst X27.here hx rfl (hb hby at_156) kq_) ?_
    have hc157 : ¬ ((7 : Int32) = (1 : Int32)) := (by decide)
    refine own_G.step (g' := (mkF m 164 #[.val (.int i0), .val (.int i1), .val (.long i2), .second, .val (.int i3), .val (.int i4), .val (.int (7 : Int32)), .val (.ref b1), .val (.ref b17), .val .null, .unset] [])) (fun tq_ kq_ => XS.icmpYes X27.here hx rfl (pc0 := 157) (pc' := 164) rfl (hb hby at_157) rfl (feq hc157).2 (by decide) (by decide) kq_) ?_
    refine own_G.step (g' := (mkF m 165 #[.val (.int i0), .val (.int i1), .val (.long i2), .second, .val (.int i3), .val (.int i4), .val (.int (7 : Int32)), .val (.ref b1), .val (.ref b17), .val .null, .unset] [(.int (0 : Int32))])) (fun tq_ kq_ => XS.iconst X27.here hx rfl (hb hby at_164) kq_) ?_
    refine own_G.step (g' := (mkF m 167 #[.val (.int i0), .val (.int i1), .val (.long i2), .second, .val (.int i3), .val (.int i4), .val (.int (7 : Int32)), .val (.ref b1), .val (.ref b17), .val .null, .val (.int (0 : Int32))] [])) (fun tq_ kq_ => XS.istore X27.here hx rfl (hb hby at_165) rfl (l' := #[.val (.int i0), .val (.int i1), .val (.long i2), .second, .val (.int i3), .val (.int i4), .val (.int (7 : Int32)), .val (.ref b1), .val (.ref b17), .val .null, .val (.int (0 : Int32))]) rfl kq_) ?_
    refine own_G.step (g' := (mkF m 169 #[.val (.int i0), .val (.int i1), .val (.long i2), .second, .val (.int i3), .val (.int i4), .val (.int (7 : Int32)), .val (.ref b1), .val (.ref b17), .val .null, .val (.int (0 : Int32))] [.null])) (fun tq_ kq_ => XS.aload X27.here hx rfl (hb hby at_167) rfl rfl kq_) ?_
    obtain ⟨_, _, ⟨T88, L88, k88, n88⟩, -, X88, ⟨Lc88, hQ88, l88, y88, z88⟩, st88⟩ := Jvm.LawKit.callS X27 hx (y := (⟨"com/example/bough/bough/KeyOrder", "isBoundary", "(Ljava/lang/Object;)Z"⟩ : MethodName)) hown (mvT hZ (hw _ (List.mem_of_getElem? (i := 34) rfl))) (mvT hZ (hw _ (List.mem_of_getElem? (i := 35) rfl))) (mvT hZ (hw _ (List.mem_of_getElem? (i := 32) rfl))) (mvT hZ (hw _ (List.mem_of_getElem? (i := 36) rfl))) (by decide) (backOf (W := 0) (rm_bnd l Z a0 hw [] .null w0 w1 T27.heap n0 O45 rfl S_INF1 S_INF2) hZ (hw _ (List.mem_of_getElem? (i := 36) rfl)) (hw _ (List.mem_of_getElem? (i := 32) rfl)) (by decide) (by decide)) (g := (mkF m 169 #[.val (.int i0), .val (.int i1), .val (.long i2), .second, .val (.int i3), .val (.int i4), .val (.int (7 : Int32)), .val (.ref b1), .val (.ref b17), .val .null, .val (.int (0 : Int32))] [.null])) rfl (by rw [hml]; rfl) (argsL := [.null]) (rest := []) (lenOf pd__28Ljava_2flang_2fObject_3b_29Z rfl) rfl (by show 2 * 0 + _ ≤ _; exact Nat.le_of_eq rfl) (hb hby at_169) (fun _ _ => ⟨rfl, rfl, (by decide : 3 + 0 ≤ _), (by decide : 8 + 0 ≤ _)⟩)
    dsimp only [Pt.U, Pt.locs, Pt.cells, Pt.slots] at X88 l88 y88 z88 st88 hQ88
    subst l88 y88 z88
    obtain ⟨rfl, Nq88, P89⟩ := hQ88
    have N88 := Fr.app N27 Nq88
    refine own_G.step (T' := T88) (g' := (mkF m 172 #[.val (.int i0), .val (.int i1), .val (.long i2), .second, .val (.int i3), .val (.int i4), .val (.int (7 : Int32)), .val (.ref b1), .val (.ref b17), .val .null, .val (.int (0 : Int32))] [(.int (own_bnd .null w0 w1))])) (fun tq_ kq_ => st88 _ kq_) ?_
    have hg : own_bnd .null w0 w1 = (0 : Int32) := by simp [own_bnd]
    refine own_G.cast (g' := (mkF m 172 #[.val (.int i0), .val (.int i1), .val (.long i2), .second, .val (.int i3), .val (.int i4), .val (.int (7 : Int32)), .val (.ref b1), .val (.ref b17), .val .null, .val (.int (0 : Int32))] [(.int (0 : Int32))])) (by rw [hg]) ?_
    refine own_G.step (g' := (mkF m 174 #[.val (.int i0), .val (.int i1), .val (.long i2), .second, .val (.int i3), .val (.int i4), .val (.int (7 : Int32)), .val (.ref b1), .val (.ref b17), .val .null, .val (.int (0 : Int32))] [(.int (0 : Int32)), (.int (0 : Int32))])) (fun tq_ kq_ => XS.iload X88.here hx rfl (hb hby at_172) rfl kq_) ?_
    have hc174 : (0 : Int32) = (0 : Int32) := (by decide)
    refine own_G.step (g' := (mkF m 177 #[.val (.int i0), .val (.int i1), .val (.long i2), .second, .val (.int i3), .val (.int i4), .val (.int (7 : Int32)), .val (.ref b1), .val (.ref b17), .val .null, .val (.int (0 : Int32))] [])) (fun tq_ kq_ => XS.icmpNo X88.here hx rfl (hb hby at_174) rfl (teq hc174).2 kq_) ?_
    refine own_G.step (g' := (mkF m 178 #[.val (.int i0), .val (.int i1), .val (.long i2), .second, .val (.int i3), .val (.int i4), .val (.int (7 : Int32)), .val (.ref b1), .val (.ref b17), .val .null, .val (.int (0 : Int32))] [(.int (1 : Int32))])) (fun tq_ kq_ => XS.iconst X88.here hx rfl (hb hby at_177) kq_) ?_
    refine own_G.step (g' := (mkF m 182 #[.val (.int i0), .val (.int i1), .val (.long i2), .second, .val (.int i3), .val (.int i4), .val (.int (7 : Int32)), .val (.ref b1), .val (.ref b17), .val .null, .val (.int (0 : Int32))] [(.int (1 : Int32))])) (fun tq_ kq_ => XS.goto X88.here hx rfl (pc0 := 178) (pc' := 182) rfl (hb hby at_178) (by decide) (by decide) kq_) ?_
    exact own_ret X88 P89 (v := some (.int (1 : Int32))) (fun h => by rw [Bd.returns] at h; cases h) Bd.notSynchronized ⟨rfl, N88⟩ (by decide) (by decide) (fun fs hr => retN X88 hx (t := .boolean) Bd.returns (by simp) (hb hby at_182) hr)
set_option maxRecDepth 65536 in
set_option maxHeartbeats 40000000 in
theorem comes_1 {Post : Tables → Env → Array Value → State → Outcome → State → Prop} (hpost : ∀ tb e args s v u, (limb_1_1.after args s (.returned v) u = true ∧ limb_1_2.after args s (.returned v) u = true ∧ True) → FrameEnd s (.returned v) u (Jvm.fieldLocs frame_1_writes args s ++ Jvm.arrayLocs frame_1_arrays args s ++ Jvm.staticLocs frame_1_statics s) 16 128 → Post tb e args s (.returned v) u) :
    ArmFor flags0 classFile x code maxLocals ret World_1 tables_1 room_1 Calls_1 rest_1 Pre_1 Post := by
  intro l hfl _ _ p e ha hc hk s m args below hf hA hF happ hP
  obtain ⟨hcalls, hrest, hpre⟩ := hP
  obtain ⟨-, -, -, hnamed, -, -, -, hat⟩ := (Spec.applies_iff hf).mp happ
  obtain ⟨hg, hn⟩ := and_e (Cond.before_iff.mp (show (Jvm.Cond.and given_1 narrow_1).before args s = true from hpre))
  obtain ⟨gz1, gz2⟩ := and_e hg
  obtain ⟨gz3, gz4⟩ := and_e gz2
  obtain ⟨gz5, gz6⟩ := and_e gz4
  obtain ⟨gz7, gz8⟩ := and_e gz6
  obtain ⟨gz9, gz10⟩ := and_e gz8
  obtain ⟨gz11, gz12⟩ := and_e hn
  obtain ⟨gz13, gz14⟩ := and_e gz12
  obtain ⟨gz15, gz16⟩ := and_e gz14
  obtain ⟨gz17, gz18⟩ := and_e gz16
  obtain ⟨gz19, gz20⟩ := and_e gz18
  obtain ⟨gz21, gz22⟩ := and_e gz20
  obtain ⟨gz23, gz24⟩ := and_e gz22
  obtain ⟨gz25, gz26⟩ := and_e gz24
  obtain ⟨u0, u1, u2, u3, u4, rfl⟩ : ∃ u0 u1 u2 u3 u4 : Value, args = #[u0, u1, u2, u3, u4] := by
    have hs : args.size = 5 := by simpa [Cond.value, given_1] using gz1
    obtain ⟨L⟩ := args
    match L, hs with
    | [u0, u1, u2, u3, u4], _ => exact ⟨u0, u1, u2, u3, u4, rfl⟩
  have hw := fun d (hd : d ∈ tables_1) => atoms_spec (ws := Jvm.Cond.code x code maxLocals ret :: tables_1) hat d (List.mem_cons_of_mem _ hd)
  have hfit : Fit s := fun {y c} hc i hi => by
    obtain ⟨ha, rfl⟩ := Array.getElem?_eq_some_iff.mp hc
    have q := List.all_eq_true.mp ((Array.all_eq_true_iff_forall_mem.mp hF) _ (Array.getElem_mem ha)) i (List.mem_range.mpr hi)
    simpa [Array.getElem?_eq_getElem hi] using q
  obtain ⟨hsets, hown0⟩ := atoms_of _ (rest_1_c_eq ▸ (show rest_1_c.before _ s = true from hrest))
  have hr0 := Cond.before_iff.mp hown0
  obtain ⟨i0, ei0⟩ := is_v gz3
  obtain rfl : u0 = (.int i0) := Option.some.inj ei0
  obtain ⟨i1, ei1⟩ := is_v gz5
  obtain rfl : u1 = (.int i1) := Option.some.inj ei1
  obtain ⟨i2, ei2⟩ := isL_v gz7
  obtain rfl : u2 = (.long i2) := Option.some.inj ei2
  obtain ⟨i3, ei3⟩ := is_v gz9
  obtain rfl : u3 = (.int i3) := Option.some.inj ei3
  obtain ⟨i4, ei4⟩ := is_v gz10
  obtain rfl : u4 = (.int i4) := Option.some.inj ei4
  obtain ⟨w0, ev_INF1⟩ := exa_v gz11
  have S_INF1 : Sta s s.heap "com/example/bough/bough/KeyOrder" "INF1" "Ljava/lang/Object;" (.ref w0) := Sta.start ev_INF1 (Or.inr ⟨(hw _ (List.mem_of_getElem? (i := 32) rfl)), (hw _ (List.mem_of_getElem? (i := 33) rfl))⟩)
  have E_INF1 : Exa s s.heap w0 "java/lang/Object" := Exa.start ev_INF1 gz11
  obtain ⟨w1, ev_INF2⟩ := exa_v gz13
  have S_INF2 : Sta s s.heap "com/example/bough/bough/KeyOrder" "INF2" "Ljava/lang/Object;" (.ref w1) := Sta.start ev_INF2 (Or.inr ⟨(hw _ (List.mem_of_getElem? (i := 32) rfl)), (hw _ (List.mem_of_getElem? (i := 46) rfl))⟩)
  have E_INF2 : Exa s s.heap w1 "java/lang/Object" := Exa.start ev_INF2 gz13
  obtain ⟨w3, ev_HIGHEST⟩ := exa_v gz15
  have S_HIGHEST : Sta s s.heap "com/example/bough/bough/KeyOrder" "HIGHEST" "Ljava/lang/Object;" (.ref w3) := Sta.start ev_HIGHEST (Or.inr ⟨(hw _ (List.mem_of_getElem? (i := 32) rfl)), (hw _ (List.mem_of_getElem? (i := 68) rfl))⟩)
  have E_HIGHEST : Exa s s.heap w3 "java/lang/Object" := Exa.start ev_HIGHEST gz15
  obtain ⟨w2, ev_LOWEST⟩ := exa_v gz23
  have S_LOWEST : Sta s s.heap "com/example/bough/bough/KeyOrder" "LOWEST" "Ljava/lang/Object;" (.ref w2) := Sta.start ev_LOWEST (Or.inr ⟨(hw _ (List.mem_of_getElem? (i := 32) rfl)), (hw _ (List.mem_of_getElem? (i := 84) rfl))⟩)
  have E_LOWEST : Exa s s.heap w2 "java/lang/Object" := Exa.start ev_LOWEST gz23
  have n30 : w3 ≠ w0 := fun q => gotF (eq_R ev_HIGHEST ev_INF1 rfl rfl) (not_v gz17) (congrArg Value.ref q)
  have n31 : w3 ≠ w1 := fun q => gotF (eq_R ev_HIGHEST ev_INF2 rfl rfl) (not_v gz19) (congrArg Value.ref q)
  have n01 : w0 ≠ w1 := fun q => gotF (eq_R ev_INF1 ev_INF2 rfl rfl) (not_v gz21) (congrArg Value.ref q)
  have n02 : w0 ≠ w2 := fun q => gotF (eq_R ev_INF1 ev_LOWEST rfl rfl) (not_v gz25) (congrArg Value.ref q)
  have n12 : w1 ≠ w2 := fun q => gotF (eq_R ev_INF2 ev_LOWEST rfl rfl) (not_v gz26) (congrArg Value.ref q)
  obtain ⟨csz, ev_csz⟩ := is_v (Cond.before_iff.mp (hsets _ (List.mem_of_getElem? (i := 1) rfl)))
  have S_CS : Sta s s.heap "java/lang/String" "COMPACT_STRINGS" "Z" (.int csz) := Sta.start ev_csz (Or.inl (hsets _ (List.mem_of_getElem? (i := 0) rfl)))
  have hcs : ¬ csz = (0 : Int32) := gotF (Cond.eq_ints ev_csz (Term.int_eval (0))) (not_v (Cond.before_iff.mp (hsets _ (List.mem_of_getElem? (i := 2) rfl))))
  have S_high : Sta s s.heap "java/lang/Integer$IntegerCache" "high" "I" (.int (127 : Int32)) := Sta.start (eqv_i (Term.int_eval (127 : Int32)) (Cond.before_iff.mp (hsets _ (List.mem_of_getElem? (i := 12) rfl)))) (Or.inl (hsets _ (List.mem_of_getElem? (i := 10) rfl)))
  have hz_arr := Cond.before_iff.mp (hsets _ (List.mem_of_getElem? (i := 13) rfl))
  obtain ⟨ca, ev_ca⟩ := arr_v hz_arr
  have S_cache : Sta s s.heap "java/lang/Integer$IntegerCache" "cache" "[Ljava/lang/Integer;" (.ref ca) := Sta.start ev_ca (Or.inr ⟨(hw _ (List.mem_of_getElem? (i := 43) rfl)), (hsets _ (List.mem_of_getElem? (i := 11) rfl))⟩)
  obtain ⟨cc, Acc⟩ := Arr.start ev_ca hz_arr
  have hz_len := eqv_i (Term.int_eval (256 : Int32)) (Cond.before_iff.mp (hsets _ (List.mem_of_getElem? (i := 15) rfl)))
  obtain ⟨hz_lt, hz_eq⟩ := own_len ev_ca (Acc.fin (Vm.Alike.refl _)) hz_len
  have BX : Bxs s ca cc "java/lang/Integer" "I" (256 : Int32) (fun j => .int (j - 128)) := Bxs.start (F := .sub (.index 0) (.int (128 : Int32))) (fun idx => ev_ca) Acc hz_lt hz_eq (by decide) (Cond.before_iff.mp (hsets _ (List.mem_of_getElem? (i := 16) rfl))) (fun X j hj hv => eqv_i (own_sub (own_idx hj)) hv)
  have hl_arr := Cond.before_iff.mp (hsets _ (List.mem_of_getElem? (i := 19) rfl))
  obtain ⟨la, ev_la⟩ := arr_v hl_arr
  have S_lcache : Sta s s.heap "java/lang/Long$LongCache" "cache" "[Ljava/lang/Long;" (.ref la) := Sta.start ev_la (Or.inl (hsets _ (List.mem_of_getElem? (i := 18) rfl)))
  obtain ⟨lc, Alc⟩ := Arr.start ev_la hl_arr
  have hl_len := eqv_i (Term.int_eval (256 : Int32)) (Cond.before_iff.mp (hsets _ (List.mem_of_getElem? (i := 21) rfl)))
  obtain ⟨hl_lt, hl_eq⟩ := own_len ev_la (Alc.fin (Vm.Alike.refl _)) hl_len
  have LX : Bxs s la lc "java/lang/Long" "J" (256 : Int32) (fun j => .long (j - 128).toInt64) := Bxs.start (F := .op1 .i2l (.sub (.index 0) (.int (128 : Int32)))) (fun idx => ev_la) Alc hl_lt hl_eq (by decide) (Cond.before_iff.mp (hsets _ (List.mem_of_getElem? (i := 22) rfl))) (fun X j hj hv => eqv_l (i2l_at (own_sub (own_idx hj))) hv)
  obtain ⟨n, o, h1, h2, h3, _, L, rfl, ⟨rfl, N⟩, hq⟩ := rm_law l s _ hw tables_1 i0 i1 i2 i3 i4 w0 w1 w2 w3 csz ca cc la lc s.heap s.heap.size (Old.start s) S_INF1 S_INF2 S_LOWEST S_HIGHEST E_INF1 E_INF2 E_LOWEST E_HIGHEST n30 n31 n01 n02 n12 S_CS hcs S_high S_cache BX S_lcache LX p e ha hc hk s m _ below hf ((Spec.applies_iff_loose hf).mp happ).1 ⟨rfl, State.Warmed39.refl s, rfl⟩ trivial
  refine ⟨n, _, h1, h2, h3, hpost _ _ _ _ _ _ ⟨Cond.after_iff.mpr rfl, Cond.after_iff.mpr (eq_i res_at (Term.int_eval (1)) rfl), trivial⟩ ⟨hq.1, hq.2.1, (hq.2.2.sift fun y hy => Or.inr (N y hy)).mono (by decide) (by decide)⟩⟩
theorem main_1_1 : Claimed_1_1 := comes_1 fun _ _ _ _ _ _ h hF => ⟨h.1, hF⟩
theorem main_1_2 : Claimed_1_2 := comes_1 fun _ _ _ _ _ _ h hF => ⟨h.2.1, hF⟩
end Jvm.Pilot.@@N@@
namespace Jvm.Pilot.@@N@@
open Jvm Jvm.ClassFile Sem Op Lib Jvm.Free Jvm.Stand Jvm.Pilot.@@N@@.Jvm.D
/-! MADE BY PROGRAM (witnessworld.py) out of the Statement's table words and the real class files: 27 classes; the members and pool entries that the words name. The judged class is class 1, her method 1. -/
namespace start1
open Jvm.ClassFile
def u (s : String) : CpInfo := .utf8 (stringToUtf16 s)
/-- a pool by its gaps: so many unusable entries, then the entry; so many at the end -/
def gap : Nat → List CpInfo → List CpInfo
  | 0, r => r
  | n + 1, r => .unusable :: gap n r
def poolList (es : List (Nat × CpInfo)) (last : Nat) : List CpInfo := es.foldr (fun e r => gap e.1 (e.2 :: r)) (gap last [])
def pool (es : List (Nat × CpInfo)) (last : Nat) : Array CpInfo := ⟨poolList es last⟩
def fileOf (pool : Array CpInfo) (this : Nat) (attrs : Array Attribute := #[]) (ms : Array MethodInfo := #[]) (fl : Nat := 33) (sup : Nat := 0) (ifs : Array Nat := #[]) (fds : Array FieldInfo := #[]) : ClassFile where
  minorVersion := 0
  majorVersion := 65
  constantPool := pool
  accessFlags := fl
  thisClass := this
  superClass := sup
  interfaces := ifs
  fields := fds
  methods := ms
  attributes := attrs
def plain (name : String) (sup : Option ClassId) : Class where
  name := name
  kind := .ordinary
  loader := none
  accessFlags := 33
  super := sup
  interfaces := #[]
  cf := none
  fields := #[]
  methods := #[]
  instanceTypes := #[]
  staticTypes := #[]
  resolved := #[]
  callSites := []
  init := .initialized
  statics := none
  mirror := none

def pool0 : Array CpInfo := pool [(5, u "<init>"), (0, u "()V"), (1, .class_ 10), (1, u "java/lang/Object")] 113

def k0c0 : Code := { maxStack := 0, maxLocals := 1, code := object_method_1_code, exceptionTable := #[], attributes := #[] }
def k0m0 : Method := { name := "<init>", desc := "()V", sig := { parameters := [], returnType := none }, accessFlags := 1, code := some k0c0 }
/-- java/lang/Object -/
def k0 : Class := { plain "java/lang/Object" none with
  accessFlags := 33
  interfaces := #[]
  cf := some (fileOf pool0 8 #[] #[{ accessFlags := 1, nameIndex := 5, descriptorIndex := 6, attributes := #[] }] 33 0 #[] #[])
  fields := #[]
  methods := #[k0m0]
  instanceTypes := #[]
  staticTypes := #[]
  resolved := Array.replicate 124 none
  statics := none }

def pool1 : Array CpInfo := pool [(2, .class_ 4), (1, u "java/lang/Object"), (0, u "<init>"), (0, u "()V"), (0, .integer 2147483647), (0, .class_ 9), (0, u "java/lang/String"), (0, .methodref 8 11), (0, .nameAndType 5 12), (0, u "([C)V"), (0, .fieldref 14 15), (0, .class_ 16), (0, .nameAndType 17 18), (0, u "com/example/bough/bough/KeyOrder"), (0, u "INF1"), (0, u "Ljava/lang/Object;"), (0, .fieldref 14 20), (0, .nameAndType 21 18), (0, u "INF2"), (0, .fieldref 14 23), (0, .nameAndType 24 18), (0, u "LOWEST"), (0, .fieldref 14 26), (0, .nameAndType 27 18), (0, u "HIGHEST"), (0, .methodref 29 30), (0, .class_ 31), (0, .nameAndType 32 33), (0, u "java/lang/Integer"), (0, u "valueOf"), (0, u "(I)Ljava/lang/Integer;"), (0, .methodref 35 36), (0, .class_ 37), (0, .nameAndType 32 38), (0, u "java/lang/Long"), (0, u "(J)Ljava/lang/Long;"), (0, .methodref 14 40), (0, .nameAndType 41 42), (0, u "isBoundary"), (0, u "(Ljava/lang/Object;)Z"), (0, .class_ 44), (0, u "com/example/bough/bough/KeyOrderIsBoundaryPinLaw"), (2, u "law"), (0, u "(IIJII)Z")] 5

def k1m0 : Method := { name := "<init>", desc := "()V", sig := { parameters := [], returnType := none }, accessFlags := 2, code := none }
def k1c1 : Code := { maxStack := 4, maxLocals := 11, code := code, exceptionTable := #[], attributes := #[] }
def k1m1 : Method := { name := "law", desc := "(IIJII)Z", sig := { parameters := [.int, .int, .long, .int, .int], returnType := some .boolean }, accessFlags := 9, code := some k1c1 }
/-- com/example/bough/bough/KeyOrderIsBoundaryPinLaw -/
def k1 : Class := { plain "com/example/bough/bough/KeyOrderIsBoundaryPinLaw" (some 0) with
  accessFlags := 49
  interfaces := #[]
  cf := some (fileOf pool1 43 #[] #[{ accessFlags := 2, nameIndex := 5, descriptorIndex := 6, attributes := #[] }, { accessFlags := 9, nameIndex := 47, descriptorIndex := 48, attributes := #[] }] 49 2 #[] #[])
  fields := #[]
  methods := #[k1m0, k1m1]
  instanceTypes := #[]
  staticTypes := #[]
  resolved := Array.replicate 54 none
  statics := none }

def pool2 : Array CpInfo := pool [(1, .class_ 2), (0, u "java/io/Serializable"), (0, .class_ 4), (0, u "java/lang/Object")] 2

/-- java/io/Serializable -/
def k2 : Class := { plain "java/io/Serializable" (some 0) with
  accessFlags := 1537
  interfaces := #[]
  cf := some (fileOf pool2 1 #[] #[] 1537 3 #[] #[])
  fields := #[]
  methods := #[]
  instanceTypes := #[]
  staticTypes := #[]
  resolved := Array.replicate 7 none
  statics := none }

def pool3 : Array CpInfo := pool [(1, .class_ 2), (0, u "java/lang/Comparable"), (0, .class_ 4), (0, u "java/lang/Object")] 7

/-- java/lang/Comparable -/
def k3 : Class := { plain "java/lang/Comparable" (some 0) with
  accessFlags := 1537
  interfaces := #[]
  cf := some (fileOf pool3 1 #[] #[] 1537 3 #[] #[])
  fields := #[]
  methods := #[]
  instanceTypes := #[]
  staticTypes := #[]
  resolved := Array.replicate 12 none
  statics := none }

def pool4 : Array CpInfo := pool [(2, .class_ 4), (1, u "java/lang/CharSequence"), (42, .class_ 48), (0, u "java/lang/CharSequence$1CodePointIterator"), (10, .class_ 60), (0, u "java/lang/CharSequence$1CharIterator"), (5, .class_ 67), (0, u "java/lang/Object")] 63

/-- java/lang/CharSequence -/
def k4 : Class := { plain "java/lang/CharSequence" (some 0) with
  accessFlags := 1537
  interfaces := #[]
  cf := some (fileOf pool4 2 #[.nestMembers #[47, 59]] #[] 1537 66 #[] #[])
  fields := #[]
  methods := #[]
  instanceTypes := #[]
  staticTypes := #[]
  resolved := Array.replicate 131 none
  statics := none }

def pool5 : Array CpInfo := pool [(1, .class_ 2), (0, u "java/lang/constant/Constable"), (0, .class_ 4), (0, u "java/lang/Object")] 6

/-- java/lang/constant/Constable -/
def k5 : Class := { plain "java/lang/constant/Constable" (some 0) with
  accessFlags := 1537
  interfaces := #[]
  cf := some (fileOf pool5 1 #[] #[] 1537 3 #[] #[])
  fields := #[]
  methods := #[]
  instanceTypes := #[]
  staticTypes := #[]
  resolved := Array.replicate 11 none
  statics := none }

def pool6 : Array CpInfo := pool [(1, .class_ 2), (0, u "java/lang/constant/ConstantDesc"), (0, .class_ 4), (0, u "java/lang/Object")] 32

/-- java/lang/constant/ConstantDesc -/
def k6 : Class := { plain "java/lang/constant/ConstantDesc" (some 0) with
  accessFlags := 1537
  interfaces := #[]
  cf := some (fileOf pool6 1 #[] #[] 1537 3 #[] #[])
  fields := #[]
  methods := #[]
  instanceTypes := #[]
  staticTypes := #[]
  resolved := Array.replicate 37 none
  statics := none }

def pool7 : Array CpInfo := pool [(1, .methodref 2 3), (0, .class_ 4), (0, .nameAndType 5 6), (0, u "java/lang/Object"), (0, u "<init>"), (0, u "()V"), (2, .fieldref 10 11), (0, .class_ 12), (0, .nameAndType 13 14), (0, u "java/lang/String"), (0, u "value"), (0, u "[B"), (0, .fieldref 10 16), (0, .nameAndType 17 18), (0, u "coder"), (0, u "B"), (2, u "hash"), (0, u "I"), (2, u "hashIsZero"), (0, u "Z"), (0, .methodref 10 28), (0, .nameAndType 5 29), (0, u "([CIILjava/lang/Void;)V"), (8, .fieldref 10 39), (0, .nameAndType 40 26), (0, u "COMPACT_STRINGS"), (1, .class_ 44), (1, u "java/lang/StringUTF16"), (0, u "compress"), (1, .methodref 42 48), (0, .nameAndType 49 50), (0, u "coderFromArrayLen"), (0, u "([BI)B"), (126, .methodref 42 178), (0, .nameAndType 45 179), (0, u "([CII)[B"), (395, .class_ 576), (0, u "java/lang/CharSequence"), (22, u "CASE_INSENSITIVE_ORDER"), (0, u "Ljava/util/Comparator;"), (409, u "([C)V"), (90, u "serialPersistentFields"), (0, u "[Ljava/io/ObjectStreamField;"), (0, .class_ 1104), (0, u "java/lang/String$CaseInsensitiveComparator"), (1, .class_ 1107), (0, u "java/io/Serializable"), (0, .class_ 1109), (0, u "java/lang/Comparable"), (0, .class_ 1111), (0, u "java/lang/constant/Constable"), (0, .class_ 1113), (0, u "java/lang/constant/ConstantDesc"), (2, u "serialVersionUID"), (0, u "J"), (3, u "REPL"), (0, u "C"), (2, u "LATIN1"), (1, u "UTF16")] 323

def k7m0 : Method := { name := "<init>", desc := "()V", sig := { parameters := [], returnType := none }, accessFlags := 1, code := none }
def k7c1 : Code := { maxStack := 5, maxLocals := 2, code := jdk_42_method_3_code, exceptionTable := #[], attributes := #[] }
def k7m1 : Method := { name := "<init>", desc := "([C)V", sig := { parameters := [(.array .char)], returnType := none }, accessFlags := 1, code := some k7c1 }
def k7c2 : Code := { maxStack := 4, maxLocals := 6, code := jdk_42_method_149_code, exceptionTable := #[], attributes := #[] }
def k7m2 : Method := { name := "<init>", desc := "([CIILjava/lang/Void;)V", sig := { parameters := [(.array .char), .int, .int, (.object "java/lang/Void")], returnType := none }, accessFlags := 2, code := some k7c2 }
/-- java/lang/String -/
def k7 : Class := { plain "java/lang/String" (some 0) with
  accessFlags := 49
  interfaces := #[2, 3, 4, 5, 6]
  cf := some (fileOf pool7 10 #[.nestMembers #[1103]] #[{ accessFlags := 1, nameIndex := 5, descriptorIndex := 6, attributes := #[] }, { accessFlags := 1, nameIndex := 5, descriptorIndex := 1010, attributes := #[] }, { accessFlags := 2, nameIndex := 5, descriptorIndex := 29, attributes := #[] }] 49 2 #[1106, 1108, 575, 1110, 1112] #[{ accessFlags := 18, nameIndex := 13, descriptorIndex := 14, attributes := #[] }, { accessFlags := 18, nameIndex := 17, descriptorIndex := 18, attributes := #[] }, { accessFlags := 2, nameIndex := 21, descriptorIndex := 22, attributes := #[] }, { accessFlags := 2, nameIndex := 25, descriptorIndex := 26, attributes := #[] }, { accessFlags := 26, nameIndex := 1116, descriptorIndex := 1117, attributes := #[] }, { accessFlags := 24, nameIndex := 40, descriptorIndex := 26, attributes := #[] }, { accessFlags := 26, nameIndex := 1101, descriptorIndex := 1102, attributes := #[] }, { accessFlags := 26, nameIndex := 1121, descriptorIndex := 1122, attributes := #[] }, { accessFlags := 25, nameIndex := 599, descriptorIndex := 600, attributes := #[] }, { accessFlags := 24, nameIndex := 1125, descriptorIndex := 18, attributes := #[] }, { accessFlags := 24, nameIndex := 1127, descriptorIndex := 18, attributes := #[] }])
  fields := #[{ name := "value", type := (.array .byte), accessFlags := 18, slot := 0, constantValue := 0 }, { name := "coder", type := .byte, accessFlags := 18, slot := 1, constantValue := 0 }, { name := "hash", type := .int, accessFlags := 2, slot := 2, constantValue := 0 }, { name := "hashIsZero", type := .boolean, accessFlags := 2, slot := 3, constantValue := 0 }, { name := "serialVersionUID", type := .long, accessFlags := 26, slot := 0, constantValue := 0 }, { name := "COMPACT_STRINGS", type := .boolean, accessFlags := 24, slot := 1, constantValue := 0 }, { name := "serialPersistentFields", type := (.array (.object "java/io/ObjectStreamField")), accessFlags := 26, slot := 2, constantValue := 0 }, { name := "REPL", type := .char, accessFlags := 26, slot := 3, constantValue := 0 }, { name := "CASE_INSENSITIVE_ORDER", type := (.object "java/util/Comparator"), accessFlags := 25, slot := 4, constantValue := 0 }, { name := "LATIN1", type := .byte, accessFlags := 24, slot := 5, constantValue := 0 }, { name := "UTF16", type := .byte, accessFlags := 24, slot := 6, constantValue := 0 }]
  methods := #[k7m0, k7m1, k7m2]
  instanceTypes := #[(.array .byte), .byte, .int, .boolean]
  staticTypes := #[.long, .boolean, (.array (.object "java/io/ObjectStreamField")), .char, (.object "java/util/Comparator"), .byte, .byte]
  resolved := Array.replicate 1451 none
  statics := some 0 }

def pool8 : Array CpInfo := pool [(6, .class_ 8), (1, u "java/lang/Object"), (0, u "<init>"), (0, u "()V"), (1, .class_ 14), (1, u "java/lang/StringUTF16"), (31, u "$assertionsDisabled"), (0, u "Z"), (13, u "HI_BYTE_SHIFT"), (0, u "I"), (2, u "LO_BYTE_SHIFT"), (49, .methodref 12 116), (0, .nameAndType 117 118), (0, u "compress"), (0, u "([CI[BII)I"), (3, u "([CII)[B"), (138, u "coderFromArrayLen"), (0, u "([BI)B"), (106, .class_ 371), (1, u "java/lang/StringUTF16$LinesSpliterator"), (58, u "MAX_LENGTH"), (196, .class_ 628), (0, u "java/lang/StringUTF16$CodePointsSpliterator"), (0, .class_ 630), (0, u "java/lang/StringUTF16$CharsSpliterator")] 4

def k8m0 : Method := { name := "<init>", desc := "()V", sig := { parameters := [], returnType := none }, accessFlags := 0, code := none }
def k8c1 : Code := { maxStack := 2, maxLocals := 2, code := jdk_52_method_15_code, exceptionTable := #[], attributes := #[] }
def k8m1 : Method := { name := "coderFromArrayLen", desc := "([BI)B", sig := { parameters := [(.array .byte), .int], returnType := some .byte }, accessFlags := 8, code := some k8c1 }
def k8c2 : Code := { maxStack := 5, maxLocals := 6, code := jdk_52_method_16_code, exceptionTable := #[], attributes := #[] }
def k8m2 : Method := { name := "compress", desc := "([CII)[B", sig := { parameters := [(.array .char), .int, .int], returnType := some (.array .byte) }, accessFlags := 9, code := some k8c2 }
def k8c3 : Code := { maxStack := 3, maxLocals := 7, code := jdk_52_method_21_code, exceptionTable := #[], attributes := #[] }
def k8m3 : Method := { name := "compress", desc := "([CI[BII)I", sig := { parameters := [(.array .char), .int, (.array .byte), .int, .int], returnType := some .int }, accessFlags := 9, code := some k8c3 }
/-- java/lang/StringUTF16 -/
def k8 : Class := { plain "java/lang/StringUTF16" (some 0) with
  accessFlags := 48
  interfaces := #[]
  cf := some (fileOf pool8 12 #[.nestMembers #[627, 629, 369]] #[{ accessFlags := 0, nameIndex := 9, descriptorIndex := 10, attributes := #[] }, { accessFlags := 8, nameIndex := 261, descriptorIndex := 262, attributes := #[] }, { accessFlags := 9, nameIndex := 117, descriptorIndex := 122, attributes := #[] }, { accessFlags := 9, nameIndex := 117, descriptorIndex := 118, attributes := #[] }] 48 6 #[] #[{ accessFlags := 26, nameIndex := 61, descriptorIndex := 62, attributes := #[] }, { accessFlags := 26, nameIndex := 65, descriptorIndex := 62, attributes := #[] }, { accessFlags := 24, nameIndex := 430, descriptorIndex := 62, attributes := #[] }, { accessFlags := 4120, nameIndex := 46, descriptorIndex := 47, attributes := #[] }])
  fields := #[{ name := "HI_BYTE_SHIFT", type := .int, accessFlags := 26, slot := 0, constantValue := 0 }, { name := "LO_BYTE_SHIFT", type := .int, accessFlags := 26, slot := 1, constantValue := 0 }, { name := "MAX_LENGTH", type := .int, accessFlags := 24, slot := 2, constantValue := 0 }, { name := "$assertionsDisabled", type := .boolean, accessFlags := 4120, slot := 3, constantValue := 0 }]
  methods := #[k8m0, k8m1, k8m2, k8m3]
  instanceTypes := #[]
  staticTypes := #[.int, .int, .int, .boolean]
  resolved := Array.replicate 635 none
  statics := none }

def pool9 : Array CpInfo := pool [(4, .class_ 6), (1, u "java/lang/Object"), (3, .class_ 12), (1, u "com/example/bough/bough/KeyOrder"), (0, u "comparator"), (0, u "Ljava/util/Comparator;"), (29, .fieldref 10 45), (0, .nameAndType 46 47), (0, u "INF1"), (0, u "Ljava/lang/Object;"), (10, u "isBoundary"), (0, u "(Ljava/lang/Object;)Z"), (2, u "HIGHEST"), (2, u "LOWEST"), (114, .fieldref 10 181), (0, .nameAndType 182 47), (0, u "INF2"), (0, u "BOUNDARY_DIGEST"), (0, u "I"), (1, u "TEXT_PREFIX"), (1, u "TEXT_CHAR")] 36

def k9c0 : Code := { maxStack := 2, maxLocals := 1, code := prog_14_method_18_code, exceptionTable := #[], attributes := #[] }
def k9m0 : Method := { name := "isBoundary", desc := "(Ljava/lang/Object;)Z", sig := { parameters := [(.object "java/lang/Object")], returnType := some .boolean }, accessFlags := 8, code := some k9c0 }
/-- com/example/bough/bough/KeyOrder -/
def k9 : Class := { plain "com/example/bough/bough/KeyOrder" (some 0) with
  accessFlags := 48
  interfaces := #[]
  cf := some (fileOf pool9 10 #[] #[{ accessFlags := 8, nameIndex := 58, descriptorIndex := 59, attributes := #[] }] 48 4 #[] #[{ accessFlags := 24, nameIndex := 46, descriptorIndex := 47, attributes := #[] }, { accessFlags := 24, nameIndex := 182, descriptorIndex := 47, attributes := #[] }, { accessFlags := 24, nameIndex := 65, descriptorIndex := 47, attributes := #[] }, { accessFlags := 24, nameIndex := 62, descriptorIndex := 47, attributes := #[] }, { accessFlags := 24, nameIndex := 183, descriptorIndex := 184, attributes := #[] }, { accessFlags := 26, nameIndex := 186, descriptorIndex := 184, attributes := #[] }, { accessFlags := 26, nameIndex := 188, descriptorIndex := 184, attributes := #[] }, { accessFlags := 18, nameIndex := 13, descriptorIndex := 14, attributes := #[] }])
  fields := #[{ name := "INF1", type := (.object "java/lang/Object"), accessFlags := 24, slot := 0, constantValue := 0 }, { name := "INF2", type := (.object "java/lang/Object"), accessFlags := 24, slot := 1, constantValue := 0 }, { name := "LOWEST", type := (.object "java/lang/Object"), accessFlags := 24, slot := 2, constantValue := 0 }, { name := "HIGHEST", type := (.object "java/lang/Object"), accessFlags := 24, slot := 3, constantValue := 0 }, { name := "BOUNDARY_DIGEST", type := .int, accessFlags := 24, slot := 4, constantValue := 0 }, { name := "TEXT_PREFIX", type := .int, accessFlags := 26, slot := 5, constantValue := 0 }, { name := "TEXT_CHAR", type := .int, accessFlags := 26, slot := 6, constantValue := 0 }, { name := "comparator", type := (.object "java/util/Comparator"), accessFlags := 18, slot := 0, constantValue := 0 }]
  methods := #[k9m0]
  instanceTypes := #[(.object "java/util/Comparator")]
  staticTypes := #[(.object "java/lang/Object"), (.object "java/lang/Object"), (.object "java/lang/Object"), (.object "java/lang/Object"), .int, .int, .int]
  resolved := Array.replicate 225 none
  statics := some 1 }

def pool10 : Array CpInfo := pool [(1, .methodref 2 3), (0, .class_ 4), (0, .nameAndType 5 6), (0, u "java/lang/Object"), (0, u "<init>"), (0, u "()V"), (1, .class_ 10), (1, u "java/lang/Number"), (2, .class_ 14), (0, u "java/io/Serializable"), (0, u "serialVersionUID"), (0, u "J")] 20

def k10c0 : Code := { maxStack := 1, maxLocals := 1, code := jdk_18_method_1_code, exceptionTable := #[], attributes := #[] }
def k10m0 : Method := { name := "<init>", desc := "()V", sig := { parameters := [], returnType := none }, accessFlags := 1, code := some k10c0 }
/-- java/lang/Number -/
def k10 : Class := { plain "java/lang/Number" (some 0) with
  accessFlags := 1057
  interfaces := #[2]
  cf := some (fileOf pool10 8 #[] #[{ accessFlags := 1, nameIndex := 5, descriptorIndex := 6, attributes := #[] }] 1057 2 #[13] #[{ accessFlags := 26, nameIndex := 15, descriptorIndex := 16, attributes := #[] }])
  fields := #[{ name := "serialVersionUID", type := .long, accessFlags := 26, slot := 0, constantValue := 0 }]
  methods := #[k10m0]
  instanceTypes := #[]
  staticTypes := #[.long]
  resolved := Array.replicate 37 none
  statics := none }

def pool11 : Array CpInfo := pool [(1, .class_ 2), (0, u "java/lang/Integer"), (16, u "digits"), (0, u "[C"), (46, u "<init>"), (17, u "DigitOnes"), (0, u "[B"), (2, u "DigitTens"), (10, .nameAndType 67 101), (0, u "()V"), (85, u "valueOf"), (0, u "(I)Ljava/lang/Integer;"), (0, .class_ 190), (0, u "java/lang/Integer$IntegerCache"), (0, .fieldref 189 192), (0, .nameAndType 193 194), (0, u "high"), (0, u "I"), (0, .fieldref 189 196), (0, .nameAndType 197 198), (0, u "cache"), (0, u "[Ljava/lang/Integer;"), (0, .methodref 1 200), (0, .nameAndType 67 201), (0, u "(I)V"), (0, .methodref 203 100), (0, .class_ 204), (0, u "java/lang/Number"), (0, .fieldref 1 206), (0, .nameAndType 207 194), (0, u "value"), (94, u "TYPE"), (0, u "Ljava/lang/Class;"), (0, .class_ 305), (0, u "java/lang/Comparable"), (0, .class_ 307), (0, u "java/lang/constant/Constable"), (0, .class_ 309), (0, u "java/lang/constant/ConstantDesc"), (0, u "MIN_VALUE"), (1, u "MAX_VALUE"), (3, u "SIZE"), (1, u "BYTES"), (1, u "serialVersionUID"), (0, u "J")] 131

def k11c0 : Code := { maxStack := 3, maxLocals := 1, code := jdk_33_method_22_code, exceptionTable := #[], attributes := #[] }
def k11m0 : Method := { name := "valueOf", desc := "(I)Ljava/lang/Integer;", sig := { parameters := [.int], returnType := some (.object "java/lang/Integer") }, accessFlags := 9, code := some k11c0 }
def k11c1 : Code := { maxStack := 2, maxLocals := 2, code := jdk_33_method_23_code, exceptionTable := #[], attributes := #[] }
def k11m1 : Method := { name := "<init>", desc := "(I)V", sig := { parameters := [.int], returnType := none }, accessFlags := 1, code := some k11c1 }
/-- java/lang/Integer -/
def k11 : Class := { plain "java/lang/Integer" (some 10) with
  accessFlags := 49
  interfaces := #[3, 5, 6]
  cf := some (fileOf pool11 1 #[.nestMembers #[189]] #[{ accessFlags := 9, nameIndex := 187, descriptorIndex := 188, attributes := #[] }, { accessFlags := 1, nameIndex := 67, descriptorIndex := 201, attributes := #[] }] 49 203 #[304, 306, 308] #[{ accessFlags := 25, nameIndex := 310, descriptorIndex := 194, attributes := #[] }, { accessFlags := 25, nameIndex := 312, descriptorIndex := 194, attributes := #[] }, { accessFlags := 25, nameIndex := 302, descriptorIndex := 303, attributes := #[] }, { accessFlags := 24, nameIndex := 19, descriptorIndex := 20, attributes := #[] }, { accessFlags := 24, nameIndex := 89, descriptorIndex := 86, attributes := #[] }, { accessFlags := 24, nameIndex := 85, descriptorIndex := 86, attributes := #[] }, { accessFlags := 18, nameIndex := 207, descriptorIndex := 194, attributes := #[] }, { accessFlags := 25, nameIndex := 316, descriptorIndex := 194, attributes := #[] }, { accessFlags := 25, nameIndex := 318, descriptorIndex := 194, attributes := #[] }, { accessFlags := 26, nameIndex := 320, descriptorIndex := 321, attributes := #[] }])
  fields := #[{ name := "MIN_VALUE", type := .int, accessFlags := 25, slot := 0, constantValue := 0 }, { name := "MAX_VALUE", type := .int, accessFlags := 25, slot := 1, constantValue := 0 }, { name := "TYPE", type := (.object "java/lang/Class"), accessFlags := 25, slot := 2, constantValue := 0 }, { name := "digits", type := (.array .char), accessFlags := 24, slot := 3, constantValue := 0 }, { name := "DigitTens", type := (.array .byte), accessFlags := 24, slot := 4, constantValue := 0 }, { name := "DigitOnes", type := (.array .byte), accessFlags := 24, slot := 5, constantValue := 0 }, { name := "value", type := .int, accessFlags := 18, slot := 0, constantValue := 0 }, { name := "SIZE", type := .int, accessFlags := 25, slot := 6, constantValue := 0 }, { name := "BYTES", type := .int, accessFlags := 25, slot := 7, constantValue := 0 }, { name := "serialVersionUID", type := .long, accessFlags := 26, slot := 8, constantValue := 0 }]
  methods := #[k11m0, k11m1]
  instanceTypes := #[.int]
  staticTypes := #[.int, .int, (.object "java/lang/Class"), (.array .char), (.array .byte), (.array .byte), .int, .int, .long]
  resolved := Array.replicate 453 none
  statics := none }

def pool12 : Array CpInfo := pool [(2, .class_ 4), (1, u "java/lang/Object"), (0, u "<init>"), (0, u "()V"), (0, .class_ 8), (0, u "java/lang/Integer"), (7, .class_ 18), (1, u "java/lang/Integer$IntegerCache"), (0, u "$assertionsDisabled"), (0, u "Z"), (26, u "high"), (0, u "I"), (8, u "archivedCache"), (0, u "[Ljava/lang/Integer;"), (12, u "cache"), (0, u "low")] 27

def k12m0 : Method := { name := "<init>", desc := "()V", sig := { parameters := [], returnType := none }, accessFlags := 2, code := none }
/-- java/lang/Integer$IntegerCache -/
def k12 : Class := { plain "java/lang/Integer$IntegerCache" (some 0) with
  accessFlags := 48
  interfaces := #[]
  cf := some (fileOf pool12 16 #[.nestHost 7] #[{ accessFlags := 2, nameIndex := 5, descriptorIndex := 6, attributes := #[] }] 48 2 #[] #[{ accessFlags := 24, nameIndex := 72, descriptorIndex := 48, attributes := #[] }, { accessFlags := 24, nameIndex := 47, descriptorIndex := 48, attributes := #[] }, { accessFlags := 24, nameIndex := 71, descriptorIndex := 58, attributes := #[] }, { accessFlags := 8, nameIndex := 57, descriptorIndex := 58, attributes := #[] }, { accessFlags := 4120, nameIndex := 19, descriptorIndex := 20, attributes := #[] }])
  fields := #[{ name := "low", type := .int, accessFlags := 24, slot := 0, constantValue := 0 }, { name := "high", type := .int, accessFlags := 24, slot := 1, constantValue := 0 }, { name := "cache", type := (.array (.object "java/lang/Integer")), accessFlags := 24, slot := 2, constantValue := 0 }, { name := "archivedCache", type := (.array (.object "java/lang/Integer")), accessFlags := 8, slot := 3, constantValue := 0 }, { name := "$assertionsDisabled", type := .boolean, accessFlags := 4120, slot := 4, constantValue := 0 }]
  methods := #[k12m0]
  instanceTypes := #[]
  staticTypes := #[.int, .int, (.array (.object "java/lang/Integer")), (.array (.object "java/lang/Integer")), .boolean]
  resolved := Array.replicate 100 none
  statics := some 2 }

def pool13 : Array CpInfo := pool [(1, .class_ 2), (0, u "java/lang/Long"), (55, .nameAndType 59 60), (0, u "<init>"), (0, u "()V"), (24, u "valueOf"), (143, u "(J)Ljava/lang/Long;"), (0, .long 18446744073709551488), (1, .long 127), (1, .fieldref 235 236), (0, .class_ 237), (0, .nameAndType 238 239), (0, u "java/lang/Long$LongCache"), (0, u "cache"), (0, u "[Ljava/lang/Long;"), (0, .methodref 1 241), (0, .nameAndType 59 242), (0, u "(J)V"), (27, .methodref 271 58), (0, .class_ 272), (0, u "java/lang/Number"), (0, .fieldref 1 274), (0, .nameAndType 275 276), (0, u "value"), (0, u "J"), (84, u "TYPE"), (0, u "Ljava/lang/Class;"), (0, .class_ 364), (0, u "java/lang/Comparable"), (0, .class_ 366), (0, u "java/lang/constant/Constable"), (0, .class_ 368), (0, u "java/lang/constant/ConstantDesc"), (0, u "MIN_VALUE"), (1, u "MAX_VALUE"), (4, u "SIZE"), (0, u "I"), (1, u "BYTES"), (1, u "serialVersionUID")] 142

def k13c0 : Code := { maxStack := 4, maxLocals := 3, code := jdk_35_method_24_code, exceptionTable := #[], attributes := #[] }
def k13m0 : Method := { name := "valueOf", desc := "(J)Ljava/lang/Long;", sig := { parameters := [.long], returnType := some (.object "java/lang/Long") }, accessFlags := 9, code := some k13c0 }
def k13c1 : Code := { maxStack := 3, maxLocals := 3, code := jdk_35_method_26_code, exceptionTable := #[], attributes := #[] }
def k13m1 : Method := { name := "<init>", desc := "(J)V", sig := { parameters := [.long], returnType := none }, accessFlags := 1, code := some k13c1 }
/-- java/lang/Long -/
def k13 : Class := { plain "java/lang/Long" (some 10) with
  accessFlags := 49
  interfaces := #[3, 5, 6]
  cf := some (fileOf pool13 1 #[.nestMembers #[235]] #[{ accessFlags := 9, nameIndex := 85, descriptorIndex := 229, attributes := #[] }, { accessFlags := 1, nameIndex := 59, descriptorIndex := 242, attributes := #[] }] 49 271 #[363, 365, 367] #[{ accessFlags := 25, nameIndex := 369, descriptorIndex := 276, attributes := #[] }, { accessFlags := 25, nameIndex := 371, descriptorIndex := 276, attributes := #[] }, { accessFlags := 25, nameIndex := 361, descriptorIndex := 362, attributes := #[] }, { accessFlags := 18, nameIndex := 275, descriptorIndex := 276, attributes := #[] }, { accessFlags := 25, nameIndex := 376, descriptorIndex := 377, attributes := #[] }, { accessFlags := 25, nameIndex := 379, descriptorIndex := 377, attributes := #[] }, { accessFlags := 26, nameIndex := 381, descriptorIndex := 276, attributes := #[] }])
  fields := #[{ name := "MIN_VALUE", type := .long, accessFlags := 25, slot := 0, constantValue := 0 }, { name := "MAX_VALUE", type := .long, accessFlags := 25, slot := 1, constantValue := 0 }, { name := "TYPE", type := (.object "java/lang/Class"), accessFlags := 25, slot := 2, constantValue := 0 }, { name := "value", type := .long, accessFlags := 18, slot := 0, constantValue := 0 }, { name := "SIZE", type := .int, accessFlags := 25, slot := 3, constantValue := 0 }, { name := "BYTES", type := .int, accessFlags := 25, slot := 4, constantValue := 0 }, { name := "serialVersionUID", type := .long, accessFlags := 26, slot := 5, constantValue := 0 }]
  methods := #[k13m0, k13m1]
  instanceTypes := #[.long]
  staticTypes := #[.long, .long, (.object "java/lang/Class"), .int, .int, .long]
  resolved := Array.replicate 524 none
  statics := none }

def pool14 : Array CpInfo := pool [(2, .class_ 4), (1, u "java/lang/Object"), (0, u "<init>"), (0, u "()V"), (0, .class_ 8), (0, u "java/lang/Long"), (7, .class_ 18), (1, u "java/lang/Long$LongCache"), (0, u "$assertionsDisabled"), (0, u "Z"), (8, u "archivedCache"), (0, u "[Ljava/lang/Long;"), (7, u "cache")] 24

def k14m0 : Method := { name := "<init>", desc := "()V", sig := { parameters := [], returnType := none }, accessFlags := 2, code := none }
/-- java/lang/Long$LongCache -/
def k14 : Class := { plain "java/lang/Long$LongCache" (some 0) with
  accessFlags := 48
  interfaces := #[]
  cf := some (fileOf pool14 16 #[.nestHost 7] #[{ accessFlags := 2, nameIndex := 5, descriptorIndex := 6, attributes := #[] }] 48 2 #[] #[{ accessFlags := 24, nameIndex := 38, descriptorIndex := 30, attributes := #[] }, { accessFlags := 8, nameIndex := 29, descriptorIndex := 30, attributes := #[] }, { accessFlags := 4120, nameIndex := 19, descriptorIndex := 20, attributes := #[] }])
  fields := #[{ name := "cache", type := (.array (.object "java/lang/Long")), accessFlags := 24, slot := 0, constantValue := 0 }, { name := "archivedCache", type := (.array (.object "java/lang/Long")), accessFlags := 8, slot := 1, constantValue := 0 }, { name := "$assertionsDisabled", type := .boolean, accessFlags := 4120, slot := 2, constantValue := 0 }]
  methods := #[k14m0]
  instanceTypes := #[]
  staticTypes := #[(.array (.object "java/lang/Long")), (.array (.object "java/lang/Long")), .boolean]
  resolved := Array.replicate 63 none
  statics := some 3 }

def pool15 : Array CpInfo := pool [(4, .class_ 6), (1, u "java/lang/Object"), (0, u "<init>"), (0, u "()V"), (5, .class_ 16), (1, u "java/lang/StringLatin1"), (104, u "$assertionsDisabled"), (0, u "Z"), (98, .class_ 223), (1, u "java/lang/StringLatin1$LinesSpliterator"), (166, .class_ 391), (0, u "java/lang/StringLatin1$CharsSpliterator")] 3

def k15m0 : Method := { name := "<init>", desc := "()V", sig := { parameters := [], returnType := none }, accessFlags := 0, code := none }
/-- java/lang/StringLatin1 -/
def k15 : Class := { plain "java/lang/StringLatin1" (some 0) with
  accessFlags := 48
  interfaces := #[]
  cf := some (fileOf pool15 14 #[.nestMembers #[390, 221]] #[{ accessFlags := 0, nameIndex := 7, descriptorIndex := 8, attributes := #[] }] 48 4 #[] #[{ accessFlags := 4120, nameIndex := 121, descriptorIndex := 122, attributes := #[] }])
  fields := #[{ name := "$assertionsDisabled", type := .boolean, accessFlags := 4120, slot := 0, constantValue := 0 }]
  methods := #[k15m0]
  instanceTypes := #[]
  staticTypes := #[.boolean]
  resolved := Array.replicate 395 none
  statics := none }

def pool16 : Array CpInfo := pool [(2, .class_ 4), (1, u "java/lang/Object"), (0, u "<init>"), (0, u "()V"), (17, .class_ 26), (1, u "jdk/internal/util/Preconditions"), (28, .class_ 56), (0, u "jdk/internal/util/Preconditions$4"), (57, .class_ 115), (0, u "jdk/internal/util/Preconditions$1"), (7, u "SIOOBE_FORMATTER"), (0, u "Ljava/util/function/BiFunction;"), (0, .class_ 126), (0, u "jdk/internal/util/Preconditions$2"), (3, u "AIOOBE_FORMATTER"), (0, .class_ 132), (0, u "jdk/internal/util/Preconditions$3"), (3, u "IOOBE_FORMATTER")] 57

def k16m0 : Method := { name := "<init>", desc := "()V", sig := { parameters := [], returnType := none }, accessFlags := 1, code := none }
/-- jdk/internal/util/Preconditions -/
def k16 : Class := { plain "jdk/internal/util/Preconditions" (some 0) with
  accessFlags := 33
  interfaces := #[]
  cf := some (fileOf pool16 24 #[.nestMembers #[55, 131, 125, 114]] #[{ accessFlags := 1, nameIndex := 5, descriptorIndex := 6, attributes := #[] }] 33 2 #[] #[{ accessFlags := 25, nameIndex := 123, descriptorIndex := 124, attributes := #[] }, { accessFlags := 25, nameIndex := 130, descriptorIndex := 124, attributes := #[] }, { accessFlags := 25, nameIndex := 136, descriptorIndex := 124, attributes := #[] }])
  fields := #[{ name := "SIOOBE_FORMATTER", type := (.object "java/util/function/BiFunction"), accessFlags := 25, slot := 0, constantValue := 0 }, { name := "AIOOBE_FORMATTER", type := (.object "java/util/function/BiFunction"), accessFlags := 25, slot := 1, constantValue := 0 }, { name := "IOOBE_FORMATTER", type := (.object "java/util/function/BiFunction"), accessFlags := 25, slot := 2, constantValue := 0 }]
  methods := #[k16m0]
  instanceTypes := #[]
  staticTypes := #[(.object "java/util/function/BiFunction"), (.object "java/util/function/BiFunction"), (.object "java/util/function/BiFunction")]
  resolved := Array.replicate 194 none
  statics := some 4 }

def pool17 : Array CpInfo := pool [(9, u "<init>"), (6, .class_ 18), (1, u "java/lang/Object"), (0, u "()V"), (1, .class_ 23), (1, u "jdk/internal/util/ArraysSupport"), (0, u "LOG2_ARRAY_LONG_INDEX_SCALE"), (0, u "I"), (2, u "U"), (0, u "Ljdk/internal/misc/Unsafe;"), (8, u "BIG_ENDIAN"), (0, u "Z"), (8, u "LOG2_BYTE_BIT_SIZE"), (4, u "LOG2_ARRAY_INT_INDEX_SCALE"), (54, u "JLA"), (0, u "Ljdk/internal/access/JavaLangAccess;"), (11, u "LOG2_ARRAY_BOOLEAN_INDEX_SCALE"), (9, u "LOG2_ARRAY_BYTE_INDEX_SCALE"), (5, u "LOG2_ARRAY_CHAR_INDEX_SCALE"), (5, u "LOG2_ARRAY_SHORT_INDEX_SCALE"), (18, u "LOG2_ARRAY_FLOAT_INDEX_SCALE"), (24, u "LOG2_ARRAY_DOUBLE_INDEX_SCALE"), (89, u "T_BOOLEAN"), (2, u "T_CHAR"), (1, u "T_FLOAT"), (1, u "T_DOUBLE"), (1, u "T_BYTE"), (1, u "T_SHORT"), (1, u "T_INT"), (1, u "T_LONG"), (1, u "SOFT_MAX_ARRAY_LENGTH")] 83

def k17m0 : Method := { name := "<init>", desc := "()V", sig := { parameters := [], returnType := none }, accessFlags := 2, code := none }
/-- jdk/internal/util/ArraysSupport -/
def k17 : Class := { plain "jdk/internal/util/ArraysSupport" (some 0) with
  accessFlags := 33
  interfaces := #[]
  cf := some (fileOf pool17 21 #[] #[{ accessFlags := 2, nameIndex := 9, descriptorIndex := 19, attributes := #[] }] 33 16 #[] #[{ accessFlags := 24, nameIndex := 28, descriptorIndex := 29, attributes := #[] }, { accessFlags := 26, nameIndex := 38, descriptorIndex := 39, attributes := #[] }, { accessFlags := 25, nameIndex := 121, descriptorIndex := 25, attributes := #[] }, { accessFlags := 25, nameIndex := 131, descriptorIndex := 25, attributes := #[] }, { accessFlags := 25, nameIndex := 137, descriptorIndex := 25, attributes := #[] }, { accessFlags := 25, nameIndex := 143, descriptorIndex := 25, attributes := #[] }, { accessFlags := 25, nameIndex := 53, descriptorIndex := 25, attributes := #[] }, { accessFlags := 25, nameIndex := 24, descriptorIndex := 25, attributes := #[] }, { accessFlags := 25, nameIndex := 162, descriptorIndex := 25, attributes := #[] }, { accessFlags := 25, nameIndex := 187, descriptorIndex := 25, attributes := #[] }, { accessFlags := 26, nameIndex := 48, descriptorIndex := 25, attributes := #[] }, { accessFlags := 25, nameIndex := 277, descriptorIndex := 25, attributes := #[] }, { accessFlags := 25, nameIndex := 280, descriptorIndex := 25, attributes := #[] }, { accessFlags := 25, nameIndex := 282, descriptorIndex := 25, attributes := #[] }, { accessFlags := 25, nameIndex := 284, descriptorIndex := 25, attributes := #[] }, { accessFlags := 25, nameIndex := 286, descriptorIndex := 25, attributes := #[] }, { accessFlags := 25, nameIndex := 288, descriptorIndex := 25, attributes := #[] }, { accessFlags := 25, nameIndex := 290, descriptorIndex := 25, attributes := #[] }, { accessFlags := 25, nameIndex := 292, descriptorIndex := 25, attributes := #[] }, { accessFlags := 26, nameIndex := 108, descriptorIndex := 109, attributes := #[] }, { accessFlags := 25, nameIndex := 294, descriptorIndex := 25, attributes := #[] }])
  fields := #[{ name := "U", type := (.object "jdk/internal/misc/Unsafe"), accessFlags := 24, slot := 0, constantValue := 0 }, { name := "BIG_ENDIAN", type := .boolean, accessFlags := 26, slot := 1, constantValue := 0 }, { name := "LOG2_ARRAY_BOOLEAN_INDEX_SCALE", type := .int, accessFlags := 25, slot := 2, constantValue := 0 }, { name := "LOG2_ARRAY_BYTE_INDEX_SCALE", type := .int, accessFlags := 25, slot := 3, constantValue := 0 }, { name := "LOG2_ARRAY_CHAR_INDEX_SCALE", type := .int, accessFlags := 25, slot := 4, constantValue := 0 }, { name := "LOG2_ARRAY_SHORT_INDEX_SCALE", type := .int, accessFlags := 25, slot := 5, constantValue := 0 }, { name := "LOG2_ARRAY_INT_INDEX_SCALE", type := .int, accessFlags := 25, slot := 6, constantValue := 0 }, { name := "LOG2_ARRAY_LONG_INDEX_SCALE", type := .int, accessFlags := 25, slot := 7, constantValue := 0 }, { name := "LOG2_ARRAY_FLOAT_INDEX_SCALE", type := .int, accessFlags := 25, slot := 8, constantValue := 0 }, { name := "LOG2_ARRAY_DOUBLE_INDEX_SCALE", type := .int, accessFlags := 25, slot := 9, constantValue := 0 }, { name := "LOG2_BYTE_BIT_SIZE", type := .int, accessFlags := 26, slot := 10, constantValue := 0 }, { name := "T_BOOLEAN", type := .int, accessFlags := 25, slot := 11, constantValue := 0 }, { name := "T_CHAR", type := .int, accessFlags := 25, slot := 12, constantValue := 0 }, { name := "T_FLOAT", type := .int, accessFlags := 25, slot := 13, constantValue := 0 }, { name := "T_DOUBLE", type := .int, accessFlags := 25, slot := 14, constantValue := 0 }, { name := "T_BYTE", type := .int, accessFlags := 25, slot := 15, constantValue := 0 }, { name := "T_SHORT", type := .int, accessFlags := 25, slot := 16, constantValue := 0 }, { name := "T_INT", type := .int, accessFlags := 25, slot := 17, constantValue := 0 }, { name := "T_LONG", type := .int, accessFlags := 25, slot := 18, constantValue := 0 }, { name := "JLA", type := (.object "jdk/internal/access/JavaLangAccess"), accessFlags := 26, slot := 19, constantValue := 0 }, { name := "SOFT_MAX_ARRAY_LENGTH", type := .int, accessFlags := 25, slot := 20, constantValue := 0 }]
  methods := #[k17m0]
  instanceTypes := #[]
  staticTypes := #[(.object "jdk/internal/misc/Unsafe"), .boolean, .int, .int, .int, .int, .int, .int, .int, .int, .int, .int, .int, .int, .int, .int, .int, .int, .int, (.object "jdk/internal/access/JavaLangAccess"), .int]
  resolved := Array.replicate 378 none
  statics := none }

def pool18 : Array CpInfo := pool [(1, u "java/lang/Cloneable"), (0, .class_ 1), (0, u "java/lang/Object"), (0, .class_ 3)] 3

/-- java/lang/Cloneable -/
def k18 : Class := { plain "java/lang/Cloneable" (some 0) with
  accessFlags := 1537
  interfaces := #[]
  cf := some (fileOf pool18 2 #[] #[] 1537 4 #[] #[])
  fields := #[]
  methods := #[]
  instanceTypes := #[]
  staticTypes := #[]
  resolved := Array.replicate 8 none
  statics := none }

/-- the primitive byte -/
def k19 : Class := { plain "byte" none with kind := .primitive 'B', accessFlags := 0x411 }
/-- [B -/
def k20 : Class := { plain "[B" (some 0) with kind := .array 19 .byte, interfaces := #[18, 2], accessFlags := 1041 }

/-- the primitive char -/
def k21 : Class := { plain "char" none with kind := .primitive 'C', accessFlags := 0x411 }
/-- [C -/
def k22 : Class := { plain "[C" (some 0) with kind := .array 21 .char, interfaces := #[18, 2], accessFlags := 1041 }

/-- the primitive int -/
def k23 : Class := { plain "int" none with kind := .primitive 'I', accessFlags := 0x411 }
/-- [I -/
def k24 : Class := { plain "[I" (some 0) with kind := .array 23 .int, interfaces := #[18, 2], accessFlags := 1041 }

/-- [Ljava/lang/Integer; -/
def k25 : Class := { plain "[Ljava/lang/Integer;" (some 0) with kind := .array 11 (.object "java/lang/Integer"), interfaces := #[18, 2], accessFlags := 1041 }

/-- [Ljava/lang/Long; -/
def k26 : Class := { plain "[Ljava/lang/Long;" (some 0) with kind := .array 13 (.object "java/lang/Long"), interfaces := #[18, 2], accessFlags := 1041 }

def heap : Heap := #[{ cls := 7, slots := #[.long 0, .int 1, .null, .int 0, .null, .int 0, .int 0], vm := .statics 7 },
  { cls := 9, slots := #[.ref 519, .ref 520, .ref 521, .ref 522, .int 0, .int 0, .int 0], vm := .statics 9 },
  { cls := 12, slots := #[.int 0, .int 127, .ref 5, .null, .int 0], vm := .statics 12 },
  { cls := 14, slots := #[.ref 6, .null, .int 0], vm := .statics 14 },
  { cls := 16, slots := #[.null, .null, .null], vm := .statics 16 },
  { cls := 25, slots := #[.ref 7, .ref 8, .ref 9, .ref 10, .ref 11, .ref 12, .ref 13, .ref 14, .ref 15, .ref 16, .ref 17, .ref 18, .ref 19, .ref 20, .ref 21, .ref 22, .ref 23, .ref 24, .ref 25, .ref 26, .ref 27, .ref 28, .ref 29, .ref 30, .ref 31, .ref 32, .ref 33, .ref 34, .ref 35, .ref 36, .ref 37, .ref 38, .ref 39, .ref 40, .ref 41, .ref 42, .ref 43, .ref 44, .ref 45, .ref 46, .ref 47, .ref 48, .ref 49, .ref 50, .ref 51, .ref 52, .ref 53, .ref 54, .ref 55, .ref 56, .ref 57, .ref 58, .ref 59, .ref 60, .ref 61, .ref 62, .ref 63, .ref 64, .ref 65, .ref 66, .ref 67, .ref 68, .ref 69, .ref 70, .ref 71, .ref 72, .ref 73, .ref 74, .ref 75, .ref 76, .ref 77, .ref 78, .ref 79, .ref 80, .ref 81, .ref 82, .ref 83, .ref 84, .ref 85, .ref 86, .ref 87, .ref 88, .ref 89, .ref 90, .ref 91, .ref 92, .ref 93, .ref 94, .ref 95, .ref 96, .ref 97, .ref 98, .ref 99, .ref 100, .ref 101, .ref 102, .ref 103, .ref 104, .ref 105, .ref 106, .ref 107, .ref 108, .ref 109, .ref 110, .ref 111, .ref 112, .ref 113, .ref 114, .ref 115, .ref 116, .ref 117, .ref 118, .ref 119, .ref 120, .ref 121, .ref 122, .ref 123, .ref 124, .ref 125, .ref 126, .ref 127, .ref 128, .ref 129, .ref 130, .ref 131, .ref 132, .ref 133, .ref 134, .ref 135, .ref 136, .ref 137, .ref 138, .ref 139, .ref 140, .ref 141, .ref 142, .ref 143, .ref 144, .ref 145, .ref 146, .ref 147, .ref 148, .ref 149, .ref 150, .ref 151, .ref 152, .ref 153, .ref 154, .ref 155, .ref 156, .ref 157, .ref 158, .ref 159, .ref 160, .ref 161, .ref 162, .ref 163, .ref 164, .ref 165, .ref 166, .ref 167, .ref 168, .ref 169, .ref 170, .ref 171, .ref 172, .ref 173, .ref 174, .ref 175, .ref 176, .ref 177, .ref 178, .ref 179, .ref 180, .ref 181, .ref 182, .ref 183, .ref 184, .ref 185, .ref 186, .ref 187, .ref 188, .ref 189, .ref 190, .ref 191, .ref 192, .ref 193, .ref 194, .ref 195, .ref 196, .ref 197, .ref 198, .ref 199, .ref 200, .ref 201, .ref 202, .ref 203, .ref 204, .ref 205, .ref 206, .ref 207, .ref 208, .ref 209, .ref 210, .ref 211, .ref 212, .ref 213, .ref 214, .ref 215, .ref 216, .ref 217, .ref 218, .ref 219, .ref 220, .ref 221, .ref 222, .ref 223, .ref 224, .ref 225, .ref 226, .ref 227, .ref 228, .ref 229, .ref 230, .ref 231, .ref 232, .ref 233, .ref 234, .ref 235, .ref 236, .ref 237, .ref 238, .ref 239, .ref 240, .ref 241, .ref 242, .ref 243, .ref 244, .ref 245, .ref 246, .ref 247, .ref 248, .ref 249, .ref 250, .ref 251, .ref 252, .ref 253, .ref 254, .ref 255, .ref 256, .ref 257, .ref 258, .ref 259, .ref 260, .ref 261, .ref 262], vm := .none },
  { cls := 26, slots := #[.ref 263, .ref 264, .ref 265, .ref 266, .ref 267, .ref 268, .ref 269, .ref 270, .ref 271, .ref 272, .ref 273, .ref 274, .ref 275, .ref 276, .ref 277, .ref 278, .ref 279, .ref 280, .ref 281, .ref 282, .ref 283, .ref 284, .ref 285, .ref 286, .ref 287, .ref 288, .ref 289, .ref 290, .ref 291, .ref 292, .ref 293, .ref 294, .ref 295, .ref 296, .ref 297, .ref 298, .ref 299, .ref 300, .ref 301, .ref 302, .ref 303, .ref 304, .ref 305, .ref 306, .ref 307, .ref 308, .ref 309, .ref 310, .ref 311, .ref 312, .ref 313, .ref 314, .ref 315, .ref 316, .ref 317, .ref 318, .ref 319, .ref 320, .ref 321, .ref 322, .ref 323, .ref 324, .ref 325, .ref 326, .ref 327, .ref 328, .ref 329, .ref 330, .ref 331, .ref 332, .ref 333, .ref 334, .ref 335, .ref 336, .ref 337, .ref 338, .ref 339, .ref 340, .ref 341, .ref 342, .ref 343, .ref 344, .ref 345, .ref 346, .ref 347, .ref 348, .ref 349, .ref 350, .ref 351, .ref 352, .ref 353, .ref 354, .ref 355, .ref 356, .ref 357, .ref 358, .ref 359, .ref 360, .ref 361, .ref 362, .ref 363, .ref 364, .ref 365, .ref 366, .ref 367, .ref 368, .ref 369, .ref 370, .ref 371, .ref 372, .ref 373, .ref 374, .ref 375, .ref 376, .ref 377, .ref 378, .ref 379, .ref 380, .ref 381, .ref 382, .ref 383, .ref 384, .ref 385, .ref 386, .ref 387, .ref 388, .ref 389, .ref 390, .ref 391, .ref 392, .ref 393, .ref 394, .ref 395, .ref 396, .ref 397, .ref 398, .ref 399, .ref 400, .ref 401, .ref 402, .ref 403, .ref 404, .ref 405, .ref 406, .ref 407, .ref 408, .ref 409, .ref 410, .ref 411, .ref 412, .ref 413, .ref 414, .ref 415, .ref 416, .ref 417, .ref 418, .ref 419, .ref 420, .ref 421, .ref 422, .ref 423, .ref 424, .ref 425, .ref 426, .ref 427, .ref 428, .ref 429, .ref 430, .ref 431, .ref 432, .ref 433, .ref 434, .ref 435, .ref 436, .ref 437, .ref 438, .ref 439, .ref 440, .ref 441, .ref 442, .ref 443, .ref 444, .ref 445, .ref 446, .ref 447, .ref 448, .ref 449, .ref 450, .ref 451, .ref 452, .ref 453, .ref 454, .ref 455, .ref 456, .ref 457, .ref 458, .ref 459, .ref 460, .ref 461, .ref 462, .ref 463, .ref 464, .ref 465, .ref 466, .ref 467, .ref 468, .ref 469, .ref 470, .ref 471, .ref 472, .ref 473, .ref 474, .ref 475, .ref 476, .ref 477, .ref 478, .ref 479, .ref 480, .ref 481, .ref 482, .ref 483, .ref 484, .ref 485, .ref 486, .ref 487, .ref 488, .ref 489, .ref 490, .ref 491, .ref 492, .ref 493, .ref 494, .ref 495, .ref 496, .ref 497, .ref 498, .ref 499, .ref 500, .ref 501, .ref 502, .ref 503, .ref 504, .ref 505, .ref 506, .ref 507, .ref 508, .ref 509, .ref 510, .ref 511, .ref 512, .ref 513, .ref 514, .ref 515, .ref 516, .ref 517, .ref 518], vm := .none },
  { cls := 11, slots := #[.int (-128)], vm := .none },
  { cls := 11, slots := #[.int (-127)], vm := .none },
  { cls := 11, slots := #[.int (-126)], vm := .none },
  { cls := 11, slots := #[.int (-125)], vm := .none },
  { cls := 11, slots := #[.int (-124)], vm := .none },
  { cls := 11, slots := #[.int (-123)], vm := .none },
  { cls := 11, slots := #[.int (-122)], vm := .none },
  { cls := 11, slots := #[.int (-121)], vm := .none },
  { cls := 11, slots := #[.int (-120)], vm := .none },
  { cls := 11, slots := #[.int (-119)], vm := .none },
  { cls := 11, slots := #[.int (-118)], vm := .none },
  { cls := 11, slots := #[.int (-117)], vm := .none },
  { cls := 11, slots := #[.int (-116)], vm := .none },
  { cls := 11, slots := #[.int (-115)], vm := .none },
  { cls := 11, slots := #[.int (-114)], vm := .none },
  { cls := 11, slots := #[.int (-113)], vm := .none },
  { cls := 11, slots := #[.int (-112)], vm := .none },
  { cls := 11, slots := #[.int (-111)], vm := .none },
  { cls := 11, slots := #[.int (-110)], vm := .none },
  { cls := 11, slots := #[.int (-109)], vm := .none },
  { cls := 11, slots := #[.int (-108)], vm := .none },
  { cls := 11, slots := #[.int (-107)], vm := .none },
  { cls := 11, slots := #[.int (-106)], vm := .none },
  { cls := 11, slots := #[.int (-105)], vm := .none },
  { cls := 11, slots := #[.int (-104)], vm := .none },
  { cls := 11, slots := #[.int (-103)], vm := .none },
  { cls := 11, slots := #[.int (-102)], vm := .none },
  { cls := 11, slots := #[.int (-101)], vm := .none },
  { cls := 11, slots := #[.int (-100)], vm := .none },
  { cls := 11, slots := #[.int (-99)], vm := .none },
  { cls := 11, slots := #[.int (-98)], vm := .none },
  { cls := 11, slots := #[.int (-97)], vm := .none },
  { cls := 11, slots := #[.int (-96)], vm := .none },
  { cls := 11, slots := #[.int (-95)], vm := .none },
  { cls := 11, slots := #[.int (-94)], vm := .none },
  { cls := 11, slots := #[.int (-93)], vm := .none },
  { cls := 11, slots := #[.int (-92)], vm := .none },
  { cls := 11, slots := #[.int (-91)], vm := .none },
  { cls := 11, slots := #[.int (-90)], vm := .none },
  { cls := 11, slots := #[.int (-89)], vm := .none },
  { cls := 11, slots := #[.int (-88)], vm := .none },
  { cls := 11, slots := #[.int (-87)], vm := .none },
  { cls := 11, slots := #[.int (-86)], vm := .none },
  { cls := 11, slots := #[.int (-85)], vm := .none },
  { cls := 11, slots := #[.int (-84)], vm := .none },
  { cls := 11, slots := #[.int (-83)], vm := .none },
  { cls := 11, slots := #[.int (-82)], vm := .none },
  { cls := 11, slots := #[.int (-81)], vm := .none },
  { cls := 11, slots := #[.int (-80)], vm := .none },
  { cls := 11, slots := #[.int (-79)], vm := .none },
  { cls := 11, slots := #[.int (-78)], vm := .none },
  { cls := 11, slots := #[.int (-77)], vm := .none },
  { cls := 11, slots := #[.int (-76)], vm := .none },
  { cls := 11, slots := #[.int (-75)], vm := .none },
  { cls := 11, slots := #[.int (-74)], vm := .none },
  { cls := 11, slots := #[.int (-73)], vm := .none },
  { cls := 11, slots := #[.int (-72)], vm := .none },
  { cls := 11, slots := #[.int (-71)], vm := .none },
  { cls := 11, slots := #[.int (-70)], vm := .none },
  { cls := 11, slots := #[.int (-69)], vm := .none },
  { cls := 11, slots := #[.int (-68)], vm := .none },
  { cls := 11, slots := #[.int (-67)], vm := .none },
  { cls := 11, slots := #[.int (-66)], vm := .none },
  { cls := 11, slots := #[.int (-65)], vm := .none },
  { cls := 11, slots := #[.int (-64)], vm := .none },
  { cls := 11, slots := #[.int (-63)], vm := .none },
  { cls := 11, slots := #[.int (-62)], vm := .none },
  { cls := 11, slots := #[.int (-61)], vm := .none },
  { cls := 11, slots := #[.int (-60)], vm := .none },
  { cls := 11, slots := #[.int (-59)], vm := .none },
  { cls := 11, slots := #[.int (-58)], vm := .none },
  { cls := 11, slots := #[.int (-57)], vm := .none },
  { cls := 11, slots := #[.int (-56)], vm := .none },
  { cls := 11, slots := #[.int (-55)], vm := .none },
  { cls := 11, slots := #[.int (-54)], vm := .none },
  { cls := 11, slots := #[.int (-53)], vm := .none },
  { cls := 11, slots := #[.int (-52)], vm := .none },
  { cls := 11, slots := #[.int (-51)], vm := .none },
  { cls := 11, slots := #[.int (-50)], vm := .none },
  { cls := 11, slots := #[.int (-49)], vm := .none },
  { cls := 11, slots := #[.int (-48)], vm := .none },
  { cls := 11, slots := #[.int (-47)], vm := .none },
  { cls := 11, slots := #[.int (-46)], vm := .none },
  { cls := 11, slots := #[.int (-45)], vm := .none },
  { cls := 11, slots := #[.int (-44)], vm := .none },
  { cls := 11, slots := #[.int (-43)], vm := .none },
  { cls := 11, slots := #[.int (-42)], vm := .none },
  { cls := 11, slots := #[.int (-41)], vm := .none },
  { cls := 11, slots := #[.int (-40)], vm := .none },
  { cls := 11, slots := #[.int (-39)], vm := .none },
  { cls := 11, slots := #[.int (-38)], vm := .none },
  { cls := 11, slots := #[.int (-37)], vm := .none },
  { cls := 11, slots := #[.int (-36)], vm := .none },
  { cls := 11, slots := #[.int (-35)], vm := .none },
  { cls := 11, slots := #[.int (-34)], vm := .none },
  { cls := 11, slots := #[.int (-33)], vm := .none },
  { cls := 11, slots := #[.int (-32)], vm := .none },
  { cls := 11, slots := #[.int (-31)], vm := .none },
  { cls := 11, slots := #[.int (-30)], vm := .none },
  { cls := 11, slots := #[.int (-29)], vm := .none },
  { cls := 11, slots := #[.int (-28)], vm := .none },
  { cls := 11, slots := #[.int (-27)], vm := .none },
  { cls := 11, slots := #[.int (-26)], vm := .none },
  { cls := 11, slots := #[.int (-25)], vm := .none },
  { cls := 11, slots := #[.int (-24)], vm := .none },
  { cls := 11, slots := #[.int (-23)], vm := .none },
  { cls := 11, slots := #[.int (-22)], vm := .none },
  { cls := 11, slots := #[.int (-21)], vm := .none },
  { cls := 11, slots := #[.int (-20)], vm := .none },
  { cls := 11, slots := #[.int (-19)], vm := .none },
  { cls := 11, slots := #[.int (-18)], vm := .none },
  { cls := 11, slots := #[.int (-17)], vm := .none },
  { cls := 11, slots := #[.int (-16)], vm := .none },
  { cls := 11, slots := #[.int (-15)], vm := .none },
  { cls := 11, slots := #[.int (-14)], vm := .none },
  { cls := 11, slots := #[.int (-13)], vm := .none },
  { cls := 11, slots := #[.int (-12)], vm := .none },
  { cls := 11, slots := #[.int (-11)], vm := .none },
  { cls := 11, slots := #[.int (-10)], vm := .none },
  { cls := 11, slots := #[.int (-9)], vm := .none },
  { cls := 11, slots := #[.int (-8)], vm := .none },
  { cls := 11, slots := #[.int (-7)], vm := .none },
  { cls := 11, slots := #[.int (-6)], vm := .none },
  { cls := 11, slots := #[.int (-5)], vm := .none },
  { cls := 11, slots := #[.int (-4)], vm := .none },
  { cls := 11, slots := #[.int (-3)], vm := .none },
  { cls := 11, slots := #[.int (-2)], vm := .none },
  { cls := 11, slots := #[.int (-1)], vm := .none },
  { cls := 11, slots := #[.int (0)], vm := .none },
  { cls := 11, slots := #[.int (1)], vm := .none },
  { cls := 11, slots := #[.int (2)], vm := .none },
  { cls := 11, slots := #[.int (3)], vm := .none },
  { cls := 11, slots := #[.int (4)], vm := .none },
  { cls := 11, slots := #[.int (5)], vm := .none },
  { cls := 11, slots := #[.int (6)], vm := .none },
  { cls := 11, slots := #[.int (7)], vm := .none },
  { cls := 11, slots := #[.int (8)], vm := .none },
  { cls := 11, slots := #[.int (9)], vm := .none },
  { cls := 11, slots := #[.int (10)], vm := .none },
  { cls := 11, slots := #[.int (11)], vm := .none },
  { cls := 11, slots := #[.int (12)], vm := .none },
  { cls := 11, slots := #[.int (13)], vm := .none },
  { cls := 11, slots := #[.int (14)], vm := .none },
  { cls := 11, slots := #[.int (15)], vm := .none },
  { cls := 11, slots := #[.int (16)], vm := .none },
  { cls := 11, slots := #[.int (17)], vm := .none },
  { cls := 11, slots := #[.int (18)], vm := .none },
  { cls := 11, slots := #[.int (19)], vm := .none },
  { cls := 11, slots := #[.int (20)], vm := .none },
  { cls := 11, slots := #[.int (21)], vm := .none },
  { cls := 11, slots := #[.int (22)], vm := .none },
  { cls := 11, slots := #[.int (23)], vm := .none },
  { cls := 11, slots := #[.int (24)], vm := .none },
  { cls := 11, slots := #[.int (25)], vm := .none },
  { cls := 11, slots := #[.int (26)], vm := .none },
  { cls := 11, slots := #[.int (27)], vm := .none },
  { cls := 11, slots := #[.int (28)], vm := .none },
  { cls := 11, slots := #[.int (29)], vm := .none },
  { cls := 11, slots := #[.int (30)], vm := .none },
  { cls := 11, slots := #[.int (31)], vm := .none },
  { cls := 11, slots := #[.int (32)], vm := .none },
  { cls := 11, slots := #[.int (33)], vm := .none },
  { cls := 11, slots := #[.int (34)], vm := .none },
  { cls := 11, slots := #[.int (35)], vm := .none },
  { cls := 11, slots := #[.int (36)], vm := .none },
  { cls := 11, slots := #[.int (37)], vm := .none },
  { cls := 11, slots := #[.int (38)], vm := .none },
  { cls := 11, slots := #[.int (39)], vm := .none },
  { cls := 11, slots := #[.int (40)], vm := .none },
  { cls := 11, slots := #[.int (41)], vm := .none },
  { cls := 11, slots := #[.int (42)], vm := .none },
  { cls := 11, slots := #[.int (43)], vm := .none },
  { cls := 11, slots := #[.int (44)], vm := .none },
  { cls := 11, slots := #[.int (45)], vm := .none },
  { cls := 11, slots := #[.int (46)], vm := .none },
  { cls := 11, slots := #[.int (47)], vm := .none },
  { cls := 11, slots := #[.int (48)], vm := .none },
  { cls := 11, slots := #[.int (49)], vm := .none },
  { cls := 11, slots := #[.int (50)], vm := .none },
  { cls := 11, slots := #[.int (51)], vm := .none },
  { cls := 11, slots := #[.int (52)], vm := .none },
  { cls := 11, slots := #[.int (53)], vm := .none },
  { cls := 11, slots := #[.int (54)], vm := .none },
  { cls := 11, slots := #[.int (55)], vm := .none },
  { cls := 11, slots := #[.int (56)], vm := .none },
  { cls := 11, slots := #[.int (57)], vm := .none },
  { cls := 11, slots := #[.int (58)], vm := .none },
  { cls := 11, slots := #[.int (59)], vm := .none },
  { cls := 11, slots := #[.int (60)], vm := .none },
  { cls := 11, slots := #[.int (61)], vm := .none },
  { cls := 11, slots := #[.int (62)], vm := .none },
  { cls := 11, slots := #[.int (63)], vm := .none },
  { cls := 11, slots := #[.int (64)], vm := .none },
  { cls := 11, slots := #[.int (65)], vm := .none },
  { cls := 11, slots := #[.int (66)], vm := .none },
  { cls := 11, slots := #[.int (67)], vm := .none },
  { cls := 11, slots := #[.int (68)], vm := .none },
  { cls := 11, slots := #[.int (69)], vm := .none },
  { cls := 11, slots := #[.int (70)], vm := .none },
  { cls := 11, slots := #[.int (71)], vm := .none },
  { cls := 11, slots := #[.int (72)], vm := .none },
  { cls := 11, slots := #[.int (73)], vm := .none },
  { cls := 11, slots := #[.int (74)], vm := .none },
  { cls := 11, slots := #[.int (75)], vm := .none },
  { cls := 11, slots := #[.int (76)], vm := .none },
  { cls := 11, slots := #[.int (77)], vm := .none },
  { cls := 11, slots := #[.int (78)], vm := .none },
  { cls := 11, slots := #[.int (79)], vm := .none },
  { cls := 11, slots := #[.int (80)], vm := .none },
  { cls := 11, slots := #[.int (81)], vm := .none },
  { cls := 11, slots := #[.int (82)], vm := .none },
  { cls := 11, slots := #[.int (83)], vm := .none },
  { cls := 11, slots := #[.int (84)], vm := .none },
  { cls := 11, slots := #[.int (85)], vm := .none },
  { cls := 11, slots := #[.int (86)], vm := .none },
  { cls := 11, slots := #[.int (87)], vm := .none },
  { cls := 11, slots := #[.int (88)], vm := .none },
  { cls := 11, slots := #[.int (89)], vm := .none },
  { cls := 11, slots := #[.int (90)], vm := .none },
  { cls := 11, slots := #[.int (91)], vm := .none },
  { cls := 11, slots := #[.int (92)], vm := .none },
  { cls := 11, slots := #[.int (93)], vm := .none },
  { cls := 11, slots := #[.int (94)], vm := .none },
  { cls := 11, slots := #[.int (95)], vm := .none },
  { cls := 11, slots := #[.int (96)], vm := .none },
  { cls := 11, slots := #[.int (97)], vm := .none },
  { cls := 11, slots := #[.int (98)], vm := .none },
  { cls := 11, slots := #[.int (99)], vm := .none },
  { cls := 11, slots := #[.int (100)], vm := .none },
  { cls := 11, slots := #[.int (101)], vm := .none },
  { cls := 11, slots := #[.int (102)], vm := .none },
  { cls := 11, slots := #[.int (103)], vm := .none },
  { cls := 11, slots := #[.int (104)], vm := .none },
  { cls := 11, slots := #[.int (105)], vm := .none },
  { cls := 11, slots := #[.int (106)], vm := .none },
  { cls := 11, slots := #[.int (107)], vm := .none },
  { cls := 11, slots := #[.int (108)], vm := .none },
  { cls := 11, slots := #[.int (109)], vm := .none },
  { cls := 11, slots := #[.int (110)], vm := .none },
  { cls := 11, slots := #[.int (111)], vm := .none },
  { cls := 11, slots := #[.int (112)], vm := .none },
  { cls := 11, slots := #[.int (113)], vm := .none },
  { cls := 11, slots := #[.int (114)], vm := .none },
  { cls := 11, slots := #[.int (115)], vm := .none },
  { cls := 11, slots := #[.int (116)], vm := .none },
  { cls := 11, slots := #[.int (117)], vm := .none },
  { cls := 11, slots := #[.int (118)], vm := .none },
  { cls := 11, slots := #[.int (119)], vm := .none },
  { cls := 11, slots := #[.int (120)], vm := .none },
  { cls := 11, slots := #[.int (121)], vm := .none },
  { cls := 11, slots := #[.int (122)], vm := .none },
  { cls := 11, slots := #[.int (123)], vm := .none },
  { cls := 11, slots := #[.int (124)], vm := .none },
  { cls := 11, slots := #[.int (125)], vm := .none },
  { cls := 11, slots := #[.int (126)], vm := .none },
  { cls := 11, slots := #[.int (127)], vm := .none },
  { cls := 13, slots := #[.long (-128)], vm := .none },
  { cls := 13, slots := #[.long (-127)], vm := .none },
  { cls := 13, slots := #[.long (-126)], vm := .none },
  { cls := 13, slots := #[.long (-125)], vm := .none },
  { cls := 13, slots := #[.long (-124)], vm := .none },
  { cls := 13, slots := #[.long (-123)], vm := .none },
  { cls := 13, slots := #[.long (-122)], vm := .none },
  { cls := 13, slots := #[.long (-121)], vm := .none },
  { cls := 13, slots := #[.long (-120)], vm := .none },
  { cls := 13, slots := #[.long (-119)], vm := .none },
  { cls := 13, slots := #[.long (-118)], vm := .none },
  { cls := 13, slots := #[.long (-117)], vm := .none },
  { cls := 13, slots := #[.long (-116)], vm := .none },
  { cls := 13, slots := #[.long (-115)], vm := .none },
  { cls := 13, slots := #[.long (-114)], vm := .none },
  { cls := 13, slots := #[.long (-113)], vm := .none },
  { cls := 13, slots := #[.long (-112)], vm := .none },
  { cls := 13, slots := #[.long (-111)], vm := .none },
  { cls := 13, slots := #[.long (-110)], vm := .none },
  { cls := 13, slots := #[.long (-109)], vm := .none },
  { cls := 13, slots := #[.long (-108)], vm := .none },
  { cls := 13, slots := #[.long (-107)], vm := .none },
  { cls := 13, slots := #[.long (-106)], vm := .none },
  { cls := 13, slots := #[.long (-105)], vm := .none },
  { cls := 13, slots := #[.long (-104)], vm := .none },
  { cls := 13, slots := #[.long (-103)], vm := .none },
  { cls := 13, slots := #[.long (-102)], vm := .none },
  { cls := 13, slots := #[.long (-101)], vm := .none },
  { cls := 13, slots := #[.long (-100)], vm := .none },
  { cls := 13, slots := #[.long (-99)], vm := .none },
  { cls := 13, slots := #[.long (-98)], vm := .none },
  { cls := 13, slots := #[.long (-97)], vm := .none },
  { cls := 13, slots := #[.long (-96)], vm := .none },
  { cls := 13, slots := #[.long (-95)], vm := .none },
  { cls := 13, slots := #[.long (-94)], vm := .none },
  { cls := 13, slots := #[.long (-93)], vm := .none },
  { cls := 13, slots := #[.long (-92)], vm := .none },
  { cls := 13, slots := #[.long (-91)], vm := .none },
  { cls := 13, slots := #[.long (-90)], vm := .none },
  { cls := 13, slots := #[.long (-89)], vm := .none },
  { cls := 13, slots := #[.long (-88)], vm := .none },
  { cls := 13, slots := #[.long (-87)], vm := .none },
  { cls := 13, slots := #[.long (-86)], vm := .none },
  { cls := 13, slots := #[.long (-85)], vm := .none },
  { cls := 13, slots := #[.long (-84)], vm := .none },
  { cls := 13, slots := #[.long (-83)], vm := .none },
  { cls := 13, slots := #[.long (-82)], vm := .none },
  { cls := 13, slots := #[.long (-81)], vm := .none },
  { cls := 13, slots := #[.long (-80)], vm := .none },
  { cls := 13, slots := #[.long (-79)], vm := .none },
  { cls := 13, slots := #[.long (-78)], vm := .none },
  { cls := 13, slots := #[.long (-77)], vm := .none },
  { cls := 13, slots := #[.long (-76)], vm := .none },
  { cls := 13, slots := #[.long (-75)], vm := .none },
  { cls := 13, slots := #[.long (-74)], vm := .none },
  { cls := 13, slots := #[.long (-73)], vm := .none },
  { cls := 13, slots := #[.long (-72)], vm := .none },
  { cls := 13, slots := #[.long (-71)], vm := .none },
  { cls := 13, slots := #[.long (-70)], vm := .none },
  { cls := 13, slots := #[.long (-69)], vm := .none },
  { cls := 13, slots := #[.long (-68)], vm := .none },
  { cls := 13, slots := #[.long (-67)], vm := .none },
  { cls := 13, slots := #[.long (-66)], vm := .none },
  { cls := 13, slots := #[.long (-65)], vm := .none },
  { cls := 13, slots := #[.long (-64)], vm := .none },
  { cls := 13, slots := #[.long (-63)], vm := .none },
  { cls := 13, slots := #[.long (-62)], vm := .none },
  { cls := 13, slots := #[.long (-61)], vm := .none },
  { cls := 13, slots := #[.long (-60)], vm := .none },
  { cls := 13, slots := #[.long (-59)], vm := .none },
  { cls := 13, slots := #[.long (-58)], vm := .none },
  { cls := 13, slots := #[.long (-57)], vm := .none },
  { cls := 13, slots := #[.long (-56)], vm := .none },
  { cls := 13, slots := #[.long (-55)], vm := .none },
  { cls := 13, slots := #[.long (-54)], vm := .none },
  { cls := 13, slots := #[.long (-53)], vm := .none },
  { cls := 13, slots := #[.long (-52)], vm := .none },
  { cls := 13, slots := #[.long (-51)], vm := .none },
  { cls := 13, slots := #[.long (-50)], vm := .none },
  { cls := 13, slots := #[.long (-49)], vm := .none },
  { cls := 13, slots := #[.long (-48)], vm := .none },
  { cls := 13, slots := #[.long (-47)], vm := .none },
  { cls := 13, slots := #[.long (-46)], vm := .none },
  { cls := 13, slots := #[.long (-45)], vm := .none },
  { cls := 13, slots := #[.long (-44)], vm := .none },
  { cls := 13, slots := #[.long (-43)], vm := .none },
  { cls := 13, slots := #[.long (-42)], vm := .none },
  { cls := 13, slots := #[.long (-41)], vm := .none },
  { cls := 13, slots := #[.long (-40)], vm := .none },
  { cls := 13, slots := #[.long (-39)], vm := .none },
  { cls := 13, slots := #[.long (-38)], vm := .none },
  { cls := 13, slots := #[.long (-37)], vm := .none },
  { cls := 13, slots := #[.long (-36)], vm := .none },
  { cls := 13, slots := #[.long (-35)], vm := .none },
  { cls := 13, slots := #[.long (-34)], vm := .none },
  { cls := 13, slots := #[.long (-33)], vm := .none },
  { cls := 13, slots := #[.long (-32)], vm := .none },
  { cls := 13, slots := #[.long (-31)], vm := .none },
  { cls := 13, slots := #[.long (-30)], vm := .none },
  { cls := 13, slots := #[.long (-29)], vm := .none },
  { cls := 13, slots := #[.long (-28)], vm := .none },
  { cls := 13, slots := #[.long (-27)], vm := .none },
  { cls := 13, slots := #[.long (-26)], vm := .none },
  { cls := 13, slots := #[.long (-25)], vm := .none },
  { cls := 13, slots := #[.long (-24)], vm := .none },
  { cls := 13, slots := #[.long (-23)], vm := .none },
  { cls := 13, slots := #[.long (-22)], vm := .none },
  { cls := 13, slots := #[.long (-21)], vm := .none },
  { cls := 13, slots := #[.long (-20)], vm := .none },
  { cls := 13, slots := #[.long (-19)], vm := .none },
  { cls := 13, slots := #[.long (-18)], vm := .none },
  { cls := 13, slots := #[.long (-17)], vm := .none },
  { cls := 13, slots := #[.long (-16)], vm := .none },
  { cls := 13, slots := #[.long (-15)], vm := .none },
  { cls := 13, slots := #[.long (-14)], vm := .none },
  { cls := 13, slots := #[.long (-13)], vm := .none },
  { cls := 13, slots := #[.long (-12)], vm := .none },
  { cls := 13, slots := #[.long (-11)], vm := .none },
  { cls := 13, slots := #[.long (-10)], vm := .none },
  { cls := 13, slots := #[.long (-9)], vm := .none },
  { cls := 13, slots := #[.long (-8)], vm := .none },
  { cls := 13, slots := #[.long (-7)], vm := .none },
  { cls := 13, slots := #[.long (-6)], vm := .none },
  { cls := 13, slots := #[.long (-5)], vm := .none },
  { cls := 13, slots := #[.long (-4)], vm := .none },
  { cls := 13, slots := #[.long (-3)], vm := .none },
  { cls := 13, slots := #[.long (-2)], vm := .none },
  { cls := 13, slots := #[.long (-1)], vm := .none },
  { cls := 13, slots := #[.long (0)], vm := .none },
  { cls := 13, slots := #[.long (1)], vm := .none },
  { cls := 13, slots := #[.long (2)], vm := .none },
  { cls := 13, slots := #[.long (3)], vm := .none },
  { cls := 13, slots := #[.long (4)], vm := .none },
  { cls := 13, slots := #[.long (5)], vm := .none },
  { cls := 13, slots := #[.long (6)], vm := .none },
  { cls := 13, slots := #[.long (7)], vm := .none },
  { cls := 13, slots := #[.long (8)], vm := .none },
  { cls := 13, slots := #[.long (9)], vm := .none },
  { cls := 13, slots := #[.long (10)], vm := .none },
  { cls := 13, slots := #[.long (11)], vm := .none },
  { cls := 13, slots := #[.long (12)], vm := .none },
  { cls := 13, slots := #[.long (13)], vm := .none },
  { cls := 13, slots := #[.long (14)], vm := .none },
  { cls := 13, slots := #[.long (15)], vm := .none },
  { cls := 13, slots := #[.long (16)], vm := .none },
  { cls := 13, slots := #[.long (17)], vm := .none },
  { cls := 13, slots := #[.long (18)], vm := .none },
  { cls := 13, slots := #[.long (19)], vm := .none },
  { cls := 13, slots := #[.long (20)], vm := .none },
  { cls := 13, slots := #[.long (21)], vm := .none },
  { cls := 13, slots := #[.long (22)], vm := .none },
  { cls := 13, slots := #[.long (23)], vm := .none },
  { cls := 13, slots := #[.long (24)], vm := .none },
  { cls := 13, slots := #[.long (25)], vm := .none },
  { cls := 13, slots := #[.long (26)], vm := .none },
  { cls := 13, slots := #[.long (27)], vm := .none },
  { cls := 13, slots := #[.long (28)], vm := .none },
  { cls := 13, slots := #[.long (29)], vm := .none },
  { cls := 13, slots := #[.long (30)], vm := .none },
  { cls := 13, slots := #[.long (31)], vm := .none },
  { cls := 13, slots := #[.long (32)], vm := .none },
  { cls := 13, slots := #[.long (33)], vm := .none },
  { cls := 13, slots := #[.long (34)], vm := .none },
  { cls := 13, slots := #[.long (35)], vm := .none },
  { cls := 13, slots := #[.long (36)], vm := .none },
  { cls := 13, slots := #[.long (37)], vm := .none },
  { cls := 13, slots := #[.long (38)], vm := .none },
  { cls := 13, slots := #[.long (39)], vm := .none },
  { cls := 13, slots := #[.long (40)], vm := .none },
  { cls := 13, slots := #[.long (41)], vm := .none },
  { cls := 13, slots := #[.long (42)], vm := .none },
  { cls := 13, slots := #[.long (43)], vm := .none },
  { cls := 13, slots := #[.long (44)], vm := .none },
  { cls := 13, slots := #[.long (45)], vm := .none },
  { cls := 13, slots := #[.long (46)], vm := .none },
  { cls := 13, slots := #[.long (47)], vm := .none },
  { cls := 13, slots := #[.long (48)], vm := .none },
  { cls := 13, slots := #[.long (49)], vm := .none },
  { cls := 13, slots := #[.long (50)], vm := .none },
  { cls := 13, slots := #[.long (51)], vm := .none },
  { cls := 13, slots := #[.long (52)], vm := .none },
  { cls := 13, slots := #[.long (53)], vm := .none },
  { cls := 13, slots := #[.long (54)], vm := .none },
  { cls := 13, slots := #[.long (55)], vm := .none },
  { cls := 13, slots := #[.long (56)], vm := .none },
  { cls := 13, slots := #[.long (57)], vm := .none },
  { cls := 13, slots := #[.long (58)], vm := .none },
  { cls := 13, slots := #[.long (59)], vm := .none },
  { cls := 13, slots := #[.long (60)], vm := .none },
  { cls := 13, slots := #[.long (61)], vm := .none },
  { cls := 13, slots := #[.long (62)], vm := .none },
  { cls := 13, slots := #[.long (63)], vm := .none },
  { cls := 13, slots := #[.long (64)], vm := .none },
  { cls := 13, slots := #[.long (65)], vm := .none },
  { cls := 13, slots := #[.long (66)], vm := .none },
  { cls := 13, slots := #[.long (67)], vm := .none },
  { cls := 13, slots := #[.long (68)], vm := .none },
  { cls := 13, slots := #[.long (69)], vm := .none },
  { cls := 13, slots := #[.long (70)], vm := .none },
  { cls := 13, slots := #[.long (71)], vm := .none },
  { cls := 13, slots := #[.long (72)], vm := .none },
  { cls := 13, slots := #[.long (73)], vm := .none },
  { cls := 13, slots := #[.long (74)], vm := .none },
  { cls := 13, slots := #[.long (75)], vm := .none },
  { cls := 13, slots := #[.long (76)], vm := .none },
  { cls := 13, slots := #[.long (77)], vm := .none },
  { cls := 13, slots := #[.long (78)], vm := .none },
  { cls := 13, slots := #[.long (79)], vm := .none },
  { cls := 13, slots := #[.long (80)], vm := .none },
  { cls := 13, slots := #[.long (81)], vm := .none },
  { cls := 13, slots := #[.long (82)], vm := .none },
  { cls := 13, slots := #[.long (83)], vm := .none },
  { cls := 13, slots := #[.long (84)], vm := .none },
  { cls := 13, slots := #[.long (85)], vm := .none },
  { cls := 13, slots := #[.long (86)], vm := .none },
  { cls := 13, slots := #[.long (87)], vm := .none },
  { cls := 13, slots := #[.long (88)], vm := .none },
  { cls := 13, slots := #[.long (89)], vm := .none },
  { cls := 13, slots := #[.long (90)], vm := .none },
  { cls := 13, slots := #[.long (91)], vm := .none },
  { cls := 13, slots := #[.long (92)], vm := .none },
  { cls := 13, slots := #[.long (93)], vm := .none },
  { cls := 13, slots := #[.long (94)], vm := .none },
  { cls := 13, slots := #[.long (95)], vm := .none },
  { cls := 13, slots := #[.long (96)], vm := .none },
  { cls := 13, slots := #[.long (97)], vm := .none },
  { cls := 13, slots := #[.long (98)], vm := .none },
  { cls := 13, slots := #[.long (99)], vm := .none },
  { cls := 13, slots := #[.long (100)], vm := .none },
  { cls := 13, slots := #[.long (101)], vm := .none },
  { cls := 13, slots := #[.long (102)], vm := .none },
  { cls := 13, slots := #[.long (103)], vm := .none },
  { cls := 13, slots := #[.long (104)], vm := .none },
  { cls := 13, slots := #[.long (105)], vm := .none },
  { cls := 13, slots := #[.long (106)], vm := .none },
  { cls := 13, slots := #[.long (107)], vm := .none },
  { cls := 13, slots := #[.long (108)], vm := .none },
  { cls := 13, slots := #[.long (109)], vm := .none },
  { cls := 13, slots := #[.long (110)], vm := .none },
  { cls := 13, slots := #[.long (111)], vm := .none },
  { cls := 13, slots := #[.long (112)], vm := .none },
  { cls := 13, slots := #[.long (113)], vm := .none },
  { cls := 13, slots := #[.long (114)], vm := .none },
  { cls := 13, slots := #[.long (115)], vm := .none },
  { cls := 13, slots := #[.long (116)], vm := .none },
  { cls := 13, slots := #[.long (117)], vm := .none },
  { cls := 13, slots := #[.long (118)], vm := .none },
  { cls := 13, slots := #[.long (119)], vm := .none },
  { cls := 13, slots := #[.long (120)], vm := .none },
  { cls := 13, slots := #[.long (121)], vm := .none },
  { cls := 13, slots := #[.long (122)], vm := .none },
  { cls := 13, slots := #[.long (123)], vm := .none },
  { cls := 13, slots := #[.long (124)], vm := .none },
  { cls := 13, slots := #[.long (125)], vm := .none },
  { cls := 13, slots := #[.long (126)], vm := .none },
  { cls := 13, slots := #[.long (127)], vm := .none },
  { cls := 0, slots := #[], vm := .none },
  { cls := 0, slots := #[], vm := .none },
  { cls := 0, slots := #[], vm := .none },
  { cls := 0, slots := #[], vm := .none }]
def classes : Array Class := #[k0, k1, k2, k3, k4, k5, k6, k7, k8, k9, k10, k11, k12, k13, k14, k15, k16, k17, k18, k19, k20, k21, k22, k23, k24, k25, k26]
def interned : List (Array UInt16 × Addr) := []
def slotsUsed : Nat := 1049
def theMethod : MethodId := ⟨1, 1⟩
def args0 : Array Value := #[.int 0, .int 5, .long 7, .int 65, .int 66]
def aboutOver (below : List Frame) : State where
  vm := { classes := classes, interned := interned.toArray }
  heap := heap
  slotsUsed := slotsUsed
  threads := #[{ frames := .invoking theMethod args0 :: below }]
def below0 : List Frame := [.native { method := ⟨0, 0⟩, args := #[] }]
def about1 : State := aboutOver below0
def p0 : Program := .bare "" "" ""
def e0 : Env := launch0.env 0 0 0
theorem w_frames : about1.frames = Frame.invoking theMethod args0 :: below0 := rfl
set_option maxRecDepth 65536 in
theorem w_args : argsFit about1.vm theMethod args0 = true := by decide +kernel
set_option maxRecDepth 65536 in
theorem w_heap : heapFits about1 = true := by decide +kernel
set_option maxRecDepth 65536 in
theorem w_runnable : about1.curStatus? = some .runnable := by decide +kernel
set_option maxRecDepth 65536 in
theorem w_alone : about1.alone = true := by decide +kernel
set_option maxRecDepth 65536 in
theorem w_named : about1.methodNamed? x = some theMethod := by decide +kernel
set_option maxRecDepth 65536 in
theorem w_hears : about1.hears theMethod below0 = true := by decide +kernel
set_option maxRecDepth 65536 in
theorem w_ripe : about1.ripe theMethod args0 below0 = true := by decide +kernel
theorem w_running : about1.status = .running := rfl
set_option maxRecDepth 65536 in
theorem w_room : about1.hasRoom e0.platform room_1 = true :=
  launch0.hasRoom_least _ room_1 (by decide +kernel) (by decide +kernel) (by decide +kernel) (by decide +kernel) (by decide +kernel) (by decide +kernel)
theorem allAtoms_all (ts : List Jvm.Cond) (a : Array Jvm.Value) (st : Jvm.State) : (allAtoms ts).before a st = ts.all (fun c => c.before a st) := by
  induction ts with
  | nil => rfl
  | cons c t ih =>
    show (Jvm.Cond.and c (allAtoms t)).before a st = _
    rw [Jvm.Cond.before_and, ih, List.all_cons]
def words1 : List Jvm.Cond := Jvm.Cond.code x code maxLocals ret :: tables_1
/-- a 'code' word, met by the world's own term for the bytes: nothing is compared byte by byte -/
theorem code_word {y : MethodName} {bytes : ByteArray} {mx : Nat} {rt : Option FieldType} {a : Array Value} {s : State} {m : MethodId} {meth : Method} {c : Code} (h1 : s.methodNamed? y = some m) (h2 : s.vm.method? m = some meth) (h3 : meth.code = some c) (h4 : c.code = bytes)
    (h5 : (c.maxLocals == mx && c.exceptionTable.isEmpty && decide (c.maxStack ≤ mostOperands) && decide (meth.sig.returnType = rt) && !meth.locks && decide (parseMethodDescriptor y.desc = some meth.sig)) = true) : (Jvm.Cond.code y bytes mx rt).before a s = true := by
  simp only [Bool.and_eq_true, beq_iff_eq, Bool.not_eq_true', decide_eq_true_eq] at h5
  obtain ⟨⟨⟨⟨⟨g1, g2⟩, g3⟩, g4⟩, g5⟩, g6⟩ := h5
  simp [Cond.before, Cond.holds, Cond.value, h1, h2, h3, h4, g1, g2, g3, g4, g5, g6]
def isCode : Jvm.Cond → Bool
  | .code _ _ _ _ => true
  | _ => false
theorem all_split {L : List Jvm.Cond} {P : Jvm.Cond → Bool} (h1 : L.all (fun c => isCode c || P c) = true) (h2 : ∀ c ∈ L.filter isCode, P c = true) : L.all P = true := by
  refine List.all_eq_true.mpr fun c hc => ?_
  have h := List.all_eq_true.mp h1 c hc
  rcases Bool.eq_false_or_eq_true (isCode c) with hi | hi
  · exact h2 c (List.mem_filter.mpr ⟨hc, hi⟩)
  · simpa [hi] using h
set_option maxRecDepth 65536 in
theorem w_c0 : (Jvm.Cond.code x code maxLocals ret).before args0 about1 = true := code_word (m := ⟨1, 1⟩) (meth := k1m1) (c := k1c1) (by decide +kernel) rfl rfl rfl (by decide +kernel)
set_option maxRecDepth 65536 in
theorem w_c1 : (Jvm.Cond.code ({ cls := "java/lang/String", name := "<init>", desc := "([C)V" } : Jvm.MethodName) jdk_42_method_3_code (2 : Nat) (Option.none : Option Jvm.ClassFile.FieldType)).before args0 about1 = true := code_word (m := ⟨7, 1⟩) (meth := k7m1) (c := k7c1) (by decide +kernel) rfl rfl rfl (by decide +kernel)
set_option maxRecDepth 65536 in
theorem w_c2 : (Jvm.Cond.code ({ cls := "java/lang/String", name := "<init>", desc := "([CIILjava/lang/Void;)V" } : Jvm.MethodName) jdk_42_method_149_code (6 : Nat) (Option.none : Option Jvm.ClassFile.FieldType)).before args0 about1 = true := code_word (m := ⟨7, 2⟩) (meth := k7m2) (c := k7c2) (by decide +kernel) rfl rfl rfl (by decide +kernel)
set_option maxRecDepth 65536 in
theorem w_c3 : (Jvm.Cond.code ({ cls := "java/lang/Object", name := "<init>", desc := "()V" } : Jvm.MethodName) object_method_1_code (1 : Nat) (Option.none : Option Jvm.ClassFile.FieldType)).before args0 about1 = true := code_word (m := ⟨0, 0⟩) (meth := k0m0) (c := k0c0) (by decide +kernel) rfl rfl rfl (by decide +kernel)
set_option maxRecDepth 65536 in
theorem w_c4 : (Jvm.Cond.code ({ cls := "java/lang/StringUTF16", name := "compress", desc := "([CII)[B" } : Jvm.MethodName) jdk_52_method_16_code (6 : Nat) (Option.some (Jvm.ClassFile.FieldType.array Jvm.ClassFile.FieldType.byte))).before args0 about1 = true := code_word (m := ⟨8, 2⟩) (meth := k8m2) (c := k8c2) (by decide +kernel) rfl rfl rfl (by decide +kernel)
set_option maxRecDepth 65536 in
theorem w_c5 : (Jvm.Cond.code ({ cls := "java/lang/StringUTF16", name := "compress", desc := "([CI[BII)I" } : Jvm.MethodName) jdk_52_method_21_code (7 : Nat) (Option.some Jvm.ClassFile.FieldType.int)).before args0 about1 = true := code_word (m := ⟨8, 3⟩) (meth := k8m3) (c := k8c3) (by decide +kernel) rfl rfl rfl (by decide +kernel)
set_option maxRecDepth 65536 in
theorem w_c6 : (Jvm.Cond.code ({ cls := "java/lang/StringUTF16", name := "coderFromArrayLen", desc := "([BI)B" } : Jvm.MethodName) jdk_52_method_15_code (2 : Nat) (Option.some Jvm.ClassFile.FieldType.byte)).before args0 about1 = true := code_word (m := ⟨8, 1⟩) (meth := k8m1) (c := k8c1) (by decide +kernel) rfl rfl rfl (by decide +kernel)
set_option maxRecDepth 65536 in
theorem w_c7 : (Jvm.Cond.code ({ cls := "com/example/bough/bough/KeyOrder", name := "isBoundary", desc := "(Ljava/lang/Object;)Z" } : Jvm.MethodName) prog_14_method_18_code (1 : Nat) (Option.some Jvm.ClassFile.FieldType.boolean)).before args0 about1 = true := code_word (m := ⟨9, 0⟩) (meth := k9m0) (c := k9c0) (by decide +kernel) rfl rfl rfl (by decide +kernel)
set_option maxRecDepth 65536 in
theorem w_c8 : (Jvm.Cond.code ({ cls := "java/lang/Integer", name := "valueOf", desc := "(I)Ljava/lang/Integer;" } : Jvm.MethodName) jdk_33_method_22_code (1 : Nat) (Option.some (Jvm.ClassFile.FieldType.object "java/lang/Integer"))).before args0 about1 = true := code_word (m := ⟨11, 0⟩) (meth := k11m0) (c := k11c0) (by decide +kernel) rfl rfl rfl (by decide +kernel)
set_option maxRecDepth 65536 in
theorem w_c9 : (Jvm.Cond.code ({ cls := "java/lang/Long", name := "valueOf", desc := "(J)Ljava/lang/Long;" } : Jvm.MethodName) jdk_35_method_24_code (3 : Nat) (Option.some (Jvm.ClassFile.FieldType.object "java/lang/Long"))).before args0 about1 = true := code_word (m := ⟨13, 0⟩) (meth := k13m0) (c := k13c0) (by decide +kernel) rfl rfl rfl (by decide +kernel)
set_option maxRecDepth 65536 in
theorem w_c10 : (Jvm.Cond.code ({ cls := "java/lang/Long", name := "<init>", desc := "(J)V" } : Jvm.MethodName) jdk_35_method_26_code (3 : Nat) (Option.none : Option Jvm.ClassFile.FieldType)).before args0 about1 = true := code_word (m := ⟨13, 1⟩) (meth := k13m1) (c := k13c1) (by decide +kernel) rfl rfl rfl (by decide +kernel)
set_option maxRecDepth 65536 in
theorem w_c11 : (Jvm.Cond.code ({ cls := "java/lang/Number", name := "<init>", desc := "()V" } : Jvm.MethodName) jdk_18_method_1_code (1 : Nat) (Option.none : Option Jvm.ClassFile.FieldType)).before args0 about1 = true := code_word (m := ⟨10, 0⟩) (meth := k10m0) (c := k10c0) (by decide +kernel) rfl rfl rfl (by decide +kernel)
set_option maxRecDepth 65536 in
theorem w_c12 : (Jvm.Cond.code ({ cls := "java/lang/Integer", name := "<init>", desc := "(I)V" } : Jvm.MethodName) jdk_33_method_23_code (2 : Nat) (Option.none : Option Jvm.ClassFile.FieldType)).before args0 about1 = true := code_word (m := ⟨11, 1⟩) (meth := k11m1) (c := k11c1) (by decide +kernel) rfl rfl rfl (by decide +kernel)
def codes1 : List Jvm.Cond := [Jvm.Cond.code x code maxLocals ret, Jvm.Cond.code ({ cls := "java/lang/String", name := "<init>", desc := "([C)V" } : Jvm.MethodName) jdk_42_method_3_code (2 : Nat) (Option.none : Option Jvm.ClassFile.FieldType), Jvm.Cond.code ({ cls := "java/lang/String", name := "<init>", desc := "([CIILjava/lang/Void;)V" } : Jvm.MethodName) jdk_42_method_149_code (6 : Nat) (Option.none : Option Jvm.ClassFile.FieldType), Jvm.Cond.code ({ cls := "java/lang/Object", name := "<init>", desc := "()V" } : Jvm.MethodName) object_method_1_code (1 : Nat) (Option.none : Option Jvm.ClassFile.FieldType), Jvm.Cond.code ({ cls := "java/lang/StringUTF16", name := "compress", desc := "([CII)[B" } : Jvm.MethodName) jdk_52_method_16_code (6 : Nat) (Option.some (Jvm.ClassFile.FieldType.array Jvm.ClassFile.FieldType.byte)), Jvm.Cond.code ({ cls := "java/lang/StringUTF16", name := "compress", desc := "([CI[BII)I" } : Jvm.MethodName) jdk_52_method_21_code (7 : Nat) (Option.some Jvm.ClassFile.FieldType.int), Jvm.Cond.code ({ cls := "java/lang/StringUTF16", name := "coderFromArrayLen", desc := "([BI)B" } : Jvm.MethodName) jdk_52_method_15_code (2 : Nat) (Option.some Jvm.ClassFile.FieldType.byte), Jvm.Cond.code ({ cls := "com/example/bough/bough/KeyOrder", name := "isBoundary", desc := "(Ljava/lang/Object;)Z" } : Jvm.MethodName) prog_14_method_18_code (1 : Nat) (Option.some Jvm.ClassFile.FieldType.boolean), Jvm.Cond.code ({ cls := "java/lang/Integer", name := "valueOf", desc := "(I)Ljava/lang/Integer;" } : Jvm.MethodName) jdk_33_method_22_code (1 : Nat) (Option.some (Jvm.ClassFile.FieldType.object "java/lang/Integer")), Jvm.Cond.code ({ cls := "java/lang/Long", name := "valueOf", desc := "(J)Ljava/lang/Long;" } : Jvm.MethodName) jdk_35_method_24_code (3 : Nat) (Option.some (Jvm.ClassFile.FieldType.object "java/lang/Long")), Jvm.Cond.code ({ cls := "java/lang/Long", name := "<init>", desc := "(J)V" } : Jvm.MethodName) jdk_35_method_26_code (3 : Nat) (Option.none : Option Jvm.ClassFile.FieldType), Jvm.Cond.code ({ cls := "java/lang/Number", name := "<init>", desc := "()V" } : Jvm.MethodName) jdk_18_method_1_code (1 : Nat) (Option.none : Option Jvm.ClassFile.FieldType), Jvm.Cond.code ({ cls := "java/lang/Integer", name := "<init>", desc := "(I)V" } : Jvm.MethodName) jdk_33_method_23_code (2 : Nat) (Option.none : Option Jvm.ClassFile.FieldType)]
set_option maxRecDepth 65536 in
theorem codes_eq : words1.filter isCode = codes1 := rfl
theorem w_codes : ∀ c ∈ words1.filter isCode, c.before args0 about1 = true := by
  rw [codes_eq]
  intro c hc
  simp only [codes1, List.mem_cons, List.not_mem_nil, or_false] at hc
  rcases hc with rfl | rfl | rfl | rfl | rfl | rfl | rfl | rfl | rfl | rfl | rfl | rfl | rfl
  · exact w_c0
  · exact w_c1
  · exact w_c2
  · exact w_c3
  · exact w_c4
  · exact w_c5
  · exact w_c6
  · exact w_c7
  · exact w_c8
  · exact w_c9
  · exact w_c10
  · exact w_c11
  · exact w_c12
set_option maxRecDepth 65536 in
theorem w_t1 : (words1.take 24).all (fun c => isCode c || c.before args0 about1) = true := by decide +kernel
set_option maxRecDepth 65536 in
theorem w_t2 : ((words1.drop 24).take 24).all (fun c => isCode c || c.before args0 about1) = true := by decide +kernel
set_option maxRecDepth 65536 in
theorem w_t3 : (((words1.drop 24).drop 24).take 24).all (fun c => isCode c || c.before args0 about1) = true := by decide +kernel
set_option maxRecDepth 65536 in
theorem w_t4 : (((words1.drop 24).drop 24).drop 24).all (fun c => isCode c || c.before args0 about1) = true := by decide +kernel
theorem w_tables : (allAtoms (Jvm.Cond.code x code maxLocals ret :: tables_1)).before args0 about1 = true := by
  rw [allAtoms_all]
  show words1.all (fun c => c.before args0 about1) = true
  refine all_split ?_ w_codes
  rw [← List.take_append_drop 24 words1, List.all_append, w_t1, ← List.take_append_drop 24 (words1.drop 24), List.all_append, w_t2, ← List.take_append_drop 24 ((words1.drop 24).drop 24), List.all_append, w_t3, w_t4]
  rfl
set_option maxRecDepth 65536 in
theorem w_rest : rest_1_c.before args0 about1 = true := by decide +kernel
set_option maxRecDepth 65536 in
theorem w_case : (Jvm.Cond.and given_1 narrow_1).before args0 about1 = true := by decide +kernel
theorem w_applies : (headSpec (Jvm.Cond.code x code maxLocals ret :: tables_1) room_1).applies x e0.platform about1 = true :=
  (Spec.applies_iff w_frames).mpr ⟨w_running, w_runnable, w_alone, w_named, w_hears, w_ripe, w_room, w_tables⟩
theorem atStart : AtStart classFile x code maxLocals ret World_1 tables_1 room_1 Calls_1 rest_1 Pre_1 launch0 p0 e0 about1 theMethod args0 below0 :=
  ⟨lists_1, trivial, launch0.admits_env _ _ _, launch0.least_env, fairChoices_fair.cas, fairChoices_fair.clock, w_frames, w_args, w_heap, w_applies, trivial, w_rest, w_case⟩
end start1
theorem witness_1 : WitnessClaimed_1 := ⟨start1.p0, start1.e0, start1.about1, start1.theMethod, start1.args0, start1.below0, start1.atStart⟩
end Jvm.Pilot.@@N@@
