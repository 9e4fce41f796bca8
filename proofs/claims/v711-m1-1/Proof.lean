import JvmDerived
import JvmDerived.Pilot.@@N@@Statement
import JvmDerived.Pilot.@@N@@Code
set_option linter.unusedVariables false
set_option linter.unusedSimpArgs false
namespace Jvm.RoadKit
open Sem ClassFile Op Lib Jvm.Stand Jvm.Free Jvm.LawKit
section New
variable {p : Program} {l : Launch} {e : Env} {R : Room} {s : State} {m : MethodId} {args : Array Value} {below : List Frame} {meth : Method} {c : Code} {T : State} {locs : List Loc} {cells slots : Nat}
theorem retI (X : Stand p l e R s m args below meth c T locs cells slots) (hx : p.tables.exec = Jvm.exec) {pc : Nat} {Ls : Array Slot} {z : Int32} {rest : List Value} (hret : meth.sig.returnType = some .int) (hd : decode c.code pc = .ok (.ireturn, 1)) {fs : List Frame}
    (hl : ∀ (f : JFrame) (acts : List Action), f.method = m → f.locked = none → f.entered = [] → (doReturn e (T.setTop f) acts (some (.int z))).1 = T.setFrames fs) : Steps p.tables e below (T.setTop (mkF m pc Ls (.int z :: rest))) (T.setFrames fs) := by
  have hm' : T.vm.method? m = some meth := X.method'
  have hn : narrow .int (.int z) = .int z := rfl
  show Steps p.tables e below (T.setTop { method := m, pc := pc, locals := Ls, stack := _ :: rest, locked := none }) _
  jvm_step X.here [X.here.top, hx, hd, hm', hret, hn]
  first | (intro acts; rw [hl _ acts rfl rfl rfl]) | rw [hl _ _ rfl rfl rfl]
  exact Steps.refl _
/-- the return of a reference, null or not -/
theorem own_retR (X : Stand p l e R s m args below meth c T locs cells slots) (hx : p.tables.exec = Jvm.exec) {pc : Nat} {Ls : Array Slot} {w : Value} {ty : FieldType} {rest : List Value} (hret : meth.sig.returnType = some ty) (ht : ty.isReference = true) (hw : w.isRef = true) (hd : decode c.code pc = .ok (.areturn, 1)) {fs : List Frame}
    (hl : ∀ (f : JFrame) (acts : List Action), f.method = m → f.locked = none → f.entered = [] → (doReturn e (T.setTop f) acts (some w)).1 = T.setFrames fs) : Steps p.tables e below (T.setTop (mkF m pc Ls (w :: rest))) (T.setFrames fs) := by
  have hm' : T.vm.method? m = some meth := X.method'
  show Steps p.tables e below (T.setTop { method := m, pc := pc, locals := Ls, stack := _ :: rest, locked := none }) _
  rcases ref_cases hw with rfl | ⟨z, rfl⟩
  all_goals
    jvm_step X.here [X.here.top, hx, hd, hm', hret, ht, Value.isRef]
    first | (intro acts; rw [hl _ acts rfl rfl rfl]) | rw [hl _ _ rfl rfl rfl]
    exact Steps.refl _
/-- what a walk owes from a state and a frame on -/
def own_G (p : Program) (e : Env) (below : List Frame) (s : State) (C N : Nat) (Q : Option Value → Heap → List Loc → Prop) (T : State) (g : JFrame) : Prop :=
  ∃ s₂ o, Steps p.tables e below (T.setTop g) s₂ ∧ s₂.status = .running ∧ Ended s₂ below o ∧ ∃ v L, o = .returned v ∧ Q v s₂.heap L ∧ FrameEnd s o s₂ L C N
variable {C N : Nat} {Q : Option Value → Heap → List Loc → Prop} {T' : State} {g g' : JFrame} {h : Heap}
theorem own_G.step (k : ∀ t, Steps p.tables e below (T'.setTop g') t → Steps p.tables e below (T.setTop g) t) (H : own_G p e below s C N Q T' g') : own_G p e below s C N Q T g := by
  obtain ⟨s₂, o, h1, r⟩ := H
  exact ⟨s₂, o, k _ h1, r⟩
theorem own_G.cast (q : g = g') (H : own_G p e below s C N Q T g') : own_G p e below s C N Q T g := by
  subst q
  exact H
theorem own_G.start (q : g = g') (H : own_G p e below s C N Q T g') : ∃ s₂ o, Steps p.tables e below (T.setTop g) s₂ ∧ s₂.status = .running ∧ Ended s₂ below o ∧ ∃ v L, o = .returned v ∧ Q v s₂.heap L ∧ FrameEnd s o s₂ L C N := by
  subst q
  exact H
theorem own_ret (X : Stand p l e R s m args below meth c T locs cells slots) (eT : T.heap = h) {v : Option Value} (hv : meth.sig.returnType = none → v = none) (hlk : meth.locks = false) (hq : Q v h locs) (hc : cells ≤ C) (hn : slots ≤ N)
    (st : ∀ fs, (∀ (f : JFrame) (acts : List Action), f.method = m → f.locked = none → f.entered = [] → (doReturn e (T.setTop f) acts v).1 = T.setFrames fs) → Steps p.tables e below (T.setTop g) (T.setFrames fs)) : own_G p e below s C N Q T g := by
  obtain ⟨fs, hr, hrun, hended, hW, hsame⟩ := X.leave (v := v) hv hlk
  subst eT
  exact ⟨_, _, st fs hr, hrun, hended, _, _, rfl, hq, ⟨_, rfl⟩, hW, hsame.mono hc hn⟩
/-- the same where String constants may be made on the way -/
def own_GW (p : Program) (e : Env) (below : List Frame) (s : State) (C N : Nat) (Q : Option Value → Heap → List Loc → Prop) (T : State) (g : JFrame) : Prop :=
  ∃ s₂ o, Steps p.tables e below (T.setTop g) s₂ ∧ s₂.status = .running ∧ Ended s₂ below o ∧ ∃ v L, o = .returned v ∧ Q v s₂.heap L ∧ ReturnedEndW s o s₂ L C N
theorem own_GW.step (k : ∀ t, Steps p.tables e below (T'.setTop g') t → Steps p.tables e below (T.setTop g) t) (H : own_GW p e below s C N Q T' g') : own_GW p e below s C N Q T g := by
  obtain ⟨s₂, o, h1, r⟩ := H
  exact ⟨s₂, o, k _ h1, r⟩
theorem own_GW.cast (q : g = g') (H : own_GW p e below s C N Q T g') : own_GW p e below s C N Q T g := by
  subst q
  exact H
theorem own_GW.start (q : g = g') (H : own_GW p e below s C N Q T g') : ∃ s₂ o, Steps p.tables e below (T.setTop g) s₂ ∧ s₂.status = .running ∧ Ended s₂ below o ∧ ∃ v L, o = .returned v ∧ Q v s₂.heap L ∧ ReturnedEndW s o s₂ L C N := by
  subst q
  exact H
theorem own_retW {vm₁ : Vm} {k : Nat} (X : Stand p l e R (s.setVm vm₁) m args below meth c T locs cells slots) (hS : s.Since vm₁ k) (eT : T.heap = h) (hk : k ≤ h.size) {v : Option Value} (hv : meth.sig.returnType = none → v = none) (hlk : meth.locks = false) (hq : Q v h locs) (hc : cells ≤ C) (hn : slots ≤ N)
    (st : ∀ fs, (∀ (f : JFrame) (acts : List Action), f.method = m → f.locked = none → f.entered = [] → (doReturn e (T.setTop f) acts v).1 = T.setFrames fs) → Steps p.tables e below (T.setTop g) (T.setFrames fs)) : own_GW p e below s C N Q T g := by
  obtain ⟨fs, hr, hrun, hended, hW, hsame⟩ := X.leave (v := v) hv hlk
  subst eT
  obtain ⟨a, b, d⟩ := hS.ended (U := T.setFrames fs) hW hk hsame
  exact ⟨_, _, st fs hr, hrun, hended, _, _, rfl, hq, ⟨_, rfl⟩, a, b, d.mono hc hn⟩
/-- the same where the held String constants are kept too -/
def own_GH (Z : State) (EL : List (String × Nat)) (p : Program) (e : Env) (below : List Frame) (s : State) (C N : Nat) (Q : Option Value → Heap → List Loc → Prop) (T : State) (g : JFrame) : Prop :=
  ∃ s₂ o, Steps p.tables e below (T.setTop g) s₂ ∧ s₂.status = .running ∧ Ended s₂ below o ∧ ∃ v L, o = .returned v ∧ Q v s₂.heap L ∧ CHr Z EL s.vm s.heap s₂.vm s₂.heap ∧ ReturnedEndW s o s₂ L C N
section HeldEnd
variable {Z : State} {EL : List (String × Nat)}
theorem own_GH.step (k : ∀ t, Steps p.tables e below (T'.setTop g') t → Steps p.tables e below (T.setTop g) t) (H : own_GH Z EL p e below s C N Q T' g') : own_GH Z EL p e below s C N Q T g := by
  obtain ⟨s₂, o, h1, r⟩ := H
  exact ⟨s₂, o, k _ h1, r⟩
theorem own_GH.cast (q : g = g') (H : own_GH Z EL p e below s C N Q T g') : own_GH Z EL p e below s C N Q T g := by
  subst q
  exact H
theorem own_GH.start (q : g = g') (H : own_GH Z EL p e below s C N Q T g') : ∃ s₂ o, Steps p.tables e below (T.setTop g) s₂ ∧ s₂.status = .running ∧ Ended s₂ below o ∧ ∃ v L, o = .returned v ∧ Q v s₂.heap L ∧ CHr Z EL s.vm s.heap s₂.vm s₂.heap ∧ ReturnedEndW s o s₂ L C N := by
  subst q
  exact H
theorem own_retH {vm₁ : Vm} {k : Nat} {h0 : Heap} {a0 : Array Value} (X : Stand p l e R (s.setVm vm₁) m args below meth c T locs cells slots) (hS : s.Since vm₁ k) (eT : T.heap = h) (hk : k ≤ h.size) (hZ : Z.Warmed39 vm₁) (ew : EW Z a0 EL) (hH : CHv Z EL vm₁ h) (hh : s.heap = h0) (hR : CHr Z EL s.vm h0 vm₁ h) {v : Option Value} (hv : meth.sig.returnType = none → v = none) (hlk : meth.locks = false) (hq : Q v h locs) (hc : cells ≤ C) (hn : slots ≤ N)
    (st : ∀ fs, (∀ (f : JFrame) (acts : List Action), f.method = m → f.locked = none → f.entered = [] → (doReturn e (T.setTop f) acts v).1 = T.setFrames fs) → Steps p.tables e below (T.setTop g) (T.setFrames fs)) : own_GH Z EL p e below s C N Q T g := by
  obtain ⟨fs, hr, hrun, hended, hW, hsame⟩ := X.leave (v := v) hv hlk
  subst eT
  subst hh
  have q := CHv.at X hZ ew hH
  obtain ⟨a, b, d⟩ := hS.ended (U := T.setFrames fs) hW hk hsame
  exact ⟨_, _, st fs hr, hrun, hended, _, _, rfl, hq, (show CHr Z EL s.vm s.heap (T.setFrames fs).vm (T.setFrames fs).heap from hR.trans q), ⟨_, rfl⟩, a, b, d.mono hc hn⟩
end HeldEnd
/-- an array of that length -/
def own_Len (Z : State) (h : Heap) (a : Addr) (n : Int32) : Prop := ∃ (c : Cell) (ty : FieldType), Arr Z h a c ty ∧ c.slots.size = n.toNatClampNeg ∧ ¬ n < 0
theorem own_Len.lt {Z : State} {a : Addr} {n : Int32} (F : own_Len Z h a n) : a < h.size := by
  obtain ⟨c, ty, A, -⟩ := F
  exact A.lt
theorem own_Len.ext {Z : State} {h' : Heap} {a : Addr} {n : Int32} (F : own_Len Z h a n) (E : Ext h h') : own_Len Z h' a n := by
  obtain ⟨c, ty, A, r⟩ := F
  exact ⟨c, ty, A.ext E, r⟩
theorem own_Len.other {Z : State} {h' : Heap} {a b : Addr} {n : Int32} {sl : Nat} {v : Value} (F : own_Len Z h b n) (W : Wr h h' a sl v) (q : b ≠ a) : own_Len Z h' b n := by
  obtain ⟨c, ty, A, r⟩ := F
  exact ⟨c, ty, A.other W q, r⟩
theorem own_Len.keep {Z : State} {h' : Heap} {a : Addr} {n : Int32} {ws : List Addr} (F : own_Len Z h a n) (K : Keep h h' ws) (q : a ∉ ws) : own_Len Z h' a n := by
  obtain ⟨c, ty, A, r⟩ := F
  exact ⟨c, ty, ⟨K.2.1 _ _ A.1 q, A.2⟩, r⟩
theorem own_Len.arv {Z : State} {a : Addr} {k : ClassId} {ty : FieldType} {n : Int32} {vs : List Value} {d : Value} (F : Arv Z h a k ty n vs d) : own_Len Z h a n := by
  obtain ⟨c, A, -, S, N, -⟩ := F
  exact ⟨c, ty, A, S, N⟩
theorem own_Len.start {Z : State} {a : Addr} {c : Cell} {ty : FieldType} {z : Int32} (A : Arr Z h a c ty) (q : c.slots.size < 2 ^ 31) (e : c.slots.size.toInt32 = z) (hz : ¬ z < 0) : own_Len Z h a z :=
  ⟨c, ty, A, by rw [← e]; simp only [Int32.toNatClampNeg, len_toInt q]; rfl, hz⟩
theorem own_join {α : Sort _} {P : α → Prop} {G : JFrame → Prop} {g : JFrame} (F : α → JFrame) (h1 : ∀ t, P t → G (F t)) (h2 : (∀ t, P t → G (F t)) → G g) : G g := h2 h1
/-- a byte of a byte[] -/
def own_At (Z : State) (h : Heap) (a : Addr) (i b : Int32) : Prop := ∃ c : Cell, Arr Z h a c .byte ∧ ¬ (i < 0 ∨ c.slots.size ≤ i.toNatClampNeg) ∧ c.slots[i.toNatClampNeg]? = some (.int b)
theorem own_At.arv {Z : State} {a : Addr} {k : ClassId} {n i b : Int32} {vs : List Value} {d : Value} (F : Arv Z h a k .byte n vs d) (h1 : ¬ i < 0 ∧ i < n) (h2 : vs.getD i.toNatClampNeg d = .int b) : own_At Z h a i b := by
  obtain ⟨c, A, -, S, N, H, -⟩ := F
  exact ⟨c, A, inb_of S h1, H.at (inb_of S h1) h2⟩
theorem own_cat {v : Value} (hv : v.isRef = true) : v.category = 1 := by rcases ref_cases hv with rfl | ⟨z, rfl⟩ <;> rfl
theorem own_fits {v : Value} {ty : FieldType} (hv : v.isRef = true) (ht : ty.isReference = true) : fits ty v = true := by
  rcases ref_cases hv with rfl | ⟨z, rfl⟩ <;> cases ty <;> first | rfl | (cases ht; done) | simp [fits]
theorem own_narrow {v : Value} {ty : FieldType} (hv : v.isRef = true) (ht : ty.isReference = true) : narrow ty v = v := by
  rcases ref_cases hv with rfl | ⟨z, rfl⟩ <;> cases ty <;> first | rfl | (cases ht; done)
theorem Old.le {Z : State} {n0 : Nat} (X : Old Z n0 h) : n0 ≤ h.size := X.1 ▸ X.2.1
end New
end Jvm.RoadKit
namespace Jvm.Pilot.@@N@@
open Jvm Jvm.ClassFile Sem Op Lib Jvm.Free Jvm.Stand Jvm.LawKit Jvm.RoadKit Bundle Jvm.Pilot.@@N@@.Jvm.D
theorem own_toInt {a b : Int32} (h : a.toInt = b.toInt) : a = b := Int32.toInt_inj.mp h
theorem own_four (x : Int32) : (x &&& (3 : Int32)) = (0 : Int32) ∨ (x &&& (3 : Int32)) = (1 : Int32) ∨ (x &&& (3 : Int32)) = (2 : Int32) ∨ (x &&& (3 : Int32)) = (3 : Int32) := by
  have h1 := c_mask x (3 : Int32) 2 (by decide) (by decide)
  have h3 : (x &&& (3 : Int32)).toInt = 0 ∨ (x &&& (3 : Int32)).toInt = 1 ∨ (x &&& (3 : Int32)).toInt = 2 ∨ (x &&& (3 : Int32)).toInt = 3 := by omega
  rcases h3 with h | h | h | h
  · exact Or.inl (own_toInt h)
  · exact Or.inr (Or.inl (own_toInt h))
  · exact Or.inr (Or.inr (Or.inl (own_toInt h)))
  · exact Or.inr (Or.inr (Or.inr ((own_toInt h))))
theorem own_len {args : Array Value} {s : State} {t : Term} {a : Addr} {cl : Cell} {n : Int32} (ht : t.eval args s none [] s = some (.ref a)) (ha : s.arrayAt? a = some cl) (h : (Term.length t).eval args s none [] s = some (.int n)) : cl.slots.size < 2 ^ 31 ∧ cl.slots.size.toInt32 = n := by
  by_cases q : cl.slots.size < 2147483648
  · simp [Term.eval, ht, ha, q] at h
    exact ⟨q, h⟩
  · simp [Term.eval, ht, ha, q] at h
theorem own_idx {args : Array Value} {s : State} {j : Int32} (hj : ¬ j < 0) : (Term.index 0).eval args s none [j.toNatClampNeg] s = some (.int j) := idx_at hj
theorem own_sub {args : Array Value} {s : State} {idx : List Nat} {a : Term} {x y : Int32} (ha : a.eval args s none idx s = some (.int x)) : (Term.sub a (.int y)).eval args s none idx s = some (.int (x - y)) := by simp [Term.eval, ha]
theorem own_box_in {i : Int32} {cc : Cell} (S : cc.slots.size = (256 : Int32).toNatClampNeg) (h1 : ¬ i < (-128 : Int32)) (h2 : ¬ (127 : Int32) < i) : ¬ ((i + (128 : Int32)) < 0 ∨ cc.slots.size ≤ (i + (128 : Int32)).toNatClampNeg) := by
  refine inb_of S ?_
  simp only [Int32.lt_iff_toInt_lt, Int32.toInt_add] at h1 h2 ⊢
  have e1 : (-128 : Int32).toInt = -128 := by decide
  have e2 : (127 : Int32).toInt = 127 := by decide
  have e3 : (128 : Int32).toInt = 128 := by decide
  have e4 : (256 : Int32).toInt = 256 := by decide
  have e5 : (0 : Int32).toInt = 0 := by decide
  rw [e1] at h1
  rw [e2] at h2
  rw [e3, e4, e5, bmod32 (by omega) (by omega)]
  omega
def own_pk (i : Int32) (a b c : Addr) : Value := if i = (1 : Int32) then .ref a else if i = (2 : Int32) then .ref b else if i = (3 : Int32) then .ref c else .null
theorem own_pk_ref (i : Int32) (a b c : Addr) : (own_pk i a b c).isRef = true := by
  unfold own_pk
  split <;> (try split) <;> (try split) <;> rfl
def own_holds (l r c : Value) : Int32 := if l = c then 1 else if r = c then 1 else 0
theorem own_pk_inj {i j : Int32} {a b c : Addr} (hi : i = (0 : Int32) ∨ i = (1 : Int32) ∨ i = (2 : Int32) ∨ i = (3 : Int32)) (hj : j = (0 : Int32) ∨ j = (1 : Int32) ∨ j = (2 : Int32) ∨ j = (3 : Int32)) (h1 : a ≠ b) (h2 : a ≠ c) (h3 : b ≠ c) : own_pk i a b c = own_pk j a b c ↔ i = j := by
  rcases hi with rfl | rfl | rfl | rfl <;> rcases hj with rfl | rfl | rfl | rfl <;> simp [own_pk, h1, h2, h3, h1.symm, h2.symm, h3.symm]
theorem own_fin {i j k : Int32} {a b c : Addr} (hi : i = (0 : Int32) ∨ i = (1 : Int32) ∨ i = (2 : Int32) ∨ i = (3 : Int32)) (hj : j = (0 : Int32) ∨ j = (1 : Int32) ∨ j = (2 : Int32) ∨ j = (3 : Int32)) (hk : k = (0 : Int32) ∨ k = (1 : Int32) ∨ k = (2 : Int32) ∨ k = (3 : Int32)) (h1 : a ≠ b) (h2 : a ≠ c) (h3 : b ≠ c) :
    own_holds (own_pk i a b c) (own_pk j a b c) (own_pk k a b c) = if i = k then 1 else if j = k then 1 else 0 := by
  simp only [own_holds, own_pk_inj hi hk h1 h2 h3, own_pk_inj hj hk h1 h2 h3]
theorem d3_0 : decode prog_59_method_1_code 0 = .ok (.aload_n 0, 1) := by decide +kernel
theorem d3_1 : decode prog_59_method_1_code 1 = .ok (.invokespecial 3, 3) := by decide +kernel
theorem d3_4 : decode prog_59_method_1_code 4 = .ok (.return_, 1) := by decide +kernel
theorem pn_com_2fexample_2fbough_2fbough_2fNode : plainName "com/example/bough/bough/Node" = true := by first | (simp [plainName, overriddenIn]; done) | decide +kernel
theorem ef_nodeinit (m : MethodId) (a : Addr) : entryFrame m #[(.ref a)] 1 = mkF m 0 #[.val (.ref a)] [] := by
  first | (simp [entryFrame, mkF, argsToLocals, Value.category]; done) | rfl
def Q_nodeinit (Z : State) (a : Addr) (h0 : Heap) (n0 : Nat) (v : Option Value) (h : Heap) (L : List Loc) : Prop := v = none ∧ Fr n0 L ∧ h = h0
set_option maxRecDepth 65536 in
set_option maxHeartbeats 40000000 in
theorem rm_nodeinit (l : Launch) (Z : State) (a0 : Array Value) (hw : ∀ d ∈ tables_1, d.before a0 Z = true) (ws : List Jvm.Cond) (a : Addr) (h0 : Heap) (n0 : Nat) (O0 : Old Z n0 h0) :
    MetFree l (⟨"com/example/bough/bough/Node", "<init>", "()V"⟩ : MethodName) (head1 (Jvm.Cond.code (⟨"com/example/bough/bough/Node", "<init>", "()V"⟩ : MethodName) prog_59_method_1_code 1 none :: ws) ({ frames := 1, cells := 0, slots := 0, locals := 12 } : Room)) (fun aq_ Uq_ => aq_ = #[(.ref a)] ∧ Z.Warmed39 Uq_.vm ∧ Uq_.heap = h0) (fun _ _ _ _ _ => True) (fun _ Uq_ oq_ Ur_ => ∃ vq_ Lq_, oq_ = .returned vq_ ∧ Q_nodeinit Z a h0 n0 vq_ Ur_.heap Lq_ ∧ FrameEnd Uq_ oq_ Ur_ Lq_ ({ frames := 1, cells := 0, slots := 0, locals := 12 } : Room).cells ({ frames := 1, cells := 0, slots := 0, locals := 12 } : Room).slots) := by
  refine MetFree.of_bodySF (plainFor_of_name pn_com_2fexample_2fbough_2fbough_2fNode) hisR ?_
  intro p e s m args below meth c s₁ Bd hml0 hP hK
  obtain ⟨rfl, hZ, hh⟩ := hP
  have hx := Bd.exec
  have hby := Bd.bytes
  have hml : c.maxLocals = 1 := hml0
  have hown : s.vm.findClass "com/example/bough/bough/Node" = some m.cls := findClass_of_methodNamed Bd.named
  have hnm := (name_of_methodNamed Bd.named Bd.method).1
  have X0 : Stand p l e ({ frames := 1, cells := 0, slots := 0, locals := 12 } : Room) s m #[(.ref a)] below meth c s₁ [] 0 0 := Stand.of_body Bd
  have e0 : s₁.heap = h0 := by rw [← hh, Bd.state]; rfl
  have N0 := Fr.nil n0
  have K0 := Keep.refl h0 []
  refine own_G.start (Q := Q_nodeinit Z a h0 n0) (ef_nodeinit m a) ?_
  refine own_G.step (g' := (mkF m 1 #[.val (.ref a)] [(.ref a)])) (fun tq_ kq_ => XS.aloadN X0.here hx rfl (hb hby d3_0) rfl rfl kq_) ?_
  obtain ⟨T1, X1, e1, st1⟩ := initO X0 hx hZ hown (hw _ (List.mem_of_getElem? (i := 16) rfl)) (hw _ (List.mem_of_getElem? (i := 17) rfl)) (hw _ (List.mem_of_getElem? (i := 18) rfl)) e0 (g := (mkF m 1 #[.val (.ref a)] [(.ref a)])) rfl (by rw [hml]; rfl) rfl (hb hby d3_1) (by decide) (W := 0) (by show 2 * 0 + _ ≤ _; exact Nat.le_of_eq rfl) (by decide)
  refine own_G.step (T' := T1) (g' := (mkF m 4 #[.val (.ref a)] [])) st1 ?_
  exact own_ret X1 e1 (v := none) (fun _ => rfl) Bd.notSynchronized ⟨rfl, N0, rfl⟩ (by decide) (by decide) (fun fs hr => X1.returnOut hx Bd.returns (hb hby d3_4) hr)
theorem pd__28_29V : parseMethodDescriptor "()V" = some ⟨[], none⟩ := by decide +kernel
theorem d2_0 : decode prog_66_method_2_code 0 = .ok (.aload_n 0, 1) := by decide +kernel
theorem d2_1 : decode prog_66_method_2_code 1 = .ok (.invokespecial 9, 3) := by decide +kernel
theorem d2_4 : decode prog_66_method_2_code 4 = .ok (.aload_n 0, 1) := by decide +kernel
theorem d2_5 : decode prog_66_method_2_code 5 = .ok (.aload_n 1, 1) := by decide +kernel
theorem d2_6 : decode prog_66_method_2_code 6 = .ok (.putfield 14, 3) := by decide +kernel
theorem d2_9 : decode prog_66_method_2_code 9 = .ok (.aload_n 0, 1) := by decide +kernel
theorem d2_10 : decode prog_66_method_2_code 10 = .ok (.aload_n 2, 1) := by decide +kernel
theorem d2_11 : decode prog_66_method_2_code 11 = .ok (.putfield 18, 3) := by decide +kernel
theorem d2_14 : decode prog_66_method_2_code 14 = .ok (.aload_n 0, 1) := by decide +kernel
theorem d2_15 : decode prog_66_method_2_code 15 = .ok (.aload_n 3, 1) := by decide +kernel
theorem d2_16 : decode prog_66_method_2_code 16 = .ok (.putfield 21, 3) := by decide +kernel
theorem d2_19 : decode prog_66_method_2_code 19 = .ok (.aload_n 0, 1) := by decide +kernel
theorem d2_20 : decode prog_66_method_2_code 20 = .ok (.iload 4, 2) := by decide +kernel
theorem d2_22 : decode prog_66_method_2_code 22 = .ok (.i2s, 1) := by decide +kernel
theorem d2_23 : decode prog_66_method_2_code 23 = .ok (.putfield 25, 3) := by decide +kernel
theorem d2_26 : decode prog_66_method_2_code 26 = .ok (.aload_n 0, 1) := by decide +kernel
theorem d2_27 : decode prog_66_method_2_code 27 = .ok (.iload 5, 2) := by decide +kernel
theorem d2_29 : decode prog_66_method_2_code 29 = .ok (.i2s, 1) := by decide +kernel
theorem d2_30 : decode prog_66_method_2_code 30 = .ok (.putfield 29, 3) := by decide +kernel
theorem d2_33 : decode prog_66_method_2_code 33 = .ok (.aload_n 0, 1) := by decide +kernel
theorem d2_34 : decode prog_66_method_2_code 34 = .ok (.iload 6, 2) := by decide +kernel
theorem d2_36 : decode prog_66_method_2_code 36 = .ok (.i2s, 1) := by decide +kernel
theorem d2_37 : decode prog_66_method_2_code 37 = .ok (.putfield 32, 3) := by decide +kernel
theorem d2_40 : decode prog_66_method_2_code 40 = .ok (.return_, 1) := by decide +kernel
theorem pn_com_2fexample_2fbough_2fbough_2fNode_24Leaf : plainName "com/example/bough/bough/Node$Leaf" = true := by first | (simp [plainName, overriddenIn]; done) | decide +kernel
theorem ef_leaf6 (m : MethodId) (a : Addr) (k : Addr) (va : Addr) (s1 : Int32) (s2 : Int32) (s3 : Int32) : entryFrame m #[(.ref a), (.ref k), (.ref va), .null, (.int s1), (.int s2), (.int s3)] 7 = mkF m 0 #[.val (.ref a), .val (.ref k), .val (.ref va), .val .null, .val (.int s1), .val (.int s2), .val (.int s3)] [] := by
  first | (simp [entryFrame, mkF, argsToLocals, Value.category]; done) | rfl
def Q_leaf6 (Z : State) (a : Addr) (k : Addr) (va : Addr) (s1 : Int32) (s2 : Int32) (s3 : Int32) (h0 : Heap) (n0 : Nat) (v : Option Value) (h : Heap) (L : List Loc) : Prop := v = none ∧ Fr n0 L ∧ Keep h0 h [a] ∧ Exa Z h a "com/example/bough/bough/Node$Leaf"
set_option maxRecDepth 65536 in
set_option maxHeartbeats 40000000 in
theorem rm_leaf6 (l : Launch) (Z : State) (a0 : Array Value) (hw : ∀ d ∈ tables_1, d.before a0 Z = true) (ws : List Jvm.Cond) (a : Addr) (k : Addr) (va : Addr) (s1 : Int32) (s2 : Int32) (s3 : Int32) (h0 : Heap) (n0 : Nat) (O0 : Old Z n0 h0) (F_keys : Fld Z h0 a "com/example/bough/bough/Node$Leaf" "keys" "[Ljava/lang/Object;" .null) (F_values : Fld Z h0 a "com/example/bough/bough/Node$Leaf" "values" "[Ljava/lang/Object;" .null) (F_digests : Fld Z h0 a "com/example/bough/bough/Node$Leaf" "digests" "[I" .null) (F_start : Fld Z h0 a "com/example/bough/bough/Node$Leaf" "start" "S" (.int (0 : Int32))) (F_end : Fld Z h0 a "com/example/bough/bough/Node$Leaf" "end" "S" (.int (0 : Int32))) (F_inserted : Fld Z h0 a "com/example/bough/bough/Node$Leaf" "inserted" "S" (.int (0 : Int32))) (E0 : Exa Z h0 a "com/example/bough/bough/Node$Leaf") (ga : n0 ≤ a) :
    MetFree l (⟨"com/example/bough/bough/Node$Leaf", "<init>", "([Ljava/lang/Object;[Ljava/lang/Object;[IIII)V"⟩ : MethodName) (head1 (Jvm.Cond.code (⟨"com/example/bough/bough/Node$Leaf", "<init>", "([Ljava/lang/Object;[Ljava/lang/Object;[IIII)V"⟩ : MethodName) prog_66_method_2_code 7 none :: ws) ({ frames := 2, cells := 0, slots := 0, locals := 24 } : Room)) (fun aq_ Uq_ => aq_ = #[(.ref a), (.ref k), (.ref va), .null, (.int s1), (.int s2), (.int s3)] ∧ Z.Warmed39 Uq_.vm ∧ Uq_.heap = h0) (fun _ _ _ _ _ => True) (fun _ Uq_ oq_ Ur_ => ∃ vq_ Lq_, oq_ = .returned vq_ ∧ Q_leaf6 Z a k va s1 s2 s3 h0 n0 vq_ Ur_.heap Lq_ ∧ FrameEnd Uq_ oq_ Ur_ Lq_ ({ frames := 2, cells := 0, slots := 0, locals := 24 } : Room).cells ({ frames := 2, cells := 0, slots := 0, locals := 24 } : Room).slots) := by
  refine MetFree.of_bodySF (plainFor_of_name pn_com_2fexample_2fbough_2fbough_2fNode_24Leaf) hisR ?_
  intro p e s m args below meth c s₁ Bd hml0 hP hK
  obtain ⟨rfl, hZ, hh⟩ := hP
  have hx := Bd.exec
  have hby := Bd.bytes
  have hml : c.maxLocals = 7 := hml0
  have hown : s.vm.findClass "com/example/bough/bough/Node$Leaf" = some m.cls := findClass_of_methodNamed Bd.named
  have hnm := (name_of_methodNamed Bd.named Bd.method).1
  have X0 : Stand p l e ({ frames := 2, cells := 0, slots := 0, locals := 24 } : Room) s m #[(.ref a), (.ref k), (.ref va), .null, (.int s1), (.int s2), (.int s3)] below meth c s₁ [] 0 0 := Stand.of_body Bd
  have e0 : s₁.heap = h0 := by rw [← hh, Bd.state]; rfl
  have N0 := Fr.nil n0
  have K0 := Keep.refl h0 [a]
  refine own_G.start (Q := Q_leaf6 Z a k va s1 s2 s3 h0 n0) (ef_leaf6 m a k va s1 s2 s3) ?_
  refine own_G.step (g' := (mkF m 1 #[.val (.ref a), .val (.ref k), .val (.ref va), .val .null, .val (.int s1), .val (.int s2), .val (.int s3)] [(.ref a)])) (fun tq_ kq_ => XS.aloadN X0.here hx rfl (hb hby d2_0) rfl rfl kq_) ?_
  obtain ⟨_, _, ⟨T1, L1, k1, n1⟩, -, X1, ⟨Lc1, hQ1, l1, y1, z1⟩, st1⟩ := X0.specialBack hx (y := (⟨"com/example/bough/bough/Node", "<init>", "()V"⟩ : MethodName)) rfl hown (mvT hZ (hw _ (List.mem_of_getElem? (i := 11) rfl))) (mvT hZ (hw _ (List.mem_of_getElem? (i := 12) rfl))) (mvT hZ (hw _ (List.mem_of_getElem? (i := 15) rfl))) (by decide) (backOf (W := 0) (rm_nodeinit l Z a0 hw [] a h0 n0 O0 ) hZ (hw _ (List.mem_of_getElem? (i := 15) rfl)) (hw _ (List.mem_of_getElem? (i := 14) rfl)) (by decide) (by decide)) (g := (mkF m 1 #[.val (.ref a), .val (.ref k), .val (.ref va), .val .null, .val (.int s1), .val (.int s2), .val (.int s3)] [(.ref a)])) rfl (by rw [hml]; rfl) (Steps.refl _) (a := a) (argsL := []) (rest := []) (lenOf pd__28_29V rfl) rfl (by show 2 * 0 + _ ≤ _; exact Nat.le_of_eq rfl) (hb hby d2_1) (fun _ _ => ⟨rfl, e0, (by decide : 0 + 0 ≤ _), (by decide : 0 + 0 ≤ _)⟩)
  dsimp only [Pt.U, Pt.locs, Pt.cells, Pt.slots] at X1 l1 y1 z1 st1 hQ1
  subst l1 y1 z1
  obtain ⟨rfl, Nq1, P2⟩ := hQ1
  have N1 := Fr.app N0 Nq1
  refine own_G.step (T' := T1) (g' := (mkF m 4 #[.val (.ref a), .val (.ref k), .val (.ref va), .val .null, .val (.int s1), .val (.int s2), .val (.int s3)] [])) (fun tq_ kq_ => st1.trans kq_) ?_
  refine own_G.step (g' := (mkF m 5 #[.val (.ref a), .val (.ref k), .val (.ref va), .val .null, .val (.int s1), .val (.int s2), .val (.int s3)] [(.ref a)])) (fun tq_ kq_ => XS.aloadN X1.here hx rfl (hb hby d2_4) rfl rfl kq_) ?_
  refine own_G.step (g' := (mkF m 6 #[.val (.ref a), .val (.ref k), .val (.ref va), .val .null, .val (.int s1), .val (.int s2), .val (.int s3)] [(.ref k), (.ref a)])) (fun tq_ kq_ => XS.aloadN X1.here hx rfl (hb hby d2_5) rfl rfl kq_) ?_
  obtain ⟨T3, h3, X3, e3, W3, st3⟩ := putF X1 hx hZ hown (host := "") (Or.inl (hw _ (List.mem_of_getElem? (i := 19) rfl))) Via.refl P2 F_keys E0 (Or.inr ⟨(hw _ (List.mem_of_getElem? (i := 20) rfl)), rfl, hnm⟩) (hw _ (List.mem_of_getElem? (i := 1) rfl)) (ty := (.array (.object "java/lang/Object"))) (by decide) rfl rfl (g := (mkF m 6 #[.val (.ref a), .val (.ref k), .val (.ref va), .val .null, .val (.int s1), .val (.int s2), .val (.int s3)] [(.ref k), (.ref a)])) rfl rfl (hb hby d2_6)
  have N3 := Fr.snoc X3 N1 ga
  have F4 := F_keys.same W3
  have F5 := F_values.other W3 (Or.inr (slot_ne (Or.inr (hw _ (List.mem_of_getElem? (i := 22) rfl))) (Or.inr (hw _ (List.mem_of_getElem? (i := 20) rfl))) (by decide) (t := (.array (.object "java/lang/Object"))) (t' := (.array (.object "java/lang/Object"))) (by decide) (by decide)))
  have F6 := F_digests.other W3 (Or.inr (slot_ne (Or.inr (hw _ (List.mem_of_getElem? (i := 24) rfl))) (Or.inr (hw _ (List.mem_of_getElem? (i := 20) rfl))) (by decide) (t := (.array .int)) (t' := (.array (.object "java/lang/Object"))) (by decide) (by decide)))
  have F7 := F_start.other W3 (Or.inr (slot_ne (Or.inr (hw _ (List.mem_of_getElem? (i := 26) rfl))) (Or.inr (hw _ (List.mem_of_getElem? (i := 20) rfl))) (by decide) (t := .short) (t' := (.array (.object "java/lang/Object"))) (by decide) (by decide)))
  have F8 := F_end.other W3 (Or.inr (slot_ne (Or.inr (hw _ (List.mem_of_getElem? (i := 28) rfl))) (Or.inr (hw _ (List.mem_of_getElem? (i := 20) rfl))) (by decide) (t := .short) (t' := (.array (.object "java/lang/Object"))) (by decide) (by decide)))
  have F9 := F_inserted.other W3 (Or.inr (slot_ne (Or.inr (hw _ (List.mem_of_getElem? (i := 30) rfl))) (Or.inr (hw _ (List.mem_of_getElem? (i := 20) rfl))) (by decide) (t := .short) (t' := (.array (.object "java/lang/Object"))) (by decide) (by decide)))
  have F10 := E0.wr W3
  have O11 := O0.wr W3 ga
  have K12 := K0.wr W3 (Or.inl (List.mem_of_getElem? (i := 0) rfl))
  refine own_G.step (T' := T3) (g' := (mkF m 9 #[.val (.ref a), .val (.ref k), .val (.ref va), .val .null, .val (.int s1), .val (.int s2), .val (.int s3)] [])) st3 ?_
  refine own_G.step (g' := (mkF m 10 #[.val (.ref a), .val (.ref k), .val (.ref va), .val .null, .val (.int s1), .val (.int s2), .val (.int s3)] [(.ref a)])) (fun tq_ kq_ => XS.aloadN X3.here hx rfl (hb hby d2_9) rfl rfl kq_) ?_
  refine own_G.step (g' := (mkF m 11 #[.val (.ref a), .val (.ref k), .val (.ref va), .val .null, .val (.int s1), .val (.int s2), .val (.int s3)] [(.ref va), (.ref a)])) (fun tq_ kq_ => XS.aloadN X3.here hx rfl (hb hby d2_10) rfl rfl kq_) ?_
  obtain ⟨T13, h13, X13, e13, W13, st13⟩ := putF X3 hx hZ hown (host := "") (Or.inl (hw _ (List.mem_of_getElem? (i := 21) rfl))) Via.refl e3 F5 F10 (Or.inr ⟨(hw _ (List.mem_of_getElem? (i := 22) rfl)), rfl, hnm⟩) (hw _ (List.mem_of_getElem? (i := 1) rfl)) (ty := (.array (.object "java/lang/Object"))) (by decide) rfl rfl (g := (mkF m 11 #[.val (.ref a), .val (.ref k), .val (.ref va), .val .null, .val (.int s1), .val (.int s2), .val (.int s3)] [(.ref va), (.ref a)])) rfl rfl (hb hby d2_11)
  have N13 := Fr.snoc X13 N3 ga
  have F14 := F4.other W13 (Or.inr (slot_ne (Or.inr (hw _ (List.mem_of_getElem? (i := 20) rfl))) (Or.inr (hw _ (List.mem_of_getElem? (i := 22) rfl))) (by decide) (t := (.array (.object "java/lang/Object"))) (t' := (.array (.object "java/lang/Object"))) (by decide) (by decide)))
  have F15 := F5.same W13
  have F16 := F6.other W13 (Or.inr (slot_ne (Or.inr (hw _ (List.mem_of_getElem? (i := 24) rfl))) (Or.inr (hw _ (List.mem_of_getElem? (i := 22) rfl))) (by decide) (t := (.array .int)) (t' := (.array (.object "java/lang/Object"))) (by decide) (by decide)))
  have F17 := F7.other W13 (Or.inr (slot_ne (Or.inr (hw _ (List.mem_of_getElem? (i := 26) rfl))) (Or.inr (hw _ (List.mem_of_getElem? (i := 22) rfl))) (by decide) (t := .short) (t' := (.array (.object "java/lang/Object"))) (by decide) (by decide)))
  have F18 := F8.other W13 (Or.inr (slot_ne (Or.inr (hw _ (List.mem_of_getElem? (i := 28) rfl))) (Or.inr (hw _ (List.mem_of_getElem? (i := 22) rfl))) (by decide) (t := .short) (t' := (.array (.object "java/lang/Object"))) (by decide) (by decide)))
  have F19 := F9.other W13 (Or.inr (slot_ne (Or.inr (hw _ (List.mem_of_getElem? (i := 30) rfl))) (Or.inr (hw _ (List.mem_of_getElem? (i := 22) rfl))) (by decide) (t := .short) (t' := (.array (.object "java/lang/Object"))) (by decide) (by decide)))
  have F20 := F10.wr W13
  have O21 := O11.wr W13 ga
  have K22 := K12.wr W13 (Or.inl (List.mem_of_getElem? (i := 0) rfl))
  refine own_G.step (T' := T13) (g' := (mkF m 14 #[.val (.ref a), .val (.ref k), .val (.ref va), .val .null, .val (.int s1), .val (.int s2), .val (.int s3)] [])) st13 ?_
  refine own_G.step (g' := (mkF m 15 #[.val (.ref a), .val (.ref k), .val (.ref va), .val .null, .val (.int s1), .val (.int s2), .val (.int s3)] [(.ref a)])) (fun tq_ kq_ => XS.aloadN X13.here hx rfl (hb hby d2_14) rfl rfl kq_) ?_
  refine own_G.step (g' := (mkF m 16 #[.val (.ref a), .val (.ref k), .val (.ref va), .val .null, .val (.int s1), .val (.int s2), .val (.int s3)] [.null, (.ref a)])) (fun tq_ kq_ => XS.aloadN X13.here hx rfl (hb hby d2_15) rfl rfl kq_) ?_
  obtain ⟨T23, h23, X23, e23, W23, st23⟩ := putF X13 hx hZ hown (host := "") (Or.inl (hw _ (List.mem_of_getElem? (i := 23) rfl))) Via.refl e13 F16 F20 (Or.inr ⟨(hw _ (List.mem_of_getElem? (i := 24) rfl)), rfl, hnm⟩) (hw _ (List.mem_of_getElem? (i := 1) rfl)) (ty := (.array .int)) (by decide) rfl rfl (g := (mkF m 16 #[.val (.ref a), .val (.ref k), .val (.ref va), .val .null, .val (.int s1), .val (.int s2), .val (.int s3)] [.null, (.ref a)])) rfl rfl (hb hby d2_16)
  have N23 := Fr.snoc X23 N13 ga
  have F24 := F14.other W23 (Or.inr (slot_ne (Or.inr (hw _ (List.mem_of_getElem? (i := 20) rfl))) (Or.inr (hw _ (List.mem_of_getElem? (i := 24) rfl))) (by decide) (t := (.array (.object "java/lang/Object"))) (t' := (.array .int)) (by decide) (by decide)))
  have F25 := F15.other W23 (Or.inr (slot_ne (Or.inr (hw _ (List.mem_of_getElem? (i := 22) rfl))) (Or.inr (hw _ (List.mem_of_getElem? (i := 24) rfl))) (by decide) (t := (.array (.object "java/lang/Object"))) (t' := (.array .int)) (by decide) (by decide)))
  have F26 := F16.same W23
  have F27 := F17.other W23 (Or.inr (slot_ne (Or.inr (hw _ (List.mem_of_getElem? (i := 26) rfl))) (Or.inr (hw _ (List.mem_of_getElem? (i := 24) rfl))) (by decide) (t := .short) (t' := (.array .int)) (by decide) (by decide)))
  have F28 := F18.other W23 (Or.inr (slot_ne (Or.inr (hw _ (List.mem_of_getElem? (i := 28) rfl))) (Or.inr (hw _ (List.mem_of_getElem? (i := 24) rfl))) (by decide) (t := .short) (t' := (.array .int)) (by decide) (by decide)))
  have F29 := F19.other W23 (Or.inr (slot_ne (Or.inr (hw _ (List.mem_of_getElem? (i := 30) rfl))) (Or.inr (hw _ (List.mem_of_getElem? (i := 24) rfl))) (by decide) (t := .short) (t' := (.array .int)) (by decide) (by decide)))
  have F30 := F20.wr W23
  have O31 := O21.wr W23 ga
  have K32 := K22.wr W23 (Or.inl (List.mem_of_getElem? (i := 0) rfl))
  refine own_G.step (T' := T23) (g' := (mkF m 19 #[.val (.ref a), .val (.ref k), .val (.ref va), .val .null, .val (.int s1), .val (.int s2), .val (.int s3)] [])) st23 ?_
  refine own_G.step (g' := (mkF m 20 #[.val (.ref a), .val (.ref k), .val (.ref va), .val .null, .val (.int s1), .val (.int s2), .val (.int s3)] [(.ref a)])) (fun tq_ kq_ => XS.aloadN X23.here hx rfl (hb hby d2_19) rfl rfl kq_) ?_
  refine own_G.step (g' := (mkF m 22 #[.val (.ref a), .val (.ref k), .val (.ref va), .val .null, .val (.int s1), .val (.int s2), .val (.int s3)] [(.int s1), (.ref a)])) (fun tq_ kq_ => XS.iload X23.here hx rfl (hb hby d2_20) rfl kq_) ?_
  refine own_G.step (g' := (mkF m 23 #[.val (.ref a), .val (.ref k), .val (.ref va), .val .null, .val (.int s1), .val (.int s2), .val (.int s3)] [(.int (s1.toInt16.toInt32)), (.ref a)])) (fun tq_ kq_ => XS.i2s X23.here hx rfl (hb hby d2_22) rfl kq_) ?_
  obtain ⟨T33, h33, X33, e33, W33, st33⟩ := putFN X23 hx hZ hown (hw _ (List.mem_of_getElem? (i := 25) rfl)) Via.refl e23 F27 F30 (Or.inr ⟨(hw _ (List.mem_of_getElem? (i := 26) rfl)), rfl, hnm⟩) (hw _ (List.mem_of_getElem? (i := 1) rfl)) (ty := .short) (v' := (.int (nar .short (s1.toInt16.toInt32)))) (by decide) rfl (fits_nar_short _) (g := (mkF m 23 #[.val (.ref a), .val (.ref k), .val (.ref va), .val .null, .val (.int s1), .val (.int s2), .val (.int s3)] [(.int (s1.toInt16.toInt32)), (.ref a)])) rfl rfl (hb hby d2_23)
  have N33 := Fr.snoc X33 N23 ga
  have F34 := F24.other W33 (Or.inr (slot_ne (Or.inr (hw _ (List.mem_of_getElem? (i := 20) rfl))) (Or.inr (hw _ (List.mem_of_getElem? (i := 26) rfl))) (by decide) (t := (.array (.object "java/lang/Object"))) (t' := .short) (by decide) (by decide)))
  have F35 := F25.other W33 (Or.inr (slot_ne (Or.inr (hw _ (List.mem_of_getElem? (i := 22) rfl))) (Or.inr (hw _ (List.mem_of_getElem? (i := 26) rfl))) (by decide) (t := (.array (.object "java/lang/Object"))) (t' := .short) (by decide) (by decide)))
  have F36 := F26.other W33 (Or.inr (slot_ne (Or.inr (hw _ (List.mem_of_getElem? (i := 24) rfl))) (Or.inr (hw _ (List.mem_of_getElem? (i := 26) rfl))) (by decide) (t := (.array .int)) (t' := .short) (by decide) (by decide)))
  have F37 := F27.same W33
  have F38 := F28.other W33 (Or.inr (slot_ne (Or.inr (hw _ (List.mem_of_getElem? (i := 28) rfl))) (Or.inr (hw _ (List.mem_of_getElem? (i := 26) rfl))) (by decide) (t := .short) (t' := .short) (by decide) (by decide)))
  have F39 := F29.other W33 (Or.inr (slot_ne (Or.inr (hw _ (List.mem_of_getElem? (i := 30) rfl))) (Or.inr (hw _ (List.mem_of_getElem? (i := 26) rfl))) (by decide) (t := .short) (t' := .short) (by decide) (by decide)))
  have F40 := F30.wr W33
  have O41 := O31.wr W33 ga
  have K42 := K32.wr W33 (Or.inl (List.mem_of_getElem? (i := 0) rfl))
  refine own_G.step (T' := T33) (g' := (mkF m 26 #[.val (.ref a), .val (.ref k), .val (.ref va), .val .null, .val (.int s1), .val (.int s2), .val (.int s3)] [])) st33 ?_
  refine own_G.step (g' := (mkF m 27 #[.val (.ref a), .val (.ref k), .val (.ref va), .val .null, .val (.int s1), .val (.int s2), .val (.int s3)] [(.ref a)])) (fun tq_ kq_ => XS.aloadN X33.here hx rfl (hb hby d2_26) rfl rfl kq_) ?_
  refine own_G.step (g' := (mkF m 29 #[.val (.ref a), .val (.ref k), .val (.ref va), .val .null, .val (.int s1), .val (.int s2), .val (.int s3)] [(.int s2), (.ref a)])) (fun tq_ kq_ => XS.iload X33.here hx rfl (hb hby d2_27) rfl kq_) ?_
  refine own_G.step (g' := (mkF m 30 #[.val (.ref a), .val (.ref k), .val (.ref va), .val .null, .val (.int s1), .val (.int s2), .val (.int s3)] [(.int (s2.toInt16.toInt32)), (.ref a)])) (fun tq_ kq_ => XS.i2s X33.here hx rfl (hb hby d2_29) rfl kq_) ?_
  obtain ⟨T43, h43, X43, e43, W43, st43⟩ := putFN X33 hx hZ hown (hw _ (List.mem_of_getElem? (i := 27) rfl)) Via.refl e33 F38 F40 (Or.inr ⟨(hw _ (List.mem_of_getElem? (i := 28) rfl)), rfl, hnm⟩) (hw _ (List.mem_of_getElem? (i := 1) rfl)) (ty := .short) (v' := (.int (nar .short (s2.toInt16.toInt32)))) (by decide) rfl (fits_nar_short _) (g := (mkF m 30 #[.val (.ref a), .val (.ref k), .val (.ref va), .val .null, .val (.int s1), .val (.int s2), .val (.int s3)] [(.int (s2.toInt16.toInt32)), (.ref a)])) rfl rfl (hb hby d2_30)
  have N43 := Fr.snoc X43 N33 ga
  have F44 := F34.other W43 (Or.inr (slot_ne (Or.inr (hw _ (List.mem_of_getElem? (i := 20) rfl))) (Or.inr (hw _ (List.mem_of_getElem? (i := 28) rfl))) (by decide) (t := (.array (.object "java/lang/Object"))) (t' := .short) (by decide) (by decide)))
  have F45 := F35.other W43 (Or.inr (slot_ne (Or.inr (hw _ (List.mem_of_getElem? (i := 22) rfl))) (Or.inr (hw _ (List.mem_of_getElem? (i := 28) rfl))) (by decide) (t := (.array (.object "java/lang/Object"))) (t' := .short) (by decide) (by decide)))
  have F46 := F36.other W43 (Or.inr (slot_ne (Or.inr (hw _ (List.mem_of_getElem? (i := 24) rfl))) (Or.inr (hw _ (List.mem_of_getElem? (i := 28) rfl))) (by decide) (t := (.array .int)) (t' := .short) (by decide) (by decide)))
  have F47 := F37.other W43 (Or.inr (slot_ne (Or.inr (hw _ (List.mem_of_getElem? (i := 26) rfl))) (Or.inr (hw _ (List.mem_of_getElem? (i := 28) rfl))) (by decide) (t := .short) (t' := .short) (by decide) (by decide)))
  have F48 := F38.same W43
  have F49 := F39.other W43 (Or.inr (slot_ne (Or.inr (hw _ (List.mem_of_getElem? (i := 30) rfl))) (Or.inr (hw _ (List.mem_of_getElem? (i := 28) rfl))) (by decide) (t := .short) (t' := .short) (by decide) (by decide)))
  have F50 := F40.wr W43
  have O51 := O41.wr W43 ga
  have K52 := K42.wr W43 (Or.inl (List.mem_of_getElem? (i := 0) rfl))
  refine own_G.step (T' := T43) (g' := (mkF m 33 #[.val (.ref a), .val (.ref k), .val (.ref va), .val .null, .val (.int s1), .val (.int s2), .val (.int s3)] [])) st43 ?_
  refine own_G.step (g' := (mkF m 34 #[.val (.ref a), .val (.ref k), .val (.ref va), .val .null, .val (.int s1), .val (.int s2), .val (.int s3)] [(.ref a)])) (fun tq_ kq_ => XS.aloadN X43.here hx rfl (hb hby d2_33) rfl rfl kq_) ?_
  refine own_G.step (g' := (mkF m 36 #[.val (.ref a), .val (.ref k), .val (.ref va), .val .null, .val (.int s1), .val (.int s2), .val (.int s3)] [(.int s3), (.ref a)])) (fun tq_ kq_ => XS.iload X43.here hx rfl (hb hby d2_34) rfl kq_) ?_
  refine own_G.step (g' := (mkF m 37 #[.val (.ref a), .val (.ref k), .val (.ref va), .val .null, .val (.int s1), .val (.int s2), .val (.int s3)] [(.int (s3.toInt16.toInt32)), (.ref a)])) (fun tq_ kq_ => XS.i2s X43.here hx rfl (hb hby d2_36) rfl kq_) ?_
  obtain ⟨T53, h53, X53, e53, W53, st53⟩ := putFN X43 hx hZ hown (hw _ (List.mem_of_getElem? (i := 29) rfl)) Via.refl e43 F49 F50 (Or.inr ⟨(hw _ (List.mem_of_getElem? (i := 30) rfl)), rfl, hnm⟩) (hw _ (List.mem_of_getElem? (i := 1) rfl)) (ty := .short) (v' := (.int (nar .short (s3.toInt16.toInt32)))) (by decide) rfl (fits_nar_short _) (g := (mkF m 37 #[.val (.ref a), .val (.ref k), .val (.ref va), .val .null, .val (.int s1), .val (.int s2), .val (.int s3)] [(.int (s3.toInt16.toInt32)), (.ref a)])) rfl rfl (hb hby d2_37)
  have N53 := Fr.snoc X53 N43 ga
  have F54 := F44.other W53 (Or.inr (slot_ne (Or.inr (hw _ (List.mem_of_getElem? (i := 20) rfl))) (Or.inr (hw _ (List.mem_of_getElem? (i := 30) rfl))) (by decide) (t := (.array (.object "java/lang/Object"))) (t' := .short) (by decide) (by decide)))
  have F55 := F45.other W53 (Or.inr (slot_ne (Or.inr (hw _ (List.mem_of_getElem? (i := 22) rfl))) (Or.inr (hw _ (List.mem_of_getElem? (i := 30) rfl))) (by decide) (t := (.array (.object "java/lang/Object"))) (t' := .short) (by decide) (by decide)))
  have F56 := F46.other W53 (Or.inr (slot_ne (Or.inr (hw _ (List.mem_of_getElem? (i := 24) rfl))) (Or.inr (hw _ (List.mem_of_getElem? (i := 30) rfl))) (by decide) (t := (.array .int)) (t' := .short) (by decide) (by decide)))
  have F57 := F47.other W53 (Or.inr (slot_ne (Or.inr (hw _ (List.mem_of_getElem? (i := 26) rfl))) (Or.inr (hw _ (List.mem_of_getElem? (i := 30) rfl))) (by decide) (t := .short) (t' := .short) (by decide) (by decide)))
  have F58 := F48.other W53 (Or.inr (slot_ne (Or.inr (hw _ (List.mem_of_getElem? (i := 28) rfl))) (Or.inr (hw _ (List.mem_of_getElem? (i := 30) rfl))) (by decide) (t := .short) (t' := .short) (by decide) (by decide)))
  have F59 := F49.same W53
  have F60 := F50.wr W53
  have O61 := O51.wr W53 ga
  have K62 := K52.wr W53 (Or.inl (List.mem_of_getElem? (i := 0) rfl))
  refine own_G.step (T' := T53) (g' := (mkF m 40 #[.val (.ref a), .val (.ref k), .val (.ref va), .val .null, .val (.int s1), .val (.int s2), .val (.int s3)] [])) st53 ?_
  exact own_ret X53 e53 (v := none) (fun _ => rfl) Bd.notSynchronized ⟨rfl, N53, K62, F60⟩ (by decide) (by decide) (fun fs hr => X53.returnOut hx Bd.returns (hb hby d2_40) hr)
theorem pd__28_5bLjava_2flang_2fObject_3b_5bLjava_2flang_2fObject_3b_5bIIII_29V : parseMethodDescriptor "([Ljava/lang/Object;[Ljava/lang/Object;[IIII)V" = some ⟨[(.array (.object "java/lang/Object")), (.array (.object "java/lang/Object")), (.array .int), .int, .int, .int], none⟩ := by decide +kernel
theorem d1_0 : decode prog_66_method_1_code 0 = .ok (.aload_n 0, 1) := by decide +kernel
theorem d1_1 : decode prog_66_method_1_code 1 = .ok (.aload_n 1, 1) := by decide +kernel
theorem d1_2 : decode prog_66_method_1_code 2 = .ok (.aload_n 2, 1) := by decide +kernel
theorem d1_3 : decode prog_66_method_1_code 3 = .ok (.aload_n 3, 1) := by decide +kernel
theorem d1_4 : decode prog_66_method_1_code 4 = .ok (.iconst 0, 1) := by decide +kernel
theorem d1_5 : decode prog_66_method_1_code 5 = .ok (.aload_n 1, 1) := by decide +kernel
theorem d1_6 : decode prog_66_method_1_code 6 = .ok (.arraylength, 1) := by decide +kernel
theorem d1_7 : decode prog_66_method_1_code 7 = .ok (.iconst (-1), 1) := by decide +kernel
theorem d1_8 : decode prog_66_method_1_code 8 = .ok (.invokespecial 3, 3) := by decide +kernel
theorem d1_11 : decode prog_66_method_1_code 11 = .ok (.return_, 1) := by decide +kernel
theorem ef_leaf3 (m : MethodId) (a : Addr) (k : Addr) (va : Addr) : entryFrame m #[(.ref a), (.ref k), (.ref va), .null] 4 = mkF m 0 #[.val (.ref a), .val (.ref k), .val (.ref va), .val .null] [] := by
  first | (simp [entryFrame, mkF, argsToLocals, Value.category]; done) | rfl
def Q_leaf3 (Z : State) (a : Addr) (k : Addr) (va : Addr) (kk : ClassId) (n : Int32) (h0 : Heap) (n0 : Nat) (v : Option Value) (h : Heap) (L : List Loc) : Prop := v = none ∧ Fr n0 L ∧ Keep h0 h [a] ∧ Exa Z h a "com/example/bough/bough/Node$Leaf"
set_option maxRecDepth 65536 in
set_option maxHeartbeats 40000000 in
theorem rm_leaf3 (l : Launch) (Z : State) (a0 : Array Value) (hw : ∀ d ∈ tables_1, d.before a0 Z = true) (ws : List Jvm.Cond) (a : Addr) (k : Addr) (va : Addr) (kk : ClassId) (n : Int32) (h0 : Heap) (n0 : Nat) (O0 : Old Z n0 h0) (F_keys : Fld Z h0 a "com/example/bough/bough/Node$Leaf" "keys" "[Ljava/lang/Object;" .null) (F_values : Fld Z h0 a "com/example/bough/bough/Node$Leaf" "values" "[Ljava/lang/Object;" .null) (F_digests : Fld Z h0 a "com/example/bough/bough/Node$Leaf" "digests" "[I" .null) (F_start : Fld Z h0 a "com/example/bough/bough/Node$Leaf" "start" "S" (.int (0 : Int32))) (F_end : Fld Z h0 a "com/example/bough/bough/Node$Leaf" "end" "S" (.int (0 : Int32))) (F_inserted : Fld Z h0 a "com/example/bough/bough/Node$Leaf" "inserted" "S" (.int (0 : Int32))) (E0 : Exa Z h0 a "com/example/bough/bough/Node$Leaf") (ga : n0 ≤ a) (AK : Arv Z h0 k kk (.object "java/lang/Object") n [] .null) (nka : k ≠ a) :
    MetFree l (⟨"com/example/bough/bough/Node$Leaf", "<init>", "([Ljava/lang/Object;[Ljava/lang/Object;[I)V"⟩ : MethodName) (head1 (Jvm.Cond.code (⟨"com/example/bough/bough/Node$Leaf", "<init>", "([Ljava/lang/Object;[Ljava/lang/Object;[I)V"⟩ : MethodName) prog_66_method_1_code 4 none :: ws) ({ frames := 3, cells := 0, slots := 0, locals := 42 } : Room)) (fun aq_ Uq_ => aq_ = #[(.ref a), (.ref k), (.ref va), .null] ∧ Z.Warmed39 Uq_.vm ∧ Uq_.heap = h0) (fun _ _ _ _ _ => True) (fun _ Uq_ oq_ Ur_ => ∃ vq_ Lq_, oq_ = .returned vq_ ∧ Q_leaf3 Z a k va kk n h0 n0 vq_ Ur_.heap Lq_ ∧ FrameEnd Uq_ oq_ Ur_ Lq_ ({ frames := 3, cells := 0, slots := 0, locals := 42 } : Room).cells ({ frames := 3, cells := 0, slots := 0, locals := 42 } : Room).slots) := by
  refine MetFree.of_bodySF (plainFor_of_name pn_com_2fexample_2fbough_2fbough_2fNode_24Leaf) hisR ?_
  intro p e s m args below meth c s₁ Bd hml0 hP hK
  obtain ⟨rfl, hZ, hh⟩ := hP
  have hx := Bd.exec
  have hby := Bd.bytes
  have hml : c.maxLocals = 4 := hml0
  have hown : s.vm.findClass "com/example/bough/bough/Node$Leaf" = some m.cls := findClass_of_methodNamed Bd.named
  have hnm := (name_of_methodNamed Bd.named Bd.method).1
  have X0 : Stand p l e ({ frames := 3, cells := 0, slots := 0, locals := 42 } : Room) s m #[(.ref a), (.ref k), (.ref va), .null] below meth c s₁ [] 0 0 := Stand.of_body Bd
  have e0 : s₁.heap = h0 := by rw [← hh, Bd.state]; rfl
  have N0 := Fr.nil n0
  have K0 := Keep.refl h0 [a]
  refine own_G.start (Q := Q_leaf3 Z a k va kk n h0 n0) (ef_leaf3 m a k va) ?_
  refine own_G.step (g' := (mkF m 1 #[.val (.ref a), .val (.ref k), .val (.ref va), .val .null] [(.ref a)])) (fun tq_ kq_ => XS.aloadN X0.here hx rfl (hb hby d1_0) rfl rfl kq_) ?_
  refine own_G.step (g' := (mkF m 2 #[.val (.ref a), .val (.ref k), .val (.ref va), .val .null] [(.ref k), (.ref a)])) (fun tq_ kq_ => XS.aloadN X0.here hx rfl (hb hby d1_1) rfl rfl kq_) ?_
  refine own_G.step (g' := (mkF m 3 #[.val (.ref a), .val (.ref k), .val (.ref va), .val .null] [(.ref va), (.ref k), (.ref a)])) (fun tq_ kq_ => XS.aloadN X0.here hx rfl (hb hby d1_2) rfl rfl kq_) ?_
  refine own_G.step (g' := (mkF m 4 #[.val (.ref a), .val (.ref k), .val (.ref va), .val .null] [.null, (.ref va), (.ref k), (.ref a)])) (fun tq_ kq_ => XS.aloadN X0.here hx rfl (hb hby d1_3) rfl rfl kq_) ?_
  refine own_G.step (g' := (mkF m 5 #[.val (.ref a), .val (.ref k), .val (.ref va), .val .null] [(.int (0 : Int32)), .null, (.ref va), (.ref k), (.ref a)])) (fun tq_ kq_ => XS.iconst X0.here hx rfl (hb hby d1_4) kq_) ?_
  refine own_G.step (g' := (mkF m 6 #[.val (.ref a), .val (.ref k), .val (.ref va), .val .null] [(.ref k), (.int (0 : Int32)), .null, (.ref va), (.ref k), (.ref a)])) (fun tq_ kq_ => XS.aloadN X0.here hx rfl (hb hby d1_5) rfl rfl kq_) ?_
  obtain ⟨cl1, Ar1, -, Sz1, Nz1, -, -⟩ := id AK
  refine own_G.step (g' := (mkF m 7 #[.val (.ref a), .val (.ref k), .val (.ref va), .val .null] [(.int n), (.int (0 : Int32)), .null, (.ref va), (.ref k), (.ref a)])) (fun tq_ kq_ => X0.arraylength hx (by rw [e0]; exact Ar1.1) (State.isArrayOf_alike hZ.alike Ar1.2.1) (g := (mkF m 6 #[.val (.ref a), .val (.ref k), .val (.ref va), .val .null] [(.ref k), (.int (0 : Int32)), .null, (.ref va), (.ref k), (.ref a)])) rfl rfl (hb hby d1_6) _ (by rw [len_of Sz1 Nz1]; exact kq_)) ?_
  refine own_G.step (g' := (mkF m 8 #[.val (.ref a), .val (.ref k), .val (.ref va), .val .null] [(.int (-1 : Int32)), (.int n), (.int (0 : Int32)), .null, (.ref va), (.ref k), (.ref a)])) (fun tq_ kq_ => XS.iconst X0.here hx rfl (hb hby d1_7) kq_) ?_
  obtain ⟨_, _, ⟨T2, L2, k2, n2⟩, -, X2, ⟨Lc2, hQ2, l2, y2, z2⟩, st2⟩ := X0.specialBack hx (y := (⟨"com/example/bough/bough/Node$Leaf", "<init>", "([Ljava/lang/Object;[Ljava/lang/Object;[IIII)V"⟩ : MethodName)) rfl hown (mvT hZ (hw _ (List.mem_of_getElem? (i := 8) rfl))) (mvT hZ (hw _ (List.mem_of_getElem? (i := 9) rfl))) (mvT hZ (hw _ (List.mem_of_getElem? (i := 10) rfl))) (by decide) (backOf (W := 0) (rm_leaf6 l Z a0 hw [] a k va (0 : Int32) n (-1 : Int32) h0 n0 O0 F_keys F_values F_digests F_start F_end F_inserted E0 ga) hZ (hw _ (List.mem_of_getElem? (i := 10) rfl)) (hw _ (List.mem_of_getElem? (i := 2) rfl)) (by decide) (by decide)) (g := (mkF m 8 #[.val (.ref a), .val (.ref k), .val (.ref va), .val .null] [(.int (-1 : Int32)), (.int n), (.int (0 : Int32)), .null, (.ref va), (.ref k), (.ref a)])) rfl (by rw [hml]; rfl) (Steps.refl _) (a := a) (argsL := [(.ref k), (.ref va), .null, (.int (0 : Int32)), (.int n), (.int (-1 : Int32))]) (rest := []) (lenOf pd__28_5bLjava_2flang_2fObject_3b_5bLjava_2flang_2fObject_3b_5bIIII_29V rfl) rfl (by show 2 * 0 + _ ≤ _; exact Nat.le_of_eq rfl) (hb hby d1_8) (fun _ _ => ⟨rfl, e0, (by decide : 0 + 0 ≤ _), (by decide : 0 + 0 ≤ _)⟩)
  dsimp only [Pt.U, Pt.locs, Pt.cells, Pt.slots] at X2 l2 y2 z2 st2 hQ2
  subst l2 y2 z2
  obtain ⟨rfl, Nq2, P3, P4⟩ := hQ2
  have N2 := Fr.app N0 Nq2
  have F5 := E0.keep P3
  have F6 := AK.keep P3 (ninS nka nin0)
  have O7 := O0.keep P3 (allS ga all0)
  have K8 := K0.trans P3 (allS (Or.inl (List.mem_of_getElem? (i := 0) rfl)) all0)
  refine own_G.step (T' := T2) (g' := (mkF m 11 #[.val (.ref a), .val (.ref k), .val (.ref va), .val .null] [])) (fun tq_ kq_ => st2.trans kq_) ?_
  exact own_ret X2 rfl (v := none) (fun _ => rfl) Bd.notSynchronized ⟨rfl, N2, K8, P4⟩ (by decide) (by decide) (fun fs hr => X2.returnOut hx Bd.returns (hb hby d1_11) hr)
theorem d10_0 : decode jdk_18_method_1_code 0 = .ok (.aload_n 0, 1) := by decide +kernel
theorem d10_1 : decode jdk_18_method_1_code 1 = .ok (.invokespecial 1, 3) := by decide +kernel
theorem d10_4 : decode jdk_18_method_1_code 4 = .ok (.return_, 1) := by decide +kernel
theorem pn_java_2flang_2fNumber : plainName "java/lang/Number" = true := by first | (simp [plainName, overriddenIn]; done) | decide +kernel
theorem ef_numinit (m : MethodId) (a : Addr) : entryFrame m #[(.ref a)] 1 = mkF m 0 #[.val (.ref a)] [] := by
  first | (simp [entryFrame, mkF, argsToLocals, Value.category]; done) | rfl
def Q_numinit (Z : State) (a : Addr) (h0 : Heap) (n0 : Nat) (v : Option Value) (h : Heap) (L : List Loc) : Prop := v = none ∧ Fr n0 L ∧ h = h0
set_option maxRecDepth 65536 in
set_option maxHeartbeats 40000000 in
theorem rm_numinit (l : Launch) (Z : State) (a0 : Array Value) (hw : ∀ d ∈ tables_1, d.before a0 Z = true) (ws : List Jvm.Cond) (a : Addr) (h0 : Heap) (n0 : Nat) (O0 : Old Z n0 h0) :
    MetFree l (⟨"java/lang/Number", "<init>", "()V"⟩ : MethodName) (head1 (Jvm.Cond.code (⟨"java/lang/Number", "<init>", "()V"⟩ : MethodName) jdk_18_method_1_code 1 none :: ws) ({ frames := 1, cells := 0, slots := 0, locals := 12 } : Room)) (fun aq_ Uq_ => aq_ = #[(.ref a)] ∧ Z.Warmed39 Uq_.vm ∧ Uq_.heap = h0) (fun _ _ _ _ _ => True) (fun _ Uq_ oq_ Ur_ => ∃ vq_ Lq_, oq_ = .returned vq_ ∧ Q_numinit Z a h0 n0 vq_ Ur_.heap Lq_ ∧ FrameEnd Uq_ oq_ Ur_ Lq_ ({ frames := 1, cells := 0, slots := 0, locals := 12 } : Room).cells ({ frames := 1, cells := 0, slots := 0, locals := 12 } : Room).slots) := by
  refine MetFree.of_bodySF (plainFor_of_name pn_java_2flang_2fNumber) hisR ?_
  intro p e s m args below meth c s₁ Bd hml0 hP hK
  obtain ⟨rfl, hZ, hh⟩ := hP
  have hx := Bd.exec
  have hby := Bd.bytes
  have hml : c.maxLocals = 1 := hml0
  have hown : s.vm.findClass "java/lang/Number" = some m.cls := findClass_of_methodNamed Bd.named
  have hnm := (name_of_methodNamed Bd.named Bd.method).1
  have X0 : Stand p l e ({ frames := 1, cells := 0, slots := 0, locals := 12 } : Room) s m #[(.ref a)] below meth c s₁ [] 0 0 := Stand.of_body Bd
  have e0 : s₁.heap = h0 := by rw [← hh, Bd.state]; rfl
  have N0 := Fr.nil n0
  have K0 := Keep.refl h0 []
  refine own_G.start (Q := Q_numinit Z a h0 n0) (ef_numinit m a) ?_
  refine own_G.step (g' := (mkF m 1 #[.val (.ref a)] [(.ref a)])) (fun tq_ kq_ => XS.aloadN X0.here hx rfl (hb hby d10_0) rfl rfl kq_) ?_
  obtain ⟨T1, X1, e1, st1⟩ := initO X0 hx hZ hown (hw _ (List.mem_of_getElem? (i := 78) rfl)) (hw _ (List.mem_of_getElem? (i := 17) rfl)) (hw _ (List.mem_of_getElem? (i := 18) rfl)) e0 (g := (mkF m 1 #[.val (.ref a)] [(.ref a)])) rfl (by rw [hml]; rfl) rfl (hb hby d10_1) (by decide) (W := 0) (by show 2 * 0 + _ ≤ _; exact Nat.le_of_eq rfl) (by decide)
  refine own_G.step (T' := T1) (g' := (mkF m 4 #[.val (.ref a)] [])) st1 ?_
  exact own_ret X1 e1 (v := none) (fun _ => rfl) Bd.notSynchronized ⟨rfl, N0, rfl⟩ (by decide) (by decide) (fun fs hr => X1.returnOut hx Bd.returns (hb hby d10_4) hr)
theorem d9_0 : decode jdk_33_method_23_code 0 = .ok (.aload_n 0, 1) := by decide +kernel
theorem d9_1 : decode jdk_33_method_23_code 1 = .ok (.invokespecial 202, 3) := by decide +kernel
theorem d9_4 : decode jdk_33_method_23_code 4 = .ok (.aload_n 0, 1) := by decide +kernel
theorem d9_5 : decode jdk_33_method_23_code 5 = .ok (.iload_n 1, 1) := by decide +kernel
theorem d9_6 : decode jdk_33_method_23_code 6 = .ok (.putfield 205, 3) := by decide +kernel
theorem d9_9 : decode jdk_33_method_23_code 9 = .ok (.return_, 1) := by decide +kernel
theorem pn_java_2flang_2fInteger : plainName "java/lang/Integer" = true := by first | (simp [plainName, overriddenIn]; done) | decide +kernel
theorem ef_intinit (m : MethodId) (a : Addr) (i : Int32) : entryFrame m #[(.ref a), (.int i)] 2 = mkF m 0 #[.val (.ref a), .val (.int i)] [] := by
  first | (simp [entryFrame, mkF, argsToLocals, Value.category]; done) | rfl
def Q_intinit (Z : State) (a : Addr) (i : Int32) (h0 : Heap) (n0 : Nat) (v : Option Value) (h : Heap) (L : List Loc) : Prop := v = none ∧ Fr n0 L ∧ Keep h0 h [a] ∧ Exa Z h a "java/lang/Integer" ∧ Fld Z h a "java/lang/Integer" "value" "I" (.int i)
set_option maxRecDepth 65536 in
set_option maxHeartbeats 40000000 in
theorem rm_intinit (l : Launch) (Z : State) (a0 : Array Value) (hw : ∀ d ∈ tables_1, d.before a0 Z = true) (ws : List Jvm.Cond) (a : Addr) (i : Int32) (h0 : Heap) (n0 : Nat) (O0 : Old Z n0 h0) (F0 : Fld Z h0 a "java/lang/Integer" "value" "I" (.int (0 : Int32))) (E0 : Exa Z h0 a "java/lang/Integer") (ga : n0 ≤ a) :
    MetFree l (⟨"java/lang/Integer", "<init>", "(I)V"⟩ : MethodName) (head1 (Jvm.Cond.code (⟨"java/lang/Integer", "<init>", "(I)V"⟩ : MethodName) jdk_33_method_23_code 2 none :: ws) ({ frames := 2, cells := 0, slots := 0, locals := 24 } : Room)) (fun aq_ Uq_ => aq_ = #[(.ref a), (.int i)] ∧ Z.Warmed39 Uq_.vm ∧ Uq_.heap = h0) (fun _ _ _ _ _ => True) (fun _ Uq_ oq_ Ur_ => ∃ vq_ Lq_, oq_ = .returned vq_ ∧ Q_intinit Z a i h0 n0 vq_ Ur_.heap Lq_ ∧ FrameEnd Uq_ oq_ Ur_ Lq_ ({ frames := 2, cells := 0, slots := 0, locals := 24 } : Room).cells ({ frames := 2, cells := 0, slots := 0, locals := 24 } : Room).slots) := by
  refine MetFree.of_bodySF (plainFor_of_name pn_java_2flang_2fInteger) hisR ?_
  intro p e s m args below meth c s₁ Bd hml0 hP hK
  obtain ⟨rfl, hZ, hh⟩ := hP
  have hx := Bd.exec
  have hby := Bd.bytes
  have hml : c.maxLocals = 2 := hml0
  have hown : s.vm.findClass "java/lang/Integer" = some m.cls := findClass_of_methodNamed Bd.named
  have hnm := (name_of_methodNamed Bd.named Bd.method).1
  have X0 : Stand p l e ({ frames := 2, cells := 0, slots := 0, locals := 24 } : Room) s m #[(.ref a), (.int i)] below meth c s₁ [] 0 0 := Stand.of_body Bd
  have e0 : s₁.heap = h0 := by rw [← hh, Bd.state]; rfl
  have N0 := Fr.nil n0
  have K0 := Keep.refl h0 [a]
  refine own_G.start (Q := Q_intinit Z a i h0 n0) (ef_intinit m a i) ?_
  refine own_G.step (g' := (mkF m 1 #[.val (.ref a), .val (.int i)] [(.ref a)])) (fun tq_ kq_ => XS.aloadN X0.here hx rfl (hb hby d9_0) rfl rfl kq_) ?_
  obtain ⟨_, _, ⟨T1, L1, k1, n1⟩, -, X1, ⟨Lc1, hQ1, l1, y1, z1⟩, st1⟩ := X0.specialBack hx (y := (⟨"java/lang/Number", "<init>", "()V"⟩ : MethodName)) rfl hown (mvT hZ (hw _ (List.mem_of_getElem? (i := 72) rfl))) (mvT hZ (hw _ (List.mem_of_getElem? (i := 73) rfl))) (mvT hZ (hw _ (List.mem_of_getElem? (i := 77) rfl))) (by decide) (backOf (W := 0) (rm_numinit l Z a0 hw [] a h0 n0 O0 ) hZ (hw _ (List.mem_of_getElem? (i := 77) rfl)) (hw _ (List.mem_of_getElem? (i := 76) rfl)) (by decide) (by decide)) (g := (mkF m 1 #[.val (.ref a), .val (.int i)] [(.ref a)])) rfl (by rw [hml]; rfl) (Steps.refl _) (a := a) (argsL := []) (rest := []) (lenOf pd__28_29V rfl) rfl (by show 2 * 0 + _ ≤ _; exact Nat.le_of_eq rfl) (hb hby d9_1) (fun _ _ => ⟨rfl, e0, (by decide : 0 + 0 ≤ _), (by decide : 0 + 0 ≤ _)⟩)
  dsimp only [Pt.U, Pt.locs, Pt.cells, Pt.slots] at X1 l1 y1 z1 st1 hQ1
  subst l1 y1 z1
  obtain ⟨rfl, Nq1, P2⟩ := hQ1
  have N1 := Fr.app N0 Nq1
  refine own_G.step (T' := T1) (g' := (mkF m 4 #[.val (.ref a), .val (.int i)] [])) (fun tq_ kq_ => st1.trans kq_) ?_
  refine own_G.step (g' := (mkF m 5 #[.val (.ref a), .val (.int i)] [(.ref a)])) (fun tq_ kq_ => XS.aloadN X1.here hx rfl (hb hby d9_4) rfl rfl kq_) ?_
  refine own_G.step (g' := (mkF m 6 #[.val (.ref a), .val (.int i)] [(.int i), (.ref a)])) (fun tq_ kq_ => XS.iloadN X1.here hx rfl (hb hby d9_5) rfl kq_) ?_
  obtain ⟨T3, h3, X3, e3, W3, st3⟩ := putF X1 hx hZ hown (host := "") (Or.inl (hw _ (List.mem_of_getElem? (i := 79) rfl))) Via.refl P2 F0 E0 (Or.inr ⟨(hw _ (List.mem_of_getElem? (i := 80) rfl)), rfl, hnm⟩) (hw _ (List.mem_of_getElem? (i := 67) rfl)) (ty := .int) (by decide) rfl rfl (g := (mkF m 6 #[.val (.ref a), .val (.int i)] [(.int i), (.ref a)])) rfl rfl (hb hby d9_6)
  have N3 := Fr.snoc X3 N1 ga
  have F4 := F0.same W3
  have F5 := E0.wr W3
  have O6 := O0.wr W3 ga
  have K7 := K0.wr W3 (Or.inl (List.mem_of_getElem? (i := 0) rfl))
  refine own_G.step (T' := T3) (g' := (mkF m 9 #[.val (.ref a), .val (.int i)] [])) st3 ?_
  exact own_ret X3 e3 (v := none) (fun _ => rfl) Bd.notSynchronized ⟨rfl, N3, K7, F5, F4⟩ (by decide) (by decide) (fun fs hr => X3.returnOut hx Bd.returns (hb hby d9_9) hr)
theorem pd__28I_29V : parseMethodDescriptor "(I)V" = some ⟨[.int], none⟩ := by decide +kernel
theorem d5_0 : decode jdk_33_method_22_code 0 = .ok (.iload_n 0, 1) := by decide +kernel
theorem d5_1 : decode jdk_33_method_22_code 1 = .ok (.bipush (-128), 2) := by decide +kernel
theorem d5_3 : decode jdk_33_method_22_code 3 = .ok (.if_icmp .lt 20, 3) := by decide +kernel
theorem d5_6 : decode jdk_33_method_22_code 6 = .ok (.iload_n 0, 1) := by decide +kernel
theorem d5_7 : decode jdk_33_method_22_code 7 = .ok (.getstatic 191, 3) := by decide +kernel
theorem d5_10 : decode jdk_33_method_22_code 10 = .ok (.if_icmp .gt 13, 3) := by decide +kernel
theorem d5_13 : decode jdk_33_method_22_code 13 = .ok (.getstatic 195, 3) := by decide +kernel
theorem d5_16 : decode jdk_33_method_22_code 16 = .ok (.iload_n 0, 1) := by decide +kernel
theorem d5_17 : decode jdk_33_method_22_code 17 = .ok (.sipush 128, 3) := by decide +kernel
theorem d5_20 : decode jdk_33_method_22_code 20 = .ok (.iadd, 1) := by decide +kernel
theorem d5_21 : decode jdk_33_method_22_code 21 = .ok (.aaload, 1) := by decide +kernel
theorem d5_22 : decode jdk_33_method_22_code 22 = .ok (.areturn, 1) := by decide +kernel
theorem d5_23 : decode jdk_33_method_22_code 23 = .ok (.new 1, 3) := by decide +kernel
theorem d5_26 : decode jdk_33_method_22_code 26 = .ok (.dup, 1) := by decide +kernel
theorem d5_27 : decode jdk_33_method_22_code 27 = .ok (.iload_n 0, 1) := by decide +kernel
theorem d5_28 : decode jdk_33_method_22_code 28 = .ok (.invokespecial 199, 3) := by decide +kernel
theorem d5_31 : decode jdk_33_method_22_code 31 = .ok (.areturn, 1) := by decide +kernel
theorem ef_valueOf (m : MethodId) (i : Int32) : entryFrame m #[(.int i)] 1 = mkF m 0 #[.val (.int i)] [] := by
  first | (simp [entryFrame, mkF, argsToLocals, Value.category]; done) | rfl
def Q_valueOf (Z : State) (i : Int32) (ca : Addr) (cc : Cell) (h0 : Heap) (n0 : Nat) (v : Option Value) (h : Heap) (L : List Loc) : Prop := ∃ (b : Addr), v = some (.ref b) ∧ Fr n0 L ∧ Keep h0 h [] ∧ Exa Z h b "java/lang/Integer" ∧ Fld Z h b "java/lang/Integer" "value" "I" (.int i)
set_option maxRecDepth 65536 in
set_option maxHeartbeats 40000000 in
theorem rm_valueOf (l : Launch) (Z : State) (a0 : Array Value) (hw : ∀ d ∈ tables_1, d.before a0 Z = true) (ws : List Jvm.Cond) (i : Int32) (ca : Addr) (cc : Cell) (h0 : Heap) (n0 : Nat) (O0 : Old Z n0 h0) (S_high : Sta Z Z.heap "java/lang/Integer$IntegerCache" "high" "I" (.int (127 : Int32))) (S_cache : Sta Z Z.heap "java/lang/Integer$IntegerCache" "cache" "[Ljava/lang/Integer;" (.ref ca)) (BX : Bxs Z ca cc "java/lang/Integer" "I" (256 : Int32) (fun j => .int (j - 128))) :
    MetFree l (⟨"java/lang/Integer", "valueOf", "(I)Ljava/lang/Integer;"⟩ : MethodName) (head1 (Jvm.Cond.code (⟨"java/lang/Integer", "valueOf", "(I)Ljava/lang/Integer;"⟩ : MethodName) jdk_33_method_22_code 1 (some (.object "java/lang/Integer")) :: ws) ({ frames := 3, cells := 1, slots := 1, locals := 38 } : Room)) (fun aq_ Uq_ => aq_ = #[(.int i)] ∧ Z.Warmed39 Uq_.vm ∧ Uq_.heap = h0) (fun _ _ _ _ _ => True) (fun _ Uq_ oq_ Ur_ => ∃ vq_ Lq_, oq_ = .returned vq_ ∧ Q_valueOf Z i ca cc h0 n0 vq_ Ur_.heap Lq_ ∧ FrameEnd Uq_ oq_ Ur_ Lq_ ({ frames := 3, cells := 1, slots := 1, locals := 38 } : Room).cells ({ frames := 3, cells := 1, slots := 1, locals := 38 } : Room).slots) := by
  refine MetFree.of_bodySF (plainFor_of_name pn_java_2flang_2fInteger) hisR ?_
  intro p e s m args below meth c s₁ Bd hml0 hP hK
  obtain ⟨rfl, hZ, hh⟩ := hP
  have hx := Bd.exec
  have hby := Bd.bytes
  have hml : c.maxLocals = 1 := hml0
  have hown : s.vm.findClass "java/lang/Integer" = some m.cls := findClass_of_methodNamed Bd.named
  have hnm := (name_of_methodNamed Bd.named Bd.method).1
  have X0 : Stand p l e ({ frames := 3, cells := 1, slots := 1, locals := 38 } : Room) s m #[(.int i)] below meth c s₁ [] 0 0 := Stand.of_body Bd
  have e0 : s₁.heap = h0 := by rw [← hh, Bd.state]; rfl
  have N0 := Fr.nil n0
  have K0 := Keep.refl h0 []
  refine own_G.start (Q := Q_valueOf Z i ca cc h0 n0) (ef_valueOf m i) ?_
  refine own_G.step (g' := (mkF m 1 #[.val (.int i)] [(.int i)])) (fun tq_ kq_ => XS.iloadN X0.here hx rfl (hb hby d5_0) rfl kq_) ?_
  refine own_G.step (g' := (mkF m 3 #[.val (.int i)] [(.int (-128 : Int32)), (.int i)])) (fun tq_ kq_ => XS.bipush X0.here hx rfl (hb hby d5_1) kq_) ?_
  rcases Classical.em (i < (-128 : Int32)) with hc3 | hc3
  · refine own_G.step (g' := (mkF m 23 #[.val (.int i)] [])) (fun tq_ kq_ => XS.icmpYes X0.here hx rfl (pc0 := 3) (pc' := 23) rfl (hb hby d5_3) rfl (tlt hc3).1 (by decide) (by decide) kq_) ?_
    obtain ⟨T1, h1, X1, e1, E1, A1, D1, -, st1⟩ := newO X0 hx hZ hown (hw _ (List.mem_of_getElem? (i := 66) rfl)) (hw _ (List.mem_of_getElem? (i := 67) rfl)) (hw _ (List.mem_of_getElem? (i := 36) rfl)) e0 (g := (mkF m 23 #[.val (.int i)] [])) rfl (hb hby d5_23) (by decide) (by decide)
    obtain ⟨b1, g1⟩ : ∃ z, z = h0.size := ⟨_, rfl⟩
    rw [← g1] at A1 D1 st1
    have g2 : n0 ≤ b1 := Nat.le_trans O0.le (Nat.le_of_eq g1.symm)
    have z3 : h0.size ≤ b1 := Nat.le_trans K0.1 (Nat.le_of_eq g1.symm)
    have O4 := O0.ext E1
    have K5 := K0.ext E1
    have F6 : Fld Z h1 b1 "java/lang/Integer" "value" "I" (.int (0 : Int32)) := D1 (Or.inr (hw _ (List.mem_of_getElem? (i := 80) rfl))) (ty := .int) (by decide)
    refine own_G.step (T' := T1) (g' := (mkF m 26 #[.val (.int i)] [(.ref b1)])) st1 ?_
    refine own_G.step (g' := (mkF m 27 #[.val (.int i)] [(.ref b1), (.ref b1)])) (fun tq_ kq_ => XS.dup X1.here hx rfl (hb hby d5_26) rfl rfl kq_) ?_
    refine own_G.step (g' := (mkF m 28 #[.val (.int i)] [(.int i), (.ref b1), (.ref b1)])) (fun tq_ kq_ => XS.iloadN X1.here hx rfl (hb hby d5_27) rfl kq_) ?_
    obtain ⟨_, _, ⟨T7, L7, k7, n7⟩, -, X7, ⟨Lc7, hQ7, l7, y7, z7⟩, st7⟩ := X1.specialBack hx (y := (⟨"java/lang/Integer", "<init>", "(I)V"⟩ : MethodName)) rfl hown (mvT hZ (hw _ (List.mem_of_getElem? (i := 68) rfl))) (mvT hZ (hw _ (List.mem_of_getElem? (i := 69) rfl))) (mvT hZ (hw _ (List.mem_of_getElem? (i := 71) rfl))) (by decide) (backOf (W := 1) (rm_intinit l Z a0 hw [] b1 i h1 n0 O4 F6 A1 g2) hZ (hw _ (List.mem_of_getElem? (i := 71) rfl)) (hw _ (List.mem_of_getElem? (i := 36) rfl)) (by decide) (by decide)) (g := (mkF m 28 #[.val (.int i)] [(.int i), (.ref b1), (.ref b1)])) rfl (by rw [hml]; rfl) (Steps.refl _) (a := b1) (argsL := [(.int i)]) (rest := [(.ref b1)]) (lenOf pd__28I_29V rfl) rfl (by show 2 * 0 + _ ≤ _; exact Nat.le_of_eq rfl) (hb hby d5_28) (fun _ _ => ⟨rfl, e1, (by decide : 1 + 0 ≤ _), (by decide : 1 + 0 ≤ _)⟩)
    dsimp only [Pt.U, Pt.locs, Pt.cells, Pt.slots] at X7 l7 y7 z7 st7 hQ7
    subst l7 y7 z7
    obtain ⟨rfl, Nq7, P8, P9, P10⟩ := hQ7
    have N7 := Fr.app N0 Nq7
    have F11 := A1.keep P8
    have O12 := O4.keep P8 (allS g2 all0)
    have K13 := K5.trans P8 (allS (Or.inr z3) all0)
    refine own_G.step (T' := T7) (g' := (mkF m 31 #[.val (.int i)] [(.ref b1)])) (fun tq_ kq_ => st7.trans kq_) ?_
    exact own_ret X7 rfl (v := some (.ref b1)) (fun h => by rw [Bd.returns] at h; cases h) Bd.notSynchronized ⟨b1, rfl, N7, K13, P9, P10⟩ (by decide) (by decide) (fun fs hr => own_retR X7 hx Bd.returns rfl rfl (hb hby d5_31) hr)
  · refine own_G.step (g' := (mkF m 6 #[.val (.int i)] [])) (fun tq_ kq_ => XS.icmpNo X0.here hx rfl (hb hby d5_3) rfl (flt hc3).1 kq_) ?_
    refine own_G.step (g' := (mkF m 7 #[.val (.int i)] [(.int i)])) (fun tq_ kq_ => XS.iloadN X0.here hx rfl (hb hby d5_6) rfl kq_) ?_
    obtain ⟨T14, X14, e14, st14⟩ := getS2 X0 hx hZ hown (host := "") (Or.inl (hw _ (List.mem_of_getElem? (i := 38) rfl))) Via.refl e0 (Sta.ext O0.2 S_high) (g := (mkF m 7 #[.val (.int i)] [(.int i)])) rfl (hb hby d5_7)
    refine own_G.step (T' := T14) (g' := (mkF m 10 #[.val (.int i)] [(.int (127 : Int32)), (.int i)])) st14 ?_
    rcases Classical.em ((127 : Int32) < i) with hc10 | hc10
    · refine own_G.step (g' := (mkF m 23 #[.val (.int i)] [])) (fun tq_ kq_ => XS.icmpYes X14.here hx rfl (pc0 := 10) (pc' := 23) rfl (hb hby d5_10) rfl (tlt hc10).2.2.1 (by decide) (by decide) kq_) ?_
      obtain ⟨T15, h15, X15, e15, E15, A15, D15, -, st15⟩ := newO X14 hx hZ hown (hw _ (List.mem_of_getElem? (i := 66) rfl)) (hw _ (List.mem_of_getElem? (i := 67) rfl)) (hw _ (List.mem_of_getElem? (i := 36) rfl)) e14 (g := (mkF m 23 #[.val (.int i)] [])) rfl (hb hby d5_23) (by decide) (by decide)
      obtain ⟨b15, g15⟩ : ∃ z, z = h0.size := ⟨_, rfl⟩
      rw [← g15] at A15 D15 st15
      have g16 : n0 ≤ b15 := Nat.le_trans O0.le (Nat.le_of_eq g15.symm)
      have z17 : h0.size ≤ b15 := Nat.le_trans K0.1 (Nat.le_of_eq g15.symm)
      have O18 := O0.ext E15
      have K19 := K0.ext E15
      have F20 : Fld Z h15 b15 "java/lang/Integer" "value" "I" (.int (0 : Int32)) := D15 (Or.inr (hw _ (List.mem_of_getElem? (i := 80) rfl))) (ty := .int) (by decide)
      refine own_G.step (T' := T15) (g' := (mkF m 26 #[.val (.int i)] [(.ref b15)])) st15 ?_
      refine own_G.step (g' := (mkF m 27 #[.val (.int i)] [(.ref b15), (.ref b15)])) (fun tq_ kq_ => XS.dup X15.here hx rfl (hb hby d5_26) rfl rfl kq_) ?_
      refine own_G.step (g' := (mkF m 28 #[.val (.int i)] [(.int i), (.ref b15), (.ref b15)])) (fun tq_ kq_ => XS.iloadN X15.here hx rfl (hb hby d5_27) rfl kq_) ?_
      obtain ⟨_, _, ⟨T21, L21, k21, n21⟩, -, X21, ⟨Lc21, hQ21, l21, y21, z21⟩, st21⟩ := X15.specialBack hx (y := (⟨"java/lang/Integer", "<init>", "(I)V"⟩ : MethodName)) rfl hown (mvT hZ (hw _ (List.mem_of_getElem? (i := 68) rfl))) (mvT hZ (hw _ (List.mem_of_getElem? (i := 69) rfl))) (mvT hZ (hw _ (List.mem_of_getElem? (i := 71) rfl))) (by decide) (backOf (W := 1) (rm_intinit l Z a0 hw [] b15 i h15 n0 O18 F20 A15 g16) hZ (hw _ (List.mem_of_getElem? (i := 71) rfl)) (hw _ (List.mem_of_getElem? (i := 36) rfl)) (by decide) (by decide)) (g := (mkF m 28 #[.val (.int i)] [(.int i), (.ref b15), (.ref b15)])) rfl (by rw [hml]; rfl) (Steps.refl _) (a := b15) (argsL := [(.int i)]) (rest := [(.ref b15)]) (lenOf pd__28I_29V rfl) rfl (by show 2 * 0 + _ ≤ _; exact Nat.le_of_eq rfl) (hb hby d5_28) (fun _ _ => ⟨rfl, e15, (by decide : 1 + 0 ≤ _), (by decide : 1 + 0 ≤ _)⟩)
      dsimp only [Pt.U, Pt.locs, Pt.cells, Pt.slots] at X21 l21 y21 z21 st21 hQ21
      subst l21 y21 z21
      obtain ⟨rfl, Nq21, P22, P23, P24⟩ := hQ21
      have N21 := Fr.app N0 Nq21
      have F25 := A15.keep P22
      have O26 := O18.keep P22 (allS g16 all0)
      have K27 := K19.trans P22 (allS (Or.inr z17) all0)
      refine own_G.step (T' := T21) (g' := (mkF m 31 #[.val (.int i)] [(.ref b15)])) (fun tq_ kq_ => st21.trans kq_) ?_
      exact own_ret X21 rfl (v := some (.ref b15)) (fun h => by rw [Bd.returns] at h; cases h) Bd.notSynchronized ⟨b15, rfl, N21, K27, P23, P24⟩ (by decide) (by decide) (fun fs hr => own_retR X21 hx Bd.returns rfl rfl (hb hby d5_31) hr)
    · refine own_G.step (g' := (mkF m 13 #[.val (.int i)] [])) (fun tq_ kq_ => XS.icmpNo X14.here hx rfl (hb hby d5_10) rfl (flt hc10).2.2.1 kq_) ?_
      obtain ⟨T28, X28, e28, st28⟩ := getS2 X14 hx hZ hown (host := "") (Or.inl (hw _ (List.mem_of_getElem? (i := 40) rfl))) Via.refl e14 (Sta.ext O0.2 S_cache) (g := (mkF m 13 #[.val (.int i)] [])) rfl (hb hby d5_13)
      refine own_G.step (T' := T28) (g' := (mkF m 16 #[.val (.int i)] [(.ref ca)])) st28 ?_
      refine own_G.step (g' := (mkF m 17 #[.val (.int i)] [(.int i), (.ref ca)])) (fun tq_ kq_ => XS.iloadN X28.here hx rfl (hb hby d5_16) rfl kq_) ?_
      refine own_G.step (g' := (mkF m 20 #[.val (.int i)] [(.int (128 : Int32)), (.int i), (.ref ca)])) (fun tq_ kq_ => XS.sipush X28.here hx rfl (hb hby d5_17) kq_) ?_
      refine own_G.step (g' := (mkF m 21 #[.val (.int i)] [(.int (i + (128 : Int32))), (.ref ca)])) (fun tq_ kq_ => XS.iadd X28.here hx rfl (hb hby d5_20) rfl kq_) ?_
      have hin29 := own_box_in BX.2.1 hc3 hc10
      obtain ⟨b29, hat29, Eb29, Fb29⟩ := BX.2.2.2 _ hin29
      have Ar29 := (BX.ext O0.2).1
      have Eb29' := Exa.ext O0.2 Eb29
      have Fb29' : Fld Z h0 b29 "java/lang/Integer" "value" "I" (.int ((i + (128 : Int32)) - 128)) := Fld.ext O0.2 Fb29
      have qv29 : (i + (128 : Int32)) - 128 = i := Int32.add_sub_cancel i 128
      rw [qv29] at Fb29'
      refine own_G.step (g' := (mkF m 22 #[.val (.int i)] [(.ref b29)])) (fun tq_ kq_ => X28.aaload hx (j := (i + (128 : Int32))) (v := (.ref b29)) (by rw [e28]; exact Ar29.1) (State.isArrayOf_alike hZ.alike Ar29.2.1) rfl Ar29.2.2 hin29 hat29 (g := (mkF m 21 #[.val (.int i)] [(.int (i + (128 : Int32))), (.ref ca)])) rfl rfl (hb hby d5_21) _ kq_) ?_
      exact own_ret X28 e28 (v := some (.ref b29)) (fun h => by rw [Bd.returns] at h; cases h) Bd.notSynchronized ⟨b29, rfl, N0, K0, Eb29', Fb29'⟩ (by decide) (by decide) (fun fs hr => own_retR X28 hx Bd.returns rfl rfl (hb hby d5_22) hr)
theorem d6_0 : decode method_3_code 0 = .ok (.iload_n 0, 1) := by decide +kernel
theorem d6_1 : decode method_3_code 1 = .ok (.iconst 1, 1) := by decide +kernel
theorem d6_2 : decode method_3_code 2 = .ok (.if_icmp .ne 5, 3) := by decide +kernel
theorem d6_5 : decode method_3_code 5 = .ok (.aload_n 1, 1) := by decide +kernel
theorem d6_6 : decode method_3_code 6 = .ok (.areturn, 1) := by decide +kernel
theorem d6_7 : decode method_3_code 7 = .ok (.iload_n 0, 1) := by decide +kernel
theorem d6_8 : decode method_3_code 8 = .ok (.iconst 2, 1) := by decide +kernel
theorem d6_9 : decode method_3_code 9 = .ok (.if_icmp .ne 5, 3) := by decide +kernel
theorem d6_12 : decode method_3_code 12 = .ok (.aload_n 2, 1) := by decide +kernel
theorem d6_13 : decode method_3_code 13 = .ok (.areturn, 1) := by decide +kernel
theorem d6_14 : decode method_3_code 14 = .ok (.iload_n 0, 1) := by decide +kernel
theorem d6_15 : decode method_3_code 15 = .ok (.iconst 3, 1) := by decide +kernel
theorem d6_16 : decode method_3_code 16 = .ok (.if_icmp .ne 5, 3) := by decide +kernel
theorem d6_19 : decode method_3_code 19 = .ok (.aload_n 3, 1) := by decide +kernel
theorem d6_20 : decode method_3_code 20 = .ok (.areturn, 1) := by decide +kernel
theorem d6_21 : decode method_3_code 21 = .ok (.aconst_null, 1) := by decide +kernel
theorem d6_22 : decode method_3_code 22 = .ok (.areturn, 1) := by decide +kernel
theorem pn_com_2fexample_2fbough_2fbough_2fInternalHoldsPinLaw : plainName "com/example/bough/bough/InternalHoldsPinLaw" = true := by first | (simp [plainName, overriddenIn]; done) | decide +kernel
theorem ef_pick (m : MethodId) (i : Int32) (a : Addr) (b : Addr) (d : Addr) : entryFrame m #[(.int i), (.ref a), (.ref b), (.ref d)] 4 = mkF m 0 #[.val (.int i), .val (.ref a), .val (.ref b), .val (.ref d)] [] := by
  first | (simp [entryFrame, mkF, argsToLocals, Value.category]; done) | rfl
def Q_pick (Z : State) (i : Int32) (a : Addr) (b : Addr) (d : Addr) (h0 : Heap) (n0 : Nat) (v : Option Value) (h : Heap) (L : List Loc) : Prop := v = some (own_pk i a b d) ∧ Fr n0 L ∧ h = h0
set_option maxRecDepth 65536 in
set_option maxHeartbeats 40000000 in
theorem rm_pick (l : Launch) (Z : State) (a0 : Array Value) (hw : ∀ d ∈ tables_1, d.before a0 Z = true) (ws : List Jvm.Cond) (i : Int32) (a : Addr) (b : Addr) (d : Addr) (h0 : Heap) (n0 : Nat) (O0 : Old Z n0 h0) :
    MetFree l (⟨"com/example/bough/bough/InternalHoldsPinLaw", "pick", "(ILcom/example/bough/bough/Node;Lcom/example/bough/bough/Node;Lcom/example/bough/bough/Node;)Lcom/example/bough/bough/Node;"⟩ : MethodName) (head1 (Jvm.Cond.code (⟨"com/example/bough/bough/InternalHoldsPinLaw", "pick", "(ILcom/example/bough/bough/Node;Lcom/example/bough/bough/Node;Lcom/example/bough/bough/Node;)Lcom/example/bough/bough/Node;"⟩ : MethodName) method_3_code 4 (some (.object "com/example/bough/bough/Node")) :: ws) ({ frames := 0, cells := 0, slots := 0, locals := 0 } : Room)) (fun aq_ Uq_ => aq_ = #[(.int i), (.ref a), (.ref b), (.ref d)] ∧ Z.Warmed39 Uq_.vm ∧ Uq_.heap = h0) (fun _ _ _ _ _ => True) (fun _ Uq_ oq_ Ur_ => ∃ vq_ Lq_, oq_ = .returned vq_ ∧ Q_pick Z i a b d h0 n0 vq_ Ur_.heap Lq_ ∧ FrameEnd Uq_ oq_ Ur_ Lq_ ({ frames := 0, cells := 0, slots := 0, locals := 0 } : Room).cells ({ frames := 0, cells := 0, slots := 0, locals := 0 } : Room).slots) := by
  refine MetFree.of_bodySF (plainFor_of_name pn_com_2fexample_2fbough_2fbough_2fInternalHoldsPinLaw) hisR ?_
  intro p e s m args below meth c s₁ Bd hml0 hP hK
  obtain ⟨rfl, hZ, hh⟩ := hP
  have hx := Bd.exec
  have hby := Bd.bytes
  have hml : c.maxLocals = 4 := hml0
  have hown : s.vm.findClass "com/example/bough/bough/InternalHoldsPinLaw" = some m.cls := findClass_of_methodNamed Bd.named
  have hnm := (name_of_methodNamed Bd.named Bd.method).1
  have X0 : Stand p l e ({ frames := 0, cells := 0, slots := 0, locals := 0 } : Room) s m #[(.int i), (.ref a), (.ref b), (.ref d)] below meth c s₁ [] 0 0 := Stand.of_body Bd
  have e0 : s₁.heap = h0 := by rw [← hh, Bd.state]; rfl
  have N0 := Fr.nil n0
  have K0 := Keep.refl h0 []
  refine own_G.start (Q := Q_pick Z i a b d h0 n0) (ef_pick m i a b d) ?_
  refine own_G.step (g' := (mkF m 1 #[.val (.int i), .val (.ref a), .val (.ref b), .val (.ref d)] [(.int i)])) (fun tq_ kq_ => XS.iloadN X0.here hx rfl (hb hby d6_0) rfl kq_) ?_
  refine own_G.step (g' := (mkF m 2 #[.val (.int i), .val (.ref a), .val (.ref b), .val (.ref d)] [(.int (1 : Int32)), (.int i)])) (fun tq_ kq_ => XS.iconst X0.here hx rfl (hb hby d6_1) kq_) ?_
  rcases Classical.em (i = (1 : Int32)) with hc2 | hc2
  · refine own_G.step (g' := (mkF m 5 #[.val (.int i), .val (.ref a), .val (.ref b), .val (.ref d)] [])) (fun tq_ kq_ => XS.icmpNo X0.here hx rfl (hb hby d6_2) rfl (teq hc2).2 kq_) ?_
    refine own_G.step (g' := (mkF m 6 #[.val (.int i), .val (.ref a), .val (.ref b), .val (.ref d)] [(.ref a)])) (fun tq_ kq_ => XS.aloadN X0.here hx rfl (hb hby d6_5) rfl rfl kq_) ?_
    exact own_ret X0 e0 (v := some (.ref a)) (fun h => by rw [Bd.returns] at h; cases h) Bd.notSynchronized ⟨(by simp [own_pk, hc2]), N0, rfl⟩ (by decide) (by decide) (fun fs hr => own_retR X0 hx Bd.returns rfl rfl (hb hby d6_6) hr)
  · refine own_G.step (g' := (mkF m 7 #[.val (.int i), .val (.ref a), .val (.ref b), .val (.ref d)] [])) (fun tq_ kq_ => XS.icmpYes X0.here hx rfl (pc0 := 2) (pc' := 7) rfl (hb hby d6_2) rfl (feq hc2).2 (by decide) (by decide) kq_) ?_
    refine own_G.step (g' := (mkF m 8 #[.val (.int i), .val (.ref a), .val (.ref b), .val (.ref d)] [(.int i)])) (fun tq_ kq_ => XS.iloadN X0.here hx rfl (hb hby d6_7) rfl kq_) ?_
    refine own_G.step (g' := (mkF m 9 #[.val (.int i), .val (.ref a), .val (.ref b), .val (.ref d)] [(.int (2 : Int32)), (.int i)])) (fun tq_ kq_ => XS.iconst X0.here hx rfl (hb hby d6_8) kq_) ?_
    rcases Classical.em (i = (2 : Int32)) with hc9 | hc9
    · refine own_G.step (g' := (mkF m 12 #[.val (.int i), .val (.ref a), .val (.ref b), .val (.ref d)] [])) (fun tq_ kq_ => XS.icmpNo X0.here hx rfl (hb hby d6_9) rfl (teq hc9).2 kq_) ?_
      refine own_G.step (g' := (mkF m 13 #[.val (.int i), .val (.ref a), .val (.ref b), .val (.ref d)] [(.ref b)])) (fun tq_ kq_ => XS.aloadN X0.here hx rfl (hb hby d6_12) rfl rfl kq_) ?_
      exact own_ret X0 e0 (v := some (.ref b)) (fun h => by rw [Bd.returns] at h; cases h) Bd.notSynchronized ⟨(by simp [own_pk, hc2, hc9]), N0, rfl⟩ (by decide) (by decide) (fun fs hr => own_retR X0 hx Bd.returns rfl rfl (hb hby d6_13) hr)
    · refine own_G.step (g' := (mkF m 14 #[.val (.int i), .val (.ref a), .val (.ref b), .val (.ref d)] [])) (fun tq_ kq_ => XS.icmpYes X0.here hx rfl (pc0 := 9) (pc' := 14) rfl (hb hby d6_9) rfl (feq hc9).2 (by decide) (by decide) kq_) ?_
      refine own_G.step (g' := (mkF m 15 #[.val (.int i), .val (.ref a), .val (.ref b), .val (.ref d)] [(.int i)])) (fun tq_ kq_ => XS.iloadN X0.here hx rfl (hb hby d6_14) rfl kq_) ?_
      refine own_G.step (g' := (mkF m 16 #[.val (.int i), .val (.ref a), .val (.ref b), .val (.ref d)] [(.int (3 : Int32)), (.int i)])) (fun tq_ kq_ => XS.iconst X0.here hx rfl (hb hby d6_15) kq_) ?_
      rcases Classical.em (i = (3 : Int32)) with hc16 | hc16
      · refine own_G.step (g' := (mkF m 19 #[.val (.int i), .val (.ref a), .val (.ref b), .val (.ref d)] [])) (fun tq_ kq_ => XS.icmpNo X0.here hx rfl (hb hby d6_16) rfl (teq hc16).2 kq_) ?_
        refine own_G.step (g' := (mkF m 20 #[.val (.int i), .val (.ref a), .val (.ref b), .val (.ref d)] [(.ref d)])) (fun tq_ kq_ => XS.aloadN X0.here hx rfl (hb hby d6_19) rfl rfl kq_) ?_
        exact own_ret X0 e0 (v := some (.ref d)) (fun h => by rw [Bd.returns] at h; cases h) Bd.notSynchronized ⟨(by simp [own_pk, hc2, hc9, hc16]), N0, rfl⟩ (by decide) (by decide) (fun fs hr => own_retR X0 hx Bd.returns rfl rfl (hb hby d6_20) hr)
      · refine own_G.step (g' := (mkF m 21 #[.val (.int i), .val (.ref a), .val (.ref b), .val (.ref d)] [])) (fun tq_ kq_ => XS.icmpYes X0.here hx rfl (pc0 := 16) (pc' := 21) rfl (hb hby d6_16) rfl (feq hc16).2 (by decide) (by decide) kq_) ?_
        refine own_G.step (g' := (mkF m 22 #[.val (.int i), .val (.ref a), .val (.ref b), .val (.ref d)] [.null])) (fun tq_ kq_ => XS.aconstNull X0.here hx rfl (hb hby d6_21) kq_) ?_
        exact own_ret X0 e0 (v := some .null) (fun h => by rw [Bd.returns] at h; cases h) Bd.notSynchronized ⟨(by simp [own_pk, hc2, hc9, hc16]), N0, rfl⟩ (by decide) (by decide) (fun fs hr => own_retR X0 hx Bd.returns rfl rfl (hb hby d6_22) hr)
theorem d7_0 : decode prog_65_method_1_code 0 = .ok (.aload_n 0, 1) := by decide +kernel
theorem d7_1 : decode prog_65_method_1_code 1 = .ok (.invokespecial 1, 3) := by decide +kernel
theorem d7_4 : decode prog_65_method_1_code 4 = .ok (.aload_n 0, 1) := by decide +kernel
theorem d7_5 : decode prog_65_method_1_code 5 = .ok (.aload_n 1, 1) := by decide +kernel
theorem d7_6 : decode prog_65_method_1_code 6 = .ok (.putfield 7, 3) := by decide +kernel
theorem d7_9 : decode prog_65_method_1_code 9 = .ok (.aload_n 0, 1) := by decide +kernel
theorem d7_10 : decode prog_65_method_1_code 10 = .ok (.iload_n 2, 1) := by decide +kernel
theorem d7_11 : decode prog_65_method_1_code 11 = .ok (.putfield 13, 3) := by decide +kernel
theorem d7_14 : decode prog_65_method_1_code 14 = .ok (.aload_n 0, 1) := by decide +kernel
theorem d7_15 : decode prog_65_method_1_code 15 = .ok (.aload_n 3, 1) := by decide +kernel
theorem d7_16 : decode prog_65_method_1_code 16 = .ok (.putfield 17, 3) := by decide +kernel
theorem d7_19 : decode prog_65_method_1_code 19 = .ok (.aload_n 0, 1) := by decide +kernel
theorem d7_20 : decode prog_65_method_1_code 20 = .ok (.aload 4, 2) := by decide +kernel
theorem d7_22 : decode prog_65_method_1_code 22 = .ok (.putfield 21, 3) := by decide +kernel
theorem d7_25 : decode prog_65_method_1_code 25 = .ok (.aload_n 0, 1) := by decide +kernel
theorem d7_26 : decode prog_65_method_1_code 26 = .ok (.getstatic 24, 3) := by decide +kernel
theorem d7_29 : decode prog_65_method_1_code 29 = .ok (.putfield 28, 3) := by decide +kernel
theorem d7_32 : decode prog_65_method_1_code 32 = .ok (.return_, 1) := by decide +kernel
theorem pn_com_2fexample_2fbough_2fbough_2fNode_24Internal : plainName "com/example/bough/bough/Node$Internal" = true := by first | (simp [plainName, overriddenIn]; done) | decide +kernel
theorem ef_inter (m : MethodId) (a : Addr) (ky : Addr) (dg : Int32) (lv : Value) (rv : Value) (rlv : lv.isRef = true) (rrv : rv.isRef = true) : entryFrame m #[(.ref a), (.ref ky), (.int dg), lv, rv] 5 = mkF m 0 #[.val (.ref a), .val (.ref ky), .val (.int dg), .val lv, .val rv] [] := by
  rcases ref_cases rlv with rfl | ⟨z, rfl⟩ <;> rcases ref_cases rrv with rfl | ⟨z, rfl⟩ <;> first | (simp [entryFrame, mkF, argsToLocals, Value.category]; done) | rfl
def Q_inter (Z : State) (a : Addr) (ky : Addr) (dg : Int32) (lv : Value) (rv : Value) (nn : Addr) (h0 : Heap) (n0 : Nat) (v : Option Value) (h : Heap) (L : List Loc) : Prop := v = none ∧ Fr n0 L ∧ Keep h0 h [a] ∧ Exa Z h a "com/example/bough/bough/Node$Internal" ∧ Fld Z h a "com/example/bough/bough/Node$Internal" "left" "Lcom/example/bough/bough/Node;" lv ∧ Fld Z h a "com/example/bough/bough/Node$Internal" "right" "Lcom/example/bough/bough/Node;" rv
set_option maxRecDepth 65536 in
set_option maxHeartbeats 40000000 in
theorem rm_inter (l : Launch) (Z : State) (a0 : Array Value) (hw : ∀ d ∈ tables_1, d.before a0 Z = true) (ws : List Jvm.Cond) (a : Addr) (ky : Addr) (dg : Int32) (lv : Value) (rv : Value) (nn : Addr) (h0 : Heap) (n0 : Nat) (O0 : Old Z n0 h0) (rlv : lv.isRef = true) (rrv : rv.isRef = true) (F_key : Fld Z h0 a "com/example/bough/bough/Node$Internal" "key" "Ljava/lang/Object;" .null) (F_digest : Fld Z h0 a "com/example/bough/bough/Node$Internal" "digest" "I" (.int (0 : Int32))) (F_left : Fld Z h0 a "com/example/bough/bough/Node$Internal" "left" "Lcom/example/bough/bough/Node;" .null) (F_right : Fld Z h0 a "com/example/bough/bough/Node$Internal" "right" "Lcom/example/bough/bough/Node;" .null) (F_update : Fld Z h0 a "com/example/bough/bough/Node$Internal" "update" "Ljava/lang/Object;" .null) (E0 : Exa Z h0 a "com/example/bough/bough/Node$Internal") (ga : n0 ≤ a) (S_NEW : Sta Z Z.heap "com/example/bough/bough/Node" "NEW_NODE" "Lcom/example/bough/bough/Node$Clean;" (.ref nn)) :
    MetFree l (⟨"com/example/bough/bough/Node$Internal", "<init>", "(Ljava/lang/Object;ILcom/example/bough/bough/Node;Lcom/example/bough/bough/Node;)V"⟩ : MethodName) (head1 (Jvm.Cond.code (⟨"com/example/bough/bough/Node$Internal", "<init>", "(Ljava/lang/Object;ILcom/example/bough/bough/Node;Lcom/example/bough/bough/Node;)V"⟩ : MethodName) prog_65_method_1_code 5 none :: ws) ({ frames := 2, cells := 0, slots := 0, locals := 24 } : Room)) (fun aq_ Uq_ => aq_ = #[(.ref a), (.ref ky), (.int dg), lv, rv] ∧ Z.Warmed39 Uq_.vm ∧ Uq_.heap = h0) (fun _ _ _ _ _ => True) (fun _ Uq_ oq_ Ur_ => ∃ vq_ Lq_, oq_ = .returned vq_ ∧ Q_inter Z a ky dg lv rv nn h0 n0 vq_ Ur_.heap Lq_ ∧ FrameEnd Uq_ oq_ Ur_ Lq_ ({ frames := 2, cells := 0, slots := 0, locals := 24 } : Room).cells ({ frames := 2, cells := 0, slots := 0, locals := 24 } : Room).slots) := by
  refine MetFree.of_bodySF (plainFor_of_name pn_com_2fexample_2fbough_2fbough_2fNode_24Internal) hisR ?_
  intro p e s m args below meth c s₁ Bd hml0 hP hK
  obtain ⟨rfl, hZ, hh⟩ := hP
  have hx := Bd.exec
  have hby := Bd.bytes
  have hml : c.maxLocals = 5 := hml0
  have hown : s.vm.findClass "com/example/bough/bough/Node$Internal" = some m.cls := findClass_of_methodNamed Bd.named
  have hnm := (name_of_methodNamed Bd.named Bd.method).1
  have X0 : Stand p l e ({ frames := 2, cells := 0, slots := 0, locals := 24 } : Room) s m #[(.ref a), (.ref ky), (.int dg), lv, rv] below meth c s₁ [] 0 0 := Stand.of_body Bd
  have e0 : s₁.heap = h0 := by rw [← hh, Bd.state]; rfl
  have N0 := Fr.nil n0
  have K0 := Keep.refl h0 [a]
  refine own_G.start (Q := Q_inter Z a ky dg lv rv nn h0 n0) (ef_inter m a ky dg lv rv rlv rrv) ?_
  refine own_G.step (g' := (mkF m 1 #[.val (.ref a), .val (.ref ky), .val (.int dg), .val lv, .val rv] [(.ref a)])) (fun tq_ kq_ => XS.aloadN X0.here hx rfl (hb hby d7_0) rfl rfl kq_) ?_
  obtain ⟨_, _, ⟨T1, L1, k1, n1⟩, -, X1, ⟨Lc1, hQ1, l1, y1, z1⟩, st1⟩ := X0.specialBack hx (y := (⟨"com/example/bough/bough/Node", "<init>", "()V"⟩ : MethodName)) rfl hown (mvT hZ (hw _ (List.mem_of_getElem? (i := 48) rfl))) (mvT hZ (hw _ (List.mem_of_getElem? (i := 12) rfl))) (mvT hZ (hw _ (List.mem_of_getElem? (i := 15) rfl))) (by decide) (backOf (W := 0) (rm_nodeinit l Z a0 hw [] a h0 n0 O0 ) hZ (hw _ (List.mem_of_getElem? (i := 15) rfl)) (hw _ (List.mem_of_getElem? (i := 14) rfl)) (by decide) (by decide)) (g := (mkF m 1 #[.val (.ref a), .val (.ref ky), .val (.int dg), .val lv, .val rv] [(.ref a)])) rfl (by rw [hml]; rfl) (Steps.refl _) (a := a) (argsL := []) (rest := []) (lenOf pd__28_29V rfl) rfl (by show 2 * 0 + _ ≤ _; exact Nat.le_of_eq rfl) (hb hby d7_1) (fun _ _ => ⟨rfl, e0, (by decide : 0 + 0 ≤ _), (by decide : 0 + 0 ≤ _)⟩)
  dsimp only [Pt.U, Pt.locs, Pt.cells, Pt.slots] at X1 l1 y1 z1 st1 hQ1
  subst l1 y1 z1
  obtain ⟨rfl, Nq1, P2⟩ := hQ1
  have N1 := Fr.app N0 Nq1
  refine own_G.step (T' := T1) (g' := (mkF m 4 #[.val (.ref a), .val (.ref ky), .val (.int dg), .val lv, .val rv] [])) (fun tq_ kq_ => st1.trans kq_) ?_
  refine own_G.step (g' := (mkF m 5 #[.val (.ref a), .val (.ref ky), .val (.int dg), .val lv, .val rv] [(.ref a)])) (fun tq_ kq_ => XS.aloadN X1.here hx rfl (hb hby d7_4) rfl rfl kq_) ?_
  refine own_G.step (g' := (mkF m 6 #[.val (.ref a), .val (.ref ky), .val (.int dg), .val lv, .val rv] [(.ref ky), (.ref a)])) (fun tq_ kq_ => XS.aloadN X1.here hx rfl (hb hby d7_5) rfl rfl kq_) ?_
  obtain ⟨T3, h3, X3, e3, W3, st3⟩ := putF X1 hx hZ hown (host := "") (Or.inl (hw _ (List.mem_of_getElem? (i := 49) rfl))) Via.refl P2 F_key E0 (Or.inl (hw _ (List.mem_of_getElem? (i := 50) rfl))) (hw _ (List.mem_of_getElem? (i := 32) rfl)) (ty := (.object "java/lang/Object")) (by decide) rfl rfl (g := (mkF m 6 #[.val (.ref a), .val (.ref ky), .val (.int dg), .val lv, .val rv] [(.ref ky), (.ref a)])) rfl rfl (hb hby d7_6)
  have N3 := Fr.snoc X3 N1 ga
  have F4 := F_key.same W3
  have F5 := F_digest.other W3 (Or.inr (slot_ne (Or.inl (hw _ (List.mem_of_getElem? (i := 52) rfl))) (Or.inl (hw _ (List.mem_of_getElem? (i := 50) rfl))) (by decide) (t := .int) (t' := (.object "java/lang/Object")) (by decide) (by decide)))
  have F6 := F_left.other W3 (Or.inr (slot_ne (Or.inl (hw _ (List.mem_of_getElem? (i := 54) rfl))) (Or.inl (hw _ (List.mem_of_getElem? (i := 50) rfl))) (by decide) (t := (.object "com/example/bough/bough/Node")) (t' := (.object "java/lang/Object")) (by decide) (by decide)))
  have F7 := F_right.other W3 (Or.inr (slot_ne (Or.inl (hw _ (List.mem_of_getElem? (i := 56) rfl))) (Or.inl (hw _ (List.mem_of_getElem? (i := 50) rfl))) (by decide) (t := (.object "com/example/bough/bough/Node")) (t' := (.object "java/lang/Object")) (by decide) (by decide)))
  have F8 := F_update.other W3 (Or.inr (slot_ne (Or.inl (hw _ (List.mem_of_getElem? (i := 60) rfl))) (Or.inl (hw _ (List.mem_of_getElem? (i := 50) rfl))) (by decide) (t := (.object "java/lang/Object")) (t' := (.object "java/lang/Object")) (by decide) (by decide)))
  have F9 := E0.wr W3
  have O10 := O0.wr W3 ga
  have K11 := K0.wr W3 (Or.inl (List.mem_of_getElem? (i := 0) rfl))
  refine own_G.step (T' := T3) (g' := (mkF m 9 #[.val (.ref a), .val (.ref ky), .val (.int dg), .val lv, .val rv] [])) st3 ?_
  refine own_G.step (g' := (mkF m 10 #[.val (.ref a), .val (.ref ky), .val (.int dg), .val lv, .val rv] [(.ref a)])) (fun tq_ kq_ => XS.aloadN X3.here hx rfl (hb hby d7_9) rfl rfl kq_) ?_
  refine own_G.step (g' := (mkF m 11 #[.val (.ref a), .val (.ref ky), .val (.int dg), .val lv, .val rv] [(.int dg), (.ref a)])) (fun tq_ kq_ => XS.iloadN X3.here hx rfl (hb hby d7_10) rfl kq_) ?_
  obtain ⟨T12, h12, X12, e12, W12, st12⟩ := putF X3 hx hZ hown (host := "") (Or.inl (hw _ (List.mem_of_getElem? (i := 51) rfl))) Via.refl e3 F5 F9 (Or.inl (hw _ (List.mem_of_getElem? (i := 52) rfl))) (hw _ (List.mem_of_getElem? (i := 32) rfl)) (ty := .int) (by decide) rfl rfl (g := (mkF m 11 #[.val (.ref a), .val (.ref ky), .val (.int dg), .val lv, .val rv] [(.int dg), (.ref a)])) rfl rfl (hb hby d7_11)
  have N12 := Fr.snoc X12 N3 ga
  have F13 := F4.other W12 (Or.inr (slot_ne (Or.inl (hw _ (List.mem_of_getElem? (i := 50) rfl))) (Or.inl (hw _ (List.mem_of_getElem? (i := 52) rfl))) (by decide) (t := (.object "java/lang/Object")) (t' := .int) (by decide) (by decide)))
  have F14 := F5.same W12
  have F15 := F6.other W12 (Or.inr (slot_ne (Or.inl (hw _ (List.mem_of_getElem? (i := 54) rfl))) (Or.inl (hw _ (List.mem_of_getElem? (i := 52) rfl))) (by decide) (t := (.object "com/example/bough/bough/Node")) (t' := .int) (by decide) (by decide)))
  have F16 := F7.other W12 (Or.inr (slot_ne (Or.inl (hw _ (List.mem_of_getElem? (i := 56) rfl))) (Or.inl (hw _ (List.mem_of_getElem? (i := 52) rfl))) (by decide) (t := (.object "com/example/bough/bough/Node")) (t' := .int) (by decide) (by decide)))
  have F17 := F8.other W12 (Or.inr (slot_ne (Or.inl (hw _ (List.mem_of_getElem? (i := 60) rfl))) (Or.inl (hw _ (List.mem_of_getElem? (i := 52) rfl))) (by decide) (t := (.object "java/lang/Object")) (t' := .int) (by decide) (by decide)))
  have F18 := F9.wr W12
  have O19 := O10.wr W12 ga
  have K20 := K11.wr W12 (Or.inl (List.mem_of_getElem? (i := 0) rfl))
  refine own_G.step (T' := T12) (g' := (mkF m 14 #[.val (.ref a), .val (.ref ky), .val (.int dg), .val lv, .val rv] [])) st12 ?_
  refine own_G.step (g' := (mkF m 15 #[.val (.ref a), .val (.ref ky), .val (.int dg), .val lv, .val rv] [(.ref a)])) (fun tq_ kq_ => XS.aloadN X12.here hx rfl (hb hby d7_14) rfl rfl kq_) ?_
  refine own_G.step (g' := (mkF m 16 #[.val (.ref a), .val (.ref ky), .val (.int dg), .val lv, .val rv] [lv, (.ref a)])) (fun tq_ kq_ => XS.aloadN X12.here hx rfl (hb hby d7_15) rfl rlv kq_) ?_
  obtain ⟨T21, h21, X21, e21, W21, st21⟩ := putF X12 hx hZ hown (host := "") (Or.inl (hw _ (List.mem_of_getElem? (i := 53) rfl))) Via.refl e12 F15 F18 (Or.inl (hw _ (List.mem_of_getElem? (i := 54) rfl))) (hw _ (List.mem_of_getElem? (i := 32) rfl)) (ty := (.object "com/example/bough/bough/Node")) (by decide) (own_narrow rlv rfl) (own_fits rlv rfl) (g := (mkF m 16 #[.val (.ref a), .val (.ref ky), .val (.int dg), .val lv, .val rv] [lv, (.ref a)])) rfl rfl (hb hby d7_16)
  have N21 := Fr.snoc X21 N12 ga
  have F22 := F13.other W21 (Or.inr (slot_ne (Or.inl (hw _ (List.mem_of_getElem? (i := 50) rfl))) (Or.inl (hw _ (List.mem_of_getElem? (i := 54) rfl))) (by decide) (t := (.object "java/lang/Object")) (t' := (.object "com/example/bough/bough/Node")) (by decide) (by decide)))
  have F23 := F14.other W21 (Or.inr (slot_ne (Or.inl (hw _ (List.mem_of_getElem? (i := 52) rfl))) (Or.inl (hw _ (List.mem_of_getElem? (i := 54) rfl))) (by decide) (t := .int) (t' := (.object "com/example/bough/bough/Node")) (by decide) (by decide)))
  have F24 := F15.same W21
  have F25 := F16.other W21 (Or.inr (slot_ne (Or.inl (hw _ (List.mem_of_getElem? (i := 56) rfl))) (Or.inl (hw _ (List.mem_of_getElem? (i := 54) rfl))) (by decide) (t := (.object "com/example/bough/bough/Node")) (t' := (.object "com/example/bough/bough/Node")) (by decide) (by decide)))
  have F26 := F17.other W21 (Or.inr (slot_ne (Or.inl (hw _ (List.mem_of_getElem? (i := 60) rfl))) (Or.inl (hw _ (List.mem_of_getElem? (i := 54) rfl))) (by decide) (t := (.object "java/lang/Object")) (t' := (.object "com/example/bough/bough/Node")) (by decide) (by decide)))
  have F27 := F18.wr W21
  have O28 := O19.wr W21 ga
  have K29 := K20.wr W21 (Or.inl (List.mem_of_getElem? (i := 0) rfl))
  refine own_G.step (T' := T21) (g' := (mkF m 19 #[.val (.ref a), .val (.ref ky), .val (.int dg), .val lv, .val rv] [])) st21 ?_
  refine own_G.step (g' := (mkF m 20 #[.val (.ref a), .val (.ref ky), .val (.int dg), .val lv, .val rv] [(.ref a)])) (fun tq_ kq_ => XS.aloadN X21.here hx rfl (hb hby d7_19) rfl rfl kq_) ?_
  refine own_G.step (g' := (mkF m 22 #[.val (.ref a), .val (.ref ky), .val (.int dg), .val lv, .val rv] [rv, (.ref a)])) (fun tq_ kq_ => XS.aload X21.here hx rfl (hb hby d7_20) rfl rrv kq_) ?_
  obtain ⟨T30, h30, X30, e30, W30, st30⟩ := putF X21 hx hZ hown (host := "") (Or.inl (hw _ (List.mem_of_getElem? (i := 55) rfl))) Via.refl e21 F25 F27 (Or.inl (hw _ (List.mem_of_getElem? (i := 56) rfl))) (hw _ (List.mem_of_getElem? (i := 32) rfl)) (ty := (.object "com/example/bough/bough/Node")) (by decide) (own_narrow rrv rfl) (own_fits rrv rfl) (g := (mkF m 22 #[.val (.ref a), .val (.ref ky), .val (.int dg), .val lv, .val rv] [rv, (.ref a)])) rfl rfl (hb hby d7_22)
  have N30 := Fr.snoc X30 N21 ga
  have F31 := F22.other W30 (Or.inr (slot_ne (Or.inl (hw _ (List.mem_of_getElem? (i := 50) rfl))) (Or.inl (hw _ (List.mem_of_getElem? (i := 56) rfl))) (by decide) (t := (.object "java/lang/Object")) (t' := (.object "com/example/bough/bough/Node")) (by decide) (by decide)))
  have F32 := F23.other W30 (Or.inr (slot_ne (Or.inl (hw _ (List.mem_of_getElem? (i := 52) rfl))) (Or.inl (hw _ (List.mem_of_getElem? (i := 56) rfl))) (by decide) (t := .int) (t' := (.object "com/example/bough/bough/Node")) (by decide) (by decide)))
  have F33 := F24.other W30 (Or.inr (slot_ne (Or.inl (hw _ (List.mem_of_getElem? (i := 54) rfl))) (Or.inl (hw _ (List.mem_of_getElem? (i := 56) rfl))) (by decide) (t := (.object "com/example/bough/bough/Node")) (t' := (.object "com/example/bough/bough/Node")) (by decide) (by decide)))
  have F34 := F25.same W30
  have F35 := F26.other W30 (Or.inr (slot_ne (Or.inl (hw _ (List.mem_of_getElem? (i := 60) rfl))) (Or.inl (hw _ (List.mem_of_getElem? (i := 56) rfl))) (by decide) (t := (.object "java/lang/Object")) (t' := (.object "com/example/bough/bough/Node")) (by decide) (by decide)))
  have F36 := F27.wr W30
  have O37 := O28.wr W30 ga
  have K38 := K29.wr W30 (Or.inl (List.mem_of_getElem? (i := 0) rfl))
  refine own_G.step (T' := T30) (g' := (mkF m 25 #[.val (.ref a), .val (.ref ky), .val (.int dg), .val lv, .val rv] [])) st30 ?_
  refine own_G.step (g' := (mkF m 26 #[.val (.ref a), .val (.ref ky), .val (.int dg), .val lv, .val rv] [(.ref a)])) (fun tq_ kq_ => XS.aloadN X30.here hx rfl (hb hby d7_25) rfl rfl kq_) ?_
  obtain ⟨T39, X39, e39, st39⟩ := getS2 X30 hx hZ hown (Or.inr (hw _ (List.mem_of_getElem? (i := 57) rfl))) Via.refl e30 (Sta.ext O37.2 S_NEW) (g := (mkF m 26 #[.val (.ref a), .val (.ref ky), .val (.int dg), .val lv, .val rv] [(.ref a)])) rfl (hb hby d7_26)
  refine own_G.step (T' := T39) (g' := (mkF m 29 #[.val (.ref a), .val (.ref ky), .val (.int dg), .val lv, .val rv] [(.ref nn), (.ref a)])) st39 ?_
  obtain ⟨T40, h40, X40, e40, W40, st40⟩ := putF X39 hx hZ hown (host := "") (Or.inl (hw _ (List.mem_of_getElem? (i := 59) rfl))) Via.refl e39 F35 F36 (Or.inl (hw _ (List.mem_of_getElem? (i := 60) rfl))) (hw _ (List.mem_of_getElem? (i := 32) rfl)) (ty := (.object "java/lang/Object")) (by decide) rfl rfl (g := (mkF m 29 #[.val (.ref a), .val (.ref ky), .val (.int dg), .val lv, .val rv] [(.ref nn), (.ref a)])) rfl rfl (hb hby d7_29)
  have N40 := Fr.snoc X40 N30 ga
  have F41 := F31.other W40 (Or.inr (slot_ne (Or.inl (hw _ (List.mem_of_getElem? (i := 50) rfl))) (Or.inl (hw _ (List.mem_of_getElem? (i := 60) rfl))) (by decide) (t := (.object "java/lang/Object")) (t' := (.object "java/lang/Object")) (by decide) (by decide)))
  have F42 := F32.other W40 (Or.inr (slot_ne (Or.inl (hw _ (List.mem_of_getElem? (i := 52) rfl))) (Or.inl (hw _ (List.mem_of_getElem? (i := 60) rfl))) (by decide) (t := .int) (t' := (.object "java/lang/Object")) (by decide) (by decide)))
  have F43 := F33.other W40 (Or.inr (slot_ne (Or.inl (hw _ (List.mem_of_getElem? (i := 54) rfl))) (Or.inl (hw _ (List.mem_of_getElem? (i := 60) rfl))) (by decide) (t := (.object "com/example/bough/bough/Node")) (t' := (.object "java/lang/Object")) (by decide) (by decide)))
  have F44 := F34.other W40 (Or.inr (slot_ne (Or.inl (hw _ (List.mem_of_getElem? (i := 56) rfl))) (Or.inl (hw _ (List.mem_of_getElem? (i := 60) rfl))) (by decide) (t := (.object "com/example/bough/bough/Node")) (t' := (.object "java/lang/Object")) (by decide) (by decide)))
  have F45 := F35.same W40
  have F46 := F36.wr W40
  have O47 := O37.wr W40 ga
  have K48 := K38.wr W40 (Or.inl (List.mem_of_getElem? (i := 0) rfl))
  refine own_G.step (T' := T40) (g' := (mkF m 32 #[.val (.ref a), .val (.ref ky), .val (.int dg), .val lv, .val rv] [])) st40 ?_
  exact own_ret X40 e40 (v := none) (fun _ => rfl) Bd.notSynchronized ⟨rfl, N40, K48, F46, F43, F44⟩ (by decide) (by decide) (fun fs hr => X40.returnOut hx Bd.returns (hb hby d7_32) hr)
theorem d8_0 : decode prog_65_method_4_code 0 = .ok (.aload_n 0, 1) := by decide +kernel
theorem d8_1 : decode prog_65_method_4_code 1 = .ok (.getfield 17, 3) := by decide +kernel
theorem d8_4 : decode prog_65_method_4_code 4 = .ok (.aload_n 1, 1) := by decide +kernel
theorem d8_5 : decode prog_65_method_4_code 5 = .ok (.if_acmp .eq 11, 3) := by decide +kernel
theorem d8_8 : decode prog_65_method_4_code 8 = .ok (.aload_n 0, 1) := by decide +kernel
theorem d8_9 : decode prog_65_method_4_code 9 = .ok (.getfield 21, 3) := by decide +kernel
theorem d8_12 : decode prog_65_method_4_code 12 = .ok (.aload_n 1, 1) := by decide +kernel
theorem d8_13 : decode prog_65_method_4_code 13 = .ok (.if_acmp .ne 7, 3) := by decide +kernel
theorem d8_16 : decode prog_65_method_4_code 16 = .ok (.iconst 1, 1) := by decide +kernel
theorem d8_17 : decode prog_65_method_4_code 17 = .ok (.goto 4, 3) := by decide +kernel
theorem d8_20 : decode prog_65_method_4_code 20 = .ok (.iconst 0, 1) := by decide +kernel
theorem d8_21 : decode prog_65_method_4_code 21 = .ok (.ireturn, 1) := by decide +kernel
theorem ef_holds (m : MethodId) (a : Addr) (cv : Value) (rcv : cv.isRef = true) : entryFrame m #[(.ref a), cv] 2 = mkF m 0 #[.val (.ref a), .val cv] [] := by
  rcases ref_cases rcv with rfl | ⟨z, rfl⟩ <;> first | (simp [entryFrame, mkF, argsToLocals, Value.category]; done) | rfl
def Q_holds (Z : State) (a : Addr) (cv : Value) (lv : Value) (rv : Value) (h0 : Heap) (n0 : Nat) (v : Option Value) (h : Heap) (L : List Loc) : Prop := v = some (.int (own_holds lv rv cv)) ∧ Fr n0 L ∧ h = h0
set_option maxRecDepth 65536 in
set_option maxHeartbeats 40000000 in
theorem rm_holds (l : Launch) (Z : State) (a0 : Array Value) (hw : ∀ d ∈ tables_1, d.before a0 Z = true) (ws : List Jvm.Cond) (a : Addr) (cv : Value) (lv : Value) (rv : Value) (h0 : Heap) (n0 : Nat) (O0 : Old Z n0 h0) (rcv : cv.isRef = true) (rlv : lv.isRef = true) (rrv : rv.isRef = true) (F1 : Fld Z h0 a "com/example/bough/bough/Node$Internal" "left" "Lcom/example/bough/bough/Node;" lv) (F2 : Fld Z h0 a "com/example/bough/bough/Node$Internal" "right" "Lcom/example/bough/bough/Node;" rv) :
    MetFree l (⟨"com/example/bough/bough/Node$Internal", "holds", "(Lcom/example/bough/bough/Node;)Z"⟩ : MethodName) (head1 (Jvm.Cond.code (⟨"com/example/bough/bough/Node$Internal", "holds", "(Lcom/example/bough/bough/Node;)Z"⟩ : MethodName) prog_65_method_4_code 2 (some .boolean) :: ws) ({ frames := 0, cells := 0, slots := 0, locals := 0 } : Room)) (fun aq_ Uq_ => aq_ = #[(.ref a), cv] ∧ Z.Warmed39 Uq_.vm ∧ Uq_.heap = h0) (fun _ _ _ _ _ => True) (fun _ Uq_ oq_ Ur_ => ∃ vq_ Lq_, oq_ = .returned vq_ ∧ Q_holds Z a cv lv rv h0 n0 vq_ Ur_.heap Lq_ ∧ FrameEnd Uq_ oq_ Ur_ Lq_ ({ frames := 0, cells := 0, slots := 0, locals := 0 } : Room).cells ({ frames := 0, cells := 0, slots := 0, locals := 0 } : Room).slots) := by
  refine MetFree.of_bodySF (plainFor_of_name pn_com_2fexample_2fbough_2fbough_2fNode_24Internal) hisR ?_
  intro p e s m args below meth c s₁ Bd hml0 hP hK
  obtain ⟨rfl, hZ, hh⟩ := hP
  have hx := Bd.exec
  have hby := Bd.bytes
  have hml : c.maxLocals = 2 := hml0
  have hown : s.vm.findClass "com/example/bough/bough/Node$Internal" = some m.cls := findClass_of_methodNamed Bd.named
  have hnm := (name_of_methodNamed Bd.named Bd.method).1
  have X0 : Stand p l e ({ frames := 0, cells := 0, slots := 0, locals := 0 } : Room) s m #[(.ref a), cv] below meth c s₁ [] 0 0 := Stand.of_body Bd
  have e0 : s₁.heap = h0 := by rw [← hh, Bd.state]; rfl
  have N0 := Fr.nil n0
  have K0 := Keep.refl h0 []
  refine own_G.start (Q := Q_holds Z a cv lv rv h0 n0) (ef_holds m a cv rcv) ?_
  refine own_G.step (g' := (mkF m 1 #[.val (.ref a), .val cv] [(.ref a)])) (fun tq_ kq_ => XS.aloadN X0.here hx rfl (hb hby d8_0) rfl rfl kq_) ?_
  obtain ⟨T1, X1, e1, st1⟩ := getF X0 hx hZ hown (host := "") (Or.inl (hw _ (List.mem_of_getElem? (i := 53) rfl))) Via.refl e0 F1 (g := (mkF m 1 #[.val (.ref a), .val cv] [(.ref a)])) rfl rfl (hb hby d8_1)
  refine own_G.step (T' := T1) (g' := (mkF m 4 #[.val (.ref a), .val cv] [lv])) st1 ?_
  refine own_G.step (g' := (mkF m 5 #[.val (.ref a), .val cv] [cv, lv])) (fun tq_ kq_ => XS.aloadN X1.here hx rfl (hb hby d8_4) rfl rcv kq_) ?_
  rcases Classical.em ((lv : Value) = cv) with hc5 | hc5
  · refine own_G.step (g' := (mkF m 16 #[.val (.ref a), .val cv] [])) (fun tq_ kq_ => Jvm.RoadKit.acmp (g := (mkF m 5 #[.val (.ref a), .val cv] [cv, lv])) X1 hx rfl rlv rcv (pc0 := 5) (pc' := 16) (same := true) rfl (hb hby d8_5) rfl (decide_eq_true (show (lv : Value) = cv from hc5)) (by decide) (by decide) kq_) ?_
    refine own_G.step (g' := (mkF m 17 #[.val (.ref a), .val cv] [(.int (1 : Int32))])) (fun tq_ kq_ => XS.iconst X1.here hx rfl (hb hby d8_16) kq_) ?_
    refine own_G.step (g' := (mkF m 21 #[.val (.ref a), .val cv] [(.int (1 : Int32))])) (fun tq_ kq_ => XS.goto X1.here hx rfl (pc0 := 17) (pc' := 21) rfl (hb hby d8_17) (by decide) (by decide) kq_) ?_
    exact own_ret X1 e1 (v := some (.int (1 : Int32))) (fun h => by rw [Bd.returns] at h; cases h) Bd.notSynchronized ⟨(by simp [own_holds, hc5]), N0, rfl⟩ (by decide) (by decide) (fun fs hr => retN X1 hx (t := .boolean) Bd.returns (by simp) (hb hby d8_21) hr)
  · refine own_G.step (g' := (mkF m 8 #[.val (.ref a), .val cv] [])) (fun tq_ kq_ => Jvm.RoadKit.acmp (g := (mkF m 5 #[.val (.ref a), .val cv] [cv, lv])) X1 hx rfl rlv rcv (pc0 := 5) (pc' := 8) (same := false) rfl (hb hby d8_5) rfl (decide_eq_false (show ¬ ((lv : Value) = cv) from hc5)) (by decide) (by decide) kq_) ?_
    refine own_G.step (g' := (mkF m 9 #[.val (.ref a), .val cv] [(.ref a)])) (fun tq_ kq_ => XS.aloadN X1.here hx rfl (hb hby d8_8) rfl rfl kq_) ?_
    obtain ⟨T2, X2, e2, st2⟩ := getF X1 hx hZ hown (host := "") (Or.inl (hw _ (List.mem_of_getElem? (i := 55) rfl))) Via.refl e1 F2 (g := (mkF m 9 #[.val (.ref a), .val cv] [(.ref a)])) rfl rfl (hb hby d8_9)
    refine own_G.step (T' := T2) (g' := (mkF m 12 #[.val (.ref a), .val cv] [rv])) st2 ?_
    refine own_G.step (g' := (mkF m 13 #[.val (.ref a), .val cv] [cv, rv])) (fun tq_ kq_ => XS.aloadN X2.here hx rfl (hb hby d8_12) rfl rcv kq_) ?_
    rcases Classical.em ((rv : Value) = cv) with hc13 | hc13
    · refine own_G.step (g' := (mkF m 16 #[.val (.ref a), .val cv] [])) (fun tq_ kq_ => Jvm.RoadKit.acmp (g := (mkF m 13 #[.val (.ref a), .val cv] [cv, rv])) X2 hx rfl rrv rcv (pc0 := 13) (pc' := 16) (same := true) rfl (hb hby d8_13) rfl (decide_eq_true (show (rv : Value) = cv from hc13)) (by decide) (by decide) kq_) ?_
      refine own_G.step (g' := (mkF m 17 #[.val (.ref a), .val cv] [(.int (1 : Int32))])) (fun tq_ kq_ => XS.iconst X2.here hx rfl (hb hby d8_16) kq_) ?_
      refine own_G.step (g' := (mkF m 21 #[.val (.ref a), .val cv] [(.int (1 : Int32))])) (fun tq_ kq_ => XS.goto X2.here hx rfl (pc0 := 17) (pc' := 21) rfl (hb hby d8_17) (by decide) (by decide) kq_) ?_
      exact own_ret X2 e2 (v := some (.int (1 : Int32))) (fun h => by rw [Bd.returns] at h; cases h) Bd.notSynchronized ⟨(by simp [own_holds, hc5, hc13]), N0, rfl⟩ (by decide) (by decide) (fun fs hr => retN X2 hx (t := .boolean) Bd.returns (by simp) (hb hby d8_21) hr)
    · refine own_G.step (g' := (mkF m 20 #[.val (.ref a), .val cv] [])) (fun tq_ kq_ => Jvm.RoadKit.acmp (g := (mkF m 13 #[.val (.ref a), .val cv] [cv, rv])) X2 hx rfl rrv rcv (pc0 := 13) (pc' := 20) (same := false) rfl (hb hby d8_13) rfl (decide_eq_false (show ¬ ((rv : Value) = cv) from hc13)) (by decide) (by decide) kq_) ?_
      refine own_G.step (g' := (mkF m 21 #[.val (.ref a), .val cv] [(.int (0 : Int32))])) (fun tq_ kq_ => XS.iconst X2.here hx rfl (hb hby d8_20) kq_) ?_
      exact own_ret X2 e2 (v := some (.int (0 : Int32))) (fun h => by rw [Bd.returns] at h; cases h) Bd.notSynchronized ⟨(by simp [own_holds, hc5, hc13]), N0, rfl⟩ (by decide) (by decide) (fun fs hr => retN X2 hx (t := .boolean) Bd.returns (by simp) (hb hby d8_21) hr)
theorem pd__28_5bLjava_2flang_2fObject_3b_5bLjava_2flang_2fObject_3b_5bI_29V : parseMethodDescriptor "([Ljava/lang/Object;[Ljava/lang/Object;[I)V" = some ⟨[(.array (.object "java/lang/Object")), (.array (.object "java/lang/Object")), (.array .int)], none⟩ := by decide +kernel
theorem pd__28I_29Ljava_2flang_2fInteger_3b : parseMethodDescriptor "(I)Ljava/lang/Integer;" = some ⟨[.int], some (.object "java/lang/Integer")⟩ := by decide +kernel
theorem pd__28ILcom_2fexample_2fbough_2fbough_2fNode_3bLcom_2fexample_2fbough_2fbough_2fNode_3bLcom_2fexample_2fbough_2fbough_2fNode_3b_29Lcom_2fexample_2fbough_2fbough_2fNode_3b : parseMethodDescriptor "(ILcom/example/bough/bough/Node;Lcom/example/bough/bough/Node;Lcom/example/bough/bough/Node;)Lcom/example/bough/bough/Node;" = some ⟨[.int, (.object "com/example/bough/bough/Node"), (.object "com/example/bough/bough/Node"), (.object "com/example/bough/bough/Node")], some (.object "com/example/bough/bough/Node")⟩ := by decide +kernel
theorem pd__28Ljava_2flang_2fObject_3bILcom_2fexample_2fbough_2fbough_2fNode_3bLcom_2fexample_2fbough_2fbough_2fNode_3b_29V : parseMethodDescriptor "(Ljava/lang/Object;ILcom/example/bough/bough/Node;Lcom/example/bough/bough/Node;)V" = some ⟨[(.object "java/lang/Object"), .int, (.object "com/example/bough/bough/Node"), (.object "com/example/bough/bough/Node")], none⟩ := by decide +kernel
theorem pd__28Lcom_2fexample_2fbough_2fbough_2fNode_3b_29Z : parseMethodDescriptor "(Lcom/example/bough/bough/Node;)Z" = some ⟨[(.object "com/example/bough/bough/Node")], some .boolean⟩ := by decide +kernel
theorem ef_law (m : MethodId) (i0 : Int32) (i1 : Int32) (i2 : Int32) : entryFrame m #[(.int i0), (.int i1), (.int i2)] maxLocals = mkF m 0 #[.val (.int i0), .val (.int i1), .val (.int i2), .unset, .unset, .unset, .unset, .unset, .unset, .unset, .unset, .unset] [] := by
  first | (simp [entryFrame, mkF, argsToLocals, Value.category, maxLocals]; done) | rfl
def Q_law (Z : State) (i0 : Int32) (i1 : Int32) (i2 : Int32) (nn : Addr) (ca : Addr) (cc : Cell) (h0 : Heap) (n0 : Nat) (v : Option Value) (h : Heap) (L : List Loc) : Prop := v = some (.int 1) ∧ Fr n0 L
set_option maxRecDepth 65536 in
set_option maxHeartbeats 40000000 in
theorem rm_law (l : Launch) (Z : State) (a0 : Array Value) (hw : ∀ d ∈ tables_1, d.before a0 Z = true) (ws : List Jvm.Cond) (i0 : Int32) (i1 : Int32) (i2 : Int32) (nn : Addr) (ca : Addr) (cc : Cell) (h0 : Heap) (n0 : Nat) (O0 : Old Z n0 h0) (S_NEW : Sta Z Z.heap "com/example/bough/bough/Node" "NEW_NODE" "Lcom/example/bough/bough/Node$Clean;" (.ref nn)) (S_high : Sta Z Z.heap "java/lang/Integer$IntegerCache" "high" "I" (.int (127 : Int32))) (S_cache : Sta Z Z.heap "java/lang/Integer$IntegerCache" "cache" "[Ljava/lang/Integer;" (.ref ca)) (BX : Bxs Z ca cc "java/lang/Integer" "I" (256 : Int32) (fun j => .int (j - 128))) :
    MetFree l x (head1 (Jvm.Cond.code x code maxLocals ret :: ws) room_1) (fun aq_ Uq_ => aq_ = #[(.int i0), (.int i1), (.int i2)] ∧ Z.Warmed39 Uq_.vm ∧ Uq_.heap = h0) (fun _ _ _ _ _ => True) (fun _ Uq_ oq_ Ur_ => ∃ vq_ Lq_, oq_ = .returned vq_ ∧ Q_law Z i0 i1 i2 nn ca cc h0 n0 vq_ Ur_.heap Lq_ ∧ FrameEnd Uq_ oq_ Ur_ Lq_ 11 30) := by
  refine MetFree.of_bodySF (plainFor_of_name pn_com_2fexample_2fbough_2fbough_2fInternalHoldsPinLaw) hisR ?_
  intro p e s m args below meth c s₁ Bd hml0 hP hK
  obtain ⟨rfl, hZ, hh⟩ := hP
  have hx := Bd.exec
  have hby := Bd.bytes
  have hml : c.maxLocals = 12 := hml0
  have hown : s.vm.findClass "com/example/bough/bough/InternalHoldsPinLaw" = some m.cls := findClass_of_methodNamed Bd.named
  have hnm := (name_of_methodNamed Bd.named Bd.method).1
  have X0 : Stand p l e room_1 s m #[(.int i0), (.int i1), (.int i2)] below meth c s₁ [] 0 0 := Stand.of_body Bd
  have e0 : s₁.heap = h0 := by rw [← hh, Bd.state]; rfl
  have N0 := Fr.nil n0
  have K0 := Keep.refl h0 []
  refine own_G.start (Q := Q_law Z i0 i1 i2 nn ca cc h0 n0) (ef_law m i0 i1 i2) ?_
  obtain ⟨T1, h1, X1, e1, E1, A1, D1, -, st1⟩ := newO X0 hx hZ hown (hw _ (List.mem_of_getElem? (i := 0) rfl)) (hw _ (List.mem_of_getElem? (i := 1) rfl)) (hw _ (List.mem_of_getElem? (i := 2) rfl)) e0 (g := (mkF m 0 #[.val (.int i0), .val (.int i1), .val (.int i2), .unset, .unset, .unset, .unset, .unset, .unset, .unset, .unset, .unset] [])) rfl (hb hby at_0) (by decide) (by decide)
  obtain ⟨b1, g1⟩ : ∃ z, z = h0.size := ⟨_, rfl⟩
  rw [← g1] at A1 D1 st1
  have g2 : n0 ≤ b1 := Nat.le_trans O0.le (Nat.le_of_eq g1.symm)
  have z3 : h0.size ≤ b1 := Nat.le_trans K0.1 (Nat.le_of_eq g1.symm)
  have O4 := O0.ext E1
  have K5 := K0.ext E1
  have F6 : Fld Z h1 b1 "com/example/bough/bough/Node$Leaf" "keys" "[Ljava/lang/Object;" .null := D1 (Or.inr (hw _ (List.mem_of_getElem? (i := 20) rfl))) (ty := (.array (.object "java/lang/Object"))) (by decide)
  have F7 : Fld Z h1 b1 "com/example/bough/bough/Node$Leaf" "values" "[Ljava/lang/Object;" .null := D1 (Or.inr (hw _ (List.mem_of_getElem? (i := 22) rfl))) (ty := (.array (.object "java/lang/Object"))) (by decide)
  have F8 : Fld Z h1 b1 "com/example/bough/bough/Node$Leaf" "digests" "[I" .null := D1 (Or.inr (hw _ (List.mem_of_getElem? (i := 24) rfl))) (ty := (.array .int)) (by decide)
  have F9 : Fld Z h1 b1 "com/example/bough/bough/Node$Leaf" "start" "S" (.int (0 : Int32)) := D1 (Or.inr (hw _ (List.mem_of_getElem? (i := 26) rfl))) (ty := .short) (by decide)
  have F10 : Fld Z h1 b1 "com/example/bough/bough/Node$Leaf" "end" "S" (.int (0 : Int32)) := D1 (Or.inr (hw _ (List.mem_of_getElem? (i := 28) rfl))) (ty := .short) (by decide)
  have F11 : Fld Z h1 b1 "com/example/bough/bough/Node$Leaf" "inserted" "S" (.int (0 : Int32)) := D1 (Or.inr (hw _ (List.mem_of_getElem? (i := 30) rfl))) (ty := .short) (by decide)
  refine own_G.step (T' := T1) (g' := (mkF m 3 #[.val (.int i0), .val (.int i1), .val (.int i2), .unset, .unset, .unset, .unset, .unset, .unset, .unset, .unset, .unset] [(.ref b1)])) st1 ?_
  refine own_G.step (g' := (mkF m 4 #[.val (.int i0), .val (.int i1), .val (.int i2), .unset, .unset, .unset, .unset, .unset, .unset, .unset, .unset, .unset] [(.ref b1), (.ref b1)])) (fun tq_ kq_ => XS.dup X1.here hx rfl (hb hby at_3) rfl rfl kq_) ?_
  refine own_G.step (g' := (mkF m 5 #[.val (.int i0), .val (.int i1), .val (.int i2), .unset, .unset, .unset, .unset, .unset, .unset, .unset, .unset, .unset] [(.int (1 : Int32)), (.ref b1), (.ref b1)])) (fun tq_ kq_ => XS.iconst X1.here hx rfl (hb hby at_4) kq_) ?_
  obtain ⟨T12, h12, k12, X12, e12, E12, A12, O12, st12⟩ := newR X1 hx hZ hown (hw _ (List.mem_of_getElem? (i := 3) rfl)) (hw _ (List.mem_of_getElem? (i := 4) rfl)) e1 (g := (mkF m 5 #[.val (.int i0), .val (.int i1), .val (.int i2), .unset, .unset, .unset, .unset, .unset, .unset, .unset, .unset, .unset] [(.int (1 : Int32)), (.ref b1), (.ref b1)])) rfl (hb hby at_5) rfl (by decide) (cap := 1) (by decide) (by decide) (by decide) (by decide)
  obtain ⟨b12, g12⟩ : ∃ z, z = h1.size := ⟨_, rfl⟩
  rw [← g12] at A12 st12
  have ne13 : b1 ≠ b12 := Nat.ne_of_lt (Nat.lt_of_lt_of_le A1.lt (Nat.le_of_eq g12.symm))
  have g14 : n0 ≤ b12 := Nat.le_trans O4.le (Nat.le_of_eq g12.symm)
  have z15 : h0.size ≤ b12 := Nat.le_trans K5.1 (Nat.le_of_eq g12.symm)
  have F16 := A1.ext E12
  have F17 := F6.ext E12
  have F18 := F7.ext E12
  have F19 := F8.ext E12
  have F20 := F9.ext E12
  have F21 := F10.ext E12
  have F22 := F11.ext E12
  have O23 := O4.ext E12
  have K24 := K5.ext E12
  have F25 : Arv Z h12 b12 k12 (.object "java/lang/Object") (1 : Int32) [] .null := Arv.new A12 (by decide)
  refine own_G.step (T' := T12) (g' := (mkF m 8 #[.val (.int i0), .val (.int i1), .val (.int i2), .unset, .unset, .unset, .unset, .unset, .unset, .unset, .unset, .unset] [(.ref b12), (.ref b1), (.ref b1)])) st12 ?_
  refine own_G.step (g' := (mkF m 9 #[.val (.int i0), .val (.int i1), .val (.int i2), .unset, .unset, .unset, .unset, .unset, .unset, .unset, .unset, .unset] [(.int (1 : Int32)), (.ref b12), (.ref b1), (.ref b1)])) (fun tq_ kq_ => XS.iconst X12.here hx rfl (hb hby at_8) kq_) ?_
  obtain ⟨T26, h26, k26, X26, e26, E26, A26, O26, st26⟩ := newR X12 hx hZ hown (hw _ (List.mem_of_getElem? (i := 3) rfl)) (hw _ (List.mem_of_getElem? (i := 4) rfl)) e12 (g := (mkF m 9 #[.val (.int i0), .val (.int i1), .val (.int i2), .unset, .unset, .unset, .unset, .unset, .unset, .unset, .unset, .unset] [(.int (1 : Int32)), (.ref b12), (.ref b1), (.ref b1)])) rfl (hb hby at_9) rfl (by decide) (cap := 1) (by decide) (by decide) (by decide) (by decide)
  obtain ⟨b26, g26⟩ : ∃ z, z = h12.size := ⟨_, rfl⟩
  rw [← g26] at A26 st26
  have ne27 : b1 ≠ b26 := Nat.ne_of_lt (Nat.lt_of_lt_of_le F16.lt (Nat.le_of_eq g26.symm))
  have ne28 : b12 ≠ b26 := Nat.ne_of_lt (Nat.lt_of_lt_of_le F25.lt (Nat.le_of_eq g26.symm))
  have g29 : n0 ≤ b26 := Nat.le_trans O23.le (Nat.le_of_eq g26.symm)
  have z30 : h0.size ≤ b26 := Nat.le_trans K24.1 (Nat.le_of_eq g26.symm)
  have F31 := F16.ext E26
  have F32 := F17.ext E26
  have F33 := F18.ext E26
  have F34 := F19.ext E26
  have F35 := F20.ext E26
  have F36 := F21.ext E26
  have F37 := F22.ext E26
  have F38 := F25.ext E26
  have O39 := O23.ext E26
  have K40 := K24.ext E26
  have F41 : Arv Z h26 b26 k26 (.object "java/lang/Object") (1 : Int32) [] .null := Arv.new A26 (by decide)
  refine own_G.step (T' := T26) (g' := (mkF m 12 #[.val (.int i0), .val (.int i1), .val (.int i2), .unset, .unset, .unset, .unset, .unset, .unset, .unset, .unset, .unset] [(.ref b26), (.ref b12), (.ref b1), (.ref b1)])) st26 ?_
  refine own_G.step (g' := (mkF m 13 #[.val (.int i0), .val (.int i1), .val (.int i2), .unset, .unset, .unset, .unset, .unset, .unset, .unset, .unset, .unset] [.null, (.ref b26), (.ref b12), (.ref b1), (.ref b1)])) (fun tq_ kq_ => XS.aconstNull X26.here hx rfl (hb hby at_12) kq_) ?_
  obtain ⟨_, _, ⟨T42, L42, k42, n42⟩, -, X42, ⟨Lc42, hQ42, l42, y42, z42⟩, st42⟩ := X26.specialBack hx (y := (⟨"com/example/bough/bough/Node$Leaf", "<init>", "([Ljava/lang/Object;[Ljava/lang/Object;[I)V"⟩ : MethodName)) rfl hown (mvT hZ (hw _ (List.mem_of_getElem? (i := 5) rfl))) (mvT hZ (hw _ (List.mem_of_getElem? (i := 6) rfl))) (mvT hZ (hw _ (List.mem_of_getElem? (i := 7) rfl))) (by decide) (backOf (W := 1) (rm_leaf3 l Z a0 hw [] b1 b12 b26 k12 (1 : Int32) h26 n0 O39 F32 F33 F34 F35 F36 F37 F31 g2 F38 (Ne.symm ne13)) hZ (hw _ (List.mem_of_getElem? (i := 7) rfl)) (hw _ (List.mem_of_getElem? (i := 2) rfl)) (by decide) (by decide)) (g := (mkF m 13 #[.val (.int i0), .val (.int i1), .val (.int i2), .unset, .unset, .unset, .unset, .unset, .unset, .unset, .unset, .unset] [.null, (.ref b26), (.ref b12), (.ref b1), (.ref b1)])) rfl (by rw [hml]; rfl) (Steps.refl _) (a := b1) (argsL := [(.ref b12), (.ref b26), .null]) (rest := [(.ref b1)]) (lenOf pd__28_5bLjava_2flang_2fObject_3b_5bLjava_2flang_2fObject_3b_5bI_29V rfl) rfl (by show 2 * 0 + _ ≤ _; exact Nat.le_of_eq rfl) (hb hby at_13) (fun _ _ => ⟨rfl, e26, (by decide : 3 + 0 ≤ _), (by decide : 8 + 0 ≤ _)⟩)
  dsimp only [Pt.U, Pt.locs, Pt.cells, Pt.slots] at X42 l42 y42 z42 st42 hQ42
  subst l42 y42 z42
  obtain ⟨rfl, Nq42, P43, P44⟩ := hQ42
  have N42 := Fr.app N0 Nq42
  have F45 := F31.keep P43
  have F46 := F38.keep P43 (ninS (Ne.symm ne13) nin0)
  have F47 := F41.keep P43 (ninS (Ne.symm ne27) nin0)
  have O48 := O39.keep P43 (allS g2 all0)
  have K49 := K40.trans P43 (allS (Or.inr z3) all0)
  refine own_G.step (T' := T42) (g' := (mkF m 16 #[.val (.int i0), .val (.int i1), .val (.int i2), .unset, .unset, .unset, .unset, .unset, .unset, .unset, .unset, .unset] [(.ref b1)])) (fun tq_ kq_ => st42.trans kq_) ?_
  refine own_G.step (g' := (mkF m 17 #[.val (.int i0), .val (.int i1), .val (.int i2), .val (.ref b1), .unset, .unset, .unset, .unset, .unset, .unset, .unset, .unset] [])) (fun tq_ kq_ => XS.astoreN X42.here hx rfl (hb hby at_16) rfl rfl (l' := #[.val (.int i0), .val (.int i1), .val (.int i2), .val (.ref b1), .unset, .unset, .unset, .unset, .unset, .unset, .unset, .unset]) rfl kq_) ?_
  obtain ⟨T50, h50, X50, e50, E50, A50, D50, -, st50⟩ := newO X42 hx hZ hown (hw _ (List.mem_of_getElem? (i := 0) rfl)) (hw _ (List.mem_of_getElem? (i := 1) rfl)) (hw _ (List.mem_of_getElem? (i := 2) rfl)) rfl (g := (mkF m 17 #[.val (.int i0), .val (.int i1), .val (.int i2), .val (.ref b1), .unset, .unset, .unset, .unset, .unset, .unset, .unset, .unset] [])) rfl (hb hby at_17) (by decide) (by decide)
  obtain ⟨b50, g50⟩ : ∃ z, z = T42.heap.size := ⟨_, rfl⟩
  rw [← g50] at A50 D50 st50
  have ne51 : b1 ≠ b50 := Nat.ne_of_lt (Nat.lt_of_lt_of_le P44.lt (Nat.le_of_eq g50.symm))
  have g52 : n0 ≤ b50 := Nat.le_trans O48.le (Nat.le_of_eq g50.symm)
  have z53 : h0.size ≤ b50 := Nat.le_trans K49.1 (Nat.le_of_eq g50.symm)
  have F54 := P44.ext E50
  have O55 := O48.ext E50
  have K56 := K49.ext E50
  have F57 : Fld Z h50 b50 "com/example/bough/bough/Node$Leaf" "keys" "[Ljava/lang/Object;" .null := D50 (Or.inr (hw _ (List.mem_of_getElem? (i := 20) rfl))) (ty := (.array (.object "java/lang/Object"))) (by decide)
  have F58 : Fld Z h50 b50 "com/example/bough/bough/Node$Leaf" "values" "[Ljava/lang/Object;" .null := D50 (Or.inr (hw _ (List.mem_of_getElem? (i := 22) rfl))) (ty := (.array (.object "java/lang/Object"))) (by decide)
  have F59 : Fld Z h50 b50 "com/example/bough/bough/Node$Leaf" "digests" "[I" .null := D50 (Or.inr (hw _ (List.mem_of_getElem? (i := 24) rfl))) (ty := (.array .int)) (by decide)
  have F60 : Fld Z h50 b50 "com/example/bough/bough/Node$Leaf" "start" "S" (.int (0 : Int32)) := D50 (Or.inr (hw _ (List.mem_of_getElem? (i := 26) rfl))) (ty := .short) (by decide)
  have F61 : Fld Z h50 b50 "com/example/bough/bough/Node$Leaf" "end" "S" (.int (0 : Int32)) := D50 (Or.inr (hw _ (List.mem_of_getElem? (i := 28) rfl))) (ty := .short) (by decide)
  have F62 : Fld Z h50 b50 "com/example/bough/bough/Node$Leaf" "inserted" "S" (.int (0 : Int32)) := D50 (Or.inr (hw _ (List.mem_of_getElem? (i := 30) rfl))) (ty := .short) (by decide)
  refine own_G.step (T' := T50) (g' := (mkF m 20 #[.val (.int i0), .val (.int i1), .val (.int i2), .val (.ref b1), .unset, .unset, .unset, .unset, .unset, .unset, .unset, .unset] [(.ref b50)])) st50 ?_
  refine own_G.step (g' := (mkF m 21 #[.val (.int i0), .val (.int i1), .val (.int i2), .val (.ref b1), .unset, .unset, .unset, .unset, .unset, .unset, .unset, .unset] [(.ref b50), (.ref b50)])) (fun tq_ kq_ => XS.dup X50.here hx rfl (hb hby at_20) rfl rfl kq_) ?_
  refine own_G.step (g' := (mkF m 22 #[.val (.int i0), .val (.int i1), .val (.int i2), .val (.ref b1), .unset, .unset, .unset, .unset, .unset, .unset, .unset, .unset] [(.int (1 : Int32)), (.ref b50), (.ref b50)])) (fun tq_ kq_ => XS.iconst X50.here hx rfl (hb hby at_21) kq_) ?_
  obtain ⟨T63, h63, k63, X63, e63, E63, A63, O63, st63⟩ := newR X50 hx hZ hown (hw _ (List.mem_of_getElem? (i := 3) rfl)) (hw _ (List.mem_of_getElem? (i := 4) rfl)) e50 (g := (mkF m 22 #[.val (.int i0), .val (.int i1), .val (.int i2), .val (.ref b1), .unset, .unset, .unset, .unset, .unset, .unset, .unset, .unset] [(.int (1 : Int32)), (.ref b50), (.ref b50)])) rfl (hb hby at_22) rfl (by decide) (cap := 1) (by decide) (by decide) (by decide) (by decide)
  obtain ⟨b63, g63⟩ : ∃ z, z = h50.size := ⟨_, rfl⟩
  rw [← g63] at A63 st63
  have ne64 : b1 ≠ b63 := Nat.ne_of_lt (Nat.lt_of_lt_of_le F54.lt (Nat.le_of_eq g63.symm))
  have ne65 : b50 ≠ b63 := Nat.ne_of_lt (Nat.lt_of_lt_of_le A50.lt (Nat.le_of_eq g63.symm))
  have g66 : n0 ≤ b63 := Nat.le_trans O55.le (Nat.le_of_eq g63.symm)
  have z67 : h0.size ≤ b63 := Nat.le_trans K56.1 (Nat.le_of_eq g63.symm)
  have F68 := F54.ext E63
  have F69 := A50.ext E63
  have F70 := F57.ext E63
  have F71 := F58.ext E63
  have F72 := F59.ext E63
  have F73 := F60.ext E63
  have F74 := F61.ext E63
  have F75 := F62.ext E63
  have O76 := O55.ext E63
  have K77 := K56.ext E63
  have F78 : Arv Z h63 b63 k63 (.object "java/lang/Object") (1 : Int32) [] .null := Arv.new A63 (by decide)
  refine own_G.step (T' := T63) (g' := (mkF m 25 #[.val (.int i0), .val (.int i1), .val (.int i2), .val (.ref b1), .unset, .unset, .unset, .unset, .unset, .unset, .unset, .unset] [(.ref b63), (.ref b50), (.ref b50)])) st63 ?_
  refine own_G.step (g' := (mkF m 26 #[.val (.int i0), .val (.int i1), .val (.int i2), .val (.ref b1), .unset, .unset, .unset, .unset, .unset, .unset, .unset, .unset] [(.int (1 : Int32)), (.ref b63), (.ref b50), (.ref b50)])) (fun tq_ kq_ => XS.iconst X63.here hx rfl (hb hby at_25) kq_) ?_
  obtain ⟨T79, h79, k79, X79, e79, E79, A79, O79, st79⟩ := newR X63 hx hZ hown (hw _ (List.mem_of_getElem? (i := 3) rfl)) (hw _ (List.mem_of_getElem? (i := 4) rfl)) e63 (g := (mkF m 26 #[.val (.int i0), .val (.int i1), .val (.int i2), .val (.ref b1), .unset, .unset, .unset, .unset, .unset, .unset, .unset, .unset] [(.int (1 : Int32)), (.ref b63), (.ref b50), (.ref b50)])) rfl (hb hby at_26) rfl (by decide) (cap := 1) (by decide) (by decide) (by decide) (by decide)
  obtain ⟨b79, g79⟩ : ∃ z, z = h63.size := ⟨_, rfl⟩
  rw [← g79] at A79 st79
  have ne80 : b1 ≠ b79 := Nat.ne_of_lt (Nat.lt_of_lt_of_le F68.lt (Nat.le_of_eq g79.symm))
  have ne81 : b50 ≠ b79 := Nat.ne_of_lt (Nat.lt_of_lt_of_le F69.lt (Nat.le_of_eq g79.symm))
  have ne82 : b63 ≠ b79 := Nat.ne_of_lt (Nat.lt_of_lt_of_le F78.lt (Nat.le_of_eq g79.symm))
  have g83 : n0 ≤ b79 := Nat.le_trans O76.le (Nat.le_of_eq g79.symm)
  have z84 : h0.size ≤ b79 := Nat.le_trans K77.1 (Nat.le_of_eq g79.symm)
  have F85 := F68.ext E79
  have F86 := F69.ext E79
  have F87 := F70.ext E79
  have F88 := F71.ext E79
  have F89 := F72.ext E79
  have F90 := F73.ext E79
  have F91 := F74.ext E79
  have F92 := F75.ext E79
  have F93 := F78.ext E79
  have O94 := O76.ext E79
  have K95 := K77.ext E79
  have F96 : Arv Z h79 b79 k79 (.object "java/lang/Object") (1 : Int32) [] .null := Arv.new A79 (by decide)
  refine own_G.step (T' := T79) (g' := (mkF m 29 #[.val (.int i0), .val (.int i1), .val (.int i2), .val (.ref b1), .unset, .unset, .unset, .unset, .unset, .unset, .unset, .unset] [(.ref b79), (.ref b63), (.ref b50), (.ref b50)])) st79 ?_
  refine own_G.step (g' := (mkF m 30 #[.val (.int i0), .val (.int i1), .val (.int i2), .val (.ref b1), .unset, .unset, .unset, .unset, .unset, .unset, .unset, .unset] [.null, (.ref b79), (.ref b63), (.ref b50), (.ref b50)])) (fun tq_ kq_ => XS.aconstNull X79.here hx rfl (hb hby at_29) kq_) ?_
  obtain ⟨_, _, ⟨T97, L97, k97, n97⟩, -, X97, ⟨Lc97, hQ97, l97, y97, z97⟩, st97⟩ := X79.specialBack hx (y := (⟨"com/example/bough/bough/Node$Leaf", "<init>", "([Ljava/lang/Object;[Ljava/lang/Object;[I)V"⟩ : MethodName)) rfl hown (mvT hZ (hw _ (List.mem_of_getElem? (i := 5) rfl))) (mvT hZ (hw _ (List.mem_of_getElem? (i := 6) rfl))) (mvT hZ (hw _ (List.mem_of_getElem? (i := 7) rfl))) (by decide) (backOf (W := 1) (rm_leaf3 l Z a0 hw [] b50 b63 b79 k63 (1 : Int32) h79 n0 O94 F87 F88 F89 F90 F91 F92 F86 g52 F93 (Ne.symm ne65)) hZ (hw _ (List.mem_of_getElem? (i := 7) rfl)) (hw _ (List.mem_of_getElem? (i := 2) rfl)) (by decide) (by decide)) (g := (mkF m 30 #[.val (.int i0), .val (.int i1), .val (.int i2), .val (.ref b1), .unset, .unset, .unset, .unset, .unset, .unset, .unset, .unset] [.null, (.ref b79), (.ref b63), (.ref b50), (.ref b50)])) rfl (by rw [hml]; rfl) (Steps.refl _) (a := b50) (argsL := [(.ref b63), (.ref b79), .null]) (rest := [(.ref b50)]) (lenOf pd__28_5bLjava_2flang_2fObject_3b_5bLjava_2flang_2fObject_3b_5bI_29V rfl) rfl (by show 2 * 0 + _ ≤ _; exact Nat.le_of_eq rfl) (hb hby at_30) (fun _ _ => ⟨rfl, e79, (by decide : 6 + 0 ≤ _), (by decide : 16 + 0 ≤ _)⟩)
  dsimp only [Pt.U, Pt.locs, Pt.cells, Pt.slots] at X97 l97 y97 z97 st97 hQ97
  subst l97 y97 z97
  obtain ⟨rfl, Nq97, P98, P99⟩ := hQ97
  have N97 := Fr.app N42 Nq97
  have F100 := F85.keep P98
  have F101 := F86.keep P98
  have F102 := F93.keep P98 (ninS (Ne.symm ne65) nin0)
  have F103 := F96.keep P98 (ninS (Ne.symm ne81) nin0)
  have O104 := O94.keep P98 (allS g52 all0)
  have K105 := K95.trans P98 (allS (Or.inr z53) all0)
  refine own_G.step (T' := T97) (g' := (mkF m 33 #[.val (.int i0), .val (.int i1), .val (.int i2), .val (.ref b1), .unset, .unset, .unset, .unset, .unset, .unset, .unset, .unset] [(.ref b50)])) (fun tq_ kq_ => st97.trans kq_) ?_
  refine own_G.step (g' := (mkF m 35 #[.val (.int i0), .val (.int i1), .val (.int i2), .val (.ref b1), .val (.ref b50), .unset, .unset, .unset, .unset, .unset, .unset, .unset] [])) (fun tq_ kq_ => XS.astore X97.here hx rfl (hb hby at_33) rfl rfl (l' := #[.val (.int i0), .val (.int i1), .val (.int i2), .val (.ref b1), .val (.ref b50), .unset, .unset, .unset, .unset, .unset, .unset, .unset]) rfl kq_) ?_
  obtain ⟨T106, h106, X106, e106, E106, A106, D106, -, st106⟩ := newO X97 hx hZ hown (hw _ (List.mem_of_getElem? (i := 0) rfl)) (hw _ (List.mem_of_getElem? (i := 1) rfl)) (hw _ (List.mem_of_getElem? (i := 2) rfl)) rfl (g := (mkF m 35 #[.val (.int i0), .val (.int i1), .val (.int i2), .val (.ref b1), .val (.ref b50), .unset, .unset, .unset, .unset, .unset, .unset, .unset] [])) rfl (hb hby at_35) (by decide) (by decide)
  obtain ⟨b106, g106⟩ : ∃ z, z = T97.heap.size := ⟨_, rfl⟩
  rw [← g106] at A106 D106 st106
  have ne107 : b1 ≠ b106 := Nat.ne_of_lt (Nat.lt_of_lt_of_le F100.lt (Nat.le_of_eq g106.symm))
  have ne108 : b50 ≠ b106 := Nat.ne_of_lt (Nat.lt_of_lt_of_le P99.lt (Nat.le_of_eq g106.symm))
  have g109 : n0 ≤ b106 := Nat.le_trans O104.le (Nat.le_of_eq g106.symm)
  have z110 : h0.size ≤ b106 := Nat.le_trans K105.1 (Nat.le_of_eq g106.symm)
  have F111 := F100.ext E106
  have F112 := P99.ext E106
  have O113 := O104.ext E106
  have K114 := K105.ext E106
  have F115 : Fld Z h106 b106 "com/example/bough/bough/Node$Leaf" "keys" "[Ljava/lang/Object;" .null := D106 (Or.inr (hw _ (List.mem_of_getElem? (i := 20) rfl))) (ty := (.array (.object "java/lang/Object"))) (by decide)
  have F116 : Fld Z h106 b106 "com/example/bough/bough/Node$Leaf" "values" "[Ljava/lang/Object;" .null := D106 (Or.inr (hw _ (List.mem_of_getElem? (i := 22) rfl))) (ty := (.array (.object "java/lang/Object"))) (by decide)
  have F117 : Fld Z h106 b106 "com/example/bough/bough/Node$Leaf" "digests" "[I" .null := D106 (Or.inr (hw _ (List.mem_of_getElem? (i := 24) rfl))) (ty := (.array .int)) (by decide)
  have F118 : Fld Z h106 b106 "com/example/bough/bough/Node$Leaf" "start" "S" (.int (0 : Int32)) := D106 (Or.inr (hw _ (List.mem_of_getElem? (i := 26) rfl))) (ty := .short) (by decide)
  have F119 : Fld Z h106 b106 "com/example/bough/bough/Node$Leaf" "end" "S" (.int (0 : Int32)) := D106 (Or.inr (hw _ (List.mem_of_getElem? (i := 28) rfl))) (ty := .short) (by decide)
  have F120 : Fld Z h106 b106 "com/example/bough/bough/Node$Leaf" "inserted" "S" (.int (0 : Int32)) := D106 (Or.inr (hw _ (List.mem_of_getElem? (i := 30) rfl))) (ty := .short) (by decide)
  refine own_G.step (T' := T106) (g' := (mkF m 38 #[.val (.int i0), .val (.int i1), .val (.int i2), .val (.ref b1), .val (.ref b50), .unset, .unset, .unset, .unset, .unset, .unset, .unset] [(.ref b106)])) st106 ?_
  refine own_G.step (g' := (mkF m 39 #[.val (.int i0), .val (.int i1), .val (.int i2), .val (.ref b1), .val (.ref b50), .unset, .unset, .unset, .unset, .unset, .unset, .unset] [(.ref b106), (.ref b106)])) (fun tq_ kq_ => XS.dup X106.here hx rfl (hb hby at_38) rfl rfl kq_) ?_
  refine own_G.step (g' := (mkF m 40 #[.val (.int i0), .val (.int i1), .val (.int i2), .val (.ref b1), .val (.ref b50), .unset, .unset, .unset, .unset, .unset, .unset, .unset] [(.int (1 : Int32)), (.ref b106), (.ref b106)])) (fun tq_ kq_ => XS.iconst X106.here hx rfl (hb hby at_39) kq_) ?_
  obtain ⟨T121, h121, k121, X121, e121, E121, A121, O121, st121⟩ := newR X106 hx hZ hown (hw _ (List.mem_of_getElem? (i := 3) rfl)) (hw _ (List.mem_of_getElem? (i := 4) rfl)) e106 (g := (mkF m 40 #[.val (.int i0), .val (.int i1), .val (.int i2), .val (.ref b1), .val (.ref b50), .unset, .unset, .unset, .unset, .unset, .unset, .unset] [(.int (1 : Int32)), (.ref b106), (.ref b106)])) rfl (hb hby at_40) rfl (by decide) (cap := 1) (by decide) (by decide) (by decide) (by decide)
  obtain ⟨b121, g121⟩ : ∃ z, z = h106.size := ⟨_, rfl⟩
  rw [← g121] at A121 st121
  have ne122 : b1 ≠ b121 := Nat.ne_of_lt (Nat.lt_of_lt_of_le F111.lt (Nat.le_of_eq g121.symm))
  have ne123 : b50 ≠ b121 := Nat.ne_of_lt (Nat.lt_of_lt_of_le F112.lt (Nat.le_of_eq g121.symm))
  have ne124 : b106 ≠ b121 := Nat.ne_of_lt (Nat.lt_of_lt_of_le A106.lt (Nat.le_of_eq g121.symm))
  have g125 : n0 ≤ b121 := Nat.le_trans O113.le (Nat.le_of_eq g121.symm)
  have z126 : h0.size ≤ b121 := Nat.le_trans K114.1 (Nat.le_of_eq g121.symm)
  have F127 := F111.ext E121
  have F128 := F112.ext E121
  have F129 := A106.ext E121
  have F130 := F115.ext E121
  have F131 := F116.ext E121
  have F132 := F117.ext E121
  have F133 := F118.ext E121
  have F134 := F119.ext E121
  have F135 := F120.ext E121
  have O136 := O113.ext E121
  have K137 := K114.ext E121
  have F138 : Arv Z h121 b121 k121 (.object "java/lang/Object") (1 : Int32) [] .null := Arv.new A121 (by decide)
  refine own_G.step (T' := T121) (g' := (mkF m 43 #[.val (.int i0), .val (.int i1), .val (.int i2), .val (.ref b1), .val (.ref b50), .unset, .unset, .unset, .unset, .unset, .unset, .unset] [(.ref b121), (.ref b106), (.ref b106)])) st121 ?_
  refine own_G.step (g' := (mkF m 44 #[.val (.int i0), .val (.int i1), .val (.int i2), .val (.ref b1), .val (.ref b50), .unset, .unset, .unset, .unset, .unset, .unset, .unset] [(.int (1 : Int32)), (.ref b121), (.ref b106), (.ref b106)])) (fun tq_ kq_ => XS.iconst X121.here hx rfl (hb hby at_43) kq_) ?_
  obtain ⟨T139, h139, k139, X139, e139, E139, A139, O139, st139⟩ := newR X121 hx hZ hown (hw _ (List.mem_of_getElem? (i := 3) rfl)) (hw _ (List.mem_of_getElem? (i := 4) rfl)) e121 (g := (mkF m 44 #[.val (.int i0), .val (.int i1), .val (.int i2), .val (.ref b1), .val (.ref b50), .unset, .unset, .unset, .unset, .unset, .unset, .unset] [(.int (1 : Int32)), (.ref b121), (.ref b106), (.ref b106)])) rfl (hb hby at_44) rfl (by decide) (cap := 1) (by decide) (by decide) (by decide) (by decide)
  obtain ⟨b139, g139⟩ : ∃ z, z = h121.size := ⟨_, rfl⟩
  rw [← g139] at A139 st139
  have ne140 : b1 ≠ b139 := Nat.ne_of_lt (Nat.lt_of_lt_of_le F127.lt (Nat.le_of_eq g139.symm))
  have ne141 : b50 ≠ b139 := Nat.ne_of_lt (Nat.lt_of_lt_of_le F128.lt (Nat.le_of_eq g139.symm))
  have ne142 : b106 ≠ b139 := Nat.ne_of_lt (Nat.lt_of_lt_of_le F129.lt (Nat.le_of_eq g139.symm))
  have ne143 : b121 ≠ b139 := Nat.ne_of_lt (Nat.lt_of_lt_of_le F138.lt (Nat.le_of_eq g139.symm))
  have g144 : n0 ≤ b139 := Nat.le_trans O136.le (Nat.le_of_eq g139.symm)
  have z145 : h0.size ≤ b139 := Nat.le_trans K137.1 (Nat.le_of_eq g139.symm)
  have F146 := F127.ext E139
  have F147 := F128.ext E139
  have F148 := F129.ext E139
  have F149 := F130.ext E139
  have F150 := F131.ext E139
  have F151 := F132.ext E139
  have F152 := F133.ext E139
  have F153 := F134.ext E139
  have F154 := F135.ext E139
  have F155 := F138.ext E139
  have O156 := O136.ext E139
  have K157 := K137.ext E139
  have F158 : Arv Z h139 b139 k139 (.object "java/lang/Object") (1 : Int32) [] .null := Arv.new A139 (by decide)
  refine own_G.step (T' := T139) (g' := (mkF m 47 #[.val (.int i0), .val (.int i1), .val (.int i2), .val (.ref b1), .val (.ref b50), .unset, .unset, .unset, .unset, .unset, .unset, .unset] [(.ref b139), (.ref b121), (.ref b106), (.ref b106)])) st139 ?_
  refine own_G.step (g' := (mkF m 48 #[.val (.int i0), .val (.int i1), .val (.int i2), .val (.ref b1), .val (.ref b50), .unset, .unset, .unset, .unset, .unset, .unset, .unset] [.null, (.ref b139), (.ref b121), (.ref b106), (.ref b106)])) (fun tq_ kq_ => XS.aconstNull X139.here hx rfl (hb hby at_47) kq_) ?_
  obtain ⟨_, _, ⟨T159, L159, k159, n159⟩, -, X159, ⟨Lc159, hQ159, l159, y159, z159⟩, st159⟩ := X139.specialBack hx (y := (⟨"com/example/bough/bough/Node$Leaf", "<init>", "([Ljava/lang/Object;[Ljava/lang/Object;[I)V"⟩ : MethodName)) rfl hown (mvT hZ (hw _ (List.mem_of_getElem? (i := 5) rfl))) (mvT hZ (hw _ (List.mem_of_getElem? (i := 6) rfl))) (mvT hZ (hw _ (List.mem_of_getElem? (i := 7) rfl))) (by decide) (backOf (W := 1) (rm_leaf3 l Z a0 hw [] b106 b121 b139 k121 (1 : Int32) h139 n0 O156 F149 F150 F151 F152 F153 F154 F148 g109 F155 (Ne.symm ne124)) hZ (hw _ (List.mem_of_getElem? (i := 7) rfl)) (hw _ (List.mem_of_getElem? (i := 2) rfl)) (by decide) (by decide)) (g := (mkF m 48 #[.val (.int i0), .val (.int i1), .val (.int i2), .val (.ref b1), .val (.ref b50), .unset, .unset, .unset, .unset, .unset, .unset, .unset] [.null, (.ref b139), (.ref b121), (.ref b106), (.ref b106)])) rfl (by rw [hml]; rfl) (Steps.refl _) (a := b106) (argsL := [(.ref b121), (.ref b139), .null]) (rest := [(.ref b106)]) (lenOf pd__28_5bLjava_2flang_2fObject_3b_5bLjava_2flang_2fObject_3b_5bI_29V rfl) rfl (by show 2 * 0 + _ ≤ _; exact Nat.le_of_eq rfl) (hb hby at_48) (fun _ _ => ⟨rfl, e139, (by decide : 9 + 0 ≤ _), (by decide : 24 + 0 ≤ _)⟩)
  dsimp only [Pt.U, Pt.locs, Pt.cells, Pt.slots] at X159 l159 y159 z159 st159 hQ159
  subst l159 y159 z159
  obtain ⟨rfl, Nq159, P160, P161⟩ := hQ159
  have N159 := Fr.app N97 Nq159
  have F162 := F146.keep P160
  have F163 := F147.keep P160
  have F164 := F148.keep P160
  have F165 := F155.keep P160 (ninS (Ne.symm ne124) nin0)
  have F166 := F158.keep P160 (ninS (Ne.symm ne142) nin0)
  have O167 := O156.keep P160 (allS g109 all0)
  have K168 := K157.trans P160 (allS (Or.inr z110) all0)
  refine own_G.step (T' := T159) (g' := (mkF m 51 #[.val (.int i0), .val (.int i1), .val (.int i2), .val (.ref b1), .val (.ref b50), .unset, .unset, .unset, .unset, .unset, .unset, .unset] [(.ref b106)])) (fun tq_ kq_ => st159.trans kq_) ?_
  refine own_G.step (g' := (mkF m 53 #[.val (.int i0), .val (.int i1), .val (.int i2), .val (.ref b1), .val (.ref b50), .val (.ref b106), .unset, .unset, .unset, .unset, .unset, .unset] [])) (fun tq_ kq_ => XS.astore X159.here hx rfl (hb hby at_51) rfl rfl (l' := #[.val (.int i0), .val (.int i1), .val (.int i2), .val (.ref b1), .val (.ref b50), .val (.ref b106), .unset, .unset, .unset, .unset, .unset, .unset]) rfl kq_) ?_
  refine own_G.step (g' := (mkF m 54 #[.val (.int i0), .val (.int i1), .val (.int i2), .val (.ref b1), .val (.ref b50), .val (.ref b106), .unset, .unset, .unset, .unset, .unset, .unset] [(.int i0)])) (fun tq_ kq_ => XS.iloadN X159.here hx rfl (hb hby at_53) rfl kq_) ?_
  refine own_G.step (g' := (mkF m 55 #[.val (.int i0), .val (.int i1), .val (.int i2), .val (.ref b1), .val (.ref b50), .val (.ref b106), .unset, .unset, .unset, .unset, .unset, .unset] [(.int (3 : Int32)), (.int i0)])) (fun tq_ kq_ => XS.iconst X159.here hx rfl (hb hby at_54) kq_) ?_
  refine own_G.step (g' := (mkF m 56 #[.val (.int i0), .val (.int i1), .val (.int i2), .val (.ref b1), .val (.ref b50), .val (.ref b106), .unset, .unset, .unset, .unset, .unset, .unset] [(.int (i0 &&& (3 : Int32)))])) (fun tq_ kq_ => XS.iand X159.here hx rfl (hb hby at_55) rfl kq_) ?_
  refine own_G.step (g' := (mkF m 58 #[.val (.int i0), .val (.int i1), .val (.int i2), .val (.ref b1), .val (.ref b50), .val (.ref b106), .val (.int (i0 &&& (3 : Int32))), .unset, .unset, .unset, .unset, .unset] [])) (fun tq_ kq_ => XS.istore X159.here hx rfl (hb hby at_56) rfl (l' := #[.val (.int i0), .val (.int i1), .val (.int i2), .val (.ref b1), .val (.ref b50), .val (.ref b106), .val (.int (i0 &&& (3 : Int32))), .unset, .unset, .unset, .unset, .unset]) rfl kq_) ?_
  refine own_G.step (g' := (mkF m 59 #[.val (.int i0), .val (.int i1), .val (.int i2), .val (.ref b1), .val (.ref b50), .val (.ref b106), .val (.int (i0 &&& (3 : Int32))), .unset, .unset, .unset, .unset, .unset] [(.int i0)])) (fun tq_ kq_ => XS.iloadN X159.here hx rfl (hb hby at_58) rfl kq_) ?_
  refine own_G.step (g' := (mkF m 60 #[.val (.int i0), .val (.int i1), .val (.int i2), .val (.ref b1), .val (.ref b50), .val (.ref b106), .val (.int (i0 &&& (3 : Int32))), .unset, .unset, .unset, .unset, .unset] [(.int (2 : Int32)), (.int i0)])) (fun tq_ kq_ => XS.iconst X159.here hx rfl (hb hby at_59) kq_) ?_
  refine own_G.step (g' := (mkF m 61 #[.val (.int i0), .val (.int i1), .val (.int i2), .val (.ref b1), .val (.ref b50), .val (.ref b106), .val (.int (i0 &&& (3 : Int32))), .unset, .unset, .unset, .unset, .unset] [(.int ((i0.toUInt32 >>> ((2 : Int32) &&& 31).toUInt32).toInt32))])) (fun tq_ kq_ => XS.iushr X159.here hx rfl (hb hby at_60) rfl kq_) ?_
  refine own_G.step (g' := (mkF m 62 #[.val (.int i0), .val (.int i1), .val (.int i2), .val (.ref b1), .val (.ref b50), .val (.ref b106), .val (.int (i0 &&& (3 : Int32))), .unset, .unset, .unset, .unset, .unset] [(.int (3 : Int32)), (.int ((i0.toUInt32 >>> ((2 : Int32) &&& 31).toUInt32).toInt32))])) (fun tq_ kq_ => XS.iconst X159.here hx rfl (hb hby at_61) kq_) ?_
  refine own_G.step (g' := (mkF m 63 #[.val (.int i0), .val (.int i1), .val (.int i2), .val (.ref b1), .val (.ref b50), .val (.ref b106), .val (.int (i0 &&& (3 : Int32))), .unset, .unset, .unset, .unset, .unset] [(.int (((i0.toUInt32 >>> ((2 : Int32) &&& 31).toUInt32).toInt32) &&& (3 : Int32)))])) (fun tq_ kq_ => XS.iand X159.here hx rfl (hb hby at_62) rfl kq_) ?_
  refine own_G.step (g' := (mkF m 65 #[.val (.int i0), .val (.int i1), .val (.int i2), .val (.ref b1), .val (.ref b50), .val (.ref b106), .val (.int (i0 &&& (3 : Int32))), .val (.int (((i0.toUInt32 >>> ((2 : Int32) &&& 31).toUInt32).toInt32) &&& (3 : Int32))), .unset, .unset, .unset, .unset] [])) (fun tq_ kq_ => XS.istore X159.here hx rfl (hb hby at_63) rfl (l' := #[.val (.int i0), .val (.int i1), .val (.int i2), .val (.ref b1), .val (.ref b50), .val (.ref b106), .val (.int (i0 &&& (3 : Int32))), .val (.int (((i0.toUInt32 >>> ((2 : Int32) &&& 31).toUInt32).toInt32) &&& (3 : Int32))), .unset, .unset, .unset, .unset]) rfl kq_) ?_
  refine own_G.step (g' := (mkF m 66 #[.val (.int i0), .val (.int i1), .val (.int i2), .val (.ref b1), .val (.ref b50), .val (.ref b106), .val (.int (i0 &&& (3 : Int32))), .val (.int (((i0.toUInt32 >>> ((2 : Int32) &&& 31).toUInt32).toInt32) &&& (3 : Int32))), .unset, .unset, .unset, .unset] [(.int i0)])) (fun tq_ kq_ => XS.iloadN X159.here hx rfl (hb hby at_65) rfl kq_) ?_
  refine own_G.step (g' := (mkF m 67 #[.val (.int i0), .val (.int i1), .val (.int i2), .val (.ref b1), .val (.ref b50), .val (.ref b106), .val (.int (i0 &&& (3 : Int32))), .val (.int (((i0.toUInt32 >>> ((2 : Int32) &&& 31).toUInt32).toInt32) &&& (3 : Int32))), .unset, .unset, .unset, .unset] [(.int (4 : Int32)), (.int i0)])) (fun tq_ kq_ => XS.iconst X159.here hx rfl (hb hby at_66) kq_) ?_
  refine own_G.step (g' := (mkF m 68 #[.val (.int i0), .val (.int i1), .val (.int i2), .val (.ref b1), .val (.ref b50), .val (.ref b106), .val (.int (i0 &&& (3 : Int32))), .val (.int (((i0.toUInt32 >>> ((2 : Int32) &&& 31).toUInt32).toInt32) &&& (3 : Int32))), .unset, .unset, .unset, .unset] [(.int ((i0.toUInt32 >>> ((4 : Int32) &&& 31).toUInt32).toInt32))])) (fun tq_ kq_ => XS.iushr X159.here hx rfl (hb hby at_67) rfl kq_) ?_
  refine own_G.step (g' := (mkF m 69 #[.val (.int i0), .val (.int i1), .val (.int i2), .val (.ref b1), .val (.ref b50), .val (.ref b106), .val (.int (i0 &&& (3 : Int32))), .val (.int (((i0.toUInt32 >>> ((2 : Int32) &&& 31).toUInt32).toInt32) &&& (3 : Int32))), .unset, .unset, .unset, .unset] [(.int (3 : Int32)), (.int ((i0.toUInt32 >>> ((4 : Int32) &&& 31).toUInt32).toInt32))])) (fun tq_ kq_ => XS.iconst X159.here hx rfl (hb hby at_68) kq_) ?_
  refine own_G.step (g' := (mkF m 70 #[.val (.int i0), .val (.int i1), .val (.int i2), .val (.ref b1), .val (.ref b50), .val (.ref b106), .val (.int (i0 &&& (3 : Int32))), .val (.int (((i0.toUInt32 >>> ((2 : Int32) &&& 31).toUInt32).toInt32) &&& (3 : Int32))), .unset, .unset, .unset, .unset] [(.int (((i0.toUInt32 >>> ((4 : Int32) &&& 31).toUInt32).toInt32) &&& (3 : Int32)))])) (fun tq_ kq_ => XS.iand X159.here hx rfl (hb hby at_69) rfl kq_) ?_
  refine own_G.step (g' := (mkF m 72 #[.val (.int i0), .val (.int i1), .val (.int i2), .val (.ref b1), .val (.ref b50), .val (.ref b106), .val (.int (i0 &&& (3 : Int32))), .val (.int (((i0.toUInt32 >>> ((2 : Int32) &&& 31).toUInt32).toInt32) &&& (3 : Int32))), .val (.int (((i0.toUInt32 >>> ((4 : Int32) &&& 31).toUInt32).toInt32) &&& (3 : Int32))), .unset, .unset, .unset] [])) (fun tq_ kq_ => XS.istore X159.here hx rfl (hb hby at_70) rfl (l' := #[.val (.int i0), .val (.int i1), .val (.int i2), .val (.ref b1), .val (.ref b50), .val (.ref b106), .val (.int (i0 &&& (3 : Int32))), .val (.int (((i0.toUInt32 >>> ((2 : Int32) &&& 31).toUInt32).toInt32) &&& (3 : Int32))), .val (.int (((i0.toUInt32 >>> ((4 : Int32) &&& 31).toUInt32).toInt32) &&& (3 : Int32))), .unset, .unset, .unset]) rfl kq_) ?_
  obtain ⟨ri, hri⟩ : ∃ z, z = (((i0.toUInt32 >>> ((2 : Int32) &&& 31).toUInt32).toInt32) &&& (3 : Int32)) := ⟨_, rfl⟩
  refine own_G.cast (g' := (mkF m 72 #[.val (.int i0), .val (.int i1), .val (.int i2), .val (.ref b1), .val (.ref b50), .val (.ref b106), .val (.int (i0 &&& (3 : Int32))), .val (.int ri), .val (.int (((i0.toUInt32 >>> ((4 : Int32) &&& 31).toUInt32).toInt32) &&& (3 : Int32))), .unset, .unset, .unset] [])) (by rw [hri]) ?_
  have hfri := own_four ((i0.toUInt32 >>> ((2 : Int32) &&& 31).toUInt32).toInt32)
  rw [← hri] at hfri
  obtain ⟨ci, hci⟩ : ∃ z, z = (((i0.toUInt32 >>> ((4 : Int32) &&& 31).toUInt32).toInt32) &&& (3 : Int32)) := ⟨_, rfl⟩
  refine own_G.cast (g' := (mkF m 72 #[.val (.int i0), .val (.int i1), .val (.int i2), .val (.ref b1), .val (.ref b50), .val (.ref b106), .val (.int (i0 &&& (3 : Int32))), .val (.int ri), .val (.int ci), .unset, .unset, .unset] [])) (by rw [hci]) ?_
  have hfci := own_four ((i0.toUInt32 >>> ((4 : Int32) &&& 31).toUInt32).toInt32)
  rw [← hci] at hfci
  obtain ⟨li, hli⟩ : ∃ z, z = (i0 &&& (3 : Int32)) := ⟨_, rfl⟩
  refine own_G.cast (g' := (mkF m 72 #[.val (.int i0), .val (.int i1), .val (.int i2), .val (.ref b1), .val (.ref b50), .val (.ref b106), .val (.int li), .val (.int ri), .val (.int ci), .unset, .unset, .unset] [])) (by rw [hli]) ?_
  have hfli := own_four i0
  rw [← hli] at hfli
  obtain ⟨T169, h169, X169, e169, E169, A169, D169, -, st169⟩ := newO X159 hx hZ hown (hw _ (List.mem_of_getElem? (i := 31) rfl)) (hw _ (List.mem_of_getElem? (i := 32) rfl)) (hw _ (List.mem_of_getElem? (i := 33) rfl)) rfl (g := (mkF m 72 #[.val (.int i0), .val (.int i1), .val (.int i2), .val (.ref b1), .val (.ref b50), .val (.ref b106), .val (.int li), .val (.int ri), .val (.int ci), .unset, .unset, .unset] [])) rfl (hb hby at_72) (by decide) (by decide)
  obtain ⟨b169, g169⟩ : ∃ z, z = T159.heap.size := ⟨_, rfl⟩
  rw [← g169] at A169 D169 st169
  have ne170 : b1 ≠ b169 := Nat.ne_of_lt (Nat.lt_of_lt_of_le F162.lt (Nat.le_of_eq g169.symm))
  have ne171 : b50 ≠ b169 := Nat.ne_of_lt (Nat.lt_of_lt_of_le F163.lt (Nat.le_of_eq g169.symm))
  have ne172 : b106 ≠ b169 := Nat.ne_of_lt (Nat.lt_of_lt_of_le P161.lt (Nat.le_of_eq g169.symm))
  have g173 : n0 ≤ b169 := Nat.le_trans O167.le (Nat.le_of_eq g169.symm)
  have z174 : h0.size ≤ b169 := Nat.le_trans K168.1 (Nat.le_of_eq g169.symm)
  have F175 := F162.ext E169
  have F176 := F163.ext E169
  have F177 := P161.ext E169
  have O178 := O167.ext E169
  have K179 := K168.ext E169
  have F180 : Fld Z h169 b169 "com/example/bough/bough/Node$Internal" "key" "Ljava/lang/Object;" .null := D169 (Or.inl (hw _ (List.mem_of_getElem? (i := 50) rfl))) (ty := (.object "java/lang/Object")) (by decide)
  have F181 : Fld Z h169 b169 "com/example/bough/bough/Node$Internal" "digest" "I" (.int (0 : Int32)) := D169 (Or.inl (hw _ (List.mem_of_getElem? (i := 52) rfl))) (ty := .int) (by decide)
  have F182 : Fld Z h169 b169 "com/example/bough/bough/Node$Internal" "left" "Lcom/example/bough/bough/Node;" .null := D169 (Or.inl (hw _ (List.mem_of_getElem? (i := 54) rfl))) (ty := (.object "com/example/bough/bough/Node")) (by decide)
  have F183 : Fld Z h169 b169 "com/example/bough/bough/Node$Internal" "right" "Lcom/example/bough/bough/Node;" .null := D169 (Or.inl (hw _ (List.mem_of_getElem? (i := 56) rfl))) (ty := (.object "com/example/bough/bough/Node")) (by decide)
  have F184 : Fld Z h169 b169 "com/example/bough/bough/Node$Internal" "update" "Ljava/lang/Object;" .null := D169 (Or.inl (hw _ (List.mem_of_getElem? (i := 60) rfl))) (ty := (.object "java/lang/Object")) (by decide)
  refine own_G.step (T' := T169) (g' := (mkF m 75 #[.val (.int i0), .val (.int i1), .val (.int i2), .val (.ref b1), .val (.ref b50), .val (.ref b106), .val (.int li), .val (.int ri), .val (.int ci), .unset, .unset, .unset] [(.ref b169)])) st169 ?_
  refine own_G.step (g' := (mkF m 76 #[.val (.int i0), .val (.int i1), .val (.int i2), .val (.ref b1), .val (.ref b50), .val (.ref b106), .val (.int li), .val (.int ri), .val (.int ci), .unset, .unset, .unset] [(.ref b169), (.ref b169)])) (fun tq_ kq_ => XS.dup X169.here hx rfl (hb hby at_75) rfl rfl kq_) ?_
  refine own_G.step (g' := (mkF m 77 #[.val (.int i0), .val (.int i1), .val (.int i2), .val (.ref b1), .val (.ref b50), .val (.ref b106), .val (.int li), .val (.int ri), .val (.int ci), .unset, .unset, .unset] [(.int i1), (.ref b169), (.ref b169)])) (fun tq_ kq_ => XS.iloadN X169.here hx rfl (hb hby at_76) rfl kq_) ?_
  obtain ⟨_, _, ⟨T185, L185, k185, n185⟩, -, X185, ⟨Lc185, hQ185, l185, y185, z185⟩, st185⟩ := Jvm.LawKit.callS X169 hx (y := (⟨"java/lang/Integer", "valueOf", "(I)Ljava/lang/Integer;"⟩ : MethodName)) hown (mvT hZ (hw _ (List.mem_of_getElem? (i := 34) rfl))) (mvT hZ (hw _ (List.mem_of_getElem? (i := 35) rfl))) (mvT hZ (hw _ (List.mem_of_getElem? (i := 36) rfl))) (mvT hZ (hw _ (List.mem_of_getElem? (i := 37) rfl))) (by decide) (backOf (W := 2) (rm_valueOf l Z a0 hw [] i1 ca cc h169 n0 O178 S_high S_cache BX) hZ (hw _ (List.mem_of_getElem? (i := 37) rfl)) (hw _ (List.mem_of_getElem? (i := 36) rfl)) (by decide) (by decide)) (g := (mkF m 77 #[.val (.int i0), .val (.int i1), .val (.int i2), .val (.ref b1), .val (.ref b50), .val (.ref b106), .val (.int li), .val (.int ri), .val (.int ci), .unset, .unset, .unset] [(.int i1), (.ref b169), (.ref b169)])) rfl (by rw [hml]; rfl) (argsL := [(.int i1)]) (rest := [(.ref b169), (.ref b169)]) (lenOf pd__28I_29Ljava_2flang_2fInteger_3b rfl) rfl (by show 2 * 0 + _ ≤ _; exact Nat.le_of_eq rfl) (hb hby at_77) (fun _ _ => ⟨rfl, e169, (by decide : 10 + 1 ≤ _), (by decide : 29 + 1 ≤ _)⟩)
  dsimp only [Pt.U, Pt.locs, Pt.cells, Pt.slots] at X185 l185 y185 z185 st185 hQ185
  subst l185 y185 z185
  obtain ⟨b186, rfl, Nq185, P187, P188, P189⟩ := hQ185
  have N185 := Fr.app N159 Nq185
  have F190 := F175.keep P187
  have F191 := F176.keep P187
  have F192 := F177.keep P187
  have F193 := A169.keep P187
  have F194 := F180.keep P187 nin0
  have F195 := F181.keep P187 nin0
  have F196 := F182.keep P187 nin0
  have F197 := F183.keep P187 nin0
  have F198 := F184.keep P187 nin0
  have O199 := O178.keep P187 all0
  have K200 := K179.trans P187 all0
  refine own_G.step (T' := T185) (g' := (mkF m 80 #[.val (.int i0), .val (.int i1), .val (.int i2), .val (.ref b1), .val (.ref b50), .val (.ref b106), .val (.int li), .val (.int ri), .val (.int ci), .unset, .unset, .unset] [(.ref b186), (.ref b169), (.ref b169)])) (fun tq_ kq_ => st185 _ kq_) ?_
  refine own_G.step (g' := (mkF m 81 #[.val (.int i0), .val (.int i1), .val (.int i2), .val (.ref b1), .val (.ref b50), .val (.ref b106), .val (.int li), .val (.int ri), .val (.int ci), .unset, .unset, .unset] [(.int i2), (.ref b186), (.ref b169), (.ref b169)])) (fun tq_ kq_ => XS.iloadN X185.here hx rfl (hb hby at_80) rfl kq_) ?_
  refine own_G.step (g' := (mkF m 83 #[.val (.int i0), .val (.int i1), .val (.int i2), .val (.ref b1), .val (.ref b50), .val (.ref b106), .val (.int li), .val (.int ri), .val (.int ci), .unset, .unset, .unset] [(.int li), (.int i2), (.ref b186), (.ref b169), (.ref b169)])) (fun tq_ kq_ => XS.iload X185.here hx rfl (hb hby at_81) rfl kq_) ?_
  refine own_G.step (g' := (mkF m 84 #[.val (.int i0), .val (.int i1), .val (.int i2), .val (.ref b1), .val (.ref b50), .val (.ref b106), .val (.int li), .val (.int ri), .val (.int ci), .unset, .unset, .unset] [(.ref b1), (.int li), (.int i2), (.ref b186), (.ref b169), (.ref b169)])) (fun tq_ kq_ => XS.aloadN X185.here hx rfl (hb hby at_83) rfl rfl kq_) ?_
  refine own_G.step (g' := (mkF m 86 #[.val (.int i0), .val (.int i1), .val (.int i2), .val (.ref b1), .val (.ref b50), .val (.ref b106), .val (.int li), .val (.int ri), .val (.int ci), .unset, .unset, .unset] [(.ref b50), (.ref b1), (.int li), (.int i2), (.ref b186), (.ref b169), (.ref b169)])) (fun tq_ kq_ => XS.aload X185.here hx rfl (hb hby at_84) rfl rfl kq_) ?_
  refine own_G.step (g' := (mkF m 88 #[.val (.int i0), .val (.int i1), .val (.int i2), .val (.ref b1), .val (.ref b50), .val (.ref b106), .val (.int li), .val (.int ri), .val (.int ci), .unset, .unset, .unset] [(.ref b106), (.ref b50), (.ref b1), (.int li), (.int i2), (.ref b186), (.ref b169), (.ref b169)])) (fun tq_ kq_ => XS.aload X185.here hx rfl (hb hby at_86) rfl rfl kq_) ?_
  obtain ⟨_, _, ⟨T201, L201, k201, n201⟩, -, X201, ⟨Lc201, hQ201, l201, y201, z201⟩, st201⟩ := Jvm.LawKit.callS X185 hx (y := (⟨"com/example/bough/bough/InternalHoldsPinLaw", "pick", "(ILcom/example/bough/bough/Node;Lcom/example/bough/bough/Node;Lcom/example/bough/bough/Node;)Lcom/example/bough/bough/Node;"⟩ : MethodName)) hown (mvT hZ (hw _ (List.mem_of_getElem? (i := 41) rfl))) (mvT hZ (hw _ (List.mem_of_getElem? (i := 42) rfl))) (mvT hZ (hw _ (List.mem_of_getElem? (i := 43) rfl))) (mvT hZ (hw _ (List.mem_of_getElem? (i := 44) rfl))) (by decide) (backOf (W := 4) (rm_pick l Z a0 hw [] li b1 b50 b106 T185.heap n0 O199 ) hZ (hw _ (List.mem_of_getElem? (i := 44) rfl)) (hw _ (List.mem_of_getElem? (i := 43) rfl)) (by decide) (by decide)) (g := (mkF m 88 #[.val (.int i0), .val (.int i1), .val (.int i2), .val (.ref b1), .val (.ref b50), .val (.ref b106), .val (.int li), .val (.int ri), .val (.int ci), .unset, .unset, .unset] [(.ref b106), (.ref b50), (.ref b1), (.int li), (.int i2), (.ref b186), (.ref b169), (.ref b169)])) rfl (by rw [hml]; rfl) (argsL := [(.int li), (.ref b1), (.ref b50), (.ref b106)]) (rest := [(.int i2), (.ref b186), (.ref b169), (.ref b169)]) (lenOf pd__28ILcom_2fexample_2fbough_2fbough_2fNode_3bLcom_2fexample_2fbough_2fbough_2fNode_3bLcom_2fexample_2fbough_2fbough_2fNode_3b_29Lcom_2fexample_2fbough_2fbough_2fNode_3b rfl) rfl (by show 2 * 0 + _ ≤ _; exact Nat.le_of_eq rfl) (hb hby at_88) (fun _ _ => ⟨rfl, rfl, (by decide : 11 + 0 ≤ _), (by decide : 30 + 0 ≤ _)⟩)
  dsimp only [Pt.U, Pt.locs, Pt.cells, Pt.slots] at X201 l201 y201 z201 st201 hQ201
  subst l201 y201 z201
  obtain ⟨rfl, Nq201, P202⟩ := hQ201
  have N201 := Fr.app N185 Nq201
  refine own_G.step (T' := T201) (g' := (mkF m 91 #[.val (.int i0), .val (.int i1), .val (.int i2), .val (.ref b1), .val (.ref b50), .val (.ref b106), .val (.int li), .val (.int ri), .val (.int ci), .unset, .unset, .unset] [(own_pk li b1 b50 b106), (.int i2), (.ref b186), (.ref b169), (.ref b169)])) (fun tq_ kq_ => st201 _ kq_) ?_
  refine own_G.step (g' := (mkF m 93 #[.val (.int i0), .val (.int i1), .val (.int i2), .val (.ref b1), .val (.ref b50), .val (.ref b106), .val (.int li), .val (.int ri), .val (.int ci), .unset, .unset, .unset] [(.int ri), (own_pk li b1 b50 b106), (.int i2), (.ref b186), (.ref b169), (.ref b169)])) (fun tq_ kq_ => XS.iload X201.here hx rfl (hb hby at_91) rfl kq_) ?_
  refine own_G.step (g' := (mkF m 94 #[.val (.int i0), .val (.int i1), .val (.int i2), .val (.ref b1), .val (.ref b50), .val (.ref b106), .val (.int li), .val (.int ri), .val (.int ci), .unset, .unset, .unset] [(.ref b1), (.int ri), (own_pk li b1 b50 b106), (.int i2), (.ref b186), (.ref b169), (.ref b169)])) (fun tq_ kq_ => XS.aloadN X201.here hx rfl (hb hby at_93) rfl rfl kq_) ?_
  refine own_G.step (g' := (mkF m 96 #[.val (.int i0), .val (.int i1), .val (.int i2), .val (.ref b1), .val (.ref b50), .val (.ref b106), .val (.int li), .val (.int ri), .val (.int ci), .unset, .unset, .unset] [(.ref b50), (.ref b1), (.int ri), (own_pk li b1 b50 b106), (.int i2), (.ref b186), (.ref b169), (.ref b169)])) (fun tq_ kq_ => XS.aload X201.here hx rfl (hb hby at_94) rfl rfl kq_) ?_
  refine own_G.step (g' := (mkF m 98 #[.val (.int i0), .val (.int i1), .val (.int i2), .val (.ref b1), .val (.ref b50), .val (.ref b106), .val (.int li), .val (.int ri), .val (.int ci), .unset, .unset, .unset] [(.ref b106), (.ref b50), (.ref b1), (.int ri), (own_pk li b1 b50 b106), (.int i2), (.ref b186), (.ref b169), (.ref b169)])) (fun tq_ kq_ => XS.aload X201.here hx rfl (hb hby at_96) rfl rfl kq_) ?_
  obtain ⟨_, _, ⟨T203, L203, k203, n203⟩, -, X203, ⟨Lc203, hQ203, l203, y203, z203⟩, st203⟩ := Jvm.LawKit.callS X201 hx (y := (⟨"com/example/bough/bough/InternalHoldsPinLaw", "pick", "(ILcom/example/bough/bough/Node;Lcom/example/bough/bough/Node;Lcom/example/bough/bough/Node;)Lcom/example/bough/bough/Node;"⟩ : MethodName)) hown (mvT hZ (hw _ (List.mem_of_getElem? (i := 41) rfl))) (mvT hZ (hw _ (List.mem_of_getElem? (i := 42) rfl))) (mvT hZ (hw _ (List.mem_of_getElem? (i := 43) rfl))) (mvT hZ (hw _ (List.mem_of_getElem? (i := 44) rfl))) (by decide) (backOf (W := 5) (rm_pick l Z a0 hw [] ri b1 b50 b106 T185.heap n0 O199 ) hZ (hw _ (List.mem_of_getElem? (i := 44) rfl)) (hw _ (List.mem_of_getElem? (i := 43) rfl)) (by decide) (by decide)) (g := (mkF m 98 #[.val (.int i0), .val (.int i1), .val (.int i2), .val (.ref b1), .val (.ref b50), .val (.ref b106), .val (.int li), .val (.int ri), .val (.int ci), .unset, .unset, .unset] [(.ref b106), (.ref b50), (.ref b1), (.int ri), (own_pk li b1 b50 b106), (.int i2), (.ref b186), (.ref b169), (.ref b169)])) rfl (by rw [hml]; rfl) (argsL := [(.int ri), (.ref b1), (.ref b50), (.ref b106)]) (rest := [(own_pk li b1 b50 b106), (.int i2), (.ref b186), (.ref b169), (.ref b169)]) (lenOf pd__28ILcom_2fexample_2fbough_2fbough_2fNode_3bLcom_2fexample_2fbough_2fbough_2fNode_3bLcom_2fexample_2fbough_2fbough_2fNode_3b_29Lcom_2fexample_2fbough_2fbough_2fNode_3b rfl) rfl (by show 2 * 0 + (List.map (fun v => Value.category v) [(own_pk li b1 b50 b106), (.int i2), (.ref b186), (.ref b169), (.ref b169)]).sum ≤ 5; simp only [List.map_cons, List.map_nil, List.sum_cons, List.sum_nil, own_cat (own_pk_ref li b1 b50 b106)]; exact Nat.le_of_eq rfl) (hb hby at_98) (fun _ _ => ⟨rfl, P202, (by decide : 11 + 0 ≤ _), (by decide : 30 + 0 ≤ _)⟩)
  dsimp only [Pt.U, Pt.locs, Pt.cells, Pt.slots] at X203 l203 y203 z203 st203 hQ203
  subst l203 y203 z203
  obtain ⟨rfl, Nq203, P204⟩ := hQ203
  have N203 := Fr.app N201 Nq203
  refine own_G.step (T' := T203) (g' := (mkF m 101 #[.val (.int i0), .val (.int i1), .val (.int i2), .val (.ref b1), .val (.ref b50), .val (.ref b106), .val (.int li), .val (.int ri), .val (.int ci), .unset, .unset, .unset] [(own_pk ri b1 b50 b106), (own_pk li b1 b50 b106), (.int i2), (.ref b186), (.ref b169), (.ref b169)])) (fun tq_ kq_ => st203 _ kq_) ?_
  obtain ⟨_, _, ⟨T205, L205, k205, n205⟩, -, X205, ⟨Lc205, hQ205, l205, y205, z205⟩, st205⟩ := X203.specialBack hx (y := (⟨"com/example/bough/bough/Node$Internal", "<init>", "(Ljava/lang/Object;ILcom/example/bough/bough/Node;Lcom/example/bough/bough/Node;)V"⟩ : MethodName)) rfl hown (mvT hZ (hw _ (List.mem_of_getElem? (i := 45) rfl))) (mvT hZ (hw _ (List.mem_of_getElem? (i := 46) rfl))) (mvT hZ (hw _ (List.mem_of_getElem? (i := 47) rfl))) (by decide) (backOf (W := 1) (rm_inter l Z a0 hw [] b169 b186 i2 (own_pk li b1 b50 b106) (own_pk ri b1 b50 b106) nn T185.heap n0 O199 (own_pk_ref li b1 b50 b106) (own_pk_ref ri b1 b50 b106) F194 F195 F196 F197 F198 F193 g173 S_NEW) hZ (hw _ (List.mem_of_getElem? (i := 47) rfl)) (hw _ (List.mem_of_getElem? (i := 33) rfl)) (by decide) (by decide)) (g := (mkF m 101 #[.val (.int i0), .val (.int i1), .val (.int i2), .val (.ref b1), .val (.ref b50), .val (.ref b106), .val (.int li), .val (.int ri), .val (.int ci), .unset, .unset, .unset] [(own_pk ri b1 b50 b106), (own_pk li b1 b50 b106), (.int i2), (.ref b186), (.ref b169), (.ref b169)])) rfl (by rw [hml]; rfl) (Steps.refl _) (a := b169) (argsL := [(.ref b186), (.int i2), (own_pk li b1 b50 b106), (own_pk ri b1 b50 b106)]) (rest := [(.ref b169)]) (lenOf pd__28Ljava_2flang_2fObject_3bILcom_2fexample_2fbough_2fbough_2fNode_3bLcom_2fexample_2fbough_2fbough_2fNode_3b_29V rfl) rfl (by show 2 * 0 + _ ≤ _; exact Nat.le_of_eq rfl) (hb hby at_101) (fun _ _ => ⟨rfl, P204, (by decide : 11 + 0 ≤ _), (by decide : 30 + 0 ≤ _)⟩)
  dsimp only [Pt.U, Pt.locs, Pt.cells, Pt.slots] at X205 l205 y205 z205 st205 hQ205
  subst l205 y205 z205
  obtain ⟨rfl, Nq205, P206, P207, P208, P209⟩ := hQ205
  have N205 := Fr.app N203 Nq205
  have F210 := F190.keep P206
  have F211 := F191.keep P206
  have F212 := F192.keep P206
  have F213 := F193.keep P206
  have F214 := P188.keep P206
  have F215 := P189.keep P206 (ninS (ne_exa P188 F193 (by decide)) nin0)
  have O216 := O199.keep P206 (allS g173 all0)
  have K217 := K200.trans P206 (allS (Or.inr z174) all0)
  refine own_G.step (T' := T205) (g' := (mkF m 104 #[.val (.int i0), .val (.int i1), .val (.int i2), .val (.ref b1), .val (.ref b50), .val (.ref b106), .val (.int li), .val (.int ri), .val (.int ci), .unset, .unset, .unset] [(.ref b169)])) (fun tq_ kq_ => st205.trans kq_) ?_
  refine own_G.step (g' := (mkF m 106 #[.val (.int i0), .val (.int i1), .val (.int i2), .val (.ref b1), .val (.ref b50), .val (.ref b106), .val (.int li), .val (.int ri), .val (.int ci), .val (.ref b169), .unset, .unset] [])) (fun tq_ kq_ => XS.astore X205.here hx rfl (hb hby at_104) rfl rfl (l' := #[.val (.int i0), .val (.int i1), .val (.int i2), .val (.ref b1), .val (.ref b50), .val (.ref b106), .val (.int li), .val (.int ri), .val (.int ci), .val (.ref b169), .unset, .unset]) rfl kq_) ?_
  refine own_G.step (g' := (mkF m 108 #[.val (.int i0), .val (.int i1), .val (.int i2), .val (.ref b1), .val (.ref b50), .val (.ref b106), .val (.int li), .val (.int ri), .val (.int ci), .val (.ref b169), .unset, .unset] [(.ref b169)])) (fun tq_ kq_ => XS.aload X205.here hx rfl (hb hby at_106) rfl rfl kq_) ?_
  refine own_G.step (g' := (mkF m 110 #[.val (.int i0), .val (.int i1), .val (.int i2), .val (.ref b1), .val (.ref b50), .val (.ref b106), .val (.int li), .val (.int ri), .val (.int ci), .val (.ref b169), .unset, .unset] [(.int ci), (.ref b169)])) (fun tq_ kq_ => XS.iload X205.here hx rfl (hb hby at_108) rfl kq_) ?_
  refine own_G.step (g' := (mkF m 111 #[.val (.int i0), .val (.int i1), .val (.int i2), .val (.ref b1), .val (.ref b50), .val (.ref b106), .val (.int li), .val (.int ri), .val (.int ci), .val (.ref b169), .unset, .unset] [(.ref b1), (.int ci), (.ref b169)])) (fun tq_ kq_ => XS.aloadN X205.here hx rfl (hb hby at_110) rfl rfl kq_) ?_
  refine own_G.step (g' := (mkF m 113 #[.val (.int i0), .val (.int i1), .val (.int i2), .val (.ref b1), .val (.ref b50), .val (.ref b106), .val (.int li), .val (.int ri), .val (.int ci), .val (.ref b169), .unset, .unset] [(.ref b50), (.ref b1), (.int ci), (.ref b169)])) (fun tq_ kq_ => XS.aload X205.here hx rfl (hb hby at_111) rfl rfl kq_) ?_
  refine own_G.step (g' := (mkF m 115 #[.val (.int i0), .val (.int i1), .val (.int i2), .val (.ref b1), .val (.ref b50), .val (.ref b106), .val (.int li), .val (.int ri), .val (.int ci), .val (.ref b169), .unset, .unset] [(.ref b106), (.ref b50), (.ref b1), (.int ci), (.ref b169)])) (fun tq_ kq_ => XS.aload X205.here hx rfl (hb hby at_113) rfl rfl kq_) ?_
  obtain ⟨_, _, ⟨T218, L218, k218, n218⟩, -, X218, ⟨Lc218, hQ218, l218, y218, z218⟩, st218⟩ := Jvm.LawKit.callS X205 hx (y := (⟨"com/example/bough/bough/InternalHoldsPinLaw", "pick", "(ILcom/example/bough/bough/Node;Lcom/example/bough/bough/Node;Lcom/example/bough/bough/Node;)Lcom/example/bough/bough/Node;"⟩ : MethodName)) hown (mvT hZ (hw _ (List.mem_of_getElem? (i := 41) rfl))) (mvT hZ (hw _ (List.mem_of_getElem? (i := 42) rfl))) (mvT hZ (hw _ (List.mem_of_getElem? (i := 43) rfl))) (mvT hZ (hw _ (List.mem_of_getElem? (i := 44) rfl))) (by decide) (backOf (W := 1) (rm_pick l Z a0 hw [] ci b1 b50 b106 T205.heap n0 O216 ) hZ (hw _ (List.mem_of_getElem? (i := 44) rfl)) (hw _ (List.mem_of_getElem? (i := 43) rfl)) (by decide) (by decide)) (g := (mkF m 115 #[.val (.int i0), .val (.int i1), .val (.int i2), .val (.ref b1), .val (.ref b50), .val (.ref b106), .val (.int li), .val (.int ri), .val (.int ci), .val (.ref b169), .unset, .unset] [(.ref b106), (.ref b50), (.ref b1), (.int ci), (.ref b169)])) rfl (by rw [hml]; rfl) (argsL := [(.int ci), (.ref b1), (.ref b50), (.ref b106)]) (rest := [(.ref b169)]) (lenOf pd__28ILcom_2fexample_2fbough_2fbough_2fNode_3bLcom_2fexample_2fbough_2fbough_2fNode_3bLcom_2fexample_2fbough_2fbough_2fNode_3b_29Lcom_2fexample_2fbough_2fbough_2fNode_3b rfl) rfl (by show 2 * 0 + _ ≤ _; exact Nat.le_of_eq rfl) (hb hby at_115) (fun _ _ => ⟨rfl, rfl, (by decide : 11 + 0 ≤ _), (by decide : 30 + 0 ≤ _)⟩)
  dsimp only [Pt.U, Pt.locs, Pt.cells, Pt.slots] at X218 l218 y218 z218 st218 hQ218
  subst l218 y218 z218
  obtain ⟨rfl, Nq218, P219⟩ := hQ218
  have N218 := Fr.app N205 Nq218
  refine own_G.step (T' := T218) (g' := (mkF m 118 #[.val (.int i0), .val (.int i1), .val (.int i2), .val (.ref b1), .val (.ref b50), .val (.ref b106), .val (.int li), .val (.int ri), .val (.int ci), .val (.ref b169), .unset, .unset] [(own_pk ci b1 b50 b106), (.ref b169)])) (fun tq_ kq_ => st218 _ kq_) ?_
  obtain ⟨cq220, kq220, q220a, q220b, q220c⟩ := isOf hZ P219 P207
  obtain ⟨_, _, ⟨T220, L220, k220, n220⟩, -, X220, ⟨Lc220, hQ220, l220, y220, z220⟩, st220⟩ := X218.virtualBack hx (y := (⟨"com/example/bough/bough/Node$Internal", "holds", "(Lcom/example/bough/bough/Node;)Z"⟩ : MethodName)) (z := (⟨"com/example/bough/bough/Node$Internal", "holds", "(Lcom/example/bough/bough/Node;)Z"⟩ : MethodName)) hown (mvT hZ (hw _ (List.mem_of_getElem? (i := 61) rfl))) (mvT hZ (hw _ (List.mem_of_getElem? (i := 62) rfl))) (notFace_of_selects (args := #[]) (mvT hZ (hw _ (List.mem_of_getElem? (i := 64) rfl)))) (mvT hZ (hw _ (List.mem_of_getElem? (i := 64) rfl))) (mvT hZ (hw _ (List.mem_of_getElem? (i := 63) rfl))) (by decide) (backOf (W := 0) (rm_holds l Z a0 hw [] b169 (own_pk ci b1 b50 b106) (own_pk li b1 b50 b106) (own_pk ri b1 b50 b106) T205.heap n0 O216 (own_pk_ref ci b1 b50 b106) (own_pk_ref li b1 b50 b106) (own_pk_ref ri b1 b50 b106) P208 P209) hZ (hw _ (List.mem_of_getElem? (i := 65) rfl)) (hw _ (List.mem_of_getElem? (i := 33) rfl)) (by decide) (by decide)) q220a q220c (g := (mkF m 118 #[.val (.int i0), .val (.int i1), .val (.int i2), .val (.ref b1), .val (.ref b50), .val (.ref b106), .val (.int li), .val (.int ri), .val (.int ci), .val (.ref b169), .unset, .unset] [(own_pk ci b1 b50 b106), (.ref b169)])) rfl (by rw [hml]; rfl) (Steps.refl _) (argsL := [(own_pk ci b1 b50 b106)]) (rest := []) (lenOf pd__28Lcom_2fexample_2fbough_2fbough_2fNode_3b_29Z rfl) rfl (by show 2 * 0 + _ ≤ _; exact Nat.le_of_eq rfl) (hb hby at_118) (fun _ _ => ⟨rfl, P219, (by decide : 11 + 0 ≤ _), (by decide : 30 + 0 ≤ _)⟩)
  dsimp only [Pt.U, Pt.locs, Pt.cells, Pt.slots] at X220 l220 y220 z220 st220 hQ220
  subst l220 y220 z220
  obtain ⟨rfl, Nq220, P221⟩ := hQ220
  have N220 := Fr.app N218 Nq220
  refine own_G.step (T' := T220) (g' := (mkF m 121 #[.val (.int i0), .val (.int i1), .val (.int i2), .val (.ref b1), .val (.ref b50), .val (.ref b106), .val (.int li), .val (.int ri), .val (.int ci), .val (.ref b169), .unset, .unset] [(.int (own_holds (own_pk li b1 b50 b106) (own_pk ri b1 b50 b106) (own_pk ci b1 b50 b106)))])) (fun tq_ kq_ => st220.trans kq_) ?_
  refine own_G.step (g' := (mkF m 123 #[.val (.int i0), .val (.int i1), .val (.int i2), .val (.ref b1), .val (.ref b50), .val (.ref b106), .val (.int li), .val (.int ri), .val (.int ci), .val (.ref b169), .val (.int (own_holds (own_pk li b1 b50 b106) (own_pk ri b1 b50 b106) (own_pk ci b1 b50 b106))), .unset] [])) (fun tq_ kq_ => XS.istore X220.here hx rfl (hb hby at_121) rfl (l' := #[.val (.int i0), .val (.int i1), .val (.int i2), .val (.ref b1), .val (.ref b50), .val (.ref b106), .val (.int li), .val (.int ri), .val (.int ci), .val (.ref b169), .val (.int (own_holds (own_pk li b1 b50 b106) (own_pk ri b1 b50 b106) (own_pk ci b1 b50 b106))), .unset]) rfl kq_) ?_
  refine own_G.step (g' := (mkF m 125 #[.val (.int i0), .val (.int i1), .val (.int i2), .val (.ref b1), .val (.ref b50), .val (.ref b106), .val (.int li), .val (.int ri), .val (.int ci), .val (.ref b169), .val (.int (own_holds (own_pk li b1 b50 b106) (own_pk ri b1 b50 b106) (own_pk ci b1 b50 b106))), .unset] [(.int li)])) (fun tq_ kq_ => XS.iload X220.here hx rfl (hb hby at_123) rfl kq_) ?_
  refine own_G.step (g' := (mkF m 127 #[.val (.int i0), .val (.int i1), .val (.int i2), .val (.ref b1), .val (.ref b50), .val (.ref b106), .val (.int li), .val (.int ri), .val (.int ci), .val (.ref b169), .val (.int (own_holds (own_pk li b1 b50 b106) (own_pk ri b1 b50 b106) (own_pk ci b1 b50 b106))), .unset] [(.int ci), (.int li)])) (fun tq_ kq_ => XS.iload X220.here hx rfl (hb hby at_125) rfl kq_) ?_
  rcases Classical.em (li = ci) with hc127 | hc127
  · refine own_G.step (g' := (mkF m 137 #[.val (.int i0), .val (.int i1), .val (.int i2), .val (.ref b1), .val (.ref b50), .val (.ref b106), .val (.int li), .val (.int ri), .val (.int ci), .val (.ref b169), .val (.int (own_holds (own_pk li b1 b50 b106) (own_pk ri b1 b50 b106) (own_pk ci b1 b50 b106))), .unset] [])) (fun tq_ kq_ => XS.icmpYes X220.here hx rfl (pc0 := 127) (pc' := 137) rfl (hb hby at_127) rfl (teq hc127).1 (by decide) (by decide) kq_) ?_
    refine own_G.step (g' := (mkF m 138 #[.val (.int i0), .val (.int i1), .val (.int i2), .val (.ref b1), .val (.ref b50), .val (.ref b106), .val (.int li), .val (.int ri), .val (.int ci), .val (.ref b169), .val (.int (own_holds (own_pk li b1 b50 b106) (own_pk ri b1 b50 b106) (own_pk ci b1 b50 b106))), .unset] [(.int (1 : Int32))])) (fun tq_ kq_ => XS.iconst X220.here hx rfl (hb hby at_137) kq_) ?_
    refine own_G.step (g' := (mkF m 142 #[.val (.int i0), .val (.int i1), .val (.int i2), .val (.ref b1), .val (.ref b50), .val (.ref b106), .val (.int li), .val (.int ri), .val (.int ci), .val (.ref b169), .val (.int (own_holds (own_pk li b1 b50 b106) (own_pk ri b1 b50 b106) (own_pk ci b1 b50 b106))), .unset] [(.int (1 : Int32))])) (fun tq_ kq_ => XS.goto X220.here hx rfl (pc0 := 138) (pc' := 142) rfl (hb hby at_138) (by decide) (by decide) kq_) ?_
    refine own_G.step (g' := (mkF m 144 #[.val (.int i0), .val (.int i1), .val (.int i2), .val (.ref b1), .val (.ref b50), .val (.ref b106), .val (.int li), .val (.int ri), .val (.int ci), .val (.ref b169), .val (.int (own_holds (own_pk li b1 b50 b106) (own_pk ri b1 b50 b106) (own_pk ci b1 b50 b106))), .val (.int (1 : Int32))] [])) (fun tq_ kq_ => XS.istore X220.here hx rfl (hb hby at_142) rfl (l' := #[.val (.int i0), .val (.int i1), .val (.int i2), .val (.ref b1), .val (.ref b50), .val (.ref b106), .val (.int li), .val (.int ri), .val (.int ci), .val (.ref b169), .val (.int (own_holds (own_pk li b1 b50 b106) (own_pk ri b1 b50 b106) (own_pk ci b1 b50 b106))), .val (.int (1 : Int32))]) rfl kq_) ?_
    refine own_G.step (g' := (mkF m 146 #[.val (.int i0), .val (.int i1), .val (.int i2), .val (.ref b1), .val (.ref b50), .val (.ref b106), .val (.int li), .val (.int ri), .val (.int ci), .val (.ref b169), .val (.int (own_holds (own_pk li b1 b50 b106) (own_pk ri b1 b50 b106) (own_pk ci b1 b50 b106))), .val (.int (1 : Int32))] [(.int (own_holds (own_pk li b1 b50 b106) (own_pk ri b1 b50 b106) (own_pk ci b1 b50 b106)))])) (fun tq_ kq_ => XS.iload X220.here hx rfl (hb hby at_144) rfl kq_) ?_
    refine own_G.step (g' := (mkF m 148 #[.val (.int i0), .val (.int i1), .val (.int i2), .val (.ref b1), .val (.ref b50), .val (.ref b106), .val (.int li), .val (.int ri), .val (.int ci), .val (.ref b169), .val (.int (own_holds (own_pk li b1 b50 b106) (own_pk ri b1 b50 b106) (own_pk ci b1 b50 b106))), .val (.int (1 : Int32))] [(.int (1 : Int32)), (.int (own_holds (own_pk li b1 b50 b106) (own_pk ri b1 b50 b106) (own_pk ci b1 b50 b106)))])) (fun tq_ kq_ => XS.iload X220.here hx rfl (hb hby at_146) rfl kq_) ?_
    have hc148 : (own_holds (own_pk li b1 b50 b106) (own_pk ri b1 b50 b106) (own_pk ci b1 b50 b106)) = (1 : Int32) := by rw [own_fin hfli hfri hfci ne51 ne107 ne108]; simp [hc127]
    refine own_G.step (g' := (mkF m 151 #[.val (.int i0), .val (.int i1), .val (.int i2), .val (.ref b1), .val (.ref b50), .val (.ref b106), .val (.int li), .val (.int ri), .val (.int ci), .val (.ref b169), .val (.int (own_holds (own_pk li b1 b50 b106) (own_pk ri b1 b50 b106) (own_pk ci b1 b50 b106))), .val (.int (1 : Int32))] [])) (fun tq_ kq_ => XS.icmpNo X220.here hx rfl (hb hby at_148) rfl (teq hc148).2 kq_) ?_
    refine own_G.step (g' := (mkF m 152 #[.val (.int i0), .val (.int i1), .val (.int i2), .val (.ref b1), .val (.ref b50), .val (.ref b106), .val (.int li), .val (.int ri), .val (.int ci), .val (.ref b169), .val (.int (own_holds (own_pk li b1 b50 b106) (own_pk ri b1 b50 b106) (own_pk ci b1 b50 b106))), .val (.int (1 : Int32))] [(.int (1 : Int32))])) (fun tq_ kq_ => XS.iconst X220.here hx rfl (hb hby at_151) kq_) ?_
    refine own_G.step (g' := (mkF m 156 #[.val (.int i0), .val (.int i1), .val (.int i2), .val (.ref b1), .val (.ref b50), .val (.ref b106), .val (.int li), .val (.int ri), .val (.int ci), .val (.ref b169), .val (.int (own_holds (own_pk li b1 b50 b106) (own_pk ri b1 b50 b106) (own_pk ci b1 b50 b106))), .val (.int (1 : Int32))] [(.int (1 : Int32))])) (fun tq_ kq_ => XS.goto X220.here hx rfl (pc0 := 152) (pc' := 156) rfl (hb hby at_152) (by decide) (by decide) kq_) ?_
    exact own_ret X220 P221 (v := some (.int (1 : Int32))) (fun h => by rw [Bd.returns] at h; cases h) Bd.notSynchronized ⟨rfl, N220⟩ (by decide) (by decide) (fun fs hr => retN X220 hx (t := .boolean) Bd.returns (by simp) (hb hby at_156) hr)
  · refine own_G.step (g' := (mkF m 130 #[.val (.int i0), .val (.int i1), .val (.int i2), .val (.ref b1), .val (.ref b50), .val (.ref b106), .val (.int li), .val (.int ri), .val (.int ci), .val (.ref b169), .val (.int (own_holds (own_pk li b1 b50 b106) (own_pk ri b1 b50 b106) (own_pk ci b1 b50 b106))), .unset] [])) (fun tq_ kq_ => XS.icmpNo X220.here hx rfl (hb hby at_127) rfl (feq hc127).1 kq_) ?_
    refine own_G.step (g' := (mkF m 132 #[.val (.int i0), .val (.int i1), .val (.int i2), .val (.ref b1), .val (.ref b50), .val (.ref b106), .val (.int li), .val (.int ri), .val (.int ci), .val (.ref b169), .val (.int (own_holds (own_pk li b1 b50 b106) (own_pk ri b1 b50 b106) (own_pk ci b1 b50 b106))), .unset] [(.int ri)])) (fun tq_ kq_ => XS.iload X220.here hx rfl (hb hby at_130) rfl kq_) ?_
    refine own_G.step (g' := (mkF m 134 #[.val (.int i0), .val (.int i1), .val (.int i2), .val (.ref b1), .val (.ref b50), .val (.ref b106), .val (.int li), .val (.int ri), .val (.int ci), .val (.ref b169), .val (.int (own_holds (own_pk li b1 b50 b106) (own_pk ri b1 b50 b106) (own_pk ci b1 b50 b106))), .unset] [(.int ci), (.int ri)])) (fun tq_ kq_ => XS.iload X220.here hx rfl (hb hby at_132) rfl kq_) ?_
    rcases Classical.em (ri = ci) with hc134 | hc134
    · refine own_G.step (g' := (mkF m 137 #[.val (.int i0), .val (.int i1), .val (.int i2), .val (.ref b1), .val (.ref b50), .val (.ref b106), .val (.int li), .val (.int ri), .val (.int ci), .val (.ref b169), .val (.int (own_holds (own_pk li b1 b50 b106) (own_pk ri b1 b50 b106) (own_pk ci b1 b50 b106))), .unset] [])) (fun tq_ kq_ => XS.icmpNo X220.here hx rfl (hb hby at_134) rfl (teq hc134).2 kq_) ?_
      refine own_G.step (g' := (mkF m 138 #[.val (.int i0), .val (.int i1), .val (.int i2), .val (.ref b1), .val (.ref b50), .val (.ref b106), .val (.int li), .val (.int ri), .val (.int ci), .val (.ref b169), .val (.int (own_holds (own_pk li b1 b50 b106) (own_pk ri b1 b50 b106) (own_pk ci b1 b50 b106))), .unset] [(.int (1 : Int32))])) (fun tq_ kq_ => XS.iconst X220.here hx rfl (hb hby at_137) kq_) ?_
      refine own_G.step (g' := (mkF m 142 #[.val (.int i0), .val (.int i1), .val (.int i2), .val (.ref b1), .val (.ref b50), .val (.ref b106), .val (.int li), .val (.int ri), .val (.int ci), .val (.ref b169), .val (.int (own_holds (own_pk li b1 b50 b106) (own_pk ri b1 b50 b106) (own_pk ci b1 b50 b106))), .unset] [(.int (1 : Int32))])) (fun tq_ kq_ => XS.goto X220.here hx rfl (pc0 := 138) (pc' := 142) rfl (hb hby at_138) (by decide) (by decide) kq_) ?_
      refine own_G.step (g' := (mkF m 144 #[.val (.int i0), .val (.int i1), .val (.int i2), .val (.ref b1), .val (.ref b50), .val (.ref b106), .val (.int li), .val (.int ri), .val (.int ci), .val (.ref b169), .val (.int (own_holds (own_pk li b1 b50 b106) (own_pk ri b1 b50 b106) (own_pk ci b1 b50 b106))), .val (.int (1 : Int32))] [])) (fun tq_ kq_ => XS.istore X220.here hx rfl (hb hby at_142) rfl (l' := #[.val (.int i0), .val (.int i1), .val (.int i2), .val (.ref b1), .val (.ref b50), .val (.ref b106), .val (.int li), .val (.int ri), .val (.int ci), .val (.ref b169), .val (.int (own_holds (own_pk li b1 b50 b106) (own_pk ri b1 b50 b106) (own_pk ci b1 b50 b106))), .val (.int (1 : Int32))]) rfl kq_) ?_
      refine own_G.step (g' := (mkF m 146 #[.val (.int i0), .val (.int i1), .val (.int i2), .val (.ref b1), .val (.ref b50), .val (.ref b106), .val (.int li), .val (.int ri), .val (.int ci), .val (.ref b169), .val (.int (own_holds (own_pk li b1 b50 b106) (own_pk ri b1 b50 b106) (own_pk ci b1 b50 b106))), .val (.int (1 : Int32))] [(.int (own_holds (own_pk li b1 b50 b106) (own_pk ri b1 b50 b106) (own_pk ci b1 b50 b106)))])) (fun tq_ kq_ => XS.iload X220.here hx rfl (hb hby at_144) rfl kq_) ?_
      refine own_G.step (g' := (mkF m 148 #[.val (.int i0), .val (.int i1), .val (.int i2), .val (.ref b1), .val (.ref b50), .val (.ref b106), .val (.int li), .val (.int ri), .val (.int ci), .val (.ref b169), .val (.int (own_holds (own_pk li b1 b50 b106) (own_pk ri b1 b50 b106) (own_pk ci b1 b50 b106))), .val (.int (1 : Int32))] [(.int (1 : Int32)), (.int (own_holds (own_pk li b1 b50 b106) (own_pk ri b1 b50 b106) (own_pk ci b1 b50 b106)))])) (fun tq_ kq_ => XS.iload X220.here hx rfl (hb hby at_146) rfl kq_) ?_
      have hc148 : (own_holds (own_pk li b1 b50 b106) (own_pk ri b1 b50 b106) (own_pk ci b1 b50 b106)) = (1 : Int32) := by rw [own_fin hfli hfri hfci ne51 ne107 ne108]; simp [hc127, hc134]
      refine own_G.step (g' := (mkF m 151 #[.val (.int i0), .val (.int i1), .val (.int i2), .val (.ref b1), .val (.ref b50), .val (.ref b106), .val (.int li), .val (.int ri), .val (.int ci), .val (.ref b169), .val (.int (own_holds (own_pk li b1 b50 b106) (own_pk ri b1 b50 b106) (own_pk ci b1 b50 b106))), .val (.int (1 : Int32))] [])) (fun tq_ kq_ => XS.icmpNo X220.here hx rfl (hb hby at_148) rfl (teq hc148).2 kq_) ?_
      refine own_G.step (g' := (mkF m 152 #[.val (.int i0), .val (.int i1), .val (.int i2), .val (.ref b1), .val (.ref b50), .val (.ref b106), .val (.int li), .val (.int ri), .val (.int ci), .val (.ref b169), .val (.int (own_holds (own_pk li b1 b50 b106) (own_pk ri b1 b50 b106) (own_pk ci b1 b50 b106))), .val (.int (1 : Int32))] [(.int (1 : Int32))])) (fun tq_ kq_ => XS.iconst X220.here hx rfl (hb hby at_151) kq_) ?_
      refine own_G.step (g' := (mkF m 156 #[.val (.int i0), .val (.int i1), .val (.int i2), .val (.ref b1), .val (.ref b50), .val (.ref b106), .val (.int li), .val (.int ri), .val (.int ci), .val (.ref b169), .val (.int (own_holds (own_pk li b1 b50 b106) (own_pk ri b1 b50 b106) (own_pk ci b1 b50 b106))), .val (.int (1 : Int32))] [(.int (1 : Int32))])) (fun tq_ kq_ => XS.goto X220.here hx rfl (pc0 := 152) (pc' := 156) rfl (hb hby at_152) (by decide) (by decide) kq_) ?_
      exact own_ret X220 P221 (v := some (.int (1 : Int32))) (fun h => by rw [Bd.returns] at h; cases h) Bd.notSynchronized ⟨rfl, N220⟩ (by decide) (by decide) (fun fs hr => retN X220 hx (t := .boolean) Bd.returns (by simp) (hb hby at_156) hr)
    · refine own_G.step (g' := (mkF m 141 #[.val (.int i0), .val (.int i1), .val (.int i2), .val (.ref b1), .val (.ref b50), .val (.ref b106), .val (.int li), .val (.int ri), .val (.int ci), .val (.ref b169), .val (.int (own_holds (own_pk li b1 b50 b106) (own_pk ri b1 b50 b106) (own_pk ci b1 b50 b106))), .unset] [])) (fun tq_ kq_ => XS.icmpYes X220.here hx rfl (pc0 := 134) (pc' := 141) rfl (hb hby at_134) rfl (feq hc134).2 (by decide) (by decide) kq_) ?_
      refine own_G.step (g' := (mkF m 142 #[.val (.int i0), .val (.int i1), .val (.int i2), .val (.ref b1), .val (.ref b50), .val (.ref b106), .val (.int li), .val (.int ri), .val (.int ci), .val (.ref b169), .val (.int (own_holds (own_pk li b1 b50 b106) (own_pk ri b1 b50 b106) (own_pk ci b1 b50 b106))), .unset] [(.int (0 : Int32))])) (fun tq_ kq_ => XS.iconst X220.here hx rfl (hb hby at_141) kq_) ?_
      refine own_G.step (g' := (mkF m 144 #[.val (.int i0), .val (.int i1), .val (.int i2), .val (.ref b1), .val (.ref b50), .val (.ref b106), .val (.int li), .val (.int ri), .val (.int ci), .val (.ref b169), .val (.int (own_holds (own_pk li b1 b50 b106) (own_pk ri b1 b50 b106) (own_pk ci b1 b50 b106))), .val (.int (0 : Int32))] [])) (fun tq_ kq_ => XS.istore X220.here hx rfl (hb hby at_142) rfl (l' := #[.val (.int i0), .val (.int i1), .val (.int i2), .val (.ref b1), .val (.ref b50), .val (.ref b106), .val (.int li), .val (.int ri), .val (.int ci), .val (.ref b169), .val (.int (own_holds (own_pk li b1 b50 b106) (own_pk ri b1 b50 b106) (own_pk ci b1 b50 b106))), .val (.int (0 : Int32))]) rfl kq_) ?_
      refine own_G.step (g' := (mkF m 146 #[.val (.int i0), .val (.int i1), .val (.int i2), .val (.ref b1), .val (.ref b50), .val (.ref b106), .val (.int li), .val (.int ri), .val (.int ci), .val (.ref b169), .val (.int (own_holds (own_pk li b1 b50 b106) (own_pk ri b1 b50 b106) (own_pk ci b1 b50 b106))), .val (.int (0 : Int32))] [(.int (own_holds (own_pk li b1 b50 b106) (own_pk ri b1 b50 b106) (own_pk ci b1 b50 b106)))])) (fun tq_ kq_ => XS.iload X220.here hx rfl (hb hby at_144) rfl kq_) ?_
      refine own_G.step (g' := (mkF m 148 #[.val (.int i0), .val (.int i1), .val (.int i2), .val (.ref b1), .val (.ref b50), .val (.ref b106), .val (.int li), .val (.int ri), .val (.int ci), .val (.ref b169), .val (.int (own_holds (own_pk li b1 b50 b106) (own_pk ri b1 b50 b106) (own_pk ci b1 b50 b106))), .val (.int (0 : Int32))] [(.int (0 : Int32)), (.int (own_holds (own_pk li b1 b50 b106) (own_pk ri b1 b50 b106) (own_pk ci b1 b50 b106)))])) (fun tq_ kq_ => XS.iload X220.here hx rfl (hb hby at_146) rfl kq_) ?_
      have hc148 : (own_holds (own_pk li b1 b50 b106) (own_pk ri b1 b50 b106) (own_pk ci b1 b50 b106)) = (0 : Int32) := by rw [own_fin hfli hfri hfci ne51 ne107 ne108]; simp [hc127, hc134]
      refine own_G.step (g' := (mkF m 151 #[.val (.int i0), .val (.int i1), .val (.int i2), .val (.ref b1), .val (.ref b50), .val (.ref b106), .val (.int li), .val (.int ri), .val (.int ci), .val (.ref b169), .val (.int (own_holds (own_pk li b1 b50 b106) (own_pk ri b1 b50 b106) (own_pk ci b1 b50 b106))), .val (.int (0 : Int32))] [])) (fun tq_ kq_ => XS.icmpNo X220.here hx rfl (hb hby at_148) rfl (teq hc148).2 kq_) ?_
      refine own_G.step (g' := (mkF m 152 #[.val (.int i0), .val (.int i1), .val (.int i2), .val (.ref b1), .val (.ref b50), .val (.ref b106), .val (.int li), .val (.int ri), .val (.int ci), .val (.ref b169), .val (.int (own_holds (own_pk li b1 b50 b106) (own_pk ri b1 b50 b106) (own_pk ci b1 b50 b106))), .val (.int (0 : Int32))] [(.int (1 : Int32))])) (fun tq_ kq_ => XS.iconst X220.here hx rfl (hb hby at_151) kq_) ?_
      refine own_G.step (g' := (mkF m 156 #[.val (.int i0), .val (.int i1), .val (.int i2), .val (.ref b1), .val (.ref b50), .val (.ref b106), .val (.int li), .val (.int ri), .val (.int ci), .val (.ref b169), .val (.int (own_holds (own_pk li b1 b50 b106) (own_pk ri b1 b50 b106) (own_pk ci b1 b50 b106))), .val (.int (0 : Int32))] [(.int (1 : Int32))])) (fun tq_ kq_ => XS.goto X220.here hx rfl (pc0 := 152) (pc' := 156) rfl (hb hby at_152) (by decide) (by decide) kq_) ?_
      exact own_ret X220 P221 (v := some (.int (1 : Int32))) (fun h => by rw [Bd.returns] at h; cases h) Bd.notSynchronized ⟨rfl, N220⟩ (by decide) (by decide) (fun fs hr => retN X220 hx (t := .boolean) Bd.returns (by simp) (hb hby at_156) hr)
set_option maxRecDepth 65536 in
set_option maxHeartbeats 40000000 in
theorem comes_1 {Post : Tables → Env → Array Value → State → Outcome → State → Prop} (hpost : ∀ tb e args s v u, (limb_1_1.after args s (.returned v) u = true ∧ limb_1_2.after args s (.returned v) u = true ∧ True) → FrameEnd s (.returned v) u (Jvm.fieldLocs frame_1_writes args s ++ Jvm.arrayLocs frame_1_arrays args s ++ Jvm.staticLocs frame_1_statics s) 32 128 → Post tb e args s (.returned v) u) :
    ArmFor flags0 classFile x code maxLocals ret World_1 tables_1 room_1 Calls_1 rest_1 Pre_1 Post := by
  intro l hfl _ _ p e ha hc hk s m args below hf hA hF happ hP
  obtain ⟨hcalls, hrest, hpre⟩ := hP
  obtain ⟨-, -, -, hnamed, -, -, -, hat⟩ := (Spec.applies_iff hf).mp happ
  obtain ⟨hg, hn⟩ := and_e (Cond.before_iff.mp (show (Jvm.Cond.and given_1 narrow_1).before args s = true from hpre))
  obtain ⟨gz1, gz2⟩ := and_e hg
  obtain ⟨gz3, gz4⟩ := and_e gz2
  obtain ⟨gz5, gz6⟩ := and_e gz4
  obtain ⟨u0, u1, u2, rfl⟩ : ∃ u0 u1 u2 : Value, args = #[u0, u1, u2] := by
    have hs : args.size = 3 := by simpa [Cond.value, given_1] using gz1
    obtain ⟨L⟩ := args
    match L, hs with
    | [u0, u1, u2], _ => exact ⟨u0, u1, u2, rfl⟩
  have hw := fun d (hd : d ∈ tables_1) => atoms_spec (ws := Jvm.Cond.code x code maxLocals ret :: tables_1) hat d (List.mem_cons_of_mem _ hd)
  have hfit : Fit s := fun {y c} hc i hi => by
    obtain ⟨ha, rfl⟩ := Array.getElem?_eq_some_iff.mp hc
    have q := List.all_eq_true.mp ((Array.all_eq_true_iff_forall_mem.mp hF) _ (Array.getElem_mem ha)) i (List.mem_range.mpr hi)
    simpa [Array.getElem?_eq_getElem hi] using q
  obtain ⟨hsets, hown0⟩ := atoms_of _ (rest_1_c_eq ▸ (show rest_1_c.before _ s = true from hrest))
  have hr0 := Cond.before_iff.mp hown0
  obtain ⟨i0, ei0⟩ := is_v gz3
  obtain rfl : u0 = (.int i0) := Option.some.inj ei0
  obtain ⟨i1, ei1⟩ := is_v gz5
  obtain rfl : u1 = (.int i1) := Option.some.inj ei1
  obtain ⟨i2, ei2⟩ := is_v gz6
  obtain rfl : u2 = (.int i2) := Option.some.inj ei2
  obtain ⟨nn, ev_NEW_NODE⟩ := exa_v hn
  have S_NEW_NODE : Sta s s.heap "com/example/bough/bough/Node" "NEW_NODE" "Lcom/example/bough/bough/Node$Clean;" (.ref nn) := Sta.start ev_NEW_NODE (Or.inr ⟨(hw _ (List.mem_of_getElem? (i := 14) rfl)), (hw _ (List.mem_of_getElem? (i := 58) rfl))⟩)
  have E_NEW_NODE : Exa s s.heap nn "com/example/bough/bough/Node$Clean" := Exa.start ev_NEW_NODE hn
  have S_NEW := S_NEW_NODE
  have S_high : Sta s s.heap "java/lang/Integer$IntegerCache" "high" "I" (.int (127 : Int32)) := Sta.start (eqv_i (Term.int_eval (127 : Int32)) (Cond.before_iff.mp (hsets _ (List.mem_of_getElem? (i := 3) rfl)))) (Or.inl (hsets _ (List.mem_of_getElem? (i := 1) rfl)))
  have hz_arr := Cond.before_iff.mp (hsets _ (List.mem_of_getElem? (i := 4) rfl))
  obtain ⟨ca, ev_ca⟩ := arr_v hz_arr
  have S_cache : Sta s s.heap "java/lang/Integer$IntegerCache" "cache" "[Ljava/lang/Integer;" (.ref ca) := Sta.start ev_ca (Or.inr ⟨(hw _ (List.mem_of_getElem? (i := 39) rfl)), (hsets _ (List.mem_of_getElem? (i := 2) rfl))⟩)
  obtain ⟨cc, Acc⟩ := Arr.start ev_ca hz_arr
  have hz_len := eqv_i (Term.int_eval (256 : Int32)) (Cond.before_iff.mp (hsets _ (List.mem_of_getElem? (i := 6) rfl)))
  obtain ⟨hz_lt, hz_eq⟩ := own_len ev_ca (Acc.fin (Vm.Alike.refl _)) hz_len
  have BX : Bxs s ca cc "java/lang/Integer" "I" (256 : Int32) (fun j => .int (j - 128)) := Bxs.start (F := .sub (.index 0) (.int (128 : Int32))) (fun idx => ev_ca) Acc hz_lt hz_eq (by decide) (Cond.before_iff.mp (hsets _ (List.mem_of_getElem? (i := 7) rfl))) (fun X j hj hv => eqv_i (own_sub (own_idx hj)) hv)
  obtain ⟨n, o, h1, h2, h3, _, L, rfl, ⟨rfl, N⟩, hq⟩ := rm_law l s _ hw tables_1 i0 i1 i2 nn ca cc s.heap s.heap.size (Old.start s) S_NEW S_high S_cache BX p e ha hc hk s m _ below hf ((Spec.applies_iff_loose hf).mp happ).1 ⟨rfl, State.Warmed39.refl s, rfl⟩ trivial
  refine ⟨n, _, h1, h2, h3, hpost _ _ _ _ _ _ ⟨Cond.after_iff.mpr rfl, Cond.after_iff.mpr (eq_i res_at (Term.int_eval (1)) rfl), trivial⟩ ⟨hq.1, hq.2.1, (hq.2.2.sift fun y hy => Or.inr (N y hy)).mono (by decide) (by decide)⟩⟩
theorem main_1_1 : Claimed_1_1 := comes_1 fun _ _ _ _ _ _ h hF => ⟨h.1, hF⟩
theorem main_1_2 : Claimed_1_2 := comes_1 fun _ _ _ _ _ _ h hF => ⟨h.2.1, hF⟩
end Jvm.Pilot.@@N@@
namespace Jvm.Pilot.@@N@@
open Jvm Jvm.ClassFile Sem Op Lib Jvm.Free Jvm.Stand Jvm.Pilot.@@N@@.Jvm.D
/-! MADE BY PROGRAM (witnessworld.py) out of the Statement's table words and the real class files: 20 classes; the members and pool entries that the words name. The judged class is class 1, her method 1. -/
namespace start1
open Jvm.ClassFile
def u (s : String) : CpInfo := .utf8 (stringToUtf16 s)
/-- a pool by its gaps: so many unusable entries, then the entry; so many at the end -/
def gap : Nat → List CpInfo → List CpInfo
  | 0, r => r
  | n + 1, r => .unusable :: gap n r
def poolList (es : List (Nat × CpInfo)) (last : Nat) : List CpInfo := es.foldr (fun e r => gap e.1 (e.2 :: r)) (gap last [])
def pool (es : List (Nat × CpInfo)) (last : Nat) : Array CpInfo := ⟨poolList es last⟩
def fileOf (pool : Array CpInfo) (this : Nat) (attrs : Array Attribute := #[]) (ms : Array MethodInfo := #[]) (fl : Nat := 33) (sup : Nat := 0) (ifs : Array Nat := #[]) (fds : Array FieldInfo := #[]) : ClassFile where
  minorVersion := 0
  majorVersion := 65
  constantPool := pool
  accessFlags := fl
  thisClass := this
  superClass := sup
  interfaces := ifs
  fields := fds
  methods := ms
  attributes := attrs
def plain (name : String) (sup : Option ClassId) : Class where
  name := name
  kind := .ordinary
  loader := none
  accessFlags := 33
  super := sup
  interfaces := #[]
  cf := none
  fields := #[]
  methods := #[]
  instanceTypes := #[]
  staticTypes := #[]
  resolved := #[]
  callSites := []
  init := .initialized
  statics := none
  mirror := none

def pool0 : Array CpInfo := pool [(5, u "<init>"), (0, u "()V"), (1, .class_ 10), (1, u "java/lang/Object")] 113

def k0c0 : Code := { maxStack := 0, maxLocals := 1, code := object_method_1_code, exceptionTable := #[], attributes := #[] }
def k0m0 : Method := { name := "<init>", desc := "()V", sig := { parameters := [], returnType := none }, accessFlags := 1, code := some k0c0 }
/-- java/lang/Object -/
def k0 : Class := { plain "java/lang/Object" none with
  accessFlags := 33
  interfaces := #[]
  cf := some (fileOf pool0 8 #[] #[{ accessFlags := 1, nameIndex := 5, descriptorIndex := 6, attributes := #[] }] 33 0 #[] #[])
  fields := #[]
  methods := #[k0m0]
  instanceTypes := #[]
  staticTypes := #[]
  resolved := Array.replicate 124 none
  statics := none }

def pool1 : Array CpInfo := pool [(2, .class_ 4), (1, u "java/lang/Object"), (0, u "<init>"), (0, u "()V"), (0, .class_ 8), (0, u "com/example/bough/bough/Node$Leaf"), (0, .methodref 7 10), (0, .nameAndType 5 11), (0, u "([Ljava/lang/Object;[Ljava/lang/Object;[I)V"), (0, .class_ 13), (0, u "com/example/bough/bough/Node$Internal"), (0, .methodref 15 16), (0, .class_ 17), (0, .nameAndType 18 19), (0, u "java/lang/Integer"), (0, u "valueOf"), (0, u "(I)Ljava/lang/Integer;"), (0, .methodref 21 22), (0, .class_ 23), (0, .nameAndType 24 25), (0, u "com/example/bough/bough/InternalHoldsPinLaw"), (0, u "pick"), (0, u "(ILcom/example/bough/bough/Node;Lcom/example/bough/bough/Node;Lcom/example/bough/bough/Node;)Lcom/example/bough/bough/Node;"), (0, .methodref 12 27), (0, .nameAndType 5 28), (0, u "(Ljava/lang/Object;ILcom/example/bough/bough/Node;Lcom/example/bough/bough/Node;)V"), (0, .methodref 12 30), (0, .nameAndType 31 32), (0, u "holds"), (0, u "(Lcom/example/bough/bough/Node;)Z"), (2, u "law"), (0, u "(III)Z")] 8

def k1m0 : Method := { name := "<init>", desc := "()V", sig := { parameters := [], returnType := none }, accessFlags := 1, code := none }
def k1c1 : Code := { maxStack := 9, maxLocals := 12, code := code, exceptionTable := #[], attributes := #[] }
def k1m1 : Method := { name := "law", desc := "(III)Z", sig := { parameters := [.int, .int, .int], returnType := some .boolean }, accessFlags := 9, code := some k1c1 }
def k1c2 : Code := { maxStack := 2, maxLocals := 4, code := method_3_code, exceptionTable := #[], attributes := #[] }
def k1m2 : Method := { name := "pick", desc := "(ILcom/example/bough/bough/Node;Lcom/example/bough/bough/Node;Lcom/example/bough/bough/Node;)Lcom/example/bough/bough/Node;", sig := { parameters := [.int, (.object "com/example/bough/bough/Node"), (.object "com/example/bough/bough/Node"), (.object "com/example/bough/bough/Node")], returnType := some (.object "com/example/bough/bough/Node") }, accessFlags := 10, code := some k1c2 }
/-- com/example/bough/bough/InternalHoldsPinLaw -/
def k1 : Class := { plain "com/example/bough/bough/InternalHoldsPinLaw" (some 0) with
  accessFlags := 49
  interfaces := #[]
  cf := some (fileOf pool1 21 #[] #[{ accessFlags := 1, nameIndex := 5, descriptorIndex := 6, attributes := #[] }, { accessFlags := 9, nameIndex := 35, descriptorIndex := 36, attributes := #[] }, { accessFlags := 10, nameIndex := 24, descriptorIndex := 25, attributes := #[] }] 49 2 #[] #[])
  fields := #[]
  methods := #[k1m0, k1m1, k1m2]
  instanceTypes := #[]
  staticTypes := #[]
  resolved := Array.replicate 45 none
  statics := none }

def pool2 : Array CpInfo := pool [(3, .methodref 4 5), (0, .class_ 6), (0, .nameAndType 7 8), (0, u "java/lang/Object"), (0, u "<init>"), (0, u "()V"), (0, .class_ 10), (0, u "com/example/bough/bough/Node"), (1, .class_ 13), (0, u "com/example/bough/bough/Node$Fixed"), (4, .class_ 19), (0, u "com/example/bough/bough/Node$Rebuilt"), (1, .class_ 22), (0, u "com/example/bough/bough/Node$Ranked"), (3, .class_ 27), (0, u "com/example/bough/bough/Node$Dated"), (3, .class_ 32), (0, u "com/example/bough/bough/Node$Internal"), (1, .class_ 35), (0, u "com/example/bough/bough/Node$Clean"), (3, u "NEW_NODE"), (0, u "Lcom/example/bough/bough/Node$Clean;"), (0, u "FIXED"), (0, u "I"), (1, u "REBUILT"), (9, .class_ 55), (0, u "com/example/bough/bough/Node$Epoch"), (0, .class_ 57), (0, u "com/example/bough/bough/Node$Top"), (0, .class_ 59), (0, u "com/example/bough/bough/Node$Leaf"), (0, .class_ 61), (0, u "com/example/bough/bough/Node$Current"), (0, .class_ 63), (0, u "com/example/bough/bough/Node$Version")] 13

def k2c0 : Code := { maxStack := 1, maxLocals := 1, code := prog_59_method_1_code, exceptionTable := #[], attributes := #[] }
def k2m0 : Method := { name := "<init>", desc := "()V", sig := { parameters := [], returnType := none }, accessFlags := 0, code := some k2c0 }
/-- com/example/bough/bough/Node -/
def k2 : Class := { plain "com/example/bough/bough/Node" (some 0) with
  accessFlags := 1056
  interfaces := #[]
  cf := some (fileOf pool2 9 #[.nestMembers #[54, 34, 56, 12, 18, 21, 26, 31, 58, 60, 62]] #[{ accessFlags := 0, nameIndex := 7, descriptorIndex := 8, attributes := #[] }] 1056 4 #[] #[{ accessFlags := 24, nameIndex := 41, descriptorIndex := 42, attributes := #[] }, { accessFlags := 24, nameIndex := 44, descriptorIndex := 42, attributes := #[] }, { accessFlags := 26, nameIndex := 39, descriptorIndex := 40, attributes := #[] }])
  fields := #[{ name := "FIXED", type := .int, accessFlags := 24, slot := 0, constantValue := 0 }, { name := "REBUILT", type := .int, accessFlags := 24, slot := 1, constantValue := 0 }, { name := "NEW_NODE", type := (.object "com/example/bough/bough/Node$Clean"), accessFlags := 26, slot := 2, constantValue := 0 }]
  methods := #[k2m0]
  instanceTypes := #[]
  staticTypes := #[.int, .int, (.object "com/example/bough/bough/Node$Clean")]
  resolved := Array.replicate 77 none
  statics := some 0 }

def pool3 : Array CpInfo := pool [(3, .methodref 4 5), (0, .class_ 6), (0, .nameAndType 7 8), (0, u "com/example/bough/bough/Node$Leaf"), (0, u "<init>"), (0, u "([Ljava/lang/Object;[Ljava/lang/Object;[IIII)V"), (0, .methodref 10 11), (0, .class_ 12), (0, .nameAndType 7 13), (0, u "com/example/bough/bough/Node"), (0, u "()V"), (0, .fieldref 4 15), (0, .nameAndType 16 17), (0, u "keys"), (0, u "[Ljava/lang/Object;"), (0, .fieldref 4 19), (0, .nameAndType 20 17), (0, u "values"), (0, .fieldref 4 22), (0, .nameAndType 23 24), (0, u "digests"), (0, u "[I"), (0, .fieldref 4 26), (0, .nameAndType 27 28), (0, u "start"), (0, u "S"), (0, .fieldref 4 30), (0, .nameAndType 31 28), (0, u "end"), (0, .fieldref 4 33), (0, .nameAndType 34 28), (0, u "inserted"), (40, u "([Ljava/lang/Object;[Ljava/lang/Object;[I)V"), (3, u "MAX_CAPACITY"), (0, u "I")] 31

def k3c0 : Code := { maxStack := 7, maxLocals := 4, code := prog_66_method_1_code, exceptionTable := #[], attributes := #[] }
def k3m0 : Method := { name := "<init>", desc := "([Ljava/lang/Object;[Ljava/lang/Object;[I)V", sig := { parameters := [(.array (.object "java/lang/Object")), (.array (.object "java/lang/Object")), (.array .int)], returnType := none }, accessFlags := 0, code := some k3c0 }
def k3c1 : Code := { maxStack := 2, maxLocals := 7, code := prog_66_method_2_code, exceptionTable := #[], attributes := #[] }
def k3m1 : Method := { name := "<init>", desc := "([Ljava/lang/Object;[Ljava/lang/Object;[IIII)V", sig := { parameters := [(.array (.object "java/lang/Object")), (.array (.object "java/lang/Object")), (.array .int), .int, .int, .int], returnType := none }, accessFlags := 0, code := some k3c1 }
/-- com/example/bough/bough/Node$Leaf -/
def k3 : Class := { plain "com/example/bough/bough/Node$Leaf" (some 2) with
  accessFlags := 48
  interfaces := #[]
  cf := some (fileOf pool3 4 #[.nestHost 10] #[{ accessFlags := 0, nameIndex := 7, descriptorIndex := 75, attributes := #[] }, { accessFlags := 0, nameIndex := 7, descriptorIndex := 8, attributes := #[] }] 48 10 #[] #[{ accessFlags := 24, nameIndex := 79, descriptorIndex := 80, attributes := #[] }, { accessFlags := 16, nameIndex := 16, descriptorIndex := 17, attributes := #[] }, { accessFlags := 16, nameIndex := 20, descriptorIndex := 17, attributes := #[] }, { accessFlags := 16, nameIndex := 23, descriptorIndex := 24, attributes := #[] }, { accessFlags := 16, nameIndex := 27, descriptorIndex := 28, attributes := #[] }, { accessFlags := 16, nameIndex := 31, descriptorIndex := 28, attributes := #[] }, { accessFlags := 16, nameIndex := 34, descriptorIndex := 28, attributes := #[] }])
  fields := #[{ name := "MAX_CAPACITY", type := .int, accessFlags := 24, slot := 0, constantValue := 0 }, { name := "keys", type := (.array (.object "java/lang/Object")), accessFlags := 16, slot := 0, constantValue := 0 }, { name := "values", type := (.array (.object "java/lang/Object")), accessFlags := 16, slot := 1, constantValue := 0 }, { name := "digests", type := (.array .int), accessFlags := 16, slot := 2, constantValue := 0 }, { name := "start", type := .short, accessFlags := 16, slot := 3, constantValue := 0 }, { name := "end", type := .short, accessFlags := 16, slot := 4, constantValue := 0 }, { name := "inserted", type := .short, accessFlags := 16, slot := 5, constantValue := 0 }]
  methods := #[k3m0, k3m1]
  instanceTypes := #[(.array (.object "java/lang/Object")), (.array (.object "java/lang/Object")), (.array .int), .short, .short, .short]
  staticTypes := #[.int]
  resolved := Array.replicate 112 none
  statics := none }

def pool4 : Array CpInfo := pool [(1, .methodref 2 3), (0, .class_ 4), (0, .nameAndType 5 6), (0, u "com/example/bough/bough/Node"), (0, u "<init>"), (0, u "()V"), (0, .fieldref 8 9), (0, .class_ 10), (0, .nameAndType 11 12), (0, u "com/example/bough/bough/Node$Internal"), (0, u "key"), (0, u "Ljava/lang/Object;"), (0, .fieldref 8 14), (0, .nameAndType 15 16), (0, u "digest"), (0, u "I"), (0, .fieldref 8 18), (0, .nameAndType 19 20), (0, u "left"), (0, u "Lcom/example/bough/bough/Node;"), (0, .fieldref 8 22), (0, .nameAndType 23 20), (0, u "right"), (0, .fieldref 2 25), (0, .nameAndType 26 27), (0, u "NEW_NODE"), (0, u "Lcom/example/bough/bough/Node$Clean;"), (0, .fieldref 8 29), (0, .nameAndType 30 12), (0, u "update"), (0, u "(Ljava/lang/Object;ILcom/example/bough/bough/Node;Lcom/example/bough/bough/Node;)V"), (6, u "holds"), (0, u "(Lcom/example/bough/bough/Node;)Z")] 25

def k4c0 : Code := { maxStack := 2, maxLocals := 5, code := prog_65_method_1_code, exceptionTable := #[], attributes := #[] }
def k4m0 : Method := { name := "<init>", desc := "(Ljava/lang/Object;ILcom/example/bough/bough/Node;Lcom/example/bough/bough/Node;)V", sig := { parameters := [(.object "java/lang/Object"), .int, (.object "com/example/bough/bough/Node"), (.object "com/example/bough/bough/Node")], returnType := none }, accessFlags := 0, code := some k4c0 }
def k4c1 : Code := { maxStack := 2, maxLocals := 2, code := prog_65_method_4_code, exceptionTable := #[], attributes := #[] }
def k4m1 : Method := { name := "holds", desc := "(Lcom/example/bough/bough/Node;)Z", sig := { parameters := [(.object "com/example/bough/bough/Node")], returnType := some .boolean }, accessFlags := 0, code := some k4c1 }
/-- com/example/bough/bough/Node$Internal -/
def k4 : Class := { plain "com/example/bough/bough/Node$Internal" (some 2) with
  accessFlags := 32
  interfaces := #[]
  cf := some (fileOf pool4 8 #[.nestHost 2] #[{ accessFlags := 0, nameIndex := 5, descriptorIndex := 31, attributes := #[] }, { accessFlags := 0, nameIndex := 38, descriptorIndex := 39, attributes := #[] }] 32 2 #[] #[{ accessFlags := 64, nameIndex := 11, descriptorIndex := 12, attributes := #[] }, { accessFlags := 64, nameIndex := 15, descriptorIndex := 16, attributes := #[] }, { accessFlags := 64, nameIndex := 19, descriptorIndex := 20, attributes := #[] }, { accessFlags := 64, nameIndex := 23, descriptorIndex := 20, attributes := #[] }, { accessFlags := 64, nameIndex := 30, descriptorIndex := 12, attributes := #[] }])
  fields := #[{ name := "key", type := (.object "java/lang/Object"), accessFlags := 64, slot := 0, constantValue := 0 }, { name := "digest", type := .int, accessFlags := 64, slot := 1, constantValue := 0 }, { name := "left", type := (.object "com/example/bough/bough/Node"), accessFlags := 64, slot := 2, constantValue := 0 }, { name := "right", type := (.object "com/example/bough/bough/Node"), accessFlags := 64, slot := 3, constantValue := 0 }, { name := "update", type := (.object "java/lang/Object"), accessFlags := 64, slot := 4, constantValue := 0 }]
  methods := #[k4m0, k4m1]
  instanceTypes := #[(.object "java/lang/Object"), .int, (.object "com/example/bough/bough/Node"), (.object "com/example/bough/bough/Node"), (.object "java/lang/Object")]
  staticTypes := #[]
  resolved := Array.replicate 65 none
  statics := none }

def pool5 : Array CpInfo := pool [(1, .class_ 2), (0, u "java/io/Serializable"), (0, .class_ 4), (0, u "java/lang/Object")] 2

/-- java/io/Serializable -/
def k5 : Class := { plain "java/io/Serializable" (some 0) with
  accessFlags := 1537
  interfaces := #[]
  cf := some (fileOf pool5 1 #[] #[] 1537 3 #[] #[])
  fields := #[]
  methods := #[]
  instanceTypes := #[]
  staticTypes := #[]
  resolved := Array.replicate 7 none
  statics := none }

def pool6 : Array CpInfo := pool [(1, .methodref 2 3), (0, .class_ 4), (0, .nameAndType 5 6), (0, u "java/lang/Object"), (0, u "<init>"), (0, u "()V"), (1, .class_ 10), (1, u "java/lang/Number"), (2, .class_ 14), (0, u "java/io/Serializable"), (0, u "serialVersionUID"), (0, u "J")] 20

def k6c0 : Code := { maxStack := 1, maxLocals := 1, code := jdk_18_method_1_code, exceptionTable := #[], attributes := #[] }
def k6m0 : Method := { name := "<init>", desc := "()V", sig := { parameters := [], returnType := none }, accessFlags := 1, code := some k6c0 }
/-- java/lang/Number -/
def k6 : Class := { plain "java/lang/Number" (some 0) with
  accessFlags := 1057
  interfaces := #[5]
  cf := some (fileOf pool6 8 #[] #[{ accessFlags := 1, nameIndex := 5, descriptorIndex := 6, attributes := #[] }] 1057 2 #[13] #[{ accessFlags := 26, nameIndex := 15, descriptorIndex := 16, attributes := #[] }])
  fields := #[{ name := "serialVersionUID", type := .long, accessFlags := 26, slot := 0, constantValue := 0 }]
  methods := #[k6m0]
  instanceTypes := #[]
  staticTypes := #[.long]
  resolved := Array.replicate 37 none
  statics := none }

def pool7 : Array CpInfo := pool [(1, .class_ 2), (0, u "java/lang/Comparable"), (0, .class_ 4), (0, u "java/lang/Object")] 7

/-- java/lang/Comparable -/
def k7 : Class := { plain "java/lang/Comparable" (some 0) with
  accessFlags := 1537
  interfaces := #[]
  cf := some (fileOf pool7 1 #[] #[] 1537 3 #[] #[])
  fields := #[]
  methods := #[]
  instanceTypes := #[]
  staticTypes := #[]
  resolved := Array.replicate 12 none
  statics := none }

def pool8 : Array CpInfo := pool [(1, .class_ 2), (0, u "java/lang/constant/Constable"), (0, .class_ 4), (0, u "java/lang/Object")] 6

/-- java/lang/constant/Constable -/
def k8 : Class := { plain "java/lang/constant/Constable" (some 0) with
  accessFlags := 1537
  interfaces := #[]
  cf := some (fileOf pool8 1 #[] #[] 1537 3 #[] #[])
  fields := #[]
  methods := #[]
  instanceTypes := #[]
  staticTypes := #[]
  resolved := Array.replicate 11 none
  statics := none }

def pool9 : Array CpInfo := pool [(1, .class_ 2), (0, u "java/lang/constant/ConstantDesc"), (0, .class_ 4), (0, u "java/lang/Object")] 32

/-- java/lang/constant/ConstantDesc -/
def k9 : Class := { plain "java/lang/constant/ConstantDesc" (some 0) with
  accessFlags := 1537
  interfaces := #[]
  cf := some (fileOf pool9 1 #[] #[] 1537 3 #[] #[])
  fields := #[]
  methods := #[]
  instanceTypes := #[]
  staticTypes := #[]
  resolved := Array.replicate 37 none
  statics := none }

def pool10 : Array CpInfo := pool [(1, .class_ 2), (0, u "java/lang/Integer"), (16, u "digits"), (0, u "[C"), (46, u "<init>"), (17, u "DigitOnes"), (0, u "[B"), (2, u "DigitTens"), (10, .nameAndType 67 101), (0, u "()V"), (85, u "valueOf"), (0, u "(I)Ljava/lang/Integer;"), (0, .class_ 190), (0, u "java/lang/Integer$IntegerCache"), (0, .fieldref 189 192), (0, .nameAndType 193 194), (0, u "high"), (0, u "I"), (0, .fieldref 189 196), (0, .nameAndType 197 198), (0, u "cache"), (0, u "[Ljava/lang/Integer;"), (0, .methodref 1 200), (0, .nameAndType 67 201), (0, u "(I)V"), (0, .methodref 203 100), (0, .class_ 204), (0, u "java/lang/Number"), (0, .fieldref 1 206), (0, .nameAndType 207 194), (0, u "value"), (94, u "TYPE"), (0, u "Ljava/lang/Class;"), (0, .class_ 305), (0, u "java/lang/Comparable"), (0, .class_ 307), (0, u "java/lang/constant/Constable"), (0, .class_ 309), (0, u "java/lang/constant/ConstantDesc"), (0, u "MIN_VALUE"), (1, u "MAX_VALUE"), (3, u "SIZE"), (1, u "BYTES"), (1, u "serialVersionUID"), (0, u "J")] 131

def k10c0 : Code := { maxStack := 3, maxLocals := 1, code := jdk_33_method_22_code, exceptionTable := #[], attributes := #[] }
def k10m0 : Method := { name := "valueOf", desc := "(I)Ljava/lang/Integer;", sig := { parameters := [.int], returnType := some (.object "java/lang/Integer") }, accessFlags := 9, code := some k10c0 }
def k10c1 : Code := { maxStack := 2, maxLocals := 2, code := jdk_33_method_23_code, exceptionTable := #[], attributes := #[] }
def k10m1 : Method := { name := "<init>", desc := "(I)V", sig := { parameters := [.int], returnType := none }, accessFlags := 1, code := some k10c1 }
/-- java/lang/Integer -/
def k10 : Class := { plain "java/lang/Integer" (some 6) with
  accessFlags := 49
  interfaces := #[7, 8, 9]
  cf := some (fileOf pool10 1 #[.nestMembers #[189]] #[{ accessFlags := 9, nameIndex := 187, descriptorIndex := 188, attributes := #[] }, { accessFlags := 1, nameIndex := 67, descriptorIndex := 201, attributes := #[] }] 49 203 #[304, 306, 308] #[{ accessFlags := 25, nameIndex := 310, descriptorIndex := 194, attributes := #[] }, { accessFlags := 25, nameIndex := 312, descriptorIndex := 194, attributes := #[] }, { accessFlags := 25, nameIndex := 302, descriptorIndex := 303, attributes := #[] }, { accessFlags := 24, nameIndex := 19, descriptorIndex := 20, attributes := #[] }, { accessFlags := 24, nameIndex := 89, descriptorIndex := 86, attributes := #[] }, { accessFlags := 24, nameIndex := 85, descriptorIndex := 86, attributes := #[] }, { accessFlags := 18, nameIndex := 207, descriptorIndex := 194, attributes := #[] }, { accessFlags := 25, nameIndex := 316, descriptorIndex := 194, attributes := #[] }, { accessFlags := 25, nameIndex := 318, descriptorIndex := 194, attributes := #[] }, { accessFlags := 26, nameIndex := 320, descriptorIndex := 321, attributes := #[] }])
  fields := #[{ name := "MIN_VALUE", type := .int, accessFlags := 25, slot := 0, constantValue := 0 }, { name := "MAX_VALUE", type := .int, accessFlags := 25, slot := 1, constantValue := 0 }, { name := "TYPE", type := (.object "java/lang/Class"), accessFlags := 25, slot := 2, constantValue := 0 }, { name := "digits", type := (.array .char), accessFlags := 24, slot := 3, constantValue := 0 }, { name := "DigitTens", type := (.array .byte), accessFlags := 24, slot := 4, constantValue := 0 }, { name := "DigitOnes", type := (.array .byte), accessFlags := 24, slot := 5, constantValue := 0 }, { name := "value", type := .int, accessFlags := 18, slot := 0, constantValue := 0 }, { name := "SIZE", type := .int, accessFlags := 25, slot := 6, constantValue := 0 }, { name := "BYTES", type := .int, accessFlags := 25, slot := 7, constantValue := 0 }, { name := "serialVersionUID", type := .long, accessFlags := 26, slot := 8, constantValue := 0 }]
  methods := #[k10m0, k10m1]
  instanceTypes := #[.int]
  staticTypes := #[.int, .int, (.object "java/lang/Class"), (.array .char), (.array .byte), (.array .byte), .int, .int, .long]
  resolved := Array.replicate 453 none
  statics := none }

def pool11 : Array CpInfo := pool [(2, .class_ 4), (1, u "java/lang/Object"), (0, u "<init>"), (0, u "()V"), (0, .class_ 8), (0, u "java/lang/Integer"), (7, .class_ 18), (1, u "java/lang/Integer$IntegerCache"), (0, u "$assertionsDisabled"), (0, u "Z"), (26, u "high"), (0, u "I"), (8, u "archivedCache"), (0, u "[Ljava/lang/Integer;"), (12, u "cache"), (0, u "low")] 27

def k11m0 : Method := { name := "<init>", desc := "()V", sig := { parameters := [], returnType := none }, accessFlags := 2, code := none }
/-- java/lang/Integer$IntegerCache -/
def k11 : Class := { plain "java/lang/Integer$IntegerCache" (some 0) with
  accessFlags := 48
  interfaces := #[]
  cf := some (fileOf pool11 16 #[.nestHost 7] #[{ accessFlags := 2, nameIndex := 5, descriptorIndex := 6, attributes := #[] }] 48 2 #[] #[{ accessFlags := 24, nameIndex := 72, descriptorIndex := 48, attributes := #[] }, { accessFlags := 24, nameIndex := 47, descriptorIndex := 48, attributes := #[] }, { accessFlags := 24, nameIndex := 71, descriptorIndex := 58, attributes := #[] }, { accessFlags := 8, nameIndex := 57, descriptorIndex := 58, attributes := #[] }, { accessFlags := 4120, nameIndex := 19, descriptorIndex := 20, attributes := #[] }])
  fields := #[{ name := "low", type := .int, accessFlags := 24, slot := 0, constantValue := 0 }, { name := "high", type := .int, accessFlags := 24, slot := 1, constantValue := 0 }, { name := "cache", type := (.array (.object "java/lang/Integer")), accessFlags := 24, slot := 2, constantValue := 0 }, { name := "archivedCache", type := (.array (.object "java/lang/Integer")), accessFlags := 8, slot := 3, constantValue := 0 }, { name := "$assertionsDisabled", type := .boolean, accessFlags := 4120, slot := 4, constantValue := 0 }]
  methods := #[k11m0]
  instanceTypes := #[]
  staticTypes := #[.int, .int, (.array (.object "java/lang/Integer")), (.array (.object "java/lang/Integer")), .boolean]
  resolved := Array.replicate 100 none
  statics := some 1 }

def pool12 : Array CpInfo := pool [(2, .class_ 4), (1, u "java/lang/Object"), (0, u "<init>"), (0, u "()V"), (0, .class_ 8), (0, u "com/example/bough/bough/Node$Clean"), (5, .class_ 15), (0, u "com/example/bough/bough/Node")] 2

def k12m0 : Method := { name := "<init>", desc := "()V", sig := { parameters := [], returnType := none }, accessFlags := 0, code := none }
/-- com/example/bough/bough/Node$Clean -/
def k12 : Class := { plain "com/example/bough/bough/Node$Clean" (some 0) with
  accessFlags := 48
  interfaces := #[]
  cf := some (fileOf pool12 7 #[.nestHost 14] #[{ accessFlags := 0, nameIndex := 5, descriptorIndex := 6, attributes := #[] }] 48 2 #[] #[])
  fields := #[]
  methods := #[k12m0]
  instanceTypes := #[]
  staticTypes := #[]
  resolved := Array.replicate 18 none
  statics := none }

def pool13 : Array CpInfo := pool [(1, u "java/lang/Cloneable"), (0, .class_ 1), (0, u "java/lang/Object"), (0, .class_ 3)] 3

/-- java/lang/Cloneable -/
def k13 : Class := { plain "java/lang/Cloneable" (some 0) with
  accessFlags := 1537
  interfaces := #[]
  cf := some (fileOf pool13 2 #[] #[] 1537 4 #[] #[])
  fields := #[]
  methods := #[]
  instanceTypes := #[]
  staticTypes := #[]
  resolved := Array.replicate 8 none
  statics := none }

/-- the primitive byte -/
def k14 : Class := { plain "byte" none with kind := .primitive 'B', accessFlags := 0x411 }
/-- [B -/
def k15 : Class := { plain "[B" (some 0) with kind := .array 14 .byte, interfaces := #[13, 5], accessFlags := 1041 }

/-- the primitive int -/
def k16 : Class := { plain "int" none with kind := .primitive 'I', accessFlags := 0x411 }
/-- [I -/
def k17 : Class := { plain "[I" (some 0) with kind := .array 16 .int, interfaces := #[13, 5], accessFlags := 1041 }

/-- [Ljava/lang/Integer; -/
def k18 : Class := { plain "[Ljava/lang/Integer;" (some 0) with kind := .array 10 (.object "java/lang/Integer"), interfaces := #[13, 5], accessFlags := 1041 }

/-- [Ljava/lang/Object; -/
def k19 : Class := { plain "[Ljava/lang/Object;" (some 0) with kind := .array 0 (.object "java/lang/Object"), interfaces := #[13, 5], accessFlags := 1041 }

def heap : Heap := #[{ cls := 2, slots := #[.int 0, .int 0, .ref 259], vm := .statics 2 },
  { cls := 11, slots := #[.int 0, .int 127, .ref 2, .null, .int 0], vm := .statics 11 },
  { cls := 18, slots := #[.ref 3, .ref 4, .ref 5, .ref 6, .ref 7, .ref 8, .ref 9, .ref 10, .ref 11, .ref 12, .ref 13, .ref 14, .ref 15, .ref 16, .ref 17, .ref 18, .ref 19, .ref 20, .ref 21, .ref 22, .ref 23, .ref 24, .ref 25, .ref 26, .ref 27, .ref 28, .ref 29, .ref 30, .ref 31, .ref 32, .ref 33, .ref 34, .ref 35, .ref 36, .ref 37, .ref 38, .ref 39, .ref 40, .ref 41, .ref 42, .ref 43, .ref 44, .ref 45, .ref 46, .ref 47, .ref 48, .ref 49, .ref 50, .ref 51, .ref 52, .ref 53, .ref 54, .ref 55, .ref 56, .ref 57, .ref 58, .ref 59, .ref 60, .ref 61, .ref 62, .ref 63, .ref 64, .ref 65, .ref 66, .ref 67, .ref 68, .ref 69, .ref 70, .ref 71, .ref 72, .ref 73, .ref 74, .ref 75, .ref 76, .ref 77, .ref 78, .ref 79, .ref 80, .ref 81, .ref 82, .ref 83, .ref 84, .ref 85, .ref 86, .ref 87, .ref 88, .ref 89, .ref 90, .ref 91, .ref 92, .ref 93, .ref 94, .ref 95, .ref 96, .ref 97, .ref 98, .ref 99, .ref 100, .ref 101, .ref 102, .ref 103, .ref 104, .ref 105, .ref 106, .ref 107, .ref 108, .ref 109, .ref 110, .ref 111, .ref 112, .ref 113, .ref 114, .ref 115, .ref 116, .ref 117, .ref 118, .ref 119, .ref 120, .ref 121, .ref 122, .ref 123, .ref 124, .ref 125, .ref 126, .ref 127, .ref 128, .ref 129, .ref 130, .ref 131, .ref 132, .ref 133, .ref 134, .ref 135, .ref 136, .ref 137, .ref 138, .ref 139, .ref 140, .ref 141, .ref 142, .ref 143, .ref 144, .ref 145, .ref 146, .ref 147, .ref 148, .ref 149, .ref 150, .ref 151, .ref 152, .ref 153, .ref 154, .ref 155, .ref 156, .ref 157, .ref 158, .ref 159, .ref 160, .ref 161, .ref 162, .ref 163, .ref 164, .ref 165, .ref 166, .ref 167, .ref 168, .ref 169, .ref 170, .ref 171, .ref 172, .ref 173, .ref 174, .ref 175, .ref 176, .ref 177, .ref 178, .ref 179, .ref 180, .ref 181, .ref 182, .ref 183, .ref 184, .ref 185, .ref 186, .ref 187, .ref 188, .ref 189, .ref 190, .ref 191, .ref 192, .ref 193, .ref 194, .ref 195, .ref 196, .ref 197, .ref 198, .ref 199, .ref 200, .ref 201, .ref 202, .ref 203, .ref 204, .ref 205, .ref 206, .ref 207, .ref 208, .ref 209, .ref 210, .ref 211, .ref 212, .ref 213, .ref 214, .ref 215, .ref 216, .ref 217, .ref 218, .ref 219, .ref 220, .ref 221, .ref 222, .ref 223, .ref 224, .ref 225, .ref 226, .ref 227, .ref 228, .ref 229, .ref 230, .ref 231, .ref 232, .ref 233, .ref 234, .ref 235, .ref 236, .ref 237, .ref 238, .ref 239, .ref 240, .ref 241, .ref 242, .ref 243, .ref 244, .ref 245, .ref 246, .ref 247, .ref 248, .ref 249, .ref 250, .ref 251, .ref 252, .ref 253, .ref 254, .ref 255, .ref 256, .ref 257, .ref 258], vm := .none },
  { cls := 10, slots := #[.int (-128)], vm := .none },
  { cls := 10, slots := #[.int (-127)], vm := .none },
  { cls := 10, slots := #[.int (-126)], vm := .none },
  { cls := 10, slots := #[.int (-125)], vm := .none },
  { cls := 10, slots := #[.int (-124)], vm := .none },
  { cls := 10, slots := #[.int (-123)], vm := .none },
  { cls := 10, slots := #[.int (-122)], vm := .none },
  { cls := 10, slots := #[.int (-121)], vm := .none },
  { cls := 10, slots := #[.int (-120)], vm := .none },
  { cls := 10, slots := #[.int (-119)], vm := .none },
  { cls := 10, slots := #[.int (-118)], vm := .none },
  { cls := 10, slots := #[.int (-117)], vm := .none },
  { cls := 10, slots := #[.int (-116)], vm := .none },
  { cls := 10, slots := #[.int (-115)], vm := .none },
  { cls := 10, slots := #[.int (-114)], vm := .none },
  { cls := 10, slots := #[.int (-113)], vm := .none },
  { cls := 10, slots := #[.int (-112)], vm := .none },
  { cls := 10, slots := #[.int (-111)], vm := .none },
  { cls := 10, slots := #[.int (-110)], vm := .none },
  { cls := 10, slots := #[.int (-109)], vm := .none },
  { cls := 10, slots := #[.int (-108)], vm := .none },
  { cls := 10, slots := #[.int (-107)], vm := .none },
  { cls := 10, slots := #[.int (-106)], vm := .none },
  { cls := 10, slots := #[.int (-105)], vm := .none },
  { cls := 10, slots := #[.int (-104)], vm := .none },
  { cls := 10, slots := #[.int (-103)], vm := .none },
  { cls := 10, slots := #[.int (-102)], vm := .none },
  { cls := 10, slots := #[.int (-101)], vm := .none },
  { cls := 10, slots := #[.int (-100)], vm := .none },
  { cls := 10, slots := #[.int (-99)], vm := .none },
  { cls := 10, slots := #[.int (-98)], vm := .none },
  { cls := 10, slots := #[.int (-97)], vm := .none },
  { cls := 10, slots := #[.int (-96)], vm := .none },
  { cls := 10, slots := #[.int (-95)], vm := .none },
  { cls := 10, slots := #[.int (-94)], vm := .none },
  { cls := 10, slots := #[.int (-93)], vm := .none },
  { cls := 10, slots := #[.int (-92)], vm := .none },
  { cls := 10, slots := #[.int (-91)], vm := .none },
  { cls := 10, slots := #[.int (-90)], vm := .none },
  { cls := 10, slots := #[.int (-89)], vm := .none },
  { cls := 10, slots := #[.int (-88)], vm := .none },
  { cls := 10, slots := #[.int (-87)], vm := .none },
  { cls := 10, slots := #[.int (-86)], vm := .none },
  { cls := 10, slots := #[.int (-85)], vm := .none },
  { cls := 10, slots := #[.int (-84)], vm := .none },
  { cls := 10, slots := #[.int (-83)], vm := .none },
  { cls := 10, slots := #[.int (-82)], vm := .none },
  { cls := 10, slots := #[.int (-81)], vm := .none },
  { cls := 10, slots := #[.int (-80)], vm := .none },
  { cls := 10, slots := #[.int (-79)], vm := .none },
  { cls := 10, slots := #[.int (-78)], vm := .none },
  { cls := 10, slots := #[.int (-77)], vm := .none },
  { cls := 10, slots := #[.int (-76)], vm := .none },
  { cls := 10, slots := #[.int (-75)], vm := .none },
  { cls := 10, slots := #[.int (-74)], vm := .none },
  { cls := 10, slots := #[.int (-73)], vm := .none },
  { cls := 10, slots := #[.int (-72)], vm := .none },
  { cls := 10, slots := #[.int (-71)], vm := .none },
  { cls := 10, slots := #[.int (-70)], vm := .none },
  { cls := 10, slots := #[.int (-69)], vm := .none },
  { cls := 10, slots := #[.int (-68)], vm := .none },
  { cls := 10, slots := #[.int (-67)], vm := .none },
  { cls := 10, slots := #[.int (-66)], vm := .none },
  { cls := 10, slots := #[.int (-65)], vm := .none },
  { cls := 10, slots := #[.int (-64)], vm := .none },
  { cls := 10, slots := #[.int (-63)], vm := .none },
  { cls := 10, slots := #[.int (-62)], vm := .none },
  { cls := 10, slots := #[.int (-61)], vm := .none },
  { cls := 10, slots := #[.int (-60)], vm := .none },
  { cls := 10, slots := #[.int (-59)], vm := .none },
  { cls := 10, slots := #[.int (-58)], vm := .none },
  { cls := 10, slots := #[.int (-57)], vm := .none },
  { cls := 10, slots := #[.int (-56)], vm := .none },
  { cls := 10, slots := #[.int (-55)], vm := .none },
  { cls := 10, slots := #[.int (-54)], vm := .none },
  { cls := 10, slots := #[.int (-53)], vm := .none },
  { cls := 10, slots := #[.int (-52)], vm := .none },
  { cls := 10, slots := #[.int (-51)], vm := .none },
  { cls := 10, slots := #[.int (-50)], vm := .none },
  { cls := 10, slots := #[.int (-49)], vm := .none },
  { cls := 10, slots := #[.int (-48)], vm := .none },
  { cls := 10, slots := #[.int (-47)], vm := .none },
  { cls := 10, slots := #[.int (-46)], vm := .none },
  { cls := 10, slots := #[.int (-45)], vm := .none },
  { cls := 10, slots := #[.int (-44)], vm := .none },
  { cls := 10, slots := #[.int (-43)], vm := .none },
  { cls := 10, slots := #[.int (-42)], vm := .none },
  { cls := 10, slots := #[.int (-41)], vm := .none },
  { cls := 10, slots := #[.int (-40)], vm := .none },
  { cls := 10, slots := #[.int (-39)], vm := .none },
  { cls := 10, slots := #[.int (-38)], vm := .none },
  { cls := 10, slots := #[.int (-37)], vm := .none },
  { cls := 10, slots := #[.int (-36)], vm := .none },
  { cls := 10, slots := #[.int (-35)], vm := .none },
  { cls := 10, slots := #[.int (-34)], vm := .none },
  { cls := 10, slots := #[.int (-33)], vm := .none },
  { cls := 10, slots := #[.int (-32)], vm := .none },
  { cls := 10, slots := #[.int (-31)], vm := .none },
  { cls := 10, slots := #[.int (-30)], vm := .none },
  { cls := 10, slots := #[.int (-29)], vm := .none },
  { cls := 10, slots := #[.int (-28)], vm := .none },
  { cls := 10, slots := #[.int (-27)], vm := .none },
  { cls := 10, slots := #[.int (-26)], vm := .none },
  { cls := 10, slots := #[.int (-25)], vm := .none },
  { cls := 10, slots := #[.int (-24)], vm := .none },
  { cls := 10, slots := #[.int (-23)], vm := .none },
  { cls := 10, slots := #[.int (-22)], vm := .none },
  { cls := 10, slots := #[.int (-21)], vm := .none },
  { cls := 10, slots := #[.int (-20)], vm := .none },
  { cls := 10, slots := #[.int (-19)], vm := .none },
  { cls := 10, slots := #[.int (-18)], vm := .none },
  { cls := 10, slots := #[.int (-17)], vm := .none },
  { cls := 10, slots := #[.int (-16)], vm := .none },
  { cls := 10, slots := #[.int (-15)], vm := .none },
  { cls := 10, slots := #[.int (-14)], vm := .none },
  { cls := 10, slots := #[.int (-13)], vm := .none },
  { cls := 10, slots := #[.int (-12)], vm := .none },
  { cls := 10, slots := #[.int (-11)], vm := .none },
  { cls := 10, slots := #[.int (-10)], vm := .none },
  { cls := 10, slots := #[.int (-9)], vm := .none },
  { cls := 10, slots := #[.int (-8)], vm := .none },
  { cls := 10, slots := #[.int (-7)], vm := .none },
  { cls := 10, slots := #[.int (-6)], vm := .none },
  { cls := 10, slots := #[.int (-5)], vm := .none },
  { cls := 10, slots := #[.int (-4)], vm := .none },
  { cls := 10, slots := #[.int (-3)], vm := .none },
  { cls := 10, slots := #[.int (-2)], vm := .none },
  { cls := 10, slots := #[.int (-1)], vm := .none },
  { cls := 10, slots := #[.int (0)], vm := .none },
  { cls := 10, slots := #[.int (1)], vm := .none },
  { cls := 10, slots := #[.int (2)], vm := .none },
  { cls := 10, slots := #[.int (3)], vm := .none },
  { cls := 10, slots := #[.int (4)], vm := .none },
  { cls := 10, slots := #[.int (5)], vm := .none },
  { cls := 10, slots := #[.int (6)], vm := .none },
  { cls := 10, slots := #[.int (7)], vm := .none },
  { cls := 10, slots := #[.int (8)], vm := .none },
  { cls := 10, slots := #[.int (9)], vm := .none },
  { cls := 10, slots := #[.int (10)], vm := .none },
  { cls := 10, slots := #[.int (11)], vm := .none },
  { cls := 10, slots := #[.int (12)], vm := .none },
  { cls := 10, slots := #[.int (13)], vm := .none },
  { cls := 10, slots := #[.int (14)], vm := .none },
  { cls := 10, slots := #[.int (15)], vm := .none },
  { cls := 10, slots := #[.int (16)], vm := .none },
  { cls := 10, slots := #[.int (17)], vm := .none },
  { cls := 10, slots := #[.int (18)], vm := .none },
  { cls := 10, slots := #[.int (19)], vm := .none },
  { cls := 10, slots := #[.int (20)], vm := .none },
  { cls := 10, slots := #[.int (21)], vm := .none },
  { cls := 10, slots := #[.int (22)], vm := .none },
  { cls := 10, slots := #[.int (23)], vm := .none },
  { cls := 10, slots := #[.int (24)], vm := .none },
  { cls := 10, slots := #[.int (25)], vm := .none },
  { cls := 10, slots := #[.int (26)], vm := .none },
  { cls := 10, slots := #[.int (27)], vm := .none },
  { cls := 10, slots := #[.int (28)], vm := .none },
  { cls := 10, slots := #[.int (29)], vm := .none },
  { cls := 10, slots := #[.int (30)], vm := .none },
  { cls := 10, slots := #[.int (31)], vm := .none },
  { cls := 10, slots := #[.int (32)], vm := .none },
  { cls := 10, slots := #[.int (33)], vm := .none },
  { cls := 10, slots := #[.int (34)], vm := .none },
  { cls := 10, slots := #[.int (35)], vm := .none },
  { cls := 10, slots := #[.int (36)], vm := .none },
  { cls := 10, slots := #[.int (37)], vm := .none },
  { cls := 10, slots := #[.int (38)], vm := .none },
  { cls := 10, slots := #[.int (39)], vm := .none },
  { cls := 10, slots := #[.int (40)], vm := .none },
  { cls := 10, slots := #[.int (41)], vm := .none },
  { cls := 10, slots := #[.int (42)], vm := .none },
  { cls := 10, slots := #[.int (43)], vm := .none },
  { cls := 10, slots := #[.int (44)], vm := .none },
  { cls := 10, slots := #[.int (45)], vm := .none },
  { cls := 10, slots := #[.int (46)], vm := .none },
  { cls := 10, slots := #[.int (47)], vm := .none },
  { cls := 10, slots := #[.int (48)], vm := .none },
  { cls := 10, slots := #[.int (49)], vm := .none },
  { cls := 10, slots := #[.int (50)], vm := .none },
  { cls := 10, slots := #[.int (51)], vm := .none },
  { cls := 10, slots := #[.int (52)], vm := .none },
  { cls := 10, slots := #[.int (53)], vm := .none },
  { cls := 10, slots := #[.int (54)], vm := .none },
  { cls := 10, slots := #[.int (55)], vm := .none },
  { cls := 10, slots := #[.int (56)], vm := .none },
  { cls := 10, slots := #[.int (57)], vm := .none },
  { cls := 10, slots := #[.int (58)], vm := .none },
  { cls := 10, slots := #[.int (59)], vm := .none },
  { cls := 10, slots := #[.int (60)], vm := .none },
  { cls := 10, slots := #[.int (61)], vm := .none },
  { cls := 10, slots := #[.int (62)], vm := .none },
  { cls := 10, slots := #[.int (63)], vm := .none },
  { cls := 10, slots := #[.int (64)], vm := .none },
  { cls := 10, slots := #[.int (65)], vm := .none },
  { cls := 10, slots := #[.int (66)], vm := .none },
  { cls := 10, slots := #[.int (67)], vm := .none },
  { cls := 10, slots := #[.int (68)], vm := .none },
  { cls := 10, slots := #[.int (69)], vm := .none },
  { cls := 10, slots := #[.int (70)], vm := .none },
  { cls := 10, slots := #[.int (71)], vm := .none },
  { cls := 10, slots := #[.int (72)], vm := .none },
  { cls := 10, slots := #[.int (73)], vm := .none },
  { cls := 10, slots := #[.int (74)], vm := .none },
  { cls := 10, slots := #[.int (75)], vm := .none },
  { cls := 10, slots := #[.int (76)], vm := .none },
  { cls := 10, slots := #[.int (77)], vm := .none },
  { cls := 10, slots := #[.int (78)], vm := .none },
  { cls := 10, slots := #[.int (79)], vm := .none },
  { cls := 10, slots := #[.int (80)], vm := .none },
  { cls := 10, slots := #[.int (81)], vm := .none },
  { cls := 10, slots := #[.int (82)], vm := .none },
  { cls := 10, slots := #[.int (83)], vm := .none },
  { cls := 10, slots := #[.int (84)], vm := .none },
  { cls := 10, slots := #[.int (85)], vm := .none },
  { cls := 10, slots := #[.int (86)], vm := .none },
  { cls := 10, slots := #[.int (87)], vm := .none },
  { cls := 10, slots := #[.int (88)], vm := .none },
  { cls := 10, slots := #[.int (89)], vm := .none },
  { cls := 10, slots := #[.int (90)], vm := .none },
  { cls := 10, slots := #[.int (91)], vm := .none },
  { cls := 10, slots := #[.int (92)], vm := .none },
  { cls := 10, slots := #[.int (93)], vm := .none },
  { cls := 10, slots := #[.int (94)], vm := .none },
  { cls := 10, slots := #[.int (95)], vm := .none },
  { cls := 10, slots := #[.int (96)], vm := .none },
  { cls := 10, slots := #[.int (97)], vm := .none },
  { cls := 10, slots := #[.int (98)], vm := .none },
  { cls := 10, slots := #[.int (99)], vm := .none },
  { cls := 10, slots := #[.int (100)], vm := .none },
  { cls := 10, slots := #[.int (101)], vm := .none },
  { cls := 10, slots := #[.int (102)], vm := .none },
  { cls := 10, slots := #[.int (103)], vm := .none },
  { cls := 10, slots := #[.int (104)], vm := .none },
  { cls := 10, slots := #[.int (105)], vm := .none },
  { cls := 10, slots := #[.int (106)], vm := .none },
  { cls := 10, slots := #[.int (107)], vm := .none },
  { cls := 10, slots := #[.int (108)], vm := .none },
  { cls := 10, slots := #[.int (109)], vm := .none },
  { cls := 10, slots := #[.int (110)], vm := .none },
  { cls := 10, slots := #[.int (111)], vm := .none },
  { cls := 10, slots := #[.int (112)], vm := .none },
  { cls := 10, slots := #[.int (113)], vm := .none },
  { cls := 10, slots := #[.int (114)], vm := .none },
  { cls := 10, slots := #[.int (115)], vm := .none },
  { cls := 10, slots := #[.int (116)], vm := .none },
  { cls := 10, slots := #[.int (117)], vm := .none },
  { cls := 10, slots := #[.int (118)], vm := .none },
  { cls := 10, slots := #[.int (119)], vm := .none },
  { cls := 10, slots := #[.int (120)], vm := .none },
  { cls := 10, slots := #[.int (121)], vm := .none },
  { cls := 10, slots := #[.int (122)], vm := .none },
  { cls := 10, slots := #[.int (123)], vm := .none },
  { cls := 10, slots := #[.int (124)], vm := .none },
  { cls := 10, slots := #[.int (125)], vm := .none },
  { cls := 10, slots := #[.int (126)], vm := .none },
  { cls := 10, slots := #[.int (127)], vm := .none },
  { cls := 12, slots := #[], vm := .none }]
def classes : Array Class := #[k0, k1, k2, k3, k4, k5, k6, k7, k8, k9, k10, k11, k12, k13, k14, k15, k16, k17, k18, k19]
def interned : List (Array UInt16 × Addr) := []
def slotsUsed : Nat := 520
def theMethod : MethodId := ⟨1, 1⟩
def args0 : Array Value := #[.int 9, .int 5, .int 7]
def aboutOver (below : List Frame) : State where
  vm := { classes := classes, interned := interned.toArray }
  heap := heap
  slotsUsed := slotsUsed
  threads := #[{ frames := .invoking theMethod args0 :: below }]
def below0 : List Frame := [.native { method := ⟨0, 0⟩, args := #[] }]
def about1 : State := aboutOver below0
def p0 : Program := .bare "" "" ""
def e0 : Env := launch0.env 0 0 0
theorem w_frames : about1.frames = Frame.invoking theMethod args0 :: below0 := rfl
set_option maxRecDepth 65536 in
theorem w_args : argsFit about1.vm theMethod args0 = true := by decide +kernel
set_option maxRecDepth 65536 in
theorem w_heap : heapFits about1 = true := by decide +kernel
set_option maxRecDepth 65536 in
theorem w_runnable : about1.curStatus? = some .runnable := by decide +kernel
set_option maxRecDepth 65536 in
theorem w_alone : about1.alone = true := by decide +kernel
set_option maxRecDepth 65536 in
theorem w_named : about1.methodNamed? x = some theMethod := by decide +kernel
set_option maxRecDepth 65536 in
theorem w_hears : about1.hears theMethod below0 = true := by decide +kernel
set_option maxRecDepth 65536 in
theorem w_ripe : about1.ripe theMethod args0 below0 = true := by decide +kernel
theorem w_running : about1.status = .running := rfl
set_option maxRecDepth 65536 in
theorem w_room : about1.hasRoom e0.platform room_1 = true :=
  launch0.hasRoom_least _ room_1 (by decide +kernel) (by decide +kernel) (by decide +kernel) (by decide +kernel) (by decide +kernel) (by decide +kernel)
theorem allAtoms_all (ts : List Jvm.Cond) (a : Array Jvm.Value) (st : Jvm.State) : (allAtoms ts).before a st = ts.all (fun c => c.before a st) := by
  induction ts with
  | nil => rfl
  | cons c t ih =>
    show (Jvm.Cond.and c (allAtoms t)).before a st = _
    rw [Jvm.Cond.before_and, ih, List.all_cons]
def words1 : List Jvm.Cond := Jvm.Cond.code x code maxLocals ret :: tables_1
/-- a 'code' word, met by the world's own term for the bytes: nothing is compared byte by byte -/
theorem code_word {y : MethodName} {bytes : ByteArray} {mx : Nat} {rt : Option FieldType} {a : Array Value} {s : State} {m : MethodId} {meth : Method} {c : Code} (h1 : s.methodNamed? y = some m) (h2 : s.vm.method? m = some meth) (h3 : meth.code = some c) (h4 : c.code = bytes)
    (h5 : (c.maxLocals == mx && c.exceptionTable.isEmpty && decide (c.maxStack ≤ mostOperands) && decide (meth.sig.returnType = rt) && !meth.locks && decide (parseMethodDescriptor y.desc = some meth.sig)) = true) : (Jvm.Cond.code y bytes mx rt).before a s = true := by
  simp only [Bool.and_eq_true, beq_iff_eq, Bool.not_eq_true', decide_eq_true_eq] at h5
  obtain ⟨⟨⟨⟨⟨g1, g2⟩, g3⟩, g4⟩, g5⟩, g6⟩ := h5
  simp [Cond.before, Cond.holds, Cond.value, h1, h2, h3, h4, g1, g2, g3, g4, g5, g6]
def isCode : Jvm.Cond → Bool
  | .code _ _ _ _ => true
  | _ => false
theorem all_split {L : List Jvm.Cond} {P : Jvm.Cond → Bool} (h1 : L.all (fun c => isCode c || P c) = true) (h2 : ∀ c ∈ L.filter isCode, P c = true) : L.all P = true := by
  refine List.all_eq_true.mpr fun c hc => ?_
  have h := List.all_eq_true.mp h1 c hc
  rcases Bool.eq_false_or_eq_true (isCode c) with hi | hi
  · exact h2 c (List.mem_filter.mpr ⟨hc, hi⟩)
  · simpa [hi] using h
set_option maxRecDepth 65536 in
theorem w_c0 : (Jvm.Cond.code x code maxLocals ret).before args0 about1 = true := code_word (m := ⟨1, 1⟩) (meth := k1m1) (c := k1c1) (by decide +kernel) rfl rfl rfl (by decide +kernel)
set_option maxRecDepth 65536 in
theorem w_c1 : (Jvm.Cond.code ({ cls := "com/example/bough/bough/Node$Leaf", name := "<init>", desc := "([Ljava/lang/Object;[Ljava/lang/Object;[I)V" } : Jvm.MethodName) prog_66_method_1_code (4 : Nat) (Option.none : Option Jvm.ClassFile.FieldType)).before args0 about1 = true := code_word (m := ⟨3, 0⟩) (meth := k3m0) (c := k3c0) (by decide +kernel) rfl rfl rfl (by decide +kernel)
set_option maxRecDepth 65536 in
theorem w_c2 : (Jvm.Cond.code ({ cls := "com/example/bough/bough/Node$Leaf", name := "<init>", desc := "([Ljava/lang/Object;[Ljava/lang/Object;[IIII)V" } : Jvm.MethodName) prog_66_method_2_code (7 : Nat) (Option.none : Option Jvm.ClassFile.FieldType)).before args0 about1 = true := code_word (m := ⟨3, 1⟩) (meth := k3m1) (c := k3c1) (by decide +kernel) rfl rfl rfl (by decide +kernel)
set_option maxRecDepth 65536 in
theorem w_c3 : (Jvm.Cond.code ({ cls := "com/example/bough/bough/Node", name := "<init>", desc := "()V" } : Jvm.MethodName) prog_59_method_1_code (1 : Nat) (Option.none : Option Jvm.ClassFile.FieldType)).before args0 about1 = true := code_word (m := ⟨2, 0⟩) (meth := k2m0) (c := k2c0) (by decide +kernel) rfl rfl rfl (by decide +kernel)
set_option maxRecDepth 65536 in
theorem w_c4 : (Jvm.Cond.code ({ cls := "java/lang/Object", name := "<init>", desc := "()V" } : Jvm.MethodName) object_method_1_code (1 : Nat) (Option.none : Option Jvm.ClassFile.FieldType)).before args0 about1 = true := code_word (m := ⟨0, 0⟩) (meth := k0m0) (c := k0c0) (by decide +kernel) rfl rfl rfl (by decide +kernel)
set_option maxRecDepth 65536 in
theorem w_c5 : (Jvm.Cond.code ({ cls := "java/lang/Integer", name := "valueOf", desc := "(I)Ljava/lang/Integer;" } : Jvm.MethodName) jdk_33_method_22_code (1 : Nat) (Option.some (Jvm.ClassFile.FieldType.object "java/lang/Integer"))).before args0 about1 = true := code_word (m := ⟨10, 0⟩) (meth := k10m0) (c := k10c0) (by decide +kernel) rfl rfl rfl (by decide +kernel)
set_option maxRecDepth 65536 in
theorem w_c6 : (Jvm.Cond.code ({ cls := "com/example/bough/bough/InternalHoldsPinLaw", name := "pick", desc := "(ILcom/example/bough/bough/Node;Lcom/example/bough/bough/Node;Lcom/example/bough/bough/Node;)Lcom/example/bough/bough/Node;" } : Jvm.MethodName) method_3_code (4 : Nat) (Option.some (Jvm.ClassFile.FieldType.object "com/example/bough/bough/Node"))).before args0 about1 = true := code_word (m := ⟨1, 2⟩) (meth := k1m2) (c := k1c2) (by decide +kernel) rfl rfl rfl (by decide +kernel)
set_option maxRecDepth 65536 in
theorem w_c7 : (Jvm.Cond.code ({ cls := "com/example/bough/bough/Node$Internal", name := "<init>", desc := "(Ljava/lang/Object;ILcom/example/bough/bough/Node;Lcom/example/bough/bough/Node;)V" } : Jvm.MethodName) prog_65_method_1_code (5 : Nat) (Option.none : Option Jvm.ClassFile.FieldType)).before args0 about1 = true := code_word (m := ⟨4, 0⟩) (meth := k4m0) (c := k4c0) (by decide +kernel) rfl rfl rfl (by decide +kernel)
set_option maxRecDepth 65536 in
theorem w_c8 : (Jvm.Cond.code ({ cls := "com/example/bough/bough/Node$Internal", name := "holds", desc := "(Lcom/example/bough/bough/Node;)Z" } : Jvm.MethodName) prog_65_method_4_code (2 : Nat) (Option.some Jvm.ClassFile.FieldType.boolean)).before args0 about1 = true := code_word (m := ⟨4, 1⟩) (meth := k4m1) (c := k4c1) (by decide +kernel) rfl rfl rfl (by decide +kernel)
set_option maxRecDepth 65536 in
theorem w_c9 : (Jvm.Cond.code ({ cls := "java/lang/Integer", name := "<init>", desc := "(I)V" } : Jvm.MethodName) jdk_33_method_23_code (2 : Nat) (Option.none : Option Jvm.ClassFile.FieldType)).before args0 about1 = true := code_word (m := ⟨10, 1⟩) (meth := k10m1) (c := k10c1) (by decide +kernel) rfl rfl rfl (by decide +kernel)
set_option maxRecDepth 65536 in
theorem w_c10 : (Jvm.Cond.code ({ cls := "java/lang/Number", name := "<init>", desc := "()V" } : Jvm.MethodName) jdk_18_method_1_code (1 : Nat) (Option.none : Option Jvm.ClassFile.FieldType)).before args0 about1 = true := code_word (m := ⟨6, 0⟩) (meth := k6m0) (c := k6c0) (by decide +kernel) rfl rfl rfl (by decide +kernel)
def codes1 : List Jvm.Cond := [Jvm.Cond.code x code maxLocals ret, Jvm.Cond.code ({ cls := "com/example/bough/bough/Node$Leaf", name := "<init>", desc := "([Ljava/lang/Object;[Ljava/lang/Object;[I)V" } : Jvm.MethodName) prog_66_method_1_code (4 : Nat) (Option.none : Option Jvm.ClassFile.FieldType), Jvm.Cond.code ({ cls := "com/example/bough/bough/Node$Leaf", name := "<init>", desc := "([Ljava/lang/Object;[Ljava/lang/Object;[IIII)V" } : Jvm.MethodName) prog_66_method_2_code (7 : Nat) (Option.none : Option Jvm.ClassFile.FieldType), Jvm.Cond.code ({ cls := "com/example/bough/bough/Node", name := "<init>", desc := "()V" } : Jvm.MethodName) prog_59_method_1_code (1 : Nat) (Option.none : Option Jvm.ClassFile.FieldType), Jvm.Cond.code ({ cls := "java/lang/Object", name := "<init>", desc := "()V" } : Jvm.MethodName) object_method_1_code (1 : Nat) (Option.none : Option Jvm.ClassFile.FieldType), Jvm.Cond.code ({ cls := "java/lang/Integer", name := "valueOf", desc := "(I)Ljava/lang/Integer;" } : Jvm.MethodName) jdk_33_method_22_code (1 : Nat) (Option.some (Jvm.ClassFile.FieldType.object "java/lang/Integer")), Jvm.Cond.code ({ cls := "com/example/bough/bough/InternalHoldsPinLaw", name := "pick", desc := "(ILcom/example/bough/bough/Node;Lcom/example/bough/bough/Node;Lcom/example/bough/bough/Node;)Lcom/example/bough/bough/Node;" } : Jvm.MethodName) method_3_code (4 : Nat) (Option.some (Jvm.ClassFile.FieldType.object "com/example/bough/bough/Node")), Jvm.Cond.code ({ cls := "com/example/bough/bough/Node$Internal", name := "<init>", desc := "(Ljava/lang/Object;ILcom/example/bough/bough/Node;Lcom/example/bough/bough/Node;)V" } : Jvm.MethodName) prog_65_method_1_code (5 : Nat) (Option.none : Option Jvm.ClassFile.FieldType), Jvm.Cond.code ({ cls := "com/example/bough/bough/Node$Internal", name := "holds", desc := "(Lcom/example/bough/bough/Node;)Z" } : Jvm.MethodName) prog_65_method_4_code (2 : Nat) (Option.some Jvm.ClassFile.FieldType.boolean), Jvm.Cond.code ({ cls := "java/lang/Integer", name := "<init>", desc := "(I)V" } : Jvm.MethodName) jdk_33_method_23_code (2 : Nat) (Option.none : Option Jvm.ClassFile.FieldType), Jvm.Cond.code ({ cls := "java/lang/Number", name := "<init>", desc := "()V" } : Jvm.MethodName) jdk_18_method_1_code (1 : Nat) (Option.none : Option Jvm.ClassFile.FieldType)]
set_option maxRecDepth 65536 in
theorem codes_eq : words1.filter isCode = codes1 := rfl
theorem w_codes : ∀ c ∈ words1.filter isCode, c.before args0 about1 = true := by
  rw [codes_eq]
  intro c hc
  simp only [codes1, List.mem_cons, List.not_mem_nil, or_false] at hc
  rcases hc with rfl | rfl | rfl | rfl | rfl | rfl | rfl | rfl | rfl | rfl | rfl
  · exact w_c0
  · exact w_c1
  · exact w_c2
  · exact w_c3
  · exact w_c4
  · exact w_c5
  · exact w_c6
  · exact w_c7
  · exact w_c8
  · exact w_c9
  · exact w_c10
set_option maxRecDepth 65536 in
theorem w_t1 : (words1.take 24).all (fun c => isCode c || c.before args0 about1) = true := by decide +kernel
set_option maxRecDepth 65536 in
theorem w_t2 : ((words1.drop 24).take 24).all (fun c => isCode c || c.before args0 about1) = true := by decide +kernel
set_option maxRecDepth 65536 in
theorem w_t3 : (((words1.drop 24).drop 24).take 24).all (fun c => isCode c || c.before args0 about1) = true := by decide +kernel
set_option maxRecDepth 65536 in
theorem w_t4 : (((words1.drop 24).drop 24).drop 24).all (fun c => isCode c || c.before args0 about1) = true := by decide +kernel
theorem w_tables : (allAtoms (Jvm.Cond.code x code maxLocals ret :: tables_1)).before args0 about1 = true := by
  rw [allAtoms_all]
  show words1.all (fun c => c.before args0 about1) = true
  refine all_split ?_ w_codes
  rw [← List.take_append_drop 24 words1, List.all_append, w_t1, ← List.take_append_drop 24 (words1.drop 24), List.all_append, w_t2, ← List.take_append_drop 24 ((words1.drop 24).drop 24), List.all_append, w_t3, w_t4]
  rfl
set_option maxRecDepth 65536 in
theorem w_rest : rest_1_c.before args0 about1 = true := by decide +kernel
set_option maxRecDepth 65536 in
theorem w_case : (Jvm.Cond.and given_1 narrow_1).before args0 about1 = true := by decide +kernel
theorem w_applies : (headSpec (Jvm.Cond.code x code maxLocals ret :: tables_1) room_1).applies x e0.platform about1 = true :=
  (Spec.applies_iff w_frames).mpr ⟨w_running, w_runnable, w_alone, w_named, w_hears, w_ripe, w_room, w_tables⟩
theorem atStart : AtStart classFile x code maxLocals ret World_1 tables_1 room_1 Calls_1 rest_1 Pre_1 launch0 p0 e0 about1 theMethod args0 below0 :=
  ⟨lists_1, trivial, launch0.admits_env _ _ _, launch0.least_env, fairChoices_fair.cas, fairChoices_fair.clock, w_frames, w_args, w_heap, w_applies, trivial, w_rest, w_case⟩
end start1
theorem witness_1 : WitnessClaimed_1 := ⟨start1.p0, start1.e0, start1.about1, start1.theMethod, start1.args0, start1.below0, start1.atStart⟩
end Jvm.Pilot.@@N@@
