import JvmDerived
import JvmDerived.Pilot.@@N@@Statement
import JvmDerived.Pilot.@@N@@Code
set_option linter.unusedVariables false
set_option linter.unusedSimpArgs false
namespace Jvm.RoadKit
open Sem ClassFile Op Lib Jvm.Stand Jvm.Free Jvm.LawKit
section New
variable {p : Program} {l : Launch} {e : Env} {R : Room} {s : State} {m : MethodId} {args : Array Value} {below : List Frame} {meth : Method} {c : Code} {T : State} {locs : List Loc} {cells slots : Nat}
theorem retI (X : Stand p l e R s m args below meth c T locs cells slots) (hx : p.tables.exec = Jvm.exec) {pc : Nat} {Ls : Array Slot} {z : Int32} {rest : List Value} (hret : meth.sig.returnType = some .int) (hd : decode c.code pc = .ok (.ireturn, 1)) {fs : List Frame}
    (hl : ∀ (f : JFrame) (acts : List Action), f.method = m → f.locked = none → f.entered = [] → (doReturn e (T.setTop f) acts (some (.int z))).1 = T.setFrames fs) : Steps p.tables e below (T.setTop (mkF m pc Ls (.int z :: rest))) (T.setFrames fs) := by
  have hm' : T.vm.method? m = some meth := X.method'
  have hn : narrow .int (.int z) = .int z := rfl
  show Steps p.tables e below (T.setTop { method := m, pc := pc, locals := Ls, stack := _ :: rest, locked := none }) _
  jvm_step X.here [X.here.top, hx, hd, hm', hret, hn]
  first | (intro acts; rw [hl _ acts rfl rfl rfl]) | rw [hl _ _ rfl rfl rfl]
  exact Steps.refl _
/-- the return of a reference, null or not -/
theorem own_retR (X : Stand p l e R s m args below meth c T locs cells slots) (hx : p.tables.exec = Jvm.exec) {pc : Nat} {Ls : Array Slot} {w : Value} {ty : FieldType} {rest : List Value} (hret : meth.sig.returnType = some ty) (ht : ty.isReference = true) (hw : w.isRef = true) (hd : decode c.code pc = .ok (.areturn, 1)) {fs : List Frame}
    (hl : ∀ (f : JFrame) (acts : List Action), f.method = m → f.locked = none → f.entered = [] → (doReturn e (T.setTop f) acts (some w)).1 = T.setFrames fs) : Steps p.tables e below (T.setTop (mkF m pc Ls (w :: rest))) (T.setFrames fs) := by
  have hm' : T.vm.method? m = some meth := X.method'
  show Steps p.tables e below (T.setTop { method := m, pc := pc, locals := Ls, stack := _ :: rest, locked := none }) _
  rcases ref_cases hw with rfl | ⟨z, rfl⟩
  all_goals
    jvm_step X.here [X.here.top, hx, hd, hm', hret, ht, Value.isRef]
    first | (intro acts; rw [hl _ acts rfl rfl rfl]) | rw [hl _ _ rfl rfl rfl]
    exact Steps.refl _
/-- what a walk owes from a state and a frame on -/
def own_G (p : Program) (e : Env) (below : List Frame) (s : State) (C N : Nat) (Q : Option Value → Heap → List Loc → Prop) (T : State) (g : JFrame) : Prop :=
  ∃ s₂ o, Steps p.tables e below (T.setTop g) s₂ ∧ s₂.status = .running ∧ Ended s₂ below o ∧ ∃ v L, o = .returned v ∧ Q v s₂.heap L ∧ FrameEnd s o s₂ L C N
variable {C N : Nat} {Q : Option Value → Heap → List Loc → Prop} {T' : State} {g g' : JFrame} {h : Heap}
theorem own_G.step (k : ∀ t, Steps p.tables e below (T'.setTop g') t → Steps p.tables e below (T.setTop g) t) (H : own_G p e below s C N Q T' g') : own_G p e below s C N Q T g := by
  obtain ⟨s₂, o, h1, r⟩ := H
  exact ⟨s₂, o, k _ h1, r⟩
theorem own_G.cast (q : g = g') (H : own_G p e below s C N Q T g') : own_G p e below s C N Q T g := by
  subst q
  exact H
theorem own_G.start (q : g = g') (H : own_G p e below s C N Q T g') : ∃ s₂ o, Steps p.tables e below (T.setTop g) s₂ ∧ s₂.status = .running ∧ Ended s₂ below o ∧ ∃ v L, o = .returned v ∧ Q v s₂.heap L ∧ FrameEnd s o s₂ L C N := by
  subst q
  exact H
theorem own_ret (X : Stand p l e R s m args below meth c T locs cells slots) (eT : T.heap = h) {v : Option Value} (hv : meth.sig.returnType = none → v = none) (hlk : meth.locks = false) (hq : Q v h locs) (hc : cells ≤ C) (hn : slots ≤ N)
    (st : ∀ fs, (∀ (f : JFrame) (acts : List Action), f.method = m → f.locked = none → f.entered = [] → (doReturn e (T.setTop f) acts v).1 = T.setFrames fs) → Steps p.tables e below (T.setTop g) (T.setFrames fs)) : own_G p e below s C N Q T g := by
  obtain ⟨fs, hr, hrun, hended, hW, hsame⟩ := X.leave (v := v) hv hlk
  subst eT
  exact ⟨_, _, st fs hr, hrun, hended, _, _, rfl, hq, ⟨_, rfl⟩, hW, hsame.mono hc hn⟩
/-- the same where String constants may be made on the way -/
def own_GW (p : Program) (e : Env) (below : List Frame) (s : State) (C N : Nat) (Q : Option Value → Heap → List Loc → Prop) (T : State) (g : JFrame) : Prop :=
  ∃ s₂ o, Steps p.tables e below (T.setTop g) s₂ ∧ s₂.status = .running ∧ Ended s₂ below o ∧ ∃ v L, o = .returned v ∧ Q v s₂.heap L ∧ ReturnedEndW s o s₂ L C N
theorem own_GW.step (k : ∀ t, Steps p.tables e below (T'.setTop g') t → Steps p.tables e below (T.setTop g) t) (H : own_GW p e below s C N Q T' g') : own_GW p e below s C N Q T g := by
  obtain ⟨s₂, o, h1, r⟩ := H
  exact ⟨s₂, o, k _ h1, r⟩
theorem own_GW.cast (q : g = g') (H : own_GW p e below s C N Q T g') : own_GW p e below s C N Q T g := by
  subst q
  exact H
theorem own_GW.start (q : g = g') (H : own_GW p e below s C N Q T g') : ∃ s₂ o, Steps p.tables e below (T.setTop g) s₂ ∧ s₂.status = .running ∧ Ended s₂ below o ∧ ∃ v L, o = .returned v ∧ Q v s₂.heap L ∧ ReturnedEndW s o s₂ L C N := by
  subst q
  exact H
theorem own_retW {vm₁ : Vm} {k : Nat} (X : Stand p l e R (s.setVm vm₁) m args below meth c T locs cells slots) (hS : s.Since vm₁ k) (eT : T.heap = h) (hk : k ≤ h.size) {v : Option Value} (hv : meth.sig.returnType = none → v = none) (hlk : meth.locks = false) (hq : Q v h locs) (hc : cells ≤ C) (hn : slots ≤ N)
    (st : ∀ fs, (∀ (f : JFrame) (acts : List Action), f.method = m → f.locked = none → f.entered = [] → (doReturn e (T.setTop f) acts v).1 = T.setFrames fs) → Steps p.tables e below (T.setTop g) (T.setFrames fs)) : own_GW p e below s C N Q T g := by
  obtain ⟨fs, hr, hrun, hended, hW, hsame⟩ := X.leave (v := v) hv hlk
  subst eT
  obtain ⟨a, b, d⟩ := hS.ended (U := T.setFrames fs) hW hk hsame
  exact ⟨_, _, st fs hr, hrun, hended, _, _, rfl, hq, ⟨_, rfl⟩, a, b, d.mono hc hn⟩
/-- the same where the held String constants are kept too -/
def own_GH (Z : State) (EL : List (String × Nat)) (p : Program) (e : Env) (below : List Frame) (s : State) (C N : Nat) (Q : Option Value → Heap → List Loc → Prop) (T : State) (g : JFrame) : Prop :=
  ∃ s₂ o, Steps p.tables e below (T.setTop g) s₂ ∧ s₂.status = .running ∧ Ended s₂ below o ∧ ∃ v L, o = .returned v ∧ Q v s₂.heap L ∧ CHr Z EL s.vm s.heap s₂.vm s₂.heap ∧ ReturnedEndW s o s₂ L C N
section HeldEnd
variable {Z : State} {EL : List (String × Nat)}
theorem own_GH.step (k : ∀ t, Steps p.tables e below (T'.setTop g') t → Steps p.tables e below (T.setTop g) t) (H : own_GH Z EL p e below s C N Q T' g') : own_GH Z EL p e below s C N Q T g := by
  obtain ⟨s₂, o, h1, r⟩ := H
  exact ⟨s₂, o, k _ h1, r⟩
theorem own_GH.cast (q : g = g') (H : own_GH Z EL p e below s C N Q T g') : own_GH Z EL p e below s C N Q T g := by
  subst q
  exact H
theorem own_GH.start (q : g = g') (H : own_GH Z EL p e below s C N Q T g') : ∃ s₂ o, Steps p.tables e below (T.setTop g) s₂ ∧ s₂.status = .running ∧ Ended s₂ below o ∧ ∃ v L, o = .returned v ∧ Q v s₂.heap L ∧ CHr Z EL s.vm s.heap s₂.vm s₂.heap ∧ ReturnedEndW s o s₂ L C N := by
  subst q
  exact H
theorem own_retH {vm₁ : Vm} {k : Nat} {h0 : Heap} {a0 : Array Value} (X : Stand p l e R (s.setVm vm₁) m args below meth c T locs cells slots) (hS : s.Since vm₁ k) (eT : T.heap = h) (hk : k ≤ h.size) (hZ : Z.Warmed39 vm₁) (ew : EW Z a0 EL) (hH : CHv Z EL vm₁ h) (hh : s.heap = h0) (hR : CHr Z EL s.vm h0 vm₁ h) {v : Option Value} (hv : meth.sig.returnType = none → v = none) (hlk : meth.locks = false) (hq : Q v h locs) (hc : cells ≤ C) (hn : slots ≤ N)
    (st : ∀ fs, (∀ (f : JFrame) (acts : List Action), f.method = m → f.locked = none → f.entered = [] → (doReturn e (T.setTop f) acts v).1 = T.setFrames fs) → Steps p.tables e below (T.setTop g) (T.setFrames fs)) : own_GH Z EL p e below s C N Q T g := by
  obtain ⟨fs, hr, hrun, hended, hW, hsame⟩ := X.leave (v := v) hv hlk
  subst eT
  subst hh
  have q := CHv.at X hZ ew hH
  obtain ⟨a, b, d⟩ := hS.ended (U := T.setFrames fs) hW hk hsame
  exact ⟨_, _, st fs hr, hrun, hended, _, _, rfl, hq, (show CHr Z EL s.vm s.heap (T.setFrames fs).vm (T.setFrames fs).heap from hR.trans q), ⟨_, rfl⟩, a, b, d.mono hc hn⟩
end HeldEnd
/-- an array of that length -/
def own_Len (Z : State) (h : Heap) (a : Addr) (n : Int32) : Prop := ∃ (c : Cell) (ty : FieldType), Arr Z h a c ty ∧ c.slots.size = n.toNatClampNeg ∧ ¬ n < 0
theorem own_Len.lt {Z : State} {a : Addr} {n : Int32} (F : own_Len Z h a n) : a < h.size := by
  obtain ⟨c, ty, A, -⟩ := F
  exact A.lt
theorem own_Len.ext {Z : State} {h' : Heap} {a : Addr} {n : Int32} (F : own_Len Z h a n) (E : Ext h h') : own_Len Z h' a n := by
  obtain ⟨c, ty, A, r⟩ := F
  exact ⟨c, ty, A.ext E, r⟩
theorem own_Len.other {Z : State} {h' : Heap} {a b : Addr} {n : Int32} {sl : Nat} {v : Value} (F : own_Len Z h b n) (W : Wr h h' a sl v) (q : b ≠ a) : own_Len Z h' b n := by
  obtain ⟨c, ty, A, r⟩ := F
  exact ⟨c, ty, A.other W q, r⟩
theorem own_Len.keep {Z : State} {h' : Heap} {a : Addr} {n : Int32} {ws : List Addr} (F : own_Len Z h a n) (K : Keep h h' ws) (q : a ∉ ws) : own_Len Z h' a n := by
  obtain ⟨c, ty, A, r⟩ := F
  exact ⟨c, ty, ⟨K.2.1 _ _ A.1 q, A.2⟩, r⟩
theorem own_Len.arv {Z : State} {a : Addr} {k : ClassId} {ty : FieldType} {n : Int32} {vs : List Value} {d : Value} (F : Arv Z h a k ty n vs d) : own_Len Z h a n := by
  obtain ⟨c, A, -, S, N, -⟩ := F
  exact ⟨c, ty, A, S, N⟩
theorem own_Len.start {Z : State} {a : Addr} {c : Cell} {ty : FieldType} {z : Int32} (A : Arr Z h a c ty) (q : c.slots.size < 2 ^ 31) (e : c.slots.size.toInt32 = z) (hz : ¬ z < 0) : own_Len Z h a z :=
  ⟨c, ty, A, by rw [← e]; simp only [Int32.toNatClampNeg, len_toInt q]; rfl, hz⟩
theorem own_join {α : Sort _} {P : α → Prop} {G : JFrame → Prop} {g : JFrame} (F : α → JFrame) (h1 : ∀ t, P t → G (F t)) (h2 : (∀ t, P t → G (F t)) → G g) : G g := h2 h1
/-- a byte of a byte[] -/
def own_At (Z : State) (h : Heap) (a : Addr) (i b : Int32) : Prop := ∃ c : Cell, Arr Z h a c .byte ∧ ¬ (i < 0 ∨ c.slots.size ≤ i.toNatClampNeg) ∧ c.slots[i.toNatClampNeg]? = some (.int b)
theorem own_At.arv {Z : State} {a : Addr} {k : ClassId} {n i b : Int32} {vs : List Value} {d : Value} (F : Arv Z h a k .byte n vs d) (h1 : ¬ i < 0 ∧ i < n) (h2 : vs.getD i.toNatClampNeg d = .int b) : own_At Z h a i b := by
  obtain ⟨c, A, -, S, N, H, -⟩ := F
  exact ⟨c, A, inb_of S h1, H.at (inb_of S h1) h2⟩
theorem own_cat {v : Value} (hv : v.isRef = true) : v.category = 1 := by rcases ref_cases hv with rfl | ⟨z, rfl⟩ <;> rfl
theorem own_fits {v : Value} {ty : FieldType} (hv : v.isRef = true) (ht : ty.isReference = true) : fits ty v = true := by
  rcases ref_cases hv with rfl | ⟨z, rfl⟩ <;> cases ty <;> first | rfl | (cases ht; done) | simp [fits]
theorem own_narrow {v : Value} {ty : FieldType} (hv : v.isRef = true) (ht : ty.isReference = true) : narrow ty v = v := by
  rcases ref_cases hv with rfl | ⟨z, rfl⟩ <;> cases ty <;> first | rfl | (cases ht; done)
theorem Old.le {Z : State} {n0 : Nat} (X : Old Z n0 h) : n0 ≤ h.size := X.1 ▸ X.2.1
end New
end Jvm.RoadKit
namespace Jvm.Pilot.@@N@@
open Jvm Jvm.ClassFile Sem Op Lib Jvm.Free Jvm.Stand Jvm.LawKit Jvm.RoadKit Bundle Jvm.Pilot.@@N@@.Jvm.D
theorem own_toInt {a b : Int32} (h : a.toInt = b.toInt) : a = b := Int32.toInt_inj.mp h
theorem own_four (x : Int32) : (x &&& (3 : Int32)) = (0 : Int32) ∨ (x &&& (3 : Int32)) = (1 : Int32) ∨ (x &&& (3 : Int32)) = (2 : Int32) ∨ (x &&& (3 : Int32)) = (3 : Int32) := by
  have h1 := c_mask x (3 : Int32) 2 (by decide) (by decide)
  have h3 : (x &&& (3 : Int32)).toInt = 0 ∨ (x &&& (3 : Int32)).toInt = 1 ∨ (x &&& (3 : Int32)).toInt = 2 ∨ (x &&& (3 : Int32)).toInt = 3 := by omega
  rcases h3 with h | h | h | h
  · exact Or.inl (own_toInt h)
  · exact Or.inr (Or.inl (own_toInt h))
  · exact Or.inr (Or.inr (Or.inl (own_toInt h)))
  · exact Or.inr (Or.inr (Or.inr ((own_toInt h))))
def own_pos (n : Int32) : Int32 := if (0 : Int32) < n then 1 else 0
def own_min (x y : Int32) : Int32 := if y < x then y else x
theorem d3_0 : decode jdk_30_method_1_code 0 = .ok (.aload_n 0, 1) := by decide +kernel
theorem d3_1 : decode jdk_30_method_1_code 1 = .ok (.invokespecial 1, 3) := by decide +kernel
theorem d3_4 : decode jdk_30_method_1_code 4 = .ok (.return_, 1) := by decide +kernel
theorem pn_java_2flang_2fRecord : plainName "java/lang/Record" = true := by first | (simp [plainName, overriddenIn]; done) | decide +kernel
theorem ef_recinit (m : MethodId) (a : Addr) : entryFrame m #[(.ref a)] 1 = mkF m 0 #[.val (.ref a)] [] := by
  first | (simp [entryFrame, mkF, argsToLocals, Value.category]; done) | rfl
def Q_recinit (Z : State) (a : Addr) (h0 : Heap) (n0 : Nat) (v : Option Value) (h : Heap) (L : List Loc) : Prop := v = none ∧ Fr n0 L ∧ h = h0
set_option maxRecDepth 65536 in
set_option maxHeartbeats 40000000 in
theorem rm_recinit (l : Launch) (Z : State) (a0 : Array Value) (hw : ∀ d ∈ tables_1, d.before a0 Z = true) (ws : List Jvm.Cond) (a : Addr) (h0 : Heap) (n0 : Nat) (O0 : Old Z n0 h0) :
    MetFree l (⟨"java/lang/Record", "<init>", "()V"⟩ : MethodName) (head1 (Jvm.Cond.code (⟨"java/lang/Record", "<init>", "()V"⟩ : MethodName) jdk_30_method_1_code 1 none :: ws) ({ frames := 1, cells := 0, slots := 0, locals := 12 } : Room)) (fun aq_ Uq_ => aq_ = #[(.ref a)] ∧ Z.Warmed39 Uq_.vm ∧ Uq_.heap = h0) (fun _ _ _ _ _ => True) (fun _ Uq_ oq_ Ur_ => ∃ vq_ Lq_, oq_ = .returned vq_ ∧ Q_recinit Z a h0 n0 vq_ Ur_.heap Lq_ ∧ FrameEnd Uq_ oq_ Ur_ Lq_ ({ frames := 1, cells := 0, slots := 0, locals := 12 } : Room).cells ({ frames := 1, cells := 0, slots := 0, locals := 12 } : Room).slots) := by
  refine MetFree.of_bodySF (plainFor_of_name pn_java_2flang_2fRecord) hisR ?_
  intro p e s m args below meth c s₁ Bd hml0 hP hK
  obtain ⟨rfl, hZ, hh⟩ := hP
  have hx := Bd.exec
  have hby := Bd.bytes
  have hml : c.maxLocals = 1 := hml0
  have hown : s.vm.findClass "java/lang/Record" = some m.cls := findClass_of_methodNamed Bd.named
  have hnm := (name_of_methodNamed Bd.named Bd.method).1
  have X0 : Stand p l e ({ frames := 1, cells := 0, slots := 0, locals := 12 } : Room) s m #[(.ref a)] below meth c s₁ [] 0 0 := Stand.of_body Bd
  have e0 : s₁.heap = h0 := by rw [← hh, Bd.state]; rfl
  have N0 := Fr.nil n0
  have K0 := Keep.refl h0 []
  refine own_G.start (Q := Q_recinit Z a h0 n0) (ef_recinit m a) ?_
  refine own_G.step (g' := (mkF m 1 #[.val (.ref a)] [(.ref a)])) (fun tq_ kq_ => XS.aloadN X0.here hx rfl (hb hby d3_0) rfl rfl kq_) ?_
  obtain ⟨T1, X1, e1, st1⟩ := initO X0 hx hZ hown (hw _ (List.mem_of_getElem? (i := 16) rfl)) (hw _ (List.mem_of_getElem? (i := 17) rfl)) (hw _ (List.mem_of_getElem? (i := 18) rfl)) e0 (g := (mkF m 1 #[.val (.ref a)] [(.ref a)])) rfl (by rw [hml]; rfl) rfl (hb hby d3_1) (by decide) (W := 0) (by show 2 * 0 + _ ≤ _; exact Nat.le_of_eq rfl) (by decide)
  refine own_G.step (T' := T1) (g' := (mkF m 4 #[.val (.ref a)] [])) st1 ?_
  exact own_ret X1 e1 (v := none) (fun _ => rfl) Bd.notSynchronized ⟨rfl, N0, rfl⟩ (by decide) (by decide) (fun fs hr => X1.returnOut hx Bd.returns (hb hby d3_4) hr)
theorem d5_0 : decode jdk_31_method_11_code 0 = .ok (.aload_n 0, 1) := by decide +kernel
theorem d5_1 : decode jdk_31_method_11_code 1 = .ok (.ifnonnull 12, 3) := by decide +kernel
theorem d5_13 : decode jdk_31_method_11_code 13 = .ok (.aload_n 0, 1) := by decide +kernel
theorem d5_14 : decode jdk_31_method_11_code 14 = .ok (.areturn, 1) := by decide +kernel
theorem pn_java_2futil_2fObjects : plainName "java/util/Objects" = true := by first | (simp [plainName, overriddenIn]; done) | decide +kernel
theorem ef_rnn (m : MethodId) (o : Addr) (ms : Addr) : entryFrame m #[(.ref o), (.ref ms)] 2 = mkF m 0 #[.val (.ref o), .val (.ref ms)] [] := by
  first | (simp [entryFrame, mkF, argsToLocals, Value.category]; done) | rfl
def Q_rnn (Z : State) (o : Addr) (ms : Addr) (h0 : Heap) (n0 : Nat) (v : Option Value) (h : Heap) (L : List Loc) : Prop := v = some (.ref o) ∧ Fr n0 L ∧ h = h0
set_option maxRecDepth 65536 in
set_option maxHeartbeats 40000000 in
theorem rm_rnn (l : Launch) (Z : State) (a0 : Array Value) (hw : ∀ d ∈ tables_1, d.before a0 Z = true) (ws : List Jvm.Cond) (o : Addr) (ms : Addr) (h0 : Heap) (n0 : Nat) (O0 : Old Z n0 h0) :
    MetFree l (⟨"java/util/Objects", "requireNonNull", "(Ljava/lang/Object;Ljava/lang/String;)Ljava/lang/Object;"⟩ : MethodName) (head1 (Jvm.Cond.code (⟨"java/util/Objects", "requireNonNull", "(Ljava/lang/Object;Ljava/lang/String;)Ljava/lang/Object;"⟩ : MethodName) jdk_31_method_11_code 2 (some (.object "java/lang/Object")) :: ws) ({ frames := 0, cells := 0, slots := 0, locals := 0 } : Room)) (fun aq_ Uq_ => aq_ = #[(.ref o), (.ref ms)] ∧ Z.Warmed39 Uq_.vm ∧ Uq_.heap = h0) (fun _ _ _ _ _ => True) (fun _ Uq_ oq_ Ur_ => ∃ vq_ Lq_, oq_ = .returned vq_ ∧ Q_rnn Z o ms h0 n0 vq_ Ur_.heap Lq_ ∧ FrameEnd Uq_ oq_ Ur_ Lq_ ({ frames := 0, cells := 0, slots := 0, locals := 0 } : Room).cells ({ frames := 0, cells := 0, slots := 0, locals := 0 } : Room).slots) := by
  refine MetFree.of_bodySF (plainFor_of_name pn_java_2futil_2fObjects) hisR ?_
  intro p e s m args below meth c s₁ Bd hml0 hP hK
  obtain ⟨rfl, hZ, hh⟩ := hP
  have hx := Bd.exec
  have hby := Bd.bytes
  have hml : c.maxLocals = 2 := hml0
  have hown : s.vm.findClass "java/util/Objects" = some m.cls := findClass_of_methodNamed Bd.named
  have hnm := (name_of_methodNamed Bd.named Bd.method).1
  have X0 : Stand p l e ({ frames := 0, cells := 0, slots := 0, locals := 0 } : Room) s m #[(.ref o), (.ref ms)] below meth c s₁ [] 0 0 := Stand.of_body Bd
  have e0 : s₁.heap = h0 := by rw [← hh, Bd.state]; rfl
  have N0 := Fr.nil n0
  have K0 := Keep.refl h0 []
  refine own_G.start (Q := Q_rnn Z o ms h0 n0) (ef_rnn m o ms) ?_
  refine own_G.step (g' := (mkF m 1 #[.val (.ref o), .val (.ref ms)] [(.ref o)])) (fun tq_ kq_ => XS.aloadN X0.here hx rfl (hb hby d5_0) rfl rfl kq_) ?_
  refine own_G.step (g' := (mkF m 13 #[.val (.ref o), .val (.ref ms)] [])) (fun tq_ kq_ => XS.ifnonnullYes X0.here hx rfl (pc0 := 1) (pc' := 13) rfl (hb hby d5_1) rfl (by decide) (by decide) kq_) ?_
  refine own_G.step (g' := (mkF m 14 #[.val (.ref o), .val (.ref ms)] [(.ref o)])) (fun tq_ kq_ => XS.aloadN X0.here hx rfl (hb hby d5_13) rfl rfl kq_) ?_
  exact own_ret X0 e0 (v := some (.ref o)) (fun h => by rw [Bd.returns] at h; cases h) Bd.notSynchronized ⟨rfl, N0, rfl⟩ (by decide) (by decide) (fun fs hr => own_retR X0 hx Bd.returns rfl rfl (hb hby d5_14) hr)
theorem d1_0 : decode method_2_code 0 = .ok (.iload_n 0, 1) := by decide +kernel
theorem d1_1 : decode method_2_code 1 = .ok (.newarray .byte, 2) := by decide +kernel
theorem d1_3 : decode method_2_code 3 = .ok (.astore_n 2, 1) := by decide +kernel
theorem d1_4 : decode method_2_code 4 = .ok (.iload_n 0, 1) := by decide +kernel
theorem d1_5 : decode method_2_code 5 = .ok (.ifCond .le 8, 3) := by decide +kernel
theorem d1_8 : decode method_2_code 8 = .ok (.aload_n 2, 1) := by decide +kernel
theorem d1_9 : decode method_2_code 9 = .ok (.iconst 0, 1) := by decide +kernel
theorem d1_10 : decode method_2_code 10 = .ok (.iload_n 1, 1) := by decide +kernel
theorem d1_11 : decode method_2_code 11 = .ok (.i2b, 1) := by decide +kernel
theorem d1_12 : decode method_2_code 12 = .ok (.bastore, 1) := by decide +kernel
theorem d1_13 : decode method_2_code 13 = .ok (.iload_n 0, 1) := by decide +kernel
theorem d1_14 : decode method_2_code 14 = .ok (.iconst 1, 1) := by decide +kernel
theorem d1_15 : decode method_2_code 15 = .ok (.if_icmp .le 11, 3) := by decide +kernel
theorem d1_18 : decode method_2_code 18 = .ok (.aload_n 2, 1) := by decide +kernel
theorem d1_19 : decode method_2_code 19 = .ok (.iconst 1, 1) := by decide +kernel
theorem d1_20 : decode method_2_code 20 = .ok (.iload_n 1, 1) := by decide +kernel
theorem d1_21 : decode method_2_code 21 = .ok (.bipush 8, 2) := by decide +kernel
theorem d1_23 : decode method_2_code 23 = .ok (.ishr, 1) := by decide +kernel
theorem d1_24 : decode method_2_code 24 = .ok (.i2b, 1) := by decide +kernel
theorem d1_25 : decode method_2_code 25 = .ok (.bastore, 1) := by decide +kernel
theorem d1_26 : decode method_2_code 26 = .ok (.iload_n 0, 1) := by decide +kernel
theorem d1_27 : decode method_2_code 27 = .ok (.iconst 2, 1) := by decide +kernel
theorem d1_28 : decode method_2_code 28 = .ok (.if_icmp .le 11, 3) := by decide +kernel
theorem d1_31 : decode method_2_code 31 = .ok (.aload_n 2, 1) := by decide +kernel
theorem d1_32 : decode method_2_code 32 = .ok (.iconst 2, 1) := by decide +kernel
theorem d1_33 : decode method_2_code 33 = .ok (.iload_n 1, 1) := by decide +kernel
theorem d1_34 : decode method_2_code 34 = .ok (.bipush 16, 2) := by decide +kernel
theorem d1_36 : decode method_2_code 36 = .ok (.ishr, 1) := by decide +kernel
theorem d1_37 : decode method_2_code 37 = .ok (.i2b, 1) := by decide +kernel
theorem d1_38 : decode method_2_code 38 = .ok (.bastore, 1) := by decide +kernel
theorem d1_39 : decode method_2_code 39 = .ok (.aload_n 2, 1) := by decide +kernel
theorem d1_40 : decode method_2_code 40 = .ok (.areturn, 1) := by decide +kernel
theorem pn_com_2fexample_2fevenkey_2fevenkey_2fmodel_2fRowRangeHasStopRowPinLaw : plainName "com/example/evenkey/evenkey/model/RowRangeHasStopRowPinLaw" = true := by first | (simp [plainName, overriddenIn]; done) | decide +kernel
theorem ef_bytes (m : MethodId) (n : Int32) (x : Int32) : entryFrame m #[(.int n), (.int x)] 3 = mkF m 0 #[.val (.int n), .val (.int x), .unset] [] := by
  first | (simp [entryFrame, mkF, argsToLocals, Value.category]; done) | rfl
def Q_bytes (Z : State) (n : Int32) (x : Int32) (h0 : Heap) (n0 : Nat) (v : Option Value) (h : Heap) (L : List Loc) : Prop := ∃ (b : Addr), ∃ (kb : ClassId), ∃ (vs : List Value), v = some (.ref b) ∧ Fr n0 L ∧ Keep h0 h [] ∧ h0.size ≤ b ∧ Arv Z h b kb .byte n vs (.int 0) ∧ vs.length = n.toNatClampNeg
set_option maxRecDepth 65536 in
set_option maxHeartbeats 40000000 in
theorem rm_bytes (l : Launch) (Z : State) (a0 : Array Value) (hw : ∀ d ∈ tables_1, d.before a0 Z = true) (ws : List Jvm.Cond) (n : Int32) (x : Int32) (h0 : Heap) (n0 : Nat) (O0 : Old Z n0 h0) (hn : n = (0 : Int32) ∨ n = (1 : Int32) ∨ n = (2 : Int32) ∨ n = (3 : Int32)) :
    MetFree l (⟨"com/example/evenkey/evenkey/model/RowRangeHasStopRowPinLaw", "bytes", "(II)[B"⟩ : MethodName) (head1 (Jvm.Cond.code (⟨"com/example/evenkey/evenkey/model/RowRangeHasStopRowPinLaw", "bytes", "(II)[B"⟩ : MethodName) method_2_code 3 (some (.array .byte)) :: ws) ({ frames := 0, cells := 1, slots := 3, locals := 0 } : Room)) (fun aq_ Uq_ => aq_ = #[(.int n), (.int x)] ∧ Z.Warmed39 Uq_.vm ∧ Uq_.heap = h0) (fun _ _ _ _ _ => True) (fun _ Uq_ oq_ Ur_ => ∃ vq_ Lq_, oq_ = .returned vq_ ∧ Q_bytes Z n x h0 n0 vq_ Ur_.heap Lq_ ∧ FrameEnd Uq_ oq_ Ur_ Lq_ ({ frames := 0, cells := 1, slots := 3, locals := 0 } : Room).cells ({ frames := 0, cells := 1, slots := 3, locals := 0 } : Room).slots) := by
  refine MetFree.of_bodySF (plainFor_of_name pn_com_2fexample_2fevenkey_2fevenkey_2fmodel_2fRowRangeHasStopRowPinLaw) hisR ?_
  intro p e s m args below meth c s₁ Bd hml0 hP hK
  obtain ⟨rfl, hZ, hh⟩ := hP
  have hx := Bd.exec
  have hby := Bd.bytes
  have hml : c.maxLocals = 3 := hml0
  have hown : s.vm.findClass "com/example/evenkey/evenkey/model/RowRangeHasStopRowPinLaw" = some m.cls := findClass_of_methodNamed Bd.named
  have hnm := (name_of_methodNamed Bd.named Bd.method).1
  have X0 : Stand p l e ({ frames := 0, cells := 1, slots := 3, locals := 0 } : Room) s m #[(.int n), (.int x)] below meth c s₁ [] 0 0 := Stand.of_body Bd
  have e0 : s₁.heap = h0 := by rw [← hh, Bd.state]; rfl
  have N0 := Fr.nil n0
  have K0 := Keep.refl h0 []
  refine own_G.start (Q := Q_bytes Z n x h0 n0) (ef_bytes m n x) ?_
  rcases hn with rfl | rfl | rfl | rfl
  · refine own_G.step (g' := (mkF m 1 #[.val (.int (0 : Int32)), .val (.int x), .unset] [(.int (0 : Int32))])) (fun tq_ kq_ => XS.iloadN X0.here hx rfl (hb hby d1_0) rfl kq_) ?_
    obtain ⟨T1, h1, k1, X1, e1, E1, A1, st1⟩ := newP X0 hx hZ (hw _ (List.mem_of_getElem? (i := 4) rfl)) e0 (g := (mkF m 1 #[.val (.int (0 : Int32)), .val (.int x), .unset] [(.int (0 : Int32))])) rfl (hb hby d1_1) rfl (by decide) (cap := 0) (by decide) (by decide) (by decide) (by decide)
    obtain ⟨b1, g1⟩ : ∃ z, z = h0.size := ⟨_, rfl⟩
    rw [← g1] at A1 st1
    have g2 : n0 ≤ b1 := Nat.le_trans O0.le (Nat.le_of_eq g1.symm)
    have z3 : h0.size ≤ b1 := Nat.le_trans K0.1 (Nat.le_of_eq g1.symm)
    have O4 := O0.ext E1
    have K5 := K0.ext E1
    have F6 : Arv Z h1 b1 k1 .byte (0 : Int32) [] (.int (0 : Int32)) := (Arv.new A1 (by decide)).pad (pad_rep [] (.int (0 : Int32)) 0)
    refine own_G.step (T' := T1) (g' := (mkF m 3 #[.val (.int (0 : Int32)), .val (.int x), .unset] [(.ref b1)])) st1 ?_
    refine own_G.step (g' := (mkF m 4 #[.val (.int (0 : Int32)), .val (.int x), .val (.ref b1)] [])) (fun tq_ kq_ => XS.astoreN X1.here hx rfl (hb hby d1_3) rfl rfl (l' := #[.val (.int (0 : Int32)), .val (.int x), .val (.ref b1)]) rfl kq_) ?_
    refine own_G.step (g' := (mkF m 5 #[.val (.int (0 : Int32)), .val (.int x), .val (.ref b1)] [(.int (0 : Int32))])) (fun tq_ kq_ => XS.iloadN X1.here hx rfl (hb hby d1_4) rfl kq_) ?_
    have hc5 : ¬ ((0 : Int32) < (0 : Int32)) := (by decide)
    refine own_G.step (g' := (mkF m 13 #[.val (.int (0 : Int32)), .val (.int x), .val (.ref b1)] [])) (fun tq_ kq_ => XS.ifYes X1.here hx rfl (pc0 := 5) (pc' := 13) rfl (hb hby d1_5) rfl ((if0 _ _).trans (flt hc5).2.2.2) (by decide) (by decide) kq_) ?_
    refine own_G.step (g' := (mkF m 14 #[.val (.int (0 : Int32)), .val (.int x), .val (.ref b1)] [(.int (0 : Int32))])) (fun tq_ kq_ => XS.iloadN X1.here hx rfl (hb hby d1_13) rfl kq_) ?_
    refine own_G.step (g' := (mkF m 15 #[.val (.int (0 : Int32)), .val (.int x), .val (.ref b1)] [(.int (1 : Int32)), (.int (0 : Int32))])) (fun tq_ kq_ => XS.iconst X1.here hx rfl (hb hby d1_14) kq_) ?_
    have hc15 : ¬ ((1 : Int32) < (0 : Int32)) := (by decide)
    refine own_G.step (g' := (mkF m 26 #[.val (.int (0 : Int32)), .val (.int x), .val (.ref b1)] [])) (fun tq_ kq_ => XS.icmpYes X1.here hx rfl (pc0 := 15) (pc' := 26) rfl (hb hby d1_15) rfl (flt hc15).2.2.2 (by decide) (by decide) kq_) ?_
    refine own_G.step (g' := (mkF m 27 #[.val (.int (0 : Int32)), .val (.int x), .val (.ref b1)] [(.int (0 : Int32))])) (fun tq_ kq_ => XS.iloadN X1.here hx rfl (hb hby d1_26) rfl kq_) ?_
    refine own_G.step (g' := (mkF m 28 #[.val (.int (0 : Int32)), .val (.int x), .val (.ref b1)] [(.int (2 : Int32)), (.int (0 : Int32))])) (fun tq_ kq_ => XS.iconst X1.here hx rfl (hb hby d1_27) kq_) ?_
    have hc28 : ¬ ((2 : Int32) < (0 : Int32)) := (by decide)
    refine own_G.step (g' := (mkF m 39 #[.val (.int (0 : Int32)), .val (.int x), .val (.ref b1)] [])) (fun tq_ kq_ => XS.icmpYes X1.here hx rfl (pc0 := 28) (pc' := 39) rfl (hb hby d1_28) rfl (flt hc28).2.2.2 (by decide) (by decide) kq_) ?_
    refine own_G.step (g' := (mkF m 40 #[.val (.int (0 : Int32)), .val (.int x), .val (.ref b1)] [(.ref b1)])) (fun tq_ kq_ => XS.aloadN X1.here hx rfl (hb hby d1_39) rfl rfl kq_) ?_
    exact own_ret X1 e1 (v := some (.ref b1)) (fun h => by rw [Bd.returns] at h; cases h) Bd.notSynchronized ⟨b1, k1, [], rfl, N0, K5, z3, F6, rfl⟩ (by decide) (by decide) (fun fs hr => own_retR X1 hx Bd.returns rfl rfl (hb hby d1_40) hr)
  · refine own_G.step (g' := (mkF m 1 #[.val (.int (1 : Int32)), .val (.int x), .unset] [(.int (1 : Int32))])) (fun tq_ kq_ => XS.iloadN X0.here hx rfl (hb hby d1_0) rfl kq_) ?_
    obtain ⟨T7, h7, k7, X7, e7, E7, A7, st7⟩ := newP X0 hx hZ (hw _ (List.mem_of_getElem? (i := 4) rfl)) e0 (g := (mkF m 1 #[.val (.int (1 : Int32)), .val (.int x), .unset] [(.int (1 : Int32))])) rfl (hb hby d1_1) rfl (by decide) (cap := 1) (by decide) (by decide) (by decide) (by decide)
    obtain ⟨b7, g7⟩ : ∃ z, z = h0.size := ⟨_, rfl⟩
    rw [← g7] at A7 st7
    have g8 : n0 ≤ b7 := Nat.le_trans O0.le (Nat.le_of_eq g7.symm)
    have z9 : h0.size ≤ b7 := Nat.le_trans K0.1 (Nat.le_of_eq g7.symm)
    have O10 := O0.ext E7
    have K11 := K0.ext E7
    have F12 : Arv Z h7 b7 k7 .byte (1 : Int32) [(.int (0 : Int32))] (.int (0 : Int32)) := (Arv.new A7 (by decide)).pad (pad_rep [] (.int (0 : Int32)) 1)
    refine own_G.step (T' := T7) (g' := (mkF m 3 #[.val (.int (1 : Int32)), .val (.int x), .unset] [(.ref b7)])) st7 ?_
    refine own_G.step (g' := (mkF m 4 #[.val (.int (1 : Int32)), .val (.int x), .val (.ref b7)] [])) (fun tq_ kq_ => XS.astoreN X7.here hx rfl (hb hby d1_3) rfl rfl (l' := #[.val (.int (1 : Int32)), .val (.int x), .val (.ref b7)]) rfl kq_) ?_
    refine own_G.step (g' := (mkF m 5 #[.val (.int (1 : Int32)), .val (.int x), .val (.ref b7)] [(.int (1 : Int32))])) (fun tq_ kq_ => XS.iloadN X7.here hx rfl (hb hby d1_4) rfl kq_) ?_
    have hc5 : (0 : Int32) < (1 : Int32) := (by decide)
    refine own_G.step (g' := (mkF m 8 #[.val (.int (1 : Int32)), .val (.int x), .val (.ref b7)] [])) (fun tq_ kq_ => XS.ifNo X7.here hx rfl (hb hby d1_5) rfl ((if0 _ _).trans (tlt hc5).2.2.2) kq_) ?_
    refine own_G.step (g' := (mkF m 9 #[.val (.int (1 : Int32)), .val (.int x), .val (.ref b7)] [(.ref b7)])) (fun tq_ kq_ => XS.aloadN X7.here hx rfl (hb hby d1_8) rfl rfl kq_) ?_
    refine own_G.step (g' := (mkF m 10 #[.val (.int (1 : Int32)), .val (.int x), .val (.ref b7)] [(.int (0 : Int32)), (.ref b7)])) (fun tq_ kq_ => XS.iconst X7.here hx rfl (hb hby d1_9) kq_) ?_
    refine own_G.step (g' := (mkF m 11 #[.val (.int (1 : Int32)), .val (.int x), .val (.ref b7)] [(.int x), (.int (0 : Int32)), (.ref b7)])) (fun tq_ kq_ => XS.iloadN X7.here hx rfl (hb hby d1_10) rfl kq_) ?_
    refine own_G.step (g' := (mkF m 12 #[.val (.int (1 : Int32)), .val (.int x), .val (.ref b7)] [(.int (x.toInt8.toInt32)), (.int (0 : Int32)), (.ref b7)])) (fun tq_ kq_ => XS.i2b X7.here hx rfl (hb hby d1_11) rfl kq_) ?_
    obtain ⟨cl13, Ar13, q113, Sz13, Nz13, Hh13, Gg13⟩ := id F12
    obtain ⟨T13, h13, X13, e13, W13, st13⟩ := stB X7 hx hZ e7 Ar13 (j := (0 : Int32)) (inb_of Sz13 ⟨by decide, by decide⟩) (g := (mkF m 12 #[.val (.int (1 : Int32)), .val (.int x), .val (.ref b7)] [(.int (x.toInt8.toInt32)), (.int (0 : Int32)), (.ref b7)])) rfl rfl (hb hby d1_12)
    have F14 : Arv Z h13 b7 k7 .byte (1 : Int32) [(.int (nar .byte (x.toInt8.toInt32)))] (.int (0 : Int32)) := Arv.set Ar13 q113 Sz13 Nz13 Hh13 Gg13 (fits_nar_byte _) W13 0 rfl (Nat.le_of_ble_eq_true rfl)
    have N13 := Fr.snoc X13 N0 g8
    have O16 := O10.wr W13 g8
    have K17 := K11.wr W13 (Or.inr z9)
    refine own_G.step (T' := T13) (g' := (mkF m 13 #[.val (.int (1 : Int32)), .val (.int x), .val (.ref b7)] [])) st13 ?_
    refine own_G.step (g' := (mkF m 14 #[.val (.int (1 : Int32)), .val (.int x), .val (.ref b7)] [(.int (1 : Int32))])) (fun tq_ kq_ => XS.iloadN X13.here hx rfl (hb hby d1_13) rfl kq_) ?_
    refine own_G.step (g' := (mkF m 15 #[.val (.int (1 : Int32)), .val (.int x), .val (.ref b7)] [(.int (1 : Int32)), (.int (1 : Int32))])) (fun tq_ kq_ => XS.iconst X13.here hx rfl (hb hby d1_14) kq_) ?_
    have hc15 : ¬ ((1 : Int32) < (1 : Int32)) := (by decide)
    refine own_G.step (g' := (mkF m 26 #[.val (.int (1 : Int32)), .val (.int x), .val (.ref b7)] [])) (fun tq_ kq_ => XS.icmpYes X13.here hx rfl (pc0 := 15) (pc' := 26) rfl (hb hby d1_15) rfl (flt hc15).2.2.2 (by decide) (by decide) kq_) ?_
    refine own_G.step (g' := (mkF m 27 #[.val (.int (1 : Int32)), .val (.int x), .val (.ref b7)] [(.int (1 : Int32))])) (fun tq_ kq_ => XS.iloadN X13.here hx rfl (hb hby d1_26) rfl kq_) ?_
    refine own_G.step (g' := (mkF m 28 #[.val (.int (1 : Int32)), .val (.int x), .val (.ref b7)] [(.int (2 : Int32)), (.int (1 : Int32))])) (fun tq_ kq_ => XS.iconst X13.here hx rfl (hb hby d1_27) kq_) ?_
    have hc28 : ¬ ((2 : Int32) < (1 : Int32)) := (by decide)
    refine own_G.step (g' := (mkF m 39 #[.val (.int (1 : Int32)), .val (.int x), .val (.ref b7)] [])) (fun tq_ kq_ => XS.icmpYes X13.here hx rfl (pc0 := 28) (pc' := 39) rfl (hb hby d1_28) rfl (flt hc28).2.2.2 (by decide) (by decide) kq_) ?_
    refine own_G.step (g' := (mkF m 40 #[.val (.int (1 : Int32)), .val (.int x), .val (.ref b7)] [(.ref b7)])) (fun tq_ kq_ => XS.aloadN X13.here hx rfl (hb hby d1_39) rfl rfl kq_) ?_
    exact own_ret X13 e13 (v := some (.ref b7)) (fun h => by rw [Bd.returns] at h; cases h) Bd.notSynchronized ⟨b7, k7, [(.int (nar .byte (x.toInt8.toInt32)))], rfl, N13, K17, z9, F14, rfl⟩ (by decide) (by decide) (fun fs hr => own_retR X13 hx Bd.returns rfl rfl (hb hby d1_40) hr)
  · refine own_G.step (g' := (mkF m 1 #[.val (.int (2 : Int32)), .val (.int x), .unset] [(.int (2 : Int32))])) (fun tq_ kq_ => XS.iloadN X0.here hx rfl (hb hby d1_0) rfl kq_) ?_
    obtain ⟨T18, h18, k18, X18, e18, E18, A18, st18⟩ := newP X0 hx hZ (hw _ (List.mem_of_getElem? (i := 4) rfl)) e0 (g := (mkF m 1 #[.val (.int (2 : Int32)), .val (.int x), .unset] [(.int (2 : Int32))])) rfl (hb hby d1_1) rfl (by decide) (cap := 2) (by decide) (by decide) (by decide) (by decide)
    obtain ⟨b18, g18⟩ : ∃ z, z = h0.size := ⟨_, rfl⟩
    rw [← g18] at A18 st18
    have g19 : n0 ≤ b18 := Nat.le_trans O0.le (Nat.le_of_eq g18.symm)
    have z20 : h0.size ≤ b18 := Nat.le_trans K0.1 (Nat.le_of_eq g18.symm)
    have O21 := O0.ext E18
    have K22 := K0.ext E18
    have F23 : Arv Z h18 b18 k18 .byte (2 : Int32) [(.int (0 : Int32)), (.int (0 : Int32))] (.int (0 : Int32)) := (Arv.new A18 (by decide)).pad (pad_rep [] (.int (0 : Int32)) 2)
    refine own_G.step (T' := T18) (g' := (mkF m 3 #[.val (.int (2 : Int32)), .val (.int x), .unset] [(.ref b18)])) st18 ?_
    refine own_G.step (g' := (mkF m 4 #[.val (.int (2 : Int32)), .val (.int x), .val (.ref b18)] [])) (fun tq_ kq_ => XS.astoreN X18.here hx rfl (hb hby d1_3) rfl rfl (l' := #[.val (.int (2 : Int32)), .val (.int x), .val (.ref b18)]) rfl kq_) ?_
    refine own_G.step (g' := (mkF m 5 #[.val (.int (2 : Int32)), .val (.int x), .val (.ref b18)] [(.int (2 : Int32))])) (fun tq_ kq_ => XS.iloadN X18.here hx rfl (hb hby d1_4) rfl kq_) ?_
    have hc5 : (0 : Int32) < (2 : Int32) := (by decide)
    refine own_G.step (g' := (mkF m 8 #[.val (.int (2 : Int32)), .val (.int x), .val (.ref b18)] [])) (fun tq_ kq_ => XS.ifNo X18.here hx rfl (hb hby d1_5) rfl ((if0 _ _).trans (tlt hc5).2.2.2) kq_) ?_
    refine own_G.step (g' := (mkF m 9 #[.val (.int (2 : Int32)), .val (.int x), .val (.ref b18)] [(.ref b18)])) (fun tq_ kq_ => XS.aloadN X18.here hx rfl (hb hby d1_8) rfl rfl kq_) ?_
    refine own_G.step (g' := (mkF m 10 #[.val (.int (2 : Int32)), .val (.int x), .val (.ref b18)] [(.int (0 : Int32)), (.ref b18)])) (fun tq_ kq_ => XS.iconst X18.here hx rfl (hb hby d1_9) kq_) ?_
    refine own_G.step (g' := (mkF m 11 #[.val (.int (2 : Int32)), .val (.int x), .val (.ref b18)] [(.int x), (.int (0 : Int32)), (.ref b18)])) (fun tq_ kq_ => XS.iloadN X18.here hx rfl (hb hby d1_10) rfl kq_) ?_
    refine own_G.step (g' := (mkF m 12 #[.val (.int (2 : Int32)), .val (.int x), .val (.ref b18)] [(.int (x.toInt8.toInt32)), (.int (0 : Int32)), (.ref b18)])) (fun tq_ kq_ => XS.i2b X18.here hx rfl (hb hby d1_11) rfl kq_) ?_
    obtain ⟨cl24, Ar24, q124, Sz24, Nz24, Hh24, Gg24⟩ := id F23
    obtain ⟨T24, h24, X24, e24, W24, st24⟩ := stB X18 hx hZ e18 Ar24 (j := (0 : Int32)) (inb_of Sz24 ⟨by decide, by decide⟩) (g := (mkF m 12 #[.val (.int (2 : Int32)), .val (.int x), .val (.ref b18)] [(.int (x.toInt8.toInt32)), (.int (0 : Int32)), (.ref b18)])) rfl rfl (hb hby d1_12)
    have F25 : Arv Z h24 b18 k18 .byte (2 : Int32) [(.int (nar .byte (x.toInt8.toInt32))), (.int (0 : Int32))] (.int (0 : Int32)) := Arv.set Ar24 q124 Sz24 Nz24 Hh24 Gg24 (fits_nar_byte _) W24 0 rfl (Nat.le_of_ble_eq_true rfl)
    have N24 := Fr.snoc X24 N0 g19
    have O27 := O21.wr W24 g19
    have K28 := K22.wr W24 (Or.inr z20)
    refine own_G.step (T' := T24) (g' := (mkF m 13 #[.val (.int (2 : Int32)), .val (.int x), .val (.ref b18)] [])) st24 ?_
    refine own_G.step (g' := (mkF m 14 #[.val (.int (2 : Int32)), .val (.int x), .val (.ref b18)] [(.int (2 : Int32))])) (fun tq_ kq_ => XS.iloadN X24.here hx rfl (hb hby d1_13) rfl kq_) ?_
    refine own_G.step (g' := (mkF m 15 #[.val (.int (2 : Int32)), .val (.int x), .val (.ref b18)] [(.int (1 : Int32)), (.int (2 : Int32))])) (fun tq_ kq_ => XS.iconst X24.here hx rfl (hb hby d1_14) kq_) ?_
    have hc15 : (1 : Int32) < (2 : Int32) := (by decide)
    refine own_G.step (g' := (mkF m 18 #[.val (.int (2 : Int32)), .val (.int x), .val (.ref b18)] [])) (fun tq_ kq_ => XS.icmpNo X24.here hx rfl (hb hby d1_15) rfl (tlt hc15).2.2.2 kq_) ?_
    refine own_G.step (g' := (mkF m 19 #[.val (.int (2 : Int32)), .val (.int x), .val (.ref b18)] [(.ref b18)])) (fun tq_ kq_ => XS.aloadN X24.here hx rfl (hb hby d1_18) rfl rfl kq_) ?_
    refine own_G.step (g' := (mkF m 20 #[.val (.int (2 : Int32)), .val (.int x), .val (.ref b18)] [(.int (1 : Int32)), (.ref b18)])) (fun tq_ kq_ => XS.iconst X24.here hx rfl (hb hby d1_19) kq_) ?_
    refine own_G.step (g' := (mkF m 21 #[.val (.int (2 : Int32)), .val (.int x), .val (.ref b18)] [(.int x), (.int (1 : Int32)), (.ref b18)])) (fun tq_ kq_ => XS.iloadN X24.here hx rfl (hb hby d1_20) rfl kq_) ?_
    refine own_G.step (g' := (mkF m 23 #[.val (.int (2 : Int32)), .val (.int x), .val (.ref b18)] [(.int (8 : Int32)), (.int x), (.int (1 : Int32)), (.ref b18)])) (fun tq_ kq_ => XS.bipush X24.here hx rfl (hb hby d1_21) kq_) ?_
    refine own_G.step (g' := (mkF m 24 #[.val (.int (2 : Int32)), .val (.int x), .val (.ref b18)] [(.int (x >>> ((8 : Int32) &&& 31))), (.int (1 : Int32)), (.ref b18)])) (fun tq_ kq_ => XS.ishr X24.here hx rfl (hb hby d1_23) rfl kq_) ?_
    refine own_G.step (g' := (mkF m 25 #[.val (.int (2 : Int32)), .val (.int x), .val (.ref b18)] [(.int ((x >>> ((8 : Int32) &&& 31)).toInt8.toInt32)), (.int (1 : Int32)), (.ref b18)])) (fun tq_ kq_ => XS.i2b X24.here hx rfl (hb hby d1_24) rfl kq_) ?_
    obtain ⟨cl29, Ar29, q129, Sz29, Nz29, Hh29, Gg29⟩ := id F25
    obtain ⟨T29, h29, X29, e29, W29, st29⟩ := stB X24 hx hZ e24 Ar29 (j := (1 : Int32)) (inb_of Sz29 ⟨by decide, by decide⟩) (g := (mkF m 25 #[.val (.int (2 : Int32)), .val (.int x), .val (.ref b18)] [(.int ((x >>> ((8 : Int32) &&& 31)).toInt8.toInt32)), (.int (1 : Int32)), (.ref b18)])) rfl rfl (hb hby d1_25)
    have F30 : Arv Z h29 b18 k18 .byte (2 : Int32) [(.int (nar .byte (x.toInt8.toInt32))), (.int (nar .byte ((x >>> ((8 : Int32) &&& 31)).toInt8.toInt32)))] (.int (0 : Int32)) := Arv.set Ar29 q129 Sz29 Nz29 Hh29 Gg29 (fits_nar_byte _) W29 1 rfl (Nat.le_of_ble_eq_true rfl)
    have N29 := Fr.snoc X29 N24 g19
    have O32 := O27.wr W29 g19
    have K33 := K28.wr W29 (Or.inr z20)
    refine own_G.step (T' := T29) (g' := (mkF m 26 #[.val (.int (2 : Int32)), .val (.int x), .val (.ref b18)] [])) st29 ?_
    refine own_G.step (g' := (mkF m 27 #[.val (.int (2 : Int32)), .val (.int x), .val (.ref b18)] [(.int (2 : Int32))])) (fun tq_ kq_ => XS.iloadN X29.here hx rfl (hb hby d1_26) rfl kq_) ?_
    refine own_G.step (g' := (mkF m 28 #[.val (.int (2 : Int32)), .val (.int x), .val (.ref b18)] [(.int (2 : Int32)), (.int (2 : Int32))])) (fun tq_ kq_ => XS.iconst X29.here hx rfl (hb hby d1_27) kq_) ?_
    have hc28 : ¬ ((2 : Int32) < (2 : Int32)) := (by decide)
    refine own_G.step (g' := (mkF m 39 #[.val (.int (2 : Int32)), .val (.int x), .val (.ref b18)] [])) (fun tq_ kq_ => XS.icmpYes X29.here hx rfl (pc0 := 28) (pc' := 39) rfl (hb hby d1_28) rfl (flt hc28).2.2.2 (by decide) (by decide) kq_) ?_
    refine own_G.step (g' := (mkF m 40 #[.val (.int (2 : Int32)), .val (.int x), .val (.ref b18)] [(.ref b18)])) (fun tq_ kq_ => XS.aloadN X29.here hx rfl (hb hby d1_39) rfl rfl kq_) ?_
    exact own_ret X29 e29 (v := some (.ref b18)) (fun h => by rw [Bd.returns] at h; cases h) Bd.notSynchronized ⟨b18, k18, [(.int (nar .byte (x.toInt8.toInt32))), (.int (nar .byte ((x >>> ((8 : Int32) &&& 31)).toInt8.toInt32)))], rfl, N29, K33, z20, F30, rfl⟩ (by decide) (by decide) (fun fs hr => own_retR X29 hx Bd.returns rfl rfl (hb hby d1_40) hr)
  · refine own_G.step (g' := (mkF m 1 #[.val (.int (3 : Int32)), .val (.int x), .unset] [(.int (3 : Int32))])) (fun tq_ kq_ => XS.iloadN X0.here hx rfl (hb hby d1_0) rfl kq_) ?_
    obtain ⟨T34, h34, k34, X34, e34, E34, A34, st34⟩ := newP X0 hx hZ (hw _ (List.mem_of_getElem? (i := 4) rfl)) e0 (g := (mkF m 1 #[.val (.int (3 : Int32)), .val (.int x), .unset] [(.int (3 : Int32))])) rfl (hb hby d1_1) rfl (by decide) (cap := 3) (by decide) (by decide) (by decide) (by decide)
    obtain ⟨b34, g34⟩ : ∃ z, z = h0.size := ⟨_, rfl⟩
    rw [← g34] at A34 st34
    have g35 : n0 ≤ b34 := Nat.le_trans O0.le (Nat.le_of_eq g34.symm)
    have z36 : h0.size ≤ b34 := Nat.le_trans K0.1 (Nat.le_of_eq g34.symm)
    have O37 := O0.ext E34
    have K38 := K0.ext E34
    have F39 : Arv Z h34 b34 k34 .byte (3 : Int32) [(.int (0 : Int32)), (.int (0 : Int32)), (.int (0 : Int32))] (.int (0 : Int32)) := (Arv.new A34 (by decide)).pad (pad_rep [] (.int (0 : Int32)) 3)
    refine own_G.step (T' := T34) (g' := (mkF m 3 #[.val (.int (3 : Int32)), .val (.int x), .unset] [(.ref b34)])) st34 ?_
    refine own_G.step (g' := (mkF m 4 #[.val (.int (3 : Int32)), .val (.int x), .val (.ref b34)] [])) (fun tq_ kq_ => XS.astoreN X34.here hx rfl (hb hby d1_3) rfl rfl (l' := #[.val (.int (3 : Int32)), .val (.int x), .val (.ref b34)]) rfl kq_) ?_
    refine own_G.step (g' := (mkF m 5 #[.val (.int (3 : Int32)), .val (.int x), .val (.ref b34)] [(.int (3 : Int32))])) (fun tq_ kq_ => XS.iloadN X34.here hx rfl (hb hby d1_4) rfl kq_) ?_
    have hc5 : (0 : Int32) < (3 : Int32) := (by decide)
    refine own_G.step (g' := (mkF m 8 #[.val (.int (3 : Int32)), .val (.int x), .val (.ref b34)] [])) (fun tq_ kq_ => XS.ifNo X34.here hx rfl (hb hby d1_5) rfl ((if0 _ _).trans (tlt hc5).2.2.2) kq_) ?_
    refine own_G.step (g' := (mkF m 9 #[.val (.int (3 : Int32)), .val (.int x), .val (.ref b34)] [(.ref b34)])) (fun tq_ kq_ => XS.aloadN X34.here hx rfl (hb hby d1_8) rfl rfl kq_) ?_
    refine own_G.step (g' := (mkF m 10 #[.val (.int (3 : Int32)), .val (.int x), .val (.ref b34)] [(.int (0 : Int32)), (.ref b34)])) (fun tq_ kq_ => XS.iconst X34.here hx rfl (hb hby d1_9) kq_) ?_
    refine own_G.step (g' := (mkF m 11 #[.val (.int (3 : Int32)), .val (.int x), .val (.ref b34)] [(.int x), (.int (0 : Int32)), (.ref b34)])) (fun tq_ kq_ => XS.iloadN X34.here hx rfl (hb hby d1_10) rfl kq_) ?_
    refine own_G.step (g' := (mkF m 12 #[.val (.int (3 : Int32)), .val (.int x), .val (.ref b34)] [(.int (x.toInt8.toInt32)), (.int (0 : Int32)), (.ref b34)])) (fun tq_ kq_ => XS.i2b X34.here hx rfl (hb hby d1_11) rfl kq_) ?_
    obtain ⟨cl40, Ar40, q140, Sz40, Nz40, Hh40, Gg40⟩ := id F39
    obtain ⟨T40, h40, X40, e40, W40, st40⟩ := stB X34 hx hZ e34 Ar40 (j := (0 : Int32)) (inb_of Sz40 ⟨by decide, by decide⟩) (g := (mkF m 12 #[.val (.int (3 : Int32)), .val (.int x), .val (.ref b34)] [(.int (x.toInt8.toInt32)), (.int (0 : Int32)), (.ref b34)])) rfl rfl (hb hby d1_12)
    have F41 : Arv Z h40 b34 k34 .byte (3 : Int32) [(.int (nar .byte (x.toInt8.toInt32))), (.int (0 : Int32)), (.int (0 : Int32))] (.int (0 : Int32)) := Arv.set Ar40 q140 Sz40 Nz40 Hh40 Gg40 (fits_nar_byte _) W40 0 rfl (Nat.le_of_ble_eq_true rfl)
    have N40 := Fr.snoc X40 N0 g35
    have O43 := O37.wr W40 g35
    have K44 := K38.wr W40 (Or.inr z36)
    refine own_G.step (T' := T40) (g' := (mkF m 13 #[.val (.int (3 : Int32)), .val (.int x), .val (.ref b34)] [])) st40 ?_
    refine own_G.step (g' := (mkF m 14 #[.val (.int (3 : Int32)), .val (.int x), .val (.ref b34)] [(.int (3 : Int32))])) (fun tq_ kq_ => XS.iloadN X40.here hx rfl (hb hby d1_13) rfl kq_) ?_
    refine own_G.step (g' := (mkF m 15 #[.val (.int (3 : Int32)), .val (.int x), .val (.ref b34)] [(.int (1 : Int32)), (.int (3 : Int32))])) (fun tq_ kq_ => XS.iconst X40.here hx rfl (hb hby d1_14) kq_) ?_
    have hc15 : (1 : Int32) < (3 : Int32) := (by decide)
    refine own_G.step (g' := (mkF m 18 #[.val (.int (3 : Int32)), .val (.int x), .val (.ref b34)] [])) (fun tq_ kq_ => XS.icmpNo X40.here hx rfl (hb hby d1_15) rfl (tlt hc15).2.2.2 kq_) ?_
    refine own_G.step (g' := (mkF m 19 #[.val (.int (3 : Int32)), .val (.int x), .val (.ref b34)] [(.ref b34)])) (fun tq_ kq_ => XS.aloadN X40.here hx rfl (hb hby d1_18) rfl rfl kq_) ?_
    refine own_G.step (g' := (mkF m 20 #[.val (.int (3 : Int32)), .val (.int x), .val (.ref b34)] [(.int (1 : Int32)), (.ref b34)])) (fun tq_ kq_ => XS.iconst X40.here hx rfl (hb hby d1_19) kq_) ?_
    refine own_G.step (g' := (mkF m 21 #[.val (.int (3 : Int32)), .val (.int x), .val (.ref b34)] [(.int x), (.int (1 : Int32)), (.ref b34)])) (fun tq_ kq_ => XS.iloadN X40.here hx rfl (hb hby d1_20) rfl kq_) ?_
    refine own_G.step (g' := (mkF m 23 #[.val (.int (3 : Int32)), .val (.int x), .val (.ref b34)] [(.int (8 : Int32)), (.int x), (.int (1 : Int32)), (.ref b34)])) (fun tq_ kq_ => XS.bipush X40.here hx rfl (hb hby d1_21) kq_) ?_
    refine own_G.step (g' := (mkF m 24 #[.val (.int (3 : Int32)), .val (.int x), .val (.ref b34)] [(.int (x >>> ((8 : Int32) &&& 31))), (.int (1 : Int32)), (.ref b34)])) (fun tq_ kq_ => XS.ishr X40.here hx rfl (hb hby d1_23) rfl kq_) ?_
    refine own_G.step (g' := (mkF m 25 #[.val (.int (3 : Int32)), .val (.int x), .val (.ref b34)] [(.int ((x >>> ((8 : Int32) &&& 31)).toInt8.toInt32)), (.int (1 : Int32)), (.ref b34)])) (fun tq_ kq_ => XS.i2b X40.here hx rfl (hb hby d1_24) rfl kq_) ?_
    obtain ⟨cl45, Ar45, q145, Sz45, Nz45, Hh45, Gg45⟩ := id F41
    obtain ⟨T45, h45, X45, e45, W45, st45⟩ := stB X40 hx hZ e40 Ar45 (j := (1 : Int32)) (inb_of Sz45 ⟨by decide, by decide⟩) (g := (mkF m 25 #[.val (.int (3 : Int32)), .val (.int x), .val (.ref b34)] [(.int ((x >>> ((8 : Int32) &&& 31)).toInt8.toInt32)), (.int (1 : Int32)), (.ref b34)])) rfl rfl (hb hby d1_25)
    have F46 : Arv Z h45 b34 k34 .byte (3 : Int32) [(.int (nar .byte (x.toInt8.toInt32))), (.int (nar .byte ((x >>> ((8 : Int32) &&& 31)).toInt8.toInt32))), (.int (0 : Int32))] (.int (0 : Int32)) := Arv.set Ar45 q145 Sz45 Nz45 Hh45 Gg45 (fits_nar_byte _) W45 1 rfl (Nat.le_of_ble_eq_true rfl)
    have N45 := Fr.snoc X45 N40 g35
    have O48 := O43.wr W45 g35
    have K49 := K44.wr W45 (Or.inr z36)
    refine own_G.step (T' := T45) (g' := (mkF m 26 #[.val (.int (3 : Int32)), .val (.int x), .val (.ref b34)] [])) st45 ?_
    refine own_G.step (g' := (mkF m 27 #[.val (.int (3 : Int32)), .val (.int x), .val (.ref b34)] [(.int (3 : Int32))])) (fun tq_ kq_ => XS.iloadN X45.here hx rfl (hb hby d1_26) rfl kq_) ?_
    refine own_G.step (g' := (mkF m 28 #[.val (.int (3 : Int32)), .val (.int x), .val (.ref b34)] [(.int (2 : Int32)), (.int (3 : Int32))])) (fun tq_ kq_ => XS.iconst X45.here hx rfl (hb hby d1_27) kq_) ?_
    have hc28 : (2 : Int32) < (3 : Int32) := (by decide)
    refine own_G.step (g' := (mkF m 31 #[.val (.int (3 : Int32)), .val (.int x), .val (.ref b34)] [])) (fun tq_ kq_ => XS.icmpNo X45.here hx rfl (hb hby d1_28) rfl (tlt hc28).2.2.2 kq_) ?_
    refine own_G.step (g' := (mkF m 32 #[.val (.int (3 : Int32)), .val (.int x), .val (.ref b34)] [(.ref b34)])) (fun tq_ kq_ => XS.aloadN X45.here hx rfl (hb hby d1_31) rfl rfl kq_) ?_
    refine own_G.step (g' := (mkF m 33 #[.val (.int (3 : Int32)), .val (.int x), .val (.ref b34)] [(.int (2 : Int32)), (.ref b34)])) (fun tq_ kq_ => XS.iconst X45.here hx rfl (hb hby d1_32) kq_) ?_
    refine own_G.step (g' := (mkF m 34 #[.val (.int (3 : Int32)), .val (.int x), .val (.ref b34)] [(.int x), (.int (2 : Int32)), (.ref b34)])) (fun tq_ kq_ => XS.iloadN X45.here hx rfl (hb hby d1_33) rfl kq_) ?_
    refine own_G.step (g' := (mkF m 36 #[.val (.int (3 : Int32)), .val (.int x), .val (.ref b34)] [(.int (16 : Int32)), (.int x), (.int (2 : Int32)), (.ref b34)])) (fun tq_ kq_ => XS.bipush X45.here hx rfl (hb hby d1_34) kq_) ?_
    refine own_G.step (g' := (mkF m 37 #[.val (.int (3 : Int32)), .val (.int x), .val (.ref b34)] [(.int (x >>> ((16 : Int32) &&& 31))), (.int (2 : Int32)), (.ref b34)])) (fun tq_ kq_ => XS.ishr X45.here hx rfl (hb hby d1_36) rfl kq_) ?_
    refine own_G.step (g' := (mkF m 38 #[.val (.int (3 : Int32)), .val (.int x), .val (.ref b34)] [(.int ((x >>> ((16 : Int32) &&& 31)).toInt8.toInt32)), (.int (2 : Int32)), (.ref b34)])) (fun tq_ kq_ => XS.i2b X45.here hx rfl (hb hby d1_37) rfl kq_) ?_
    obtain ⟨cl50, Ar50, q150, Sz50, Nz50, Hh50, Gg50⟩ := id F46
    obtain ⟨T50, h50, X50, e50, W50, st50⟩ := stB X45 hx hZ e45 Ar50 (j := (2 : Int32)) (inb_of Sz50 ⟨by decide, by decide⟩) (g := (mkF m 38 #[.val (.int (3 : Int32)), .val (.int x), .val (.ref b34)] [(.int ((x >>> ((16 : Int32) &&& 31)).toInt8.toInt32)), (.int (2 : Int32)), (.ref b34)])) rfl rfl (hb hby d1_38)
    have F51 : Arv Z h50 b34 k34 .byte (3 : Int32) [(.int (nar .byte (x.toInt8.toInt32))), (.int (nar .byte ((x >>> ((8 : Int32) &&& 31)).toInt8.toInt32))), (.int (nar .byte ((x >>> ((16 : Int32) &&& 31)).toInt8.toInt32)))] (.int (0 : Int32)) := Arv.set Ar50 q150 Sz50 Nz50 Hh50 Gg50 (fits_nar_byte _) W50 2 rfl (Nat.le_of_ble_eq_true rfl)
    have N50 := Fr.snoc X50 N45 g35
    have O53 := O48.wr W50 g35
    have K54 := K49.wr W50 (Or.inr z36)
    refine own_G.step (T' := T50) (g' := (mkF m 39 #[.val (.int (3 : Int32)), .val (.int x), .val (.ref b34)] [])) st50 ?_
    refine own_G.step (g' := (mkF m 40 #[.val (.int (3 : Int32)), .val (.int x), .val (.ref b34)] [(.ref b34)])) (fun tq_ kq_ => XS.aloadN X50.here hx rfl (hb hby d1_39) rfl rfl kq_) ?_
    exact own_ret X50 e50 (v := some (.ref b34)) (fun h => by rw [Bd.returns] at h; cases h) Bd.notSynchronized ⟨b34, k34, [(.int (nar .byte (x.toInt8.toInt32))), (.int (nar .byte ((x >>> ((8 : Int32) &&& 31)).toInt8.toInt32))), (.int (nar .byte ((x >>> ((16 : Int32) &&& 31)).toInt8.toInt32)))], rfl, N50, K54, z36, F51, rfl⟩ (by decide) (by decide) (fun fs hr => own_retR X50 hx Bd.returns rfl rfl (hb hby d1_40) hr)
theorem pd__28_29V : parseMethodDescriptor "()V" = some ⟨[], none⟩ := by decide +kernel
theorem pd__28Ljava_2flang_2fObject_3bLjava_2flang_2fString_3b_29Ljava_2flang_2fObject_3b : parseMethodDescriptor "(Ljava/lang/Object;Ljava/lang/String;)Ljava/lang/Object;" = some ⟨[(.object "java/lang/Object"), (.object "java/lang/String")], some (.object "java/lang/Object")⟩ := by decide +kernel
theorem d2_0 : decode prog_13_method_1_code 0 = .ok (.aload_n 0, 1) := by decide +kernel
theorem d2_1 : decode prog_13_method_1_code 1 = .ok (.invokespecial 1, 3) := by decide +kernel
theorem d2_4 : decode prog_13_method_1_code 4 = .ok (.aload_n 1, 1) := by decide +kernel
theorem d2_5 : decode prog_13_method_1_code 5 = .ok (.ldc 7, 2) := by decide +kernel
theorem d2_7 : decode prog_13_method_1_code 7 = .ok (.invokestatic 9, 3) := by decide +kernel
theorem d2_10 : decode prog_13_method_1_code 10 = .ok (.pop, 1) := by decide +kernel
theorem d2_11 : decode prog_13_method_1_code 11 = .ok (.aload_n 2, 1) := by decide +kernel
theorem d2_12 : decode prog_13_method_1_code 12 = .ok (.ldc 15, 2) := by decide +kernel
theorem d2_14 : decode prog_13_method_1_code 14 = .ok (.invokestatic 9, 3) := by decide +kernel
theorem d2_17 : decode prog_13_method_1_code 17 = .ok (.pop, 1) := by decide +kernel
theorem d2_18 : decode prog_13_method_1_code 18 = .ok (.aload_n 0, 1) := by decide +kernel
theorem d2_19 : decode prog_13_method_1_code 19 = .ok (.aload_n 1, 1) := by decide +kernel
theorem d2_20 : decode prog_13_method_1_code 20 = .ok (.putfield 17, 3) := by decide +kernel
theorem d2_23 : decode prog_13_method_1_code 23 = .ok (.aload_n 0, 1) := by decide +kernel
theorem d2_24 : decode prog_13_method_1_code 24 = .ok (.aload_n 2, 1) := by decide +kernel
theorem d2_25 : decode prog_13_method_1_code 25 = .ok (.putfield 22, 3) := by decide +kernel
theorem d2_28 : decode prog_13_method_1_code 28 = .ok (.return_, 1) := by decide +kernel
theorem pn_com_2fexample_2fevenkey_2fevenkey_2fmodel_2fRowRange : plainName "com/example/evenkey/evenkey/model/RowRange" = true := by first | (simp [plainName, overriddenIn]; done) | decide +kernel
theorem ef_rri (m : MethodId) (a : Addr) (s1 : Addr) (t1 : Addr) : entryFrame m #[(.ref a), (.ref s1), (.ref t1)] 3 = mkF m 0 #[.val (.ref a), .val (.ref s1), .val (.ref t1)] [] := by
  first | (simp [entryFrame, mkF, argsToLocals, Value.category]; done) | rfl
def Q_rri (Z : State) (a : Addr) (s1 : Addr) (t1 : Addr) (h0 : Heap) (n0 : Nat) (v : Option Value) (h : Heap) (L : List Loc) : Prop := v = none ∧ Fr n0 L ∧ Keep h0 h [a] ∧ Exa Z h a "com/example/evenkey/evenkey/model/RowRange" ∧ Fld Z h a "com/example/evenkey/evenkey/model/RowRange" "stopRow" "[B" (.ref t1)
set_option maxRecDepth 65536 in
set_option maxHeartbeats 40000000 in
theorem rm_rri (l : Launch) (Z : State) (a0 : Array Value) (hw : ∀ d ∈ tables_1, d.before a0 Z = true) (ws : List Jvm.Cond) (a : Addr) (s1 : Addr) (t1 : Addr) (h0 : Heap) (n0 : Nat) (O0 : Old Z n0 h0) (F1 : Fld Z h0 a "com/example/evenkey/evenkey/model/RowRange" "startRow" "[B" .null) (F2 : Fld Z h0 a "com/example/evenkey/evenkey/model/RowRange" "stopRow" "[B" .null) (E0 : Exa Z h0 a "com/example/evenkey/evenkey/model/RowRange") (ga : n0 ≤ a) :
    MetFree l (⟨"com/example/evenkey/evenkey/model/RowRange", "<init>", "([B[B)V"⟩ : MethodName) (head1 (Jvm.Cond.code (⟨"com/example/evenkey/evenkey/model/RowRange", "<init>", "([B[B)V"⟩ : MethodName) prog_13_method_1_code 3 none :: ws) ({ frames := 2, cells := 4, slots := 68, locals := 24 } : Room)) (fun aq_ Uq_ => aq_ = #[(.ref a), (.ref s1), (.ref t1)] ∧ Z.Warmed39 Uq_.vm ∧ Uq_.heap = h0) (fun _ _ _ _ _ => True) (fun _ Uq_ oq_ Ur_ => ∃ vq_ Lq_, oq_ = .returned vq_ ∧ Q_rri Z a s1 t1 h0 n0 vq_ Ur_.heap Lq_ ∧ ReturnedEndW Uq_ oq_ Ur_ Lq_ ({ frames := 2, cells := 4, slots := 68, locals := 24 } : Room).cells ({ frames := 2, cells := 4, slots := 68, locals := 24 } : Room).slots) := by
  refine MetFree.of_bodySF (plainFor_of_name pn_com_2fexample_2fevenkey_2fevenkey_2fmodel_2fRowRange) hisR ?_
  intro p e s m args below meth c s₁ Bd hml0 hP hK
  obtain ⟨rfl, hZ, hh⟩ := hP
  have hx := Bd.exec
  have hby := Bd.bytes
  have hml : c.maxLocals = 3 := hml0
  have hown : s.vm.findClass "com/example/evenkey/evenkey/model/RowRange" = some m.cls := findClass_of_methodNamed Bd.named
  have hnm := (name_of_methodNamed Bd.named Bd.method).1
  have X0 : Stand p l e ({ frames := 2, cells := 4, slots := 68, locals := 24 } : Room) (s.setVm s.vm) m #[(.ref a), (.ref s1), (.ref t1)] below meth c s₁ [] 0 0 := Stand.of_body Bd
  have e0 : s₁.heap = h0 := by rw [← hh, Bd.state]; rfl
  have N0 := Fr.nil n0
  have K0 := Keep.refl h0 [a]
  have hS : s.Since s.vm s.heap.size := (State.WarmedH.refl s).since _
  have hkS : s.heap.size ≤ h0.size := by rw [hh]; exact Nat.le_refl _
  have hZ : Z.Warmed39 (s.setVm s.vm).vm := hZ
  have hown : (s.setVm s.vm).vm.findClass "com/example/evenkey/evenkey/model/RowRange" = some m.cls := hown
  have own_wS : ∀ a ∈ Bundle.stringAtoms, a.before a0 Z = true := fun d hd => hw d ((by decide +kernel : ∀ d ∈ Bundle.stringAtoms, d ∈ tables_1) d hd)
  refine own_GW.start (Q := Q_rri Z a s1 t1 h0 n0) (ef_rri m a s1 t1) ?_
  refine own_GW.step (g' := (mkF m 1 #[.val (.ref a), .val (.ref s1), .val (.ref t1)] [(.ref a)])) (fun tq_ kq_ => XS.aloadN X0.here hx rfl (hb hby d2_0) rfl rfl kq_) ?_
  obtain ⟨_, _, ⟨T1, L1, k1, n1⟩, -, X1, ⟨Lc1, hQ1, l1, y1, z1⟩, st1⟩ := X0.specialBack hx (y := (⟨"java/lang/Record", "<init>", "()V"⟩ : MethodName)) rfl hown (mvT hZ (hw _ (List.mem_of_getElem? (i := 11) rfl))) (mvT hZ (hw _ (List.mem_of_getElem? (i := 12) rfl))) (mvT hZ (hw _ (List.mem_of_getElem? (i := 15) rfl))) (by decide) (backOf (W := 0) (rm_recinit l Z a0 hw [] a h0 n0 O0 ) hZ (hw _ (List.mem_of_getElem? (i := 15) rfl)) (hw _ (List.mem_of_getElem? (i := 14) rfl)) (by decide) (by decide)) (g := (mkF m 1 #[.val (.ref a), .val (.ref s1), .val (.ref t1)] [(.ref a)])) rfl (by rw [hml]; rfl) (Steps.refl _) (a := a) (argsL := []) (rest := []) (lenOf pd__28_29V rfl) rfl (by show 2 * 0 + _ ≤ _; exact Nat.le_of_eq rfl) (hb hby d2_1) (fun _ _ => ⟨rfl, e0, (by decide : 0 + 0 ≤ _), (by decide : 0 + 0 ≤ _)⟩)
  dsimp only [Pt.U, Pt.locs, Pt.cells, Pt.slots] at X1 l1 y1 z1 st1 hQ1
  subst l1 y1 z1
  obtain ⟨rfl, Nq1, P2⟩ := hQ1
  have N1 := Fr.app N0 Nq1
  refine own_GW.step (T' := T1) (g' := (mkF m 4 #[.val (.ref a), .val (.ref s1), .val (.ref t1)] [])) (fun tq_ kq_ => st1.trans kq_) ?_
  refine own_GW.step (g' := (mkF m 5 #[.val (.ref a), .val (.ref s1), .val (.ref t1)] [(.ref s1)])) (fun tq_ kq_ => XS.aloadN X1.here hx rfl (hb hby d2_4) rfl rfl kq_) ?_
  obtain ⟨a3, T3, h3, k3, X3, e3, E3, hS, hkS, hZ, hown, st3⟩ := ldcS (vm0 := s.vm) X1 hx hZ hown (hw _ (List.mem_of_getElem? (i := 19) rfl)) own_wS P2 hS hkS (g := (mkF m 5 #[.val (.ref a), .val (.ref s1), .val (.ref t1)] [(.ref s1)])) rfl (hb hby d2_5) (n := 32) (by decide +kernel) (by decide) (by decide) (by decide)
  have F4 := F1.ext E3
  have F5 := F2.ext E3
  have F6 := E0.ext E3
  have O7 := O0.ext E3
  have K8 := K0.ext E3
  refine own_GW.step (T' := T3) (g' := (mkF m 7 #[.val (.ref a), .val (.ref s1), .val (.ref t1)] [(.ref a3), (.ref s1)])) st3 ?_
  obtain ⟨_, _, ⟨T9, L9, k9, n9⟩, -, X9, ⟨Lc9, hQ9, l9, y9, z9⟩, st9⟩ := Jvm.LawKit.callS X3 hx (y := (⟨"java/util/Objects", "requireNonNull", "(Ljava/lang/Object;Ljava/lang/String;)Ljava/lang/Object;"⟩ : MethodName)) hown (mvT hZ (hw _ (List.mem_of_getElem? (i := 26) rfl))) (mvT hZ (hw _ (List.mem_of_getElem? (i := 27) rfl))) (mvT hZ (hw _ (List.mem_of_getElem? (i := 28) rfl))) (mvT hZ (hw _ (List.mem_of_getElem? (i := 29) rfl))) (by decide) (backOf (W := 0) (rm_rnn l Z a0 hw [] s1 a3 h3 n0 O7 ) hZ (hw _ (List.mem_of_getElem? (i := 29) rfl)) (hw _ (List.mem_of_getElem? (i := 28) rfl)) (by decide) (by decide)) (g := (mkF m 7 #[.val (.ref a), .val (.ref s1), .val (.ref t1)] [(.ref a3), (.ref s1)])) rfl (by rw [hml]; rfl) (argsL := [(.ref s1), (.ref a3)]) (rest := []) (lenOf pd__28Ljava_2flang_2fObject_3bLjava_2flang_2fString_3b_29Ljava_2flang_2fObject_3b rfl) rfl (by show 2 * 0 + _ ≤ _; exact Nat.le_of_eq rfl) (hb hby d2_7) (fun _ _ => ⟨rfl, e3, (by decide : 2 + 0 ≤ _), (by decide : 36 + 0 ≤ _)⟩)
  dsimp only [Pt.U, Pt.locs, Pt.cells, Pt.slots] at X9 l9 y9 z9 st9 hQ9
  subst l9 y9 z9
  obtain ⟨rfl, Nq9, P10⟩ := hQ9
  have N9 := Fr.app N1 Nq9
  refine own_GW.step (T' := T9) (g' := (mkF m 10 #[.val (.ref a), .val (.ref s1), .val (.ref t1)] [(.ref s1)])) (fun tq_ kq_ => st9 _ kq_) ?_
  refine own_GW.step (g' := (mkF m 11 #[.val (.ref a), .val (.ref s1), .val (.ref t1)] [])) (fun tq_ kq_ => XS.pop X9.here hx rfl (hb hby d2_10) rfl rfl kq_) ?_
  refine own_GW.step (g' := (mkF m 12 #[.val (.ref a), .val (.ref s1), .val (.ref t1)] [(.ref t1)])) (fun tq_ kq_ => XS.aloadN X9.here hx rfl (hb hby d2_11) rfl rfl kq_) ?_
  obtain ⟨a11, T11, h11, k11, X11, e11, E11, hS, hkS, hZ, hown, st11⟩ := ldcS (vm0 := T3.vm) X9 hx hZ hown (hw _ (List.mem_of_getElem? (i := 30) rfl)) own_wS P10 hS hkS (g := (mkF m 12 #[.val (.ref a), .val (.ref s1), .val (.ref t1)] [(.ref t1)])) rfl (hb hby d2_12) (n := 28) (by decide +kernel) (by decide) (by decide) (by decide)
  have F12 := F4.ext E11
  have F13 := F5.ext E11
  have F14 := F6.ext E11
  have O15 := O7.ext E11
  have K16 := K8.ext E11
  refine own_GW.step (T' := T11) (g' := (mkF m 14 #[.val (.ref a), .val (.ref s1), .val (.ref t1)] [(.ref a11), (.ref t1)])) st11 ?_
  obtain ⟨_, _, ⟨T17, L17, k17, n17⟩, -, X17, ⟨Lc17, hQ17, l17, y17, z17⟩, st17⟩ := Jvm.LawKit.callS X11 hx (y := (⟨"java/util/Objects", "requireNonNull", "(Ljava/lang/Object;Ljava/lang/String;)Ljava/lang/Object;"⟩ : MethodName)) hown (mvT hZ (hw _ (List.mem_of_getElem? (i := 26) rfl))) (mvT hZ (hw _ (List.mem_of_getElem? (i := 27) rfl))) (mvT hZ (hw _ (List.mem_of_getElem? (i := 28) rfl))) (mvT hZ (hw _ (List.mem_of_getElem? (i := 29) rfl))) (by decide) (backOf (W := 0) (rm_rnn l Z a0 hw [] t1 a11 h11 n0 O15 ) hZ (hw _ (List.mem_of_getElem? (i := 29) rfl)) (hw _ (List.mem_of_getElem? (i := 28) rfl)) (by decide) (by decide)) (g := (mkF m 14 #[.val (.ref a), .val (.ref s1), .val (.ref t1)] [(.ref a11), (.ref t1)])) rfl (by rw [hml]; rfl) (argsL := [(.ref t1), (.ref a11)]) (rest := []) (lenOf pd__28Ljava_2flang_2fObject_3bLjava_2flang_2fString_3b_29Ljava_2flang_2fObject_3b rfl) rfl (by show 2 * 0 + _ ≤ _; exact Nat.le_of_eq rfl) (hb hby d2_14) (fun _ _ => ⟨rfl, e11, (by decide : 4 + 0 ≤ _), (by decide : 68 + 0 ≤ _)⟩)
  dsimp only [Pt.U, Pt.locs, Pt.cells, Pt.slots] at X17 l17 y17 z17 st17 hQ17
  subst l17 y17 z17
  obtain ⟨rfl, Nq17, P18⟩ := hQ17
  have N17 := Fr.app N9 Nq17
  refine own_GW.step (T' := T17) (g' := (mkF m 17 #[.val (.ref a), .val (.ref s1), .val (.ref t1)] [(.ref t1)])) (fun tq_ kq_ => st17 _ kq_) ?_
  refine own_GW.step (g' := (mkF m 18 #[.val (.ref a), .val (.ref s1), .val (.ref t1)] [])) (fun tq_ kq_ => XS.pop X17.here hx rfl (hb hby d2_17) rfl rfl kq_) ?_
  refine own_GW.step (g' := (mkF m 19 #[.val (.ref a), .val (.ref s1), .val (.ref t1)] [(.ref a)])) (fun tq_ kq_ => XS.aloadN X17.here hx rfl (hb hby d2_18) rfl rfl kq_) ?_
  refine own_GW.step (g' := (mkF m 20 #[.val (.ref a), .val (.ref s1), .val (.ref t1)] [(.ref s1), (.ref a)])) (fun tq_ kq_ => XS.aloadN X17.here hx rfl (hb hby d2_19) rfl rfl kq_) ?_
  obtain ⟨T19, h19, X19, e19, W19, st19⟩ := putF X17 hx hZ hown (host := "") (Or.inl (hw _ (List.mem_of_getElem? (i := 31) rfl))) Via.refl P18 F12 F14 (Or.inr ⟨(hw _ (List.mem_of_getElem? (i := 32) rfl)), rfl, hnm⟩) (hw _ (List.mem_of_getElem? (i := 6) rfl)) (ty := (.array .byte)) (by decide) rfl rfl (g := (mkF m 20 #[.val (.ref a), .val (.ref s1), .val (.ref t1)] [(.ref s1), (.ref a)])) rfl rfl (hb hby d2_20)
  have N19 := Fr.snoc X19 N17 ga
  have hkS := Nat.le_trans hkS (Keep.of_wr W19).1
  have F20 := F12.same W19
  have F21 := F13.other W19 (Or.inr (slot_ne (Or.inr (hw _ (List.mem_of_getElem? (i := 34) rfl))) (Or.inr (hw _ (List.mem_of_getElem? (i := 32) rfl))) (by decide) (t := (.array .byte)) (t' := (.array .byte)) (by decide) (by decide)))
  have F22 := F14.wr W19
  have O23 := O15.wr W19 ga
  have K24 := K16.wr W19 (Or.inl (List.mem_of_getElem? (i := 0) rfl))
  refine own_GW.step (T' := T19) (g' := (mkF m 23 #[.val (.ref a), .val (.ref s1), .val (.ref t1)] [])) st19 ?_
  refine own_GW.step (g' := (mkF m 24 #[.val (.ref a), .val (.ref s1), .val (.ref t1)] [(.ref a)])) (fun tq_ kq_ => XS.aloadN X19.here hx rfl (hb hby d2_23) rfl rfl kq_) ?_
  refine own_GW.step (g' := (mkF m 25 #[.val (.ref a), .val (.ref s1), .val (.ref t1)] [(.ref t1), (.ref a)])) (fun tq_ kq_ => XS.aloadN X19.here hx rfl (hb hby d2_24) rfl rfl kq_) ?_
  obtain ⟨T25, h25, X25, e25, W25, st25⟩ := putF X19 hx hZ hown (host := "") (Or.inl (hw _ (List.mem_of_getElem? (i := 33) rfl))) Via.refl e19 F21 F22 (Or.inr ⟨(hw _ (List.mem_of_getElem? (i := 34) rfl)), rfl, hnm⟩) (hw _ (List.mem_of_getElem? (i := 6) rfl)) (ty := (.array .byte)) (by decide) rfl rfl (g := (mkF m 25 #[.val (.ref a), .val (.ref s1), .val (.ref t1)] [(.ref t1), (.ref a)])) rfl rfl (hb hby d2_25)
  have N25 := Fr.snoc X25 N19 ga
  have hkS := Nat.le_trans hkS (Keep.of_wr W25).1
  have F26 := F20.other W25 (Or.inr (slot_ne (Or.inr (hw _ (List.mem_of_getElem? (i := 32) rfl))) (Or.inr (hw _ (List.mem_of_getElem? (i := 34) rfl))) (by decide) (t := (.array .byte)) (t' := (.array .byte)) (by decide) (by decide)))
  have F27 := F21.same W25
  have F28 := F22.wr W25
  have O29 := O23.wr W25 ga
  have K30 := K24.wr W25 (Or.inl (List.mem_of_getElem? (i := 0) rfl))
  refine own_GW.step (T' := T25) (g' := (mkF m 28 #[.val (.ref a), .val (.ref s1), .val (.ref t1)] [])) st25 ?_
  exact own_retW X25 hS e25 hkS (v := none) (fun _ => rfl) Bd.notSynchronized ⟨rfl, N25, K30, F28, F27⟩ (by decide) (by decide) (fun fs hr => X25.returnOut hx Bd.returns (hb hby d2_28) hr)
theorem d6_0 : decode prog_13_method_6_code 0 = .ok (.aload_n 0, 1) := by decide +kernel
theorem d6_1 : decode prog_13_method_6_code 1 = .ok (.getfield 22, 3) := by decide +kernel
theorem d6_4 : decode prog_13_method_6_code 4 = .ok (.arraylength, 1) := by decide +kernel
theorem d6_5 : decode prog_13_method_6_code 5 = .ok (.ifCond .le 7, 3) := by decide +kernel
theorem d6_8 : decode prog_13_method_6_code 8 = .ok (.iconst 1, 1) := by decide +kernel
theorem d6_9 : decode prog_13_method_6_code 9 = .ok (.goto 4, 3) := by decide +kernel
theorem d6_12 : decode prog_13_method_6_code 12 = .ok (.iconst 0, 1) := by decide +kernel
theorem d6_13 : decode prog_13_method_6_code 13 = .ok (.ireturn, 1) := by decide +kernel
theorem ef_hsr (m : MethodId) (a : Addr) : entryFrame m #[(.ref a)] 1 = mkF m 0 #[.val (.ref a)] [] := by
  first | (simp [entryFrame, mkF, argsToLocals, Value.category]; done) | rfl
def Q_hsr (Z : State) (a : Addr) (t : Addr) (n : Int32) (h0 : Heap) (n0 : Nat) (v : Option Value) (h : Heap) (L : List Loc) : Prop := v = some (.int (own_pos n)) ∧ Fr n0 L ∧ h = h0
set_option maxRecDepth 65536 in
set_option maxHeartbeats 40000000 in
theorem rm_hsr (l : Launch) (Z : State) (a0 : Array Value) (hw : ∀ d ∈ tables_1, d.before a0 Z = true) (ws : List Jvm.Cond) (a : Addr) (t : Addr) (n : Int32) (h0 : Heap) (n0 : Nat) (O0 : Old Z n0 h0) (F2 : Fld Z h0 a "com/example/evenkey/evenkey/model/RowRange" "stopRow" "[B" (.ref t)) (LN : own_Len Z h0 t n) :
    MetFree l (⟨"com/example/evenkey/evenkey/model/RowRange", "hasStopRow", "()Z"⟩ : MethodName) (head1 (Jvm.Cond.code (⟨"com/example/evenkey/evenkey/model/RowRange", "hasStopRow", "()Z"⟩ : MethodName) prog_13_method_6_code 1 (some .boolean) :: ws) ({ frames := 0, cells := 0, slots := 0, locals := 0 } : Room)) (fun aq_ Uq_ => aq_ = #[(.ref a)] ∧ Z.Warmed39 Uq_.vm ∧ Uq_.heap = h0) (fun _ _ _ _ _ => True) (fun _ Uq_ oq_ Ur_ => ∃ vq_ Lq_, oq_ = .returned vq_ ∧ Q_hsr Z a t n h0 n0 vq_ Ur_.heap Lq_ ∧ FrameEnd Uq_ oq_ Ur_ Lq_ ({ frames := 0, cells := 0, slots := 0, locals := 0 } : Room).cells ({ frames := 0, cells := 0, slots := 0, locals := 0 } : Room).slots) := by
  refine MetFree.of_bodySF (plainFor_of_name pn_com_2fexample_2fevenkey_2fevenkey_2fmodel_2fRowRange) hisR ?_
  intro p e s m args below meth c s₁ Bd hml0 hP hK
  obtain ⟨rfl, hZ, hh⟩ := hP
  have hx := Bd.exec
  have hby := Bd.bytes
  have hml : c.maxLocals = 1 := hml0
  have hown : s.vm.findClass "com/example/evenkey/evenkey/model/RowRange" = some m.cls := findClass_of_methodNamed Bd.named
  have hnm := (name_of_methodNamed Bd.named Bd.method).1
  have X0 : Stand p l e ({ frames := 0, cells := 0, slots := 0, locals := 0 } : Room) s m #[(.ref a)] below meth c s₁ [] 0 0 := Stand.of_body Bd
  have e0 : s₁.heap = h0 := by rw [← hh, Bd.state]; rfl
  have N0 := Fr.nil n0
  have K0 := Keep.refl h0 []
  refine own_G.start (Q := Q_hsr Z a t n h0 n0) (ef_hsr m a) ?_
  refine own_G.step (g' := (mkF m 1 #[.val (.ref a)] [(.ref a)])) (fun tq_ kq_ => XS.aloadN X0.here hx rfl (hb hby d6_0) rfl rfl kq_) ?_
  obtain ⟨T1, X1, e1, st1⟩ := getF X0 hx hZ hown (host := "") (Or.inl (hw _ (List.mem_of_getElem? (i := 33) rfl))) Via.refl e0 F2 (g := (mkF m 1 #[.val (.ref a)] [(.ref a)])) rfl rfl (hb hby d6_1)
  refine own_G.step (T' := T1) (g' := (mkF m 4 #[.val (.ref a)] [(.ref t)])) st1 ?_
  obtain ⟨cl2, ty2, Ar2, Sz2, Nz2⟩ := id LN
  refine own_G.step (g' := (mkF m 5 #[.val (.ref a)] [(.int n)])) (fun tq_ kq_ => X1.arraylength hx (by rw [e1]; exact Ar2.1) (State.isArrayOf_alike hZ.alike Ar2.2.1) (g := (mkF m 4 #[.val (.ref a)] [(.ref t)])) rfl rfl (hb hby d6_4) _ (by rw [len_of Sz2 Nz2]; exact kq_)) ?_
  rcases Classical.em ((0 : Int32) < n) with hc5 | hc5
  · refine own_G.step (g' := (mkF m 8 #[.val (.ref a)] [])) (fun tq_ kq_ => XS.ifNo X1.here hx rfl (hb hby d6_5) rfl ((if0 _ _).trans (tlt hc5).2.2.2) kq_) ?_
    refine own_G.step (g' := (mkF m 9 #[.val (.ref a)] [(.int (1 : Int32))])) (fun tq_ kq_ => XS.iconst X1.here hx rfl (hb hby d6_8) kq_) ?_
    refine own_G.step (g' := (mkF m 13 #[.val (.ref a)] [(.int (1 : Int32))])) (fun tq_ kq_ => XS.goto X1.here hx rfl (pc0 := 9) (pc' := 13) rfl (hb hby d6_9) (by decide) (by decide) kq_) ?_
    exact own_ret X1 e1 (v := some (.int (1 : Int32))) (fun h => by rw [Bd.returns] at h; cases h) Bd.notSynchronized ⟨(by simp [own_pos, hc5]), N0, rfl⟩ (by decide) (by decide) (fun fs hr => retN X1 hx (t := .boolean) Bd.returns (by simp) (hb hby d6_13) hr)
  · refine own_G.step (g' := (mkF m 12 #[.val (.ref a)] [])) (fun tq_ kq_ => XS.ifYes X1.here hx rfl (pc0 := 5) (pc' := 12) rfl (hb hby d6_5) rfl ((if0 _ _).trans (flt hc5).2.2.2) (by decide) (by decide) kq_) ?_
    refine own_G.step (g' := (mkF m 13 #[.val (.ref a)] [(.int (0 : Int32))])) (fun tq_ kq_ => XS.iconst X1.here hx rfl (hb hby d6_12) kq_) ?_
    exact own_ret X1 e1 (v := some (.int (0 : Int32))) (fun h => by rw [Bd.returns] at h; cases h) Bd.notSynchronized ⟨(by simp [own_pos, hc5]), N0, rfl⟩ (by decide) (by decide) (fun fs hr => retN X1 hx (t := .boolean) Bd.returns (by simp) (hb hby d6_13) hr)
theorem d9_0 : decode jdk_29_method_69_code 0 = .ok (.iload_n 0, 1) := by decide +kernel
theorem d9_1 : decode jdk_29_method_69_code 1 = .ok (.iload_n 1, 1) := by decide +kernel
theorem d9_2 : decode jdk_29_method_69_code 2 = .ok (.if_icmp .gt 7, 3) := by decide +kernel
theorem d9_5 : decode jdk_29_method_69_code 5 = .ok (.iload_n 0, 1) := by decide +kernel
theorem d9_6 : decode jdk_29_method_69_code 6 = .ok (.goto 4, 3) := by decide +kernel
theorem d9_9 : decode jdk_29_method_69_code 9 = .ok (.iload_n 1, 1) := by decide +kernel
theorem d9_10 : decode jdk_29_method_69_code 10 = .ok (.ireturn, 1) := by decide +kernel
theorem ef_min (m : MethodId) (x : Int32) (y : Int32) : entryFrame m #[(.int x), (.int y)] 2 = mkF m 0 #[.val (.int x), .val (.int y)] [] := by
  first | (simp [entryFrame, mkF, argsToLocals, Value.category]; done) | rfl
def Q_min (Z : State) (x : Int32) (y : Int32) (h0 : Heap) (n0 : Nat) (v : Option Value) (h : Heap) (L : List Loc) : Prop := v = some (.int (own_min x y)) ∧ Fr n0 L ∧ h = h0
set_option maxRecDepth 65536 in
set_option maxHeartbeats 40000000 in
theorem rm_min (l : Launch) (Z : State) (a0 : Array Value) (hw : ∀ d ∈ tables_1, d.before a0 Z = true) (ws : List Jvm.Cond) (x : Int32) (y : Int32) (h0 : Heap) (n0 : Nat) (O0 : Old Z n0 h0) :
    MetFree l (⟨"java/lang/Math", "min", "(II)I"⟩ : MethodName) (head1 (Jvm.Cond.code (⟨"java/lang/Math", "min", "(II)I"⟩ : MethodName) jdk_29_method_69_code 2 (some .int) :: ws) ({ frames := 0, cells := 0, slots := 0, locals := 0 } : Room)) (fun aq_ Uq_ => aq_ = #[(.int x), (.int y)] ∧ Z.Warmed39 Uq_.vm ∧ Uq_.heap = h0) (fun _ _ _ _ _ => True) (fun _ Uq_ oq_ Ur_ => ∃ vq_ Lq_, oq_ = .returned vq_ ∧ Q_min Z x y h0 n0 vq_ Ur_.heap Lq_ ∧ FrameEnd Uq_ oq_ Ur_ Lq_ ({ frames := 0, cells := 0, slots := 0, locals := 0 } : Room).cells ({ frames := 0, cells := 0, slots := 0, locals := 0 } : Room).slots) := by
  refine MetFree.of_bodySF (Jvm.Free.JP.mathPlain rfl (by decide +kernel)) hisR ?_
  intro p e s m args below meth c s₁ Bd hml0 hP hK
  obtain ⟨rfl, hZ, hh⟩ := hP
  have hx := Bd.exec
  have hby := Bd.bytes
  have hml : c.maxLocals = 2 := hml0
  have hown : s.vm.findClass "java/lang/Math" = some m.cls := findClass_of_methodNamed Bd.named
  have hnm := (name_of_methodNamed Bd.named Bd.method).1
  have X0 : Stand p l e ({ frames := 0, cells := 0, slots := 0, locals := 0 } : Room) s m #[(.int x), (.int y)] below meth c s₁ [] 0 0 := Stand.of_body Bd
  have e0 : s₁.heap = h0 := by rw [← hh, Bd.state]; rfl
  have N0 := Fr.nil n0
  have K0 := Keep.refl h0 []
  refine own_G.start (Q := Q_min Z x y h0 n0) (ef_min m x y) ?_
  refine own_G.step (g' := (mkF m 1 #[.val (.int x), .val (.int y)] [(.int x)])) (fun tq_ kq_ => XS.iloadN X0.here hx rfl (hb hby d9_0) rfl kq_) ?_
  refine own_G.step (g' := (mkF m 2 #[.val (.int x), .val (.int y)] [(.int y), (.int x)])) (fun tq_ kq_ => XS.iloadN X0.here hx rfl (hb hby d9_1) rfl kq_) ?_
  rcases Classical.em (y < x) with hc2 | hc2
  · refine own_G.step (g' := (mkF m 9 #[.val (.int x), .val (.int y)] [])) (fun tq_ kq_ => XS.icmpYes X0.here hx rfl (pc0 := 2) (pc' := 9) rfl (hb hby d9_2) rfl (tlt hc2).2.2.1 (by decide) (by decide) kq_) ?_
    refine own_G.step (g' := (mkF m 10 #[.val (.int x), .val (.int y)] [(.int y)])) (fun tq_ kq_ => XS.iloadN X0.here hx rfl (hb hby d9_9) rfl kq_) ?_
    exact own_ret X0 e0 (v := some (.int y)) (fun h => by rw [Bd.returns] at h; cases h) Bd.notSynchronized ⟨(by simp [own_min, hc2]), N0, rfl⟩ (by decide) (by decide) (fun fs hr => retI X0 hx Bd.returns (hb hby d9_10) hr)
  · refine own_G.step (g' := (mkF m 5 #[.val (.int x), .val (.int y)] [])) (fun tq_ kq_ => XS.icmpNo X0.here hx rfl (hb hby d9_2) rfl (flt hc2).2.2.1 kq_) ?_
    refine own_G.step (g' := (mkF m 6 #[.val (.int x), .val (.int y)] [(.int x)])) (fun tq_ kq_ => XS.iloadN X0.here hx rfl (hb hby d9_5) rfl kq_) ?_
    refine own_G.step (g' := (mkF m 10 #[.val (.int x), .val (.int y)] [(.int x)])) (fun tq_ kq_ => XS.goto X0.here hx rfl (pc0 := 6) (pc' := 10) rfl (hb hby d9_6) (by decide) (by decide) kq_) ?_
    exact own_ret X0 e0 (v := some (.int x)) (fun h => by rw [Bd.returns] at h; cases h) Bd.notSynchronized ⟨(by simp [own_min, hc2]), N0, rfl⟩ (by decide) (by decide) (fun fs hr => retI X0 hx Bd.returns (hb hby d9_10) hr)
theorem pd__28II_29I : parseMethodDescriptor "(II)I" = some ⟨[.int, .int], some .int⟩ := by decide +kernel
theorem d8_0 : decode jdk_65_method_121_code 0 = .ok (.iload_n 1, 1) := by decide +kernel
theorem d8_1 : decode jdk_65_method_121_code 1 = .ok (.aload_n 0, 1) := by decide +kernel
theorem d8_2 : decode jdk_65_method_121_code 2 = .ok (.arraylength, 1) := by decide +kernel
theorem d8_3 : decode jdk_65_method_121_code 3 = .ok (.if_icmp .ne 11, 3) := by decide +kernel
theorem d8_14 : decode jdk_65_method_121_code 14 = .ok (.iload_n 1, 1) := by decide +kernel
theorem d8_15 : decode jdk_65_method_121_code 15 = .ok (.newarray .byte, 2) := by decide +kernel
theorem d8_17 : decode jdk_65_method_121_code 17 = .ok (.astore_n 2, 1) := by decide +kernel
theorem d8_18 : decode jdk_65_method_121_code 18 = .ok (.aload_n 0, 1) := by decide +kernel
theorem d8_19 : decode jdk_65_method_121_code 19 = .ok (.iconst 0, 1) := by decide +kernel
theorem d8_20 : decode jdk_65_method_121_code 20 = .ok (.aload_n 2, 1) := by decide +kernel
theorem d8_21 : decode jdk_65_method_121_code 21 = .ok (.iconst 0, 1) := by decide +kernel
theorem d8_22 : decode jdk_65_method_121_code 22 = .ok (.aload_n 0, 1) := by decide +kernel
theorem d8_23 : decode jdk_65_method_121_code 23 = .ok (.arraylength, 1) := by decide +kernel
theorem d8_24 : decode jdk_65_method_121_code 24 = .ok (.iload_n 1, 1) := by decide +kernel
theorem d8_25 : decode jdk_65_method_121_code 25 = .ok (.invokestatic 304, 3) := by decide +kernel
theorem d8_28 : decode jdk_65_method_121_code 28 = .ok (.invokestatic 150, 3) := by decide +kernel
theorem d8_31 : decode jdk_65_method_121_code 31 = .ok (.aload_n 2, 1) := by decide +kernel
theorem d8_32 : decode jdk_65_method_121_code 32 = .ok (.areturn, 1) := by decide +kernel
theorem pn_java_2futil_2fArrays : plainName "java/util/Arrays" = true := by first | (simp [plainName, overriddenIn]; done) | decide +kernel
theorem ef_copyOf (m : MethodId) (b : Addr) (m1 : Int32) : entryFrame m #[(.ref b), (.int m1)] 3 = mkF m 0 #[.val (.ref b), .val (.int m1), .unset] [] := by
  first | (simp [entryFrame, mkF, argsToLocals, Value.category]; done) | rfl
def Q_copyOf (Z : State) (b : Addr) (m1 : Int32) (n : Int32) (kb : ClassId) (vs : List Value) (h0 : Heap) (n0 : Nat) (v : Option Value) (h : Heap) (L : List Loc) : Prop := ∃ (c1 : Addr), v = some (.ref c1) ∧ Fr n0 L ∧ Keep h0 h [] ∧ h0.size ≤ c1 ∧ own_Len Z h c1 m1
set_option maxRecDepth 65536 in
set_option maxHeartbeats 40000000 in
theorem rm_copyOf (l : Launch) (Z : State) (a0 : Array Value) (hw : ∀ d ∈ tables_1, d.before a0 Z = true) (ws : List Jvm.Cond) (b : Addr) (m1 : Int32) (n : Int32) (kb : ClassId) (vs : List Value) (h0 : Heap) (n0 : Nat) (O0 : Old Z n0 h0) (hn : n = (0 : Int32) ∨ n = (1 : Int32) ∨ n = (2 : Int32) ∨ n = (3 : Int32)) (hm : m1 = n + (1 : Int32)) (AB : Arv Z h0 b kb .byte n vs (.int 0)) :
    MetFree l (⟨"java/util/Arrays", "copyOf", "([BI)[B"⟩ : MethodName) (head1 (Jvm.Cond.code (⟨"java/util/Arrays", "copyOf", "([BI)[B"⟩ : MethodName) jdk_65_method_121_code 3 (some (.array .byte)) :: ws) ({ frames := 1, cells := 1, slots := 4, locals := 30 } : Room)) (fun aq_ Uq_ => aq_ = #[(.ref b), (.int m1)] ∧ Z.Warmed39 Uq_.vm ∧ Uq_.heap = h0) (fun _ _ _ _ _ => True) (fun _ Uq_ oq_ Ur_ => ∃ vq_ Lq_, oq_ = .returned vq_ ∧ Q_copyOf Z b m1 n kb vs h0 n0 vq_ Ur_.heap Lq_ ∧ FrameEnd Uq_ oq_ Ur_ Lq_ ({ frames := 1, cells := 1, slots := 4, locals := 30 } : Room).cells ({ frames := 1, cells := 1, slots := 4, locals := 30 } : Room).slots) := by
  refine MetFree.of_bodySF (plainFor_of_name pn_java_2futil_2fArrays) hisR ?_
  intro p e s m args below meth c s₁ Bd hml0 hP hK
  obtain ⟨rfl, hZ, hh⟩ := hP
  have hx := Bd.exec
  have hby := Bd.bytes
  have hml : c.maxLocals = 3 := hml0
  have hown : s.vm.findClass "java/util/Arrays" = some m.cls := findClass_of_methodNamed Bd.named
  have hnm := (name_of_methodNamed Bd.named Bd.method).1
  have X0 : Stand p l e ({ frames := 1, cells := 1, slots := 4, locals := 30 } : Room) s m #[(.ref b), (.int m1)] below meth c s₁ [] 0 0 := Stand.of_body Bd
  have e0 : s₁.heap = h0 := by rw [← hh, Bd.state]; rfl
  have N0 := Fr.nil n0
  have K0 := Keep.refl h0 []
  refine own_G.start (Q := Q_copyOf Z b m1 n kb vs h0 n0) (ef_copyOf m b m1) ?_
  rcases hn with rfl | rfl | rfl | rfl
  · have hq1 : m1 = (1 : Int32) := hm.trans (by decide)
    subst hq1
    refine own_G.step (g' := (mkF m 1 #[.val (.ref b), .val (.int (1 : Int32)), .unset] [(.int (1 : Int32))])) (fun tq_ kq_ => XS.iloadN X0.here hx rfl (hb hby d8_0) rfl kq_) ?_
    refine own_G.step (g' := (mkF m 2 #[.val (.ref b), .val (.int (1 : Int32)), .unset] [(.ref b), (.int (1 : Int32))])) (fun tq_ kq_ => XS.aloadN X0.here hx rfl (hb hby d8_1) rfl rfl kq_) ?_
    obtain ⟨cl1, Ar1, -, Sz1, Nz1, -, -⟩ := id AB
    refine own_G.step (g' := (mkF m 3 #[.val (.ref b), .val (.int (1 : Int32)), .unset] [(.int (0 : Int32)), (.int (1 : Int32))])) (fun tq_ kq_ => X0.arraylength hx (by rw [e0]; exact Ar1.1) (State.isArrayOf_alike hZ.alike Ar1.2.1) (g := (mkF m 2 #[.val (.ref b), .val (.int (1 : Int32)), .unset] [(.ref b), (.int (1 : Int32))])) rfl rfl (hb hby d8_2) _ (by rw [len_of Sz1 Nz1]; exact kq_)) ?_
    have hc3 : ¬ ((1 : Int32) = (0 : Int32)) := (by decide)
    refine own_G.step (g' := (mkF m 14 #[.val (.ref b), .val (.int (1 : Int32)), .unset] [])) (fun tq_ kq_ => XS.icmpYes X0.here hx rfl (pc0 := 3) (pc' := 14) rfl (hb hby d8_3) rfl (feq hc3).2 (by decide) (by decide) kq_) ?_
    refine own_G.step (g' := (mkF m 15 #[.val (.ref b), .val (.int (1 : Int32)), .unset] [(.int (1 : Int32))])) (fun tq_ kq_ => XS.iloadN X0.here hx rfl (hb hby d8_14) rfl kq_) ?_
    obtain ⟨T2, h2, k2, X2, e2, E2, A2, st2⟩ := newP X0 hx hZ (hw _ (List.mem_of_getElem? (i := 4) rfl)) e0 (g := (mkF m 15 #[.val (.ref b), .val (.int (1 : Int32)), .unset] [(.int (1 : Int32))])) rfl (hb hby d8_15) rfl (by decide) (cap := 1) (by decide) (by decide) (by decide) (by decide)
    obtain ⟨b2, g2⟩ : ∃ z, z = h0.size := ⟨_, rfl⟩
    rw [← g2] at A2 st2
    have ne3 : b ≠ b2 := Nat.ne_of_lt (Nat.lt_of_lt_of_le AB.lt (Nat.le_of_eq g2.symm))
    have g4 : n0 ≤ b2 := Nat.le_trans O0.le (Nat.le_of_eq g2.symm)
    have z5 : h0.size ≤ b2 := Nat.le_trans K0.1 (Nat.le_of_eq g2.symm)
    have F6 := AB.ext E2
    have O7 := O0.ext E2
    have K8 := K0.ext E2
    have F9 : Arv Z h2 b2 k2 .byte (1 : Int32) [(.int (0 : Int32))] (.int (0 : Int32)) := (Arv.new A2 (by decide)).pad (pad_rep [] (.int (0 : Int32)) 1)
    refine own_G.step (T' := T2) (g' := (mkF m 17 #[.val (.ref b), .val (.int (1 : Int32)), .unset] [(.ref b2)])) st2 ?_
    refine own_G.step (g' := (mkF m 18 #[.val (.ref b), .val (.int (1 : Int32)), .val (.ref b2)] [])) (fun tq_ kq_ => XS.astoreN X2.here hx rfl (hb hby d8_17) rfl rfl (l' := #[.val (.ref b), .val (.int (1 : Int32)), .val (.ref b2)]) rfl kq_) ?_
    refine own_G.step (g' := (mkF m 19 #[.val (.ref b), .val (.int (1 : Int32)), .val (.ref b2)] [(.ref b)])) (fun tq_ kq_ => XS.aloadN X2.here hx rfl (hb hby d8_18) rfl rfl kq_) ?_
    refine own_G.step (g' := (mkF m 20 #[.val (.ref b), .val (.int (1 : Int32)), .val (.ref b2)] [(.int (0 : Int32)), (.ref b)])) (fun tq_ kq_ => XS.iconst X2.here hx rfl (hb hby d8_19) kq_) ?_
    refine own_G.step (g' := (mkF m 21 #[.val (.ref b), .val (.int (1 : Int32)), .val (.ref b2)] [(.ref b2), (.int (0 : Int32)), (.ref b)])) (fun tq_ kq_ => XS.aloadN X2.here hx rfl (hb hby d8_20) rfl rfl kq_) ?_
    refine own_G.step (g' := (mkF m 22 #[.val (.ref b), .val (.int (1 : Int32)), .val (.ref b2)] [(.int (0 : Int32)), (.ref b2), (.int (0 : Int32)), (.ref b)])) (fun tq_ kq_ => XS.iconst X2.here hx rfl (hb hby d8_21) kq_) ?_
    refine own_G.step (g' := (mkF m 23 #[.val (.ref b), .val (.int (1 : Int32)), .val (.ref b2)] [(.ref b), (.int (0 : Int32)), (.ref b2), (.int (0 : Int32)), (.ref b)])) (fun tq_ kq_ => XS.aloadN X2.here hx rfl (hb hby d8_22) rfl rfl kq_) ?_
    obtain ⟨cl10, Ar10, -, Sz10, Nz10, -, -⟩ := id F6
    refine own_G.step (g' := (mkF m 24 #[.val (.ref b), .val (.int (1 : Int32)), .val (.ref b2)] [(.int (0 : Int32)), (.int (0 : Int32)), (.ref b2), (.int (0 : Int32)), (.ref b)])) (fun tq_ kq_ => X2.arraylength hx (by rw [e2]; exact Ar10.1) (State.isArrayOf_alike hZ.alike Ar10.2.1) (g := (mkF m 23 #[.val (.ref b), .val (.int (1 : Int32)), .val (.ref b2)] [(.ref b), (.int (0 : Int32)), (.ref b2), (.int (0 : Int32)), (.ref b)])) rfl rfl (hb hby d8_23) _ (by rw [len_of Sz10 Nz10]; exact kq_)) ?_
    refine own_G.step (g' := (mkF m 25 #[.val (.ref b), .val (.int (1 : Int32)), .val (.ref b2)] [(.int (1 : Int32)), (.int (0 : Int32)), (.int (0 : Int32)), (.ref b2), (.int (0 : Int32)), (.ref b)])) (fun tq_ kq_ => XS.iloadN X2.here hx rfl (hb hby d8_24) rfl kq_) ?_
    obtain ⟨_, _, ⟨T11, L11, k11, n11⟩, -, X11, ⟨Lc11, hQ11, l11, y11, z11⟩, st11⟩ := Jvm.LawKit.callS X2 hx (y := (⟨"java/lang/Math", "min", "(II)I"⟩ : MethodName)) hown (mvT hZ (hw _ (List.mem_of_getElem? (i := 49) rfl))) (mvT hZ (hw _ (List.mem_of_getElem? (i := 50) rfl))) (mvT hZ (hw _ (List.mem_of_getElem? (i := 51) rfl))) (mvT hZ (hw _ (List.mem_of_getElem? (i := 52) rfl))) (by decide) (backOf (W := 4) (rm_min l Z a0 hw [] (0 : Int32) (1 : Int32) h2 n0 O7 ) hZ (hw _ (List.mem_of_getElem? (i := 52) rfl)) (hw _ (List.mem_of_getElem? (i := 51) rfl)) (by decide) (by decide)) (g := (mkF m 25 #[.val (.ref b), .val (.int (1 : Int32)), .val (.ref b2)] [(.int (1 : Int32)), (.int (0 : Int32)), (.int (0 : Int32)), (.ref b2), (.int (0 : Int32)), (.ref b)])) rfl (by rw [hml]; rfl) (argsL := [(.int (0 : Int32)), (.int (1 : Int32))]) (rest := [(.int (0 : Int32)), (.ref b2), (.int (0 : Int32)), (.ref b)]) (lenOf pd__28II_29I rfl) rfl (by show 2 * 0 + _ ≤ _; exact Nat.le_of_eq rfl) (hb hby d8_25) (fun _ _ => ⟨rfl, e2, (by decide : 1 + 0 ≤ _), (by decide : 1 + 0 ≤ _)⟩)
    dsimp only [Pt.U, Pt.locs, Pt.cells, Pt.slots] at X11 l11 y11 z11 st11 hQ11
    subst l11 y11 z11
    obtain ⟨rfl, Nq11, P12⟩ := hQ11
    have N11 := Fr.app N0 Nq11
    refine own_G.step (T' := T11) (g' := (mkF m 28 #[.val (.ref b), .val (.int (1 : Int32)), .val (.ref b2)] [(.int (own_min (0 : Int32) (1 : Int32))), (.int (0 : Int32)), (.ref b2), (.int (0 : Int32)), (.ref b)])) (fun tq_ kq_ => st11 _ kq_) ?_
    have hmn : own_min (0 : Int32) (1 : Int32) = (0 : Int32) := by decide
    refine own_G.cast (g' := (mkF m 28 #[.val (.ref b), .val (.int (1 : Int32)), .val (.ref b2)] [(.int (0 : Int32)), (.int (0 : Int32)), (.ref b2), (.int (0 : Int32)), (.ref b)])) (by rw [hmn]) ?_
    obtain ⟨T13, h13, L13, X13, e13, N13, K13, A13, st13⟩ := cpA X11 hx hZ hown (hw _ (List.mem_of_getElem? (i := 53) rfl)) (hw _ (List.mem_of_getElem? (i := 56) rfl)) (hw _ (List.mem_of_getElem? (i := 54) rfl)) (hw _ (List.mem_of_getElem? (i := 55) rfl)) P12 F6 F9 (Or.inl ⟨rfl, rfl⟩) (by decide) (by decide) (by decide) (by decide) (by decide) rfl (by decide) N11 g4 (g := (mkF m 28 #[.val (.ref b), .val (.int (1 : Int32)), .val (.ref b2)] [(.int (0 : Int32)), (.int (0 : Int32)), (.ref b2), (.int (0 : Int32)), (.ref b)])) rfl (by rw [hml]; rfl) rfl (hb hby d8_28) (by decide) (W := 0) (by show 2 * 0 + _ ≤ _; exact Nat.le_of_eq rfl) (by decide)
    have F14 := F6.keep K13 (ninS ne3 nin0)
    have O15 := O7.keep K13 (allS g4 all0)
    have K16 := K8.trans K13 (allS (Or.inr z5) all0)
    have Ln13 := own_Len.arv A13
    refine own_G.step (T' := T13) (g' := (mkF m 31 #[.val (.ref b), .val (.int (1 : Int32)), .val (.ref b2)] [])) st13 ?_
    refine own_G.step (g' := (mkF m 32 #[.val (.ref b), .val (.int (1 : Int32)), .val (.ref b2)] [(.ref b2)])) (fun tq_ kq_ => XS.aloadN X13.here hx rfl (hb hby d8_31) rfl rfl kq_) ?_
    exact own_ret X13 e13 (v := some (.ref b2)) (fun h => by rw [Bd.returns] at h; cases h) Bd.notSynchronized ⟨b2, rfl, N13, K16, z5, Ln13⟩ (by decide) (by decide) (fun fs hr => own_retR X13 hx Bd.returns rfl rfl (hb hby d8_32) hr)
  · have hq1 : m1 = (2 : Int32) := hm.trans (by decide)
    subst hq1
    refine own_G.step (g' := (mkF m 1 #[.val (.ref b), .val (.int (2 : Int32)), .unset] [(.int (2 : Int32))])) (fun tq_ kq_ => XS.iloadN X0.here hx rfl (hb hby d8_0) rfl kq_) ?_
    refine own_G.step (g' := (mkF m 2 #[.val (.ref b), .val (.int (2 : Int32)), .unset] [(.ref b), (.int (2 : Int32))])) (fun tq_ kq_ => XS.aloadN X0.here hx rfl (hb hby d8_1) rfl rfl kq_) ?_
    obtain ⟨cl17, Ar17, -, Sz17, Nz17, -, -⟩ := id AB
    refine own_G.step (g' := (mkF m 3 #[.val (.ref b), .val (.int (2 : Int32)), .unset] [(.int (1 : Int32)), (.int (2 : Int32))])) (fun tq_ kq_ => X0.arraylength hx (by rw [e0]; exact Ar17.1) (State.isArrayOf_alike hZ.alike Ar17.2.1) (g := (mkF m 2 #[.val (.ref b), .val (.int (2 : Int32)), .unset] [(.ref b), (.int (2 : Int32))])) rfl rfl (hb hby d8_2) _ (by rw [len_of Sz17 Nz17]; exact kq_)) ?_
    have hc3 : ¬ ((2 : Int32) = (1 : Int32)) := (by decide)
    refine own_G.step (g' := (mkF m 14 #[.val (.ref b), .val (.int (2 : Int32)), .unset] [])) (fun tq_ kq_ => XS.icmpYes X0.here hx rfl (pc0 := 3) (pc' := 14) rfl (hb hby d8_3) rfl (feq hc3).2 (by decide) (by decide) kq_) ?_
    refine own_G.step (g' := (mkF m 15 #[.val (.ref b), .val (.int (2 : Int32)), .unset] [(.int (2 : Int32))])) (fun tq_ kq_ => XS.iloadN X0.here hx rfl (hb hby d8_14) rfl kq_) ?_
    obtain ⟨T18, h18, k18, X18, e18, E18, A18, st18⟩ := newP X0 hx hZ (hw _ (List.mem_of_getElem? (i := 4) rfl)) e0 (g := (mkF m 15 #[.val (.ref b), .val (.int (2 : Int32)), .unset] [(.int (2 : Int32))])) rfl (hb hby d8_15) rfl (by decide) (cap := 2) (by decide) (by decide) (by decide) (by decide)
    obtain ⟨b18, g18⟩ : ∃ z, z = h0.size := ⟨_, rfl⟩
    rw [← g18] at A18 st18
    have ne19 : b ≠ b18 := Nat.ne_of_lt (Nat.lt_of_lt_of_le AB.lt (Nat.le_of_eq g18.symm))
    have g20 : n0 ≤ b18 := Nat.le_trans O0.le (Nat.le_of_eq g18.symm)
    have z21 : h0.size ≤ b18 := Nat.le_trans K0.1 (Nat.le_of_eq g18.symm)
    have F22 := AB.ext E18
    have O23 := O0.ext E18
    have K24 := K0.ext E18
    have F25 : Arv Z h18 b18 k18 .byte (2 : Int32) [(.int (0 : Int32)), (.int (0 : Int32))] (.int (0 : Int32)) := (Arv.new A18 (by decide)).pad (pad_rep [] (.int (0 : Int32)) 2)
    refine own_G.step (T' := T18) (g' := (mkF m 17 #[.val (.ref b), .val (.int (2 : Int32)), .unset] [(.ref b18)])) st18 ?_
    refine own_G.step (g' := (mkF m 18 #[.val (.ref b), .val (.int (2 : Int32)), .val (.ref b18)] [])) (fun tq_ kq_ => XS.astoreN X18.here hx rfl (hb hby d8_17) rfl rfl (l' := #[.val (.ref b), .val (.int (2 : Int32)), .val (.ref b18)]) rfl kq_) ?_
    refine own_G.step (g' := (mkF m 19 #[.val (.ref b), .val (.int (2 : Int32)), .val (.ref b18)] [(.ref b)])) (fun tq_ kq_ => XS.aloadN X18.here hx rfl (hb hby d8_18) rfl rfl kq_) ?_
    refine own_G.step (g' := (mkF m 20 #[.val (.ref b), .val (.int (2 : Int32)), .val (.ref b18)] [(.int (0 : Int32)), (.ref b)])) (fun tq_ kq_ => XS.iconst X18.here hx rfl (hb hby d8_19) kq_) ?_
    refine own_G.step (g' := (mkF m 21 #[.val (.ref b), .val (.int (2 : Int32)), .val (.ref b18)] [(.ref b18), (.int (0 : Int32)), (.ref b)])) (fun tq_ kq_ => XS.aloadN X18.here hx rfl (hb hby d8_20) rfl rfl kq_) ?_
    refine own_G.step (g' := (mkF m 22 #[.val (.ref b), .val (.int (2 : Int32)), .val (.ref b18)] [(.int (0 : Int32)), (.ref b18), (.int (0 : Int32)), (.ref b)])) (fun tq_ kq_ => XS.iconst X18.here hx rfl (hb hby d8_21) kq_) ?_
    refine own_G.step (g' := (mkF m 23 #[.val (.ref b), .val (.int (2 : Int32)), .val (.ref b18)] [(.ref b), (.int (0 : Int32)), (.ref b18), (.int (0 : Int32)), (.ref b)])) (fun tq_ kq_ => XS.aloadN X18.here hx rfl (hb hby d8_22) rfl rfl kq_) ?_
    obtain ⟨cl26, Ar26, -, Sz26, Nz26, -, -⟩ := id F22
    refine own_G.step (g' := (mkF m 24 #[.val (.ref b), .val (.int (2 : Int32)), .val (.ref b18)] [(.int (1 : Int32)), (.int (0 : Int32)), (.ref b18), (.int (0 : Int32)), (.ref b)])) (fun tq_ kq_ => X18.arraylength hx (by rw [e18]; exact Ar26.1) (State.isArrayOf_alike hZ.alike Ar26.2.1) (g := (mkF m 23 #[.val (.ref b), .val (.int (2 : Int32)), .val (.ref b18)] [(.ref b), (.int (0 : Int32)), (.ref b18), (.int (0 : Int32)), (.ref b)])) rfl rfl (hb hby d8_23) _ (by rw [len_of Sz26 Nz26]; exact kq_)) ?_
    refine own_G.step (g' := (mkF m 25 #[.val (.ref b), .val (.int (2 : Int32)), .val (.ref b18)] [(.int (2 : Int32)), (.int (1 : Int32)), (.int (0 : Int32)), (.ref b18), (.int (0 : Int32)), (.ref b)])) (fun tq_ kq_ => XS.iloadN X18.here hx rfl (hb hby d8_24) rfl kq_) ?_
    obtain ⟨_, _, ⟨T27, L27, k27, n27⟩, -, X27, ⟨Lc27, hQ27, l27, y27, z27⟩, st27⟩ := Jvm.LawKit.callS X18 hx (y := (⟨"java/lang/Math", "min", "(II)I"⟩ : MethodName)) hown (mvT hZ (hw _ (List.mem_of_getElem? (i := 49) rfl))) (mvT hZ (hw _ (List.mem_of_getElem? (i := 50) rfl))) (mvT hZ (hw _ (List.mem_of_getElem? (i := 51) rfl))) (mvT hZ (hw _ (List.mem_of_getElem? (i := 52) rfl))) (by decide) (backOf (W := 4) (rm_min l Z a0 hw [] (1 : Int32) (2 : Int32) h18 n0 O23 ) hZ (hw _ (List.mem_of_getElem? (i := 52) rfl)) (hw _ (List.mem_of_getElem? (i := 51) rfl)) (by decide) (by decide)) (g := (mkF m 25 #[.val (.ref b), .val (.int (2 : Int32)), .val (.ref b18)] [(.int (2 : Int32)), (.int (1 : Int32)), (.int (0 : Int32)), (.ref b18), (.int (0 : Int32)), (.ref b)])) rfl (by rw [hml]; rfl) (argsL := [(.int (1 : Int32)), (.int (2 : Int32))]) (rest := [(.int (0 : Int32)), (.ref b18), (.int (0 : Int32)), (.ref b)]) (lenOf pd__28II_29I rfl) rfl (by show 2 * 0 + _ ≤ _; exact Nat.le_of_eq rfl) (hb hby d8_25) (fun _ _ => ⟨rfl, e18, (by decide : 1 + 0 ≤ _), (by decide : 2 + 0 ≤ _)⟩)
    dsimp only [Pt.U, Pt.locs, Pt.cells, Pt.slots] at X27 l27 y27 z27 st27 hQ27
    subst l27 y27 z27
    obtain ⟨rfl, Nq27, P28⟩ := hQ27
    have N27 := Fr.app N0 Nq27
    refine own_G.step (T' := T27) (g' := (mkF m 28 #[.val (.ref b), .val (.int (2 : Int32)), .val (.ref b18)] [(.int (own_min (1 : Int32) (2 : Int32))), (.int (0 : Int32)), (.ref b18), (.int (0 : Int32)), (.ref b)])) (fun tq_ kq_ => st27 _ kq_) ?_
    have hmn : own_min (1 : Int32) (2 : Int32) = (1 : Int32) := by decide
    refine own_G.cast (g' := (mkF m 28 #[.val (.ref b), .val (.int (2 : Int32)), .val (.ref b18)] [(.int (1 : Int32)), (.int (0 : Int32)), (.ref b18), (.int (0 : Int32)), (.ref b)])) (by rw [hmn]) ?_
    obtain ⟨T29, h29, L29, X29, e29, N29, K29, A29, st29⟩ := cpA X27 hx hZ hown (hw _ (List.mem_of_getElem? (i := 53) rfl)) (hw _ (List.mem_of_getElem? (i := 56) rfl)) (hw _ (List.mem_of_getElem? (i := 54) rfl)) (hw _ (List.mem_of_getElem? (i := 55) rfl)) P28 F22 F25 (Or.inl ⟨rfl, rfl⟩) (by decide) (by decide) (by decide) (by decide) (by decide) rfl (by decide) N27 g20 (g := (mkF m 28 #[.val (.ref b), .val (.int (2 : Int32)), .val (.ref b18)] [(.int (1 : Int32)), (.int (0 : Int32)), (.ref b18), (.int (0 : Int32)), (.ref b)])) rfl (by rw [hml]; rfl) rfl (hb hby d8_28) (by decide) (W := 0) (by show 2 * 0 + _ ≤ _; exact Nat.le_of_eq rfl) (by decide)
    have F30 := F22.keep K29 (ninS ne19 nin0)
    have O31 := O23.keep K29 (allS g20 all0)
    have K32 := K24.trans K29 (allS (Or.inr z21) all0)
    have Ln29 := own_Len.arv A29
    refine own_G.step (T' := T29) (g' := (mkF m 31 #[.val (.ref b), .val (.int (2 : Int32)), .val (.ref b18)] [])) st29 ?_
    refine own_G.step (g' := (mkF m 32 #[.val (.ref b), .val (.int (2 : Int32)), .val (.ref b18)] [(.ref b18)])) (fun tq_ kq_ => XS.aloadN X29.here hx rfl (hb hby d8_31) rfl rfl kq_) ?_
    exact own_ret X29 e29 (v := some (.ref b18)) (fun h => by rw [Bd.returns] at h; cases h) Bd.notSynchronized ⟨b18, rfl, N29, K32, z21, Ln29⟩ (by decide) (by decide) (fun fs hr => own_retR X29 hx Bd.returns rfl rfl (hb hby d8_32) hr)
  · have hq1 : m1 = (3 : Int32) := hm.trans (by decide)
    subst hq1
    refine own_G.step (g' := (mkF m 1 #[.val (.ref b), .val (.int (3 : Int32)), .unset] [(.int (3 : Int32))])) (fun tq_ kq_ => XS.iloadN X0.here hx rfl (hb hby d8_0) rfl kq_) ?_
    refine own_G.step (g' := (mkF m 2 #[.val (.ref b), .val (.int (3 : Int32)), .unset] [(.ref b), (.int (3 : Int32))])) (fun tq_ kq_ => XS.aloadN X0.here hx rfl (hb hby d8_1) rfl rfl kq_) ?_
    obtain ⟨cl33, Ar33, -, Sz33, Nz33, -, -⟩ := id AB
    refine own_G.step (g' := (mkF m 3 #[.val (.ref b), .val (.int (3 : Int32)), .unset] [(.int (2 : Int32)), (.int (3 : Int32))])) (fun tq_ kq_ => X0.arraylength hx (by rw [e0]; exact Ar33.1) (State.isArrayOf_alike hZ.alike Ar33.2.1) (g := (mkF m 2 #[.val (.ref b), .val (.int (3 : Int32)), .unset] [(.ref b), (.int (3 : Int32))])) rfl rfl (hb hby d8_2) _ (by rw [len_of Sz33 Nz33]; exact kq_)) ?_
    have hc3 : ¬ ((3 : Int32) = (2 : Int32)) := (by decide)
    refine own_G.step (g' := (mkF m 14 #[.val (.ref b), .val (.int (3 : Int32)), .unset] [])) (fun tq_ kq_ => XS.icmpYes X0.here hx rfl (pc0 := 3) (pc' := 14) rfl (hb hby d8_3) rfl (feq hc3).2 (by decide) (by decide) kq_) ?_
    refine own_G.step (g' := (mkF m 15 #[.val (.ref b), .val (.int (3 : Int32)), .unset] [(.int (3 : Int32))])) (fun tq_ kq_ => XS.iloadN X0.here hx rfl (hb hby d8_14) rfl kq_) ?_
    obtain ⟨T34, h34, k34, X34, e34, E34, A34, st34⟩ := newP X0 hx hZ (hw _ (List.mem_of_getElem? (i := 4) rfl)) e0 (g := (mkF m 15 #[.val (.ref b), .val (.int (3 : Int32)), .unset] [(.int (3 : Int32))])) rfl (hb hby d8_15) rfl (by decide) (cap := 3) (by decide) (by decide) (by decide) (by decide)
    obtain ⟨b34, g34⟩ : ∃ z, z = h0.size := ⟨_, rfl⟩
    rw [← g34] at A34 st34
    have ne35 : b ≠ b34 := Nat.ne_of_lt (Nat.lt_of_lt_of_le AB.lt (Nat.le_of_eq g34.symm))
    have g36 : n0 ≤ b34 := Nat.le_trans O0.le (Nat.le_of_eq g34.symm)
    have z37 : h0.size ≤ b34 := Nat.le_trans K0.1 (Nat.le_of_eq g34.symm)
    have F38 := AB.ext E34
    have O39 := O0.ext E34
    have K40 := K0.ext E34
    have F41 : Arv Z h34 b34 k34 .byte (3 : Int32) [(.int (0 : Int32)), (.int (0 : Int32)), (.int (0 : Int32))] (.int (0 : Int32)) := (Arv.new A34 (by decide)).pad (pad_rep [] (.int (0 : Int32)) 3)
    refine own_G.step (T' := T34) (g' := (mkF m 17 #[.val (.ref b), .val (.int (3 : Int32)), .unset] [(.ref b34)])) st34 ?_
    refine own_G.step (g' := (mkF m 18 #[.val (.ref b), .val (.int (3 : Int32)), .val (.ref b34)] [])) (fun tq_ kq_ => XS.astoreN X34.here hx rfl (hb hby d8_17) rfl rfl (l' := #[.val (.ref b), .val (.int (3 : Int32)), .val (.ref b34)]) rfl kq_) ?_
    refine own_G.step (g' := (mkF m 19 #[.val (.ref b), .val (.int (3 : Int32)), .val (.ref b34)] [(.ref b)])) (fun tq_ kq_ => XS.aloadN X34.here hx rfl (hb hby d8_18) rfl rfl kq_) ?_
    refine own_G.step (g' := (mkF m 20 #[.val (.ref b), .val (.int (3 : Int32)), .val (.ref b34)] [(.int (0 : Int32)), (.ref b)])) (fun tq_ kq_ => XS.iconst X34.here hx rfl (hb hby d8_19) kq_) ?_
    refine own_G.step (g' := (mkF m 21 #[.val (.ref b), .val (.int (3 : Int32)), .val (.ref b34)] [(.ref b34), (.int (0 : Int32)), (.ref b)])) (fun tq_ kq_ => XS.aloadN X34.here hx rfl (hb hby d8_20) rfl rfl kq_) ?_
    refine own_G.step (g' := (mkF m 22 #[.val (.ref b), .val (.int (3 : Int32)), .val (.ref b34)] [(.int (0 : Int32)), (.ref b34), (.int (0 : Int32)), (.ref b)])) (fun tq_ kq_ => XS.iconst X34.here hx rfl (hb hby d8_21) kq_) ?_
    refine own_G.step (g' := (mkF m 23 #[.val (.ref b), .val (.int (3 : Int32)), .val (.ref b34)] [(.ref b), (.int (0 : Int32)), (.ref b34), (.int (0 : Int32)), (.ref b)])) (fun tq_ kq_ => XS.aloadN X34.here hx rfl (hb hby d8_22) rfl rfl kq_) ?_
    obtain ⟨cl42, Ar42, -, Sz42, Nz42, -, -⟩ := id F38
    refine own_G.step (g' := (mkF m 24 #[.val (.ref b), .val (.int (3 : Int32)), .val (.ref b34)] [(.int (2 : Int32)), (.int (0 : Int32)), (.ref b34), (.int (0 : Int32)), (.ref b)])) (fun tq_ kq_ => X34.arraylength hx (by rw [e34]; exact Ar42.1) (State.isArrayOf_alike hZ.alike Ar42.2.1) (g := (mkF m 23 #[.val (.ref b), .val (.int (3 : Int32)), .val (.ref b34)] [(.ref b), (.int (0 : Int32)), (.ref b34), (.int (0 : Int32)), (.ref b)])) rfl rfl (hb hby d8_23) _ (by rw [len_of Sz42 Nz42]; exact kq_)) ?_
    refine own_G.step (g' := (mkF m 25 #[.val (.ref b), .val (.int (3 : Int32)), .val (.ref b34)] [(.int (3 : Int32)), (.int (2 : Int32)), (.int (0 : Int32)), (.ref b34), (.int (0 : Int32)), (.ref b)])) (fun tq_ kq_ => XS.iloadN X34.here hx rfl (hb hby d8_24) rfl kq_) ?_
    obtain ⟨_, _, ⟨T43, L43, k43, n43⟩, -, X43, ⟨Lc43, hQ43, l43, y43, z43⟩, st43⟩ := Jvm.LawKit.callS X34 hx (y := (⟨"java/lang/Math", "min", "(II)I"⟩ : MethodName)) hown (mvT hZ (hw _ (List.mem_of_getElem? (i := 49) rfl))) (mvT hZ (hw _ (List.mem_of_getElem? (i := 50) rfl))) (mvT hZ (hw _ (List.mem_of_getElem? (i := 51) rfl))) (mvT hZ (hw _ (List.mem_of_getElem? (i := 52) rfl))) (by decide) (backOf (W := 4) (rm_min l Z a0 hw [] (2 : Int32) (3 : Int32) h34 n0 O39 ) hZ (hw _ (List.mem_of_getElem? (i := 52) rfl)) (hw _ (List.mem_of_getElem? (i := 51) rfl)) (by decide) (by decide)) (g := (mkF m 25 #[.val (.ref b), .val (.int (3 : Int32)), .val (.ref b34)] [(.int (3 : Int32)), (.int (2 : Int32)), (.int (0 : Int32)), (.ref b34), (.int (0 : Int32)), (.ref b)])) rfl (by rw [hml]; rfl) (argsL := [(.int (2 : Int32)), (.int (3 : Int32))]) (rest := [(.int (0 : Int32)), (.ref b34), (.int (0 : Int32)), (.ref b)]) (lenOf pd__28II_29I rfl) rfl (by show 2 * 0 + _ ≤ _; exact Nat.le_of_eq rfl) (hb hby d8_25) (fun _ _ => ⟨rfl, e34, (by decide : 1 + 0 ≤ _), (by decide : 3 + 0 ≤ _)⟩)
    dsimp only [Pt.U, Pt.locs, Pt.cells, Pt.slots] at X43 l43 y43 z43 st43 hQ43
    subst l43 y43 z43
    obtain ⟨rfl, Nq43, P44⟩ := hQ43
    have N43 := Fr.app N0 Nq43
    refine own_G.step (T' := T43) (g' := (mkF m 28 #[.val (.ref b), .val (.int (3 : Int32)), .val (.ref b34)] [(.int (own_min (2 : Int32) (3 : Int32))), (.int (0 : Int32)), (.ref b34), (.int (0 : Int32)), (.ref b)])) (fun tq_ kq_ => st43 _ kq_) ?_
    have hmn : own_min (2 : Int32) (3 : Int32) = (2 : Int32) := by decide
    refine own_G.cast (g' := (mkF m 28 #[.val (.ref b), .val (.int (3 : Int32)), .val (.ref b34)] [(.int (2 : Int32)), (.int (0 : Int32)), (.ref b34), (.int (0 : Int32)), (.ref b)])) (by rw [hmn]) ?_
    obtain ⟨T45, h45, L45, X45, e45, N45, K45, A45, st45⟩ := cpA X43 hx hZ hown (hw _ (List.mem_of_getElem? (i := 53) rfl)) (hw _ (List.mem_of_getElem? (i := 56) rfl)) (hw _ (List.mem_of_getElem? (i := 54) rfl)) (hw _ (List.mem_of_getElem? (i := 55) rfl)) P44 F38 F41 (Or.inl ⟨rfl, rfl⟩) (by decide) (by decide) (by decide) (by decide) (by decide) rfl (by decide) N43 g36 (g := (mkF m 28 #[.val (.ref b), .val (.int (3 : Int32)), .val (.ref b34)] [(.int (2 : Int32)), (.int (0 : Int32)), (.ref b34), (.int (0 : Int32)), (.ref b)])) rfl (by rw [hml]; rfl) rfl (hb hby d8_28) (by decide) (W := 0) (by show 2 * 0 + _ ≤ _; exact Nat.le_of_eq rfl) (by decide)
    have F46 := F38.keep K45 (ninS ne35 nin0)
    have O47 := O39.keep K45 (allS g36 all0)
    have K48 := K40.trans K45 (allS (Or.inr z37) all0)
    have Ln45 := own_Len.arv A45
    refine own_G.step (T' := T45) (g' := (mkF m 31 #[.val (.ref b), .val (.int (3 : Int32)), .val (.ref b34)] [])) st45 ?_
    refine own_G.step (g' := (mkF m 32 #[.val (.ref b), .val (.int (3 : Int32)), .val (.ref b34)] [(.ref b34)])) (fun tq_ kq_ => XS.aloadN X45.here hx rfl (hb hby d8_31) rfl rfl kq_) ?_
    exact own_ret X45 e45 (v := some (.ref b34)) (fun h => by rw [Bd.returns] at h; cases h) Bd.notSynchronized ⟨b34, rfl, N45, K48, z37, Ln45⟩ (by decide) (by decide) (fun fs hr => own_retR X45 hx Bd.returns rfl rfl (hb hby d8_32) hr)
  · have hq1 : m1 = (4 : Int32) := hm.trans (by decide)
    subst hq1
    refine own_G.step (g' := (mkF m 1 #[.val (.ref b), .val (.int (4 : Int32)), .unset] [(.int (4 : Int32))])) (fun tq_ kq_ => XS.iloadN X0.here hx rfl (hb hby d8_0) rfl kq_) ?_
    refine own_G.step (g' := (mkF m 2 #[.val (.ref b), .val (.int (4 : Int32)), .unset] [(.ref b), (.int (4 : Int32))])) (fun tq_ kq_ => XS.aloadN X0.here hx rfl (hb hby d8_1) rfl rfl kq_) ?_
    obtain ⟨cl49, Ar49, -, Sz49, Nz49, -, -⟩ := id AB
    refine own_G.step (g' := (mkF m 3 #[.val (.ref b), .val (.int (4 : Int32)), .unset] [(.int (3 : Int32)), (.int (4 : Int32))])) (fun tq_ kq_ => X0.arraylength hx (by rw [e0]; exact Ar49.1) (State.isArrayOf_alike hZ.alike Ar49.2.1) (g := (mkF m 2 #[.val (.ref b), .val (.int (4 : Int32)), .unset] [(.ref b), (.int (4 : Int32))])) rfl rfl (hb hby d8_2) _ (by rw [len_of Sz49 Nz49]; exact kq_)) ?_
    have hc3 : ¬ ((4 : Int32) = (3 : Int32)) := (by decide)
    refine own_G.step (g' := (mkF m 14 #[.val (.ref b), .val (.int (4 : Int32)), .unset] [])) (fun tq_ kq_ => XS.icmpYes X0.here hx rfl (pc0 := 3) (pc' := 14) rfl (hb hby d8_3) rfl (feq hc3).2 (by decide) (by decide) kq_) ?_
    refine own_G.step (g' := (mkF m 15 #[.val (.ref b), .val (.int (4 : Int32)), .unset] [(.int (4 : Int32))])) (fun tq_ kq_ => XS.iloadN X0.here hx rfl (hb hby d8_14) rfl kq_) ?_
    obtain ⟨T50, h50, k50, X50, e50, E50, A50, st50⟩ := newP X0 hx hZ (hw _ (List.mem_of_getElem? (i := 4) rfl)) e0 (g := (mkF m 15 #[.val (.ref b), .val (.int (4 : Int32)), .unset] [(.int (4 : Int32))])) rfl (hb hby d8_15) rfl (by decide) (cap := 4) (by decide) (by decide) (by decide) (by decide)
    obtain ⟨b50, g50⟩ : ∃ z, z = h0.size := ⟨_, rfl⟩
    rw [← g50] at A50 st50
    have ne51 : b ≠ b50 := Nat.ne_of_lt (Nat.lt_of_lt_of_le AB.lt (Nat.le_of_eq g50.symm))
    have g52 : n0 ≤ b50 := Nat.le_trans O0.le (Nat.le_of_eq g50.symm)
    have z53 : h0.size ≤ b50 := Nat.le_trans K0.1 (Nat.le_of_eq g50.symm)
    have F54 := AB.ext E50
    have O55 := O0.ext E50
    have K56 := K0.ext E50
    have F57 : Arv Z h50 b50 k50 .byte (4 : Int32) [(.int (0 : Int32)), (.int (0 : Int32)), (.int (0 : Int32)), (.int (0 : Int32))] (.int (0 : Int32)) := (Arv.new A50 (by decide)).pad (pad_rep [] (.int (0 : Int32)) 4)
    refine own_G.step (T' := T50) (g' := (mkF m 17 #[.val (.ref b), .val (.int (4 : Int32)), .unset] [(.ref b50)])) st50 ?_
    refine own_G.step (g' := (mkF m 18 #[.val (.ref b), .val (.int (4 : Int32)), .val (.ref b50)] [])) (fun tq_ kq_ => XS.astoreN X50.here hx rfl (hb hby d8_17) rfl rfl (l' := #[.val (.ref b), .val (.int (4 : Int32)), .val (.ref b50)]) rfl kq_) ?_
    refine own_G.step (g' := (mkF m 19 #[.val (.ref b), .val (.int (4 : Int32)), .val (.ref b50)] [(.ref b)])) (fun tq_ kq_ => XS.aloadN X50.here hx rfl (hb hby d8_18) rfl rfl kq_) ?_
    refine own_G.step (g' := (mkF m 20 #[.val (.ref b), .val (.int (4 : Int32)), .val (.ref b50)] [(.int (0 : Int32)), (.ref b)])) (fun tq_ kq_ => XS.iconst X50.here hx rfl (hb hby d8_19) kq_) ?_
    refine own_G.step (g' := (mkF m 21 #[.val (.ref b), .val (.int (4 : Int32)), .val (.ref b50)] [(.ref b50), (.int (0 : Int32)), (.ref b)])) (fun tq_ kq_ => XS.aloadN X50.here hx rfl (hb hby d8_20) rfl rfl kq_) ?_
    refine own_G.step (g' := (mkF m 22 #[.val (.ref b), .val (.int (4 : Int32)), .val (.ref b50)] [(.int (0 : Int32)), (.ref b50), (.int (0 : Int32)), (.ref b)])) (fun tq_ kq_ => XS.iconst X50.here hx rfl (hb hby d8_21) kq_) ?_
    refine own_G.step (g' := (mkF m 23 #[.val (.ref b), .val (.int (4 : Int32)), .val (.ref b50)] [(.ref b), (.int (0 : Int32)), (.ref b50), (.int (0 : Int32)), (.ref b)])) (fun tq_ kq_ => XS.aloadN X50.here hx rfl (hb hby d8_22) rfl rfl kq_) ?_
    obtain ⟨cl58, Ar58, -, Sz58, Nz58, -, -⟩ := id F54
    refine own_G.step (g' := (mkF m 24 #[.val (.ref b), .val (.int (4 : Int32)), .val (.ref b50)] [(.int (3 : Int32)), (.int (0 : Int32)), (.ref b50), (.int (0 : Int32)), (.ref b)])) (fun tq_ kq_ => X50.arraylength hx (by rw [e50]; exact Ar58.1) (State.isArrayOf_alike hZ.alike Ar58.2.1) (g := (mkF m 23 #[.val (.ref b), .val (.int (4 : Int32)), .val (.ref b50)] [(.ref b), (.int (0 : Int32)), (.ref b50), (.int (0 : Int32)), (.ref b)])) rfl rfl (hb hby d8_23) _ (by rw [len_of Sz58 Nz58]; exact kq_)) ?_
    refine own_G.step (g' := (mkF m 25 #[.val (.ref b), .val (.int (4 : Int32)), .val (.ref b50)] [(.int (4 : Int32)), (.int (3 : Int32)), (.int (0 : Int32)), (.ref b50), (.int (0 : Int32)), (.ref b)])) (fun tq_ kq_ => XS.iloadN X50.here hx rfl (hb hby d8_24) rfl kq_) ?_
    obtain ⟨_, _, ⟨T59, L59, k59, n59⟩, -, X59, ⟨Lc59, hQ59, l59, y59, z59⟩, st59⟩ := Jvm.LawKit.callS X50 hx (y := (⟨"java/lang/Math", "min", "(II)I"⟩ : MethodName)) hown (mvT hZ (hw _ (List.mem_of_getElem? (i := 49) rfl))) (mvT hZ (hw _ (List.mem_of_getElem? (i := 50) rfl))) (mvT hZ (hw _ (List.mem_of_getElem? (i := 51) rfl))) (mvT hZ (hw _ (List.mem_of_getElem? (i := 52) rfl))) (by decide) (backOf (W := 4) (rm_min l Z a0 hw [] (3 : Int32) (4 : Int32) h50 n0 O55 ) hZ (hw _ (List.mem_of_getElem? (i := 52) rfl)) (hw _ (List.mem_of_getElem? (i := 51) rfl)) (by decide) (by decide)) (g := (mkF m 25 #[.val (.ref b), .val (.int (4 : Int32)), .val (.ref b50)] [(.int (4 : Int32)), (.int (3 : Int32)), (.int (0 : Int32)), (.ref b50), (.int (0 : Int32)), (.ref b)])) rfl (by rw [hml]; rfl) (argsL := [(.int (3 : Int32)), (.int (4 : Int32))]) (rest := [(.int (0 : Int32)), (.ref b50), (.int (0 : Int32)), (.ref b)]) (lenOf pd__28II_29I rfl) rfl (by show 2 * 0 + _ ≤ _; exact Nat.le_of_eq rfl) (hb hby d8_25) (fun _ _ => ⟨rfl, e50, (by decide : 1 + 0 ≤ _), (by decide : 4 + 0 ≤ _)⟩)
    dsimp only [Pt.U, Pt.locs, Pt.cells, Pt.slots] at X59 l59 y59 z59 st59 hQ59
    subst l59 y59 z59
    obtain ⟨rfl, Nq59, P60⟩ := hQ59
    have N59 := Fr.app N0 Nq59
    refine own_G.step (T' := T59) (g' := (mkF m 28 #[.val (.ref b), .val (.int (4 : Int32)), .val (.ref b50)] [(.int (own_min (3 : Int32) (4 : Int32))), (.int (0 : Int32)), (.ref b50), (.int (0 : Int32)), (.ref b)])) (fun tq_ kq_ => st59 _ kq_) ?_
    have hmn : own_min (3 : Int32) (4 : Int32) = (3 : Int32) := by decide
    refine own_G.cast (g' := (mkF m 28 #[.val (.ref b), .val (.int (4 : Int32)), .val (.ref b50)] [(.int (3 : Int32)), (.int (0 : Int32)), (.ref b50), (.int (0 : Int32)), (.ref b)])) (by rw [hmn]) ?_
    obtain ⟨T61, h61, L61, X61, e61, N61, K61, A61, st61⟩ := cpA X59 hx hZ hown (hw _ (List.mem_of_getElem? (i := 53) rfl)) (hw _ (List.mem_of_getElem? (i := 56) rfl)) (hw _ (List.mem_of_getElem? (i := 54) rfl)) (hw _ (List.mem_of_getElem? (i := 55) rfl)) P60 F54 F57 (Or.inl ⟨rfl, rfl⟩) (by decide) (by decide) (by decide) (by decide) (by decide) rfl (by decide) N59 g52 (g := (mkF m 28 #[.val (.ref b), .val (.int (4 : Int32)), .val (.ref b50)] [(.int (3 : Int32)), (.int (0 : Int32)), (.ref b50), (.int (0 : Int32)), (.ref b)])) rfl (by rw [hml]; rfl) rfl (hb hby d8_28) (by decide) (W := 0) (by show 2 * 0 + _ ≤ _; exact Nat.le_of_eq rfl) (by decide)
    have F62 := F54.keep K61 (ninS ne51 nin0)
    have O63 := O55.keep K61 (allS g52 all0)
    have K64 := K56.trans K61 (allS (Or.inr z53) all0)
    have Ln61 := own_Len.arv A61
    refine own_G.step (T' := T61) (g' := (mkF m 31 #[.val (.ref b), .val (.int (4 : Int32)), .val (.ref b50)] [])) st61 ?_
    refine own_G.step (g' := (mkF m 32 #[.val (.ref b), .val (.int (4 : Int32)), .val (.ref b50)] [(.ref b50)])) (fun tq_ kq_ => XS.aloadN X61.here hx rfl (hb hby d8_31) rfl rfl kq_) ?_
    exact own_ret X61 e61 (v := some (.ref b50)) (fun h => by rw [Bd.returns] at h; cases h) Bd.notSynchronized ⟨b50, rfl, N61, K64, z53, Ln61⟩ (by decide) (by decide) (fun fs hr => own_retR X61 hx Bd.returns rfl rfl (hb hby d8_32) hr)
theorem pd__28_5bBI_29_5bB : parseMethodDescriptor "([BI)[B" = some ⟨[(.array .byte), .int], some (.array .byte)⟩ := by decide +kernel
theorem pd__28_5bB_5bB_29V : parseMethodDescriptor "([B[B)V" = some ⟨[(.array .byte), (.array .byte)], none⟩ := by decide +kernel
theorem d7_0 : decode prog_13_method_3_code 0 = .ok (.aload_n 0, 1) := by decide +kernel
theorem d7_1 : decode prog_13_method_3_code 1 = .ok (.ldc 28, 2) := by decide +kernel
theorem d7_3 : decode prog_13_method_3_code 3 = .ok (.invokestatic 9, 3) := by decide +kernel
theorem d7_6 : decode prog_13_method_3_code 6 = .ok (.pop, 1) := by decide +kernel
theorem d7_7 : decode prog_13_method_3_code 7 = .ok (.new 18, 3) := by decide +kernel
theorem d7_10 : decode prog_13_method_3_code 10 = .ok (.dup, 1) := by decide +kernel
theorem d7_11 : decode prog_13_method_3_code 11 = .ok (.aload_n 0, 1) := by decide +kernel
theorem d7_12 : decode prog_13_method_3_code 12 = .ok (.aload_n 0, 1) := by decide +kernel
theorem d7_13 : decode prog_13_method_3_code 13 = .ok (.aload_n 0, 1) := by decide +kernel
theorem d7_14 : decode prog_13_method_3_code 14 = .ok (.arraylength, 1) := by decide +kernel
theorem d7_15 : decode prog_13_method_3_code 15 = .ok (.iconst 1, 1) := by decide +kernel
theorem d7_16 : decode prog_13_method_3_code 16 = .ok (.iadd, 1) := by decide +kernel
theorem d7_17 : decode prog_13_method_3_code 17 = .ok (.invokestatic 30, 3) := by decide +kernel
theorem d7_20 : decode prog_13_method_3_code 20 = .ok (.invokespecial 36, 3) := by decide +kernel
theorem d7_23 : decode prog_13_method_3_code 23 = .ok (.areturn, 1) := by decide +kernel
theorem ef_single (m : MethodId) (b : Addr) : entryFrame m #[(.ref b)] 1 = mkF m 0 #[.val (.ref b)] [] := by
  first | (simp [entryFrame, mkF, argsToLocals, Value.category]; done) | rfl
def Q_single (Z : State) (b : Addr) (n : Int32) (kb : ClassId) (vs : List Value) (h0 : Heap) (n0 : Nat) (v : Option Value) (h : Heap) (L : List Loc) : Prop := ∃ (r : Addr), ∃ (c1 : Addr), v = some (.ref r) ∧ Fr n0 L ∧ Keep h0 h [] ∧ Exa Z h r "com/example/evenkey/evenkey/model/RowRange" ∧ Fld Z h r "com/example/evenkey/evenkey/model/RowRange" "stopRow" "[B" (.ref c1) ∧ own_Len Z h c1 (n + (1 : Int32))
set_option maxRecDepth 65536 in
set_option maxHeartbeats 40000000 in
theorem rm_single (l : Launch) (Z : State) (a0 : Array Value) (hw : ∀ d ∈ tables_1, d.before a0 Z = true) (ws : List Jvm.Cond) (b : Addr) (n : Int32) (kb : ClassId) (vs : List Value) (h0 : Heap) (n0 : Nat) (O0 : Old Z n0 h0) (hn : n = (0 : Int32) ∨ n = (1 : Int32) ∨ n = (2 : Int32) ∨ n = (3 : Int32)) (AB : Arv Z h0 b kb .byte n vs (.int 0)) :
    MetFree l (⟨"com/example/evenkey/evenkey/model/RowRange", "single", "([B)Lcom/example/evenkey/evenkey/model/RowRange;"⟩ : MethodName) (head1 (Jvm.Cond.code (⟨"com/example/evenkey/evenkey/model/RowRange", "single", "([B)Lcom/example/evenkey/evenkey/model/RowRange;"⟩ : MethodName) prog_13_method_3_code 1 (some (.object "com/example/evenkey/evenkey/model/RowRange")) :: ws) ({ frames := 3, cells := 8, slots := 90, locals := 47 } : Room)) (fun aq_ Uq_ => aq_ = #[(.ref b)] ∧ Z.Warmed39 Uq_.vm ∧ Uq_.heap = h0) (fun _ _ _ _ _ => True) (fun _ Uq_ oq_ Ur_ => ∃ vq_ Lq_, oq_ = .returned vq_ ∧ Q_single Z b n kb vs h0 n0 vq_ Ur_.heap Lq_ ∧ ReturnedEndW Uq_ oq_ Ur_ Lq_ ({ frames := 3, cells := 8, slots := 90, locals := 47 } : Room).cells ({ frames := 3, cells := 8, slots := 90, locals := 47 } : Room).slots) := by
  refine MetFree.of_bodySF (plainFor_of_name pn_com_2fexample_2fevenkey_2fevenkey_2fmodel_2fRowRange) hisR ?_
  intro p e s m args below meth c s₁ Bd hml0 hP hK
  obtain ⟨rfl, hZ, hh⟩ := hP
  have hx := Bd.exec
  have hby := Bd.bytes
  have hml : c.maxLocals = 1 := hml0
  have hown : s.vm.findClass "com/example/evenkey/evenkey/model/RowRange" = some m.cls := findClass_of_methodNamed Bd.named
  have hnm := (name_of_methodNamed Bd.named Bd.method).1
  have X0 : Stand p l e ({ frames := 3, cells := 8, slots := 90, locals := 47 } : Room) (s.setVm s.vm) m #[(.ref b)] below meth c s₁ [] 0 0 := Stand.of_body Bd
  have e0 : s₁.heap = h0 := by rw [← hh, Bd.state]; rfl
  have N0 := Fr.nil n0
  have K0 := Keep.refl h0 []
  have hS : s.Since s.vm s.heap.size := (State.WarmedH.refl s).since _
  have hkS : s.heap.size ≤ h0.size := by rw [hh]; exact Nat.le_refl _
  have hZ : Z.Warmed39 (s.setVm s.vm).vm := hZ
  have hown : (s.setVm s.vm).vm.findClass "com/example/evenkey/evenkey/model/RowRange" = some m.cls := hown
  have own_wS : ∀ a ∈ Bundle.stringAtoms, a.before a0 Z = true := fun d hd => hw d ((by decide +kernel : ∀ d ∈ Bundle.stringAtoms, d ∈ tables_1) d hd)
  refine own_GW.start (Q := Q_single Z b n kb vs h0 n0) (ef_single m b) ?_
  refine own_GW.step (g' := (mkF m 1 #[.val (.ref b)] [(.ref b)])) (fun tq_ kq_ => XS.aloadN X0.here hx rfl (hb hby d7_0) rfl rfl kq_) ?_
  obtain ⟨a1, T1, h1, k1, X1, e1, E1, hS, hkS, hZ, hown, st1⟩ := ldcS (vm0 := s.vm) X0 hx hZ hown (hw _ (List.mem_of_getElem? (i := 43) rfl)) own_wS e0 hS hkS (g := (mkF m 1 #[.val (.ref b)] [(.ref b)])) rfl (hb hby d7_1) (n := 12) (by decide +kernel) (by decide) (by decide) (by decide)
  have F2 := AB.ext E1
  have O3 := O0.ext E1
  have K4 := K0.ext E1
  refine own_GW.step (T' := T1) (g' := (mkF m 3 #[.val (.ref b)] [(.ref a1), (.ref b)])) st1 ?_
  obtain ⟨_, _, ⟨T5, L5, k5, n5⟩, -, X5, ⟨Lc5, hQ5, l5, y5, z5⟩, st5⟩ := Jvm.LawKit.callS X1 hx (y := (⟨"java/util/Objects", "requireNonNull", "(Ljava/lang/Object;Ljava/lang/String;)Ljava/lang/Object;"⟩ : MethodName)) hown (mvT hZ (hw _ (List.mem_of_getElem? (i := 26) rfl))) (mvT hZ (hw _ (List.mem_of_getElem? (i := 27) rfl))) (mvT hZ (hw _ (List.mem_of_getElem? (i := 28) rfl))) (mvT hZ (hw _ (List.mem_of_getElem? (i := 29) rfl))) (by decide) (backOf (W := 0) (rm_rnn l Z a0 hw [] b a1 h1 n0 O3 ) hZ (hw _ (List.mem_of_getElem? (i := 29) rfl)) (hw _ (List.mem_of_getElem? (i := 28) rfl)) (by decide) (by decide)) (g := (mkF m 3 #[.val (.ref b)] [(.ref a1), (.ref b)])) rfl (by rw [hml]; rfl) (argsL := [(.ref b), (.ref a1)]) (rest := []) (lenOf pd__28Ljava_2flang_2fObject_3bLjava_2flang_2fString_3b_29Ljava_2flang_2fObject_3b rfl) rfl (by show 2 * 0 + _ ≤ _; exact Nat.le_of_eq rfl) (hb hby d7_3) (fun _ _ => ⟨rfl, e1, (by decide : 2 + 0 ≤ _), (by decide : 16 + 0 ≤ _)⟩)
  dsimp only [Pt.U, Pt.locs, Pt.cells, Pt.slots] at X5 l5 y5 z5 st5 hQ5
  subst l5 y5 z5
  obtain ⟨rfl, Nq5, P6⟩ := hQ5
  have N5 := Fr.app N0 Nq5
  refine own_GW.step (T' := T5) (g' := (mkF m 6 #[.val (.ref b)] [(.ref b)])) (fun tq_ kq_ => st5 _ kq_) ?_
  refine own_GW.step (g' := (mkF m 7 #[.val (.ref b)] [])) (fun tq_ kq_ => XS.pop X5.here hx rfl (hb hby d7_6) rfl rfl kq_) ?_
  obtain ⟨T7, h7, X7, e7, E7, A7, D7, -, st7⟩ := newO X5 hx hZ hown (hw _ (List.mem_of_getElem? (i := 44) rfl)) (hw _ (List.mem_of_getElem? (i := 6) rfl)) (hw _ (List.mem_of_getElem? (i := 7) rfl)) P6 (g := (mkF m 7 #[.val (.ref b)] [])) rfl (hb hby d7_7) (by decide) (by decide)
  obtain ⟨b7, g7⟩ : ∃ z, z = h1.size := ⟨_, rfl⟩
  rw [← g7] at A7 D7 st7
  have ne8 : b ≠ b7 := Nat.ne_of_lt (Nat.lt_of_lt_of_le F2.lt (Nat.le_of_eq g7.symm))
  have g9 : n0 ≤ b7 := Nat.le_trans O3.le (Nat.le_of_eq g7.symm)
  have z10 : h0.size ≤ b7 := Nat.le_trans K4.1 (Nat.le_of_eq g7.symm)
  have hkS := Nat.le_trans hkS E7.1
  have F11 := F2.ext E7
  have O12 := O3.ext E7
  have K13 := K4.ext E7
  have F14 : Fld Z h7 b7 "com/example/evenkey/evenkey/model/RowRange" "startRow" "[B" .null := D7 (Or.inr (hw _ (List.mem_of_getElem? (i := 32) rfl))) (ty := (.array .byte)) (by decide)
  have F15 : Fld Z h7 b7 "com/example/evenkey/evenkey/model/RowRange" "stopRow" "[B" .null := D7 (Or.inr (hw _ (List.mem_of_getElem? (i := 34) rfl))) (ty := (.array .byte)) (by decide)
  refine own_GW.step (T' := T7) (g' := (mkF m 10 #[.val (.ref b)] [(.ref b7)])) st7 ?_
  refine own_GW.step (g' := (mkF m 11 #[.val (.ref b)] [(.ref b7), (.ref b7)])) (fun tq_ kq_ => XS.dup X7.here hx rfl (hb hby d7_10) rfl rfl kq_) ?_
  refine own_GW.step (g' := (mkF m 12 #[.val (.ref b)] [(.ref b), (.ref b7), (.ref b7)])) (fun tq_ kq_ => XS.aloadN X7.here hx rfl (hb hby d7_11) rfl rfl kq_) ?_
  refine own_GW.step (g' := (mkF m 13 #[.val (.ref b)] [(.ref b), (.ref b), (.ref b7), (.ref b7)])) (fun tq_ kq_ => XS.aloadN X7.here hx rfl (hb hby d7_12) rfl rfl kq_) ?_
  refine own_GW.step (g' := (mkF m 14 #[.val (.ref b)] [(.ref b), (.ref b), (.ref b), (.ref b7), (.ref b7)])) (fun tq_ kq_ => XS.aloadN X7.here hx rfl (hb hby d7_13) rfl rfl kq_) ?_
  obtain ⟨cl16, Ar16, -, Sz16, Nz16, -, -⟩ := id F11
  refine own_GW.step (g' := (mkF m 15 #[.val (.ref b)] [(.int n), (.ref b), (.ref b), (.ref b7), (.ref b7)])) (fun tq_ kq_ => X7.arraylength hx (by rw [e7]; exact Ar16.1) (State.isArrayOf_alike hZ.alike Ar16.2.1) (g := (mkF m 14 #[.val (.ref b)] [(.ref b), (.ref b), (.ref b), (.ref b7), (.ref b7)])) rfl rfl (hb hby d7_14) _ (by rw [len_of Sz16 Nz16]; exact kq_)) ?_
  refine own_GW.step (g' := (mkF m 16 #[.val (.ref b)] [(.int (1 : Int32)), (.int n), (.ref b), (.ref b), (.ref b7), (.ref b7)])) (fun tq_ kq_ => XS.iconst X7.here hx rfl (hb hby d7_15) kq_) ?_
  refine own_GW.step (g' := (mkF m 17 #[.val (.ref b)] [(.int (n + (1 : Int32))), (.ref b), (.ref b), (.ref b7), (.ref b7)])) (fun tq_ kq_ => XS.iadd X7.here hx rfl (hb hby d7_16) rfl kq_) ?_
  obtain ⟨_, _, ⟨T17, L17, k17, n17⟩, -, X17, ⟨Lc17, hQ17, l17, y17, z17⟩, st17⟩ := Jvm.LawKit.callS X7 hx (y := (⟨"java/util/Arrays", "copyOf", "([BI)[B"⟩ : MethodName)) hown (mvT hZ (hw _ (List.mem_of_getElem? (i := 45) rfl))) (mvT hZ (hw _ (List.mem_of_getElem? (i := 46) rfl))) (mvT hZ (hw _ (List.mem_of_getElem? (i := 47) rfl))) (mvT hZ (hw _ (List.mem_of_getElem? (i := 48) rfl))) (by decide) (backOf (W := 3) (rm_copyOf l Z a0 hw [] b (n + (1 : Int32)) n kb vs h7 n0 O12 hn rfl F11) hZ (hw _ (List.mem_of_getElem? (i := 48) rfl)) (hw _ (List.mem_of_getElem? (i := 47) rfl)) (by decide) (by decide)) (g := (mkF m 17 #[.val (.ref b)] [(.int (n + (1 : Int32))), (.ref b), (.ref b), (.ref b7), (.ref b7)])) rfl (by rw [hml]; rfl) (argsL := [(.ref b), (.int (n + (1 : Int32)))]) (rest := [(.ref b), (.ref b7), (.ref b7)]) (lenOf pd__28_5bBI_29_5bB rfl) rfl (by show 2 * 0 + _ ≤ _; exact Nat.le_of_eq rfl) (hb hby d7_17) (fun _ _ => ⟨rfl, e7, (by decide : 3 + 1 ≤ _), (by decide : 18 + 4 ≤ _)⟩)
  dsimp only [Pt.U, Pt.locs, Pt.cells, Pt.slots] at X17 l17 y17 z17 st17 hQ17
  subst l17 y17 z17
  obtain ⟨b18, rfl, Nq17, P19, P20, P21⟩ := hQ17
  have N17 := Fr.app N5 Nq17
  have ne22 : b ≠ b18 := Nat.ne_of_lt (Nat.lt_of_lt_of_le F11.lt P20)
  have ne23 : b7 ≠ b18 := Nat.ne_of_lt (Nat.lt_of_lt_of_le A7.lt P20)
  have g24 : n0 ≤ b18 := Nat.le_trans O12.le P20
  have z25 : h0.size ≤ b18 := Nat.le_trans K13.1 P20
  have hkS := Nat.le_trans hkS P19.1
  have F26 := F11.keep P19 nin0
  have F27 := A7.keep P19
  have F28 := F14.keep P19 nin0
  have F29 := F15.keep P19 nin0
  have O30 := O12.keep P19 all0
  have K31 := K13.trans P19 all0
  refine own_GW.step (T' := T17) (g' := (mkF m 20 #[.val (.ref b)] [(.ref b18), (.ref b), (.ref b7), (.ref b7)])) (fun tq_ kq_ => st17 _ kq_) ?_
  obtain ⟨_, _, ⟨T32, L32, k32, n32⟩, -, X32, sS32, gS32, ⟨Lc32, hQ32, l32, y32, z32⟩, st32⟩ := X17.specialBackS hx (y := (⟨"com/example/evenkey/evenkey/model/RowRange", "<init>", "([B[B)V"⟩ : MethodName)) rfl hown (mvT hZ (hw _ (List.mem_of_getElem? (i := 57) rfl))) (mvT hZ (hw _ (List.mem_of_getElem? (i := 9) rfl))) (mvT hZ (hw _ (List.mem_of_getElem? (i := 10) rfl))) (by decide) (backOfS (W := 1) (rm_rri l Z a0 hw [] b7 b b18 T17.heap n0 O30 F28 F29 F27 g9) hZ (hw _ (List.mem_of_getElem? (i := 10) rfl)) (hw _ (List.mem_of_getElem? (i := 7) rfl)) (by decide) (by decide)) (g := (mkF m 20 #[.val (.ref b)] [(.ref b18), (.ref b), (.ref b7), (.ref b7)])) rfl (by rw [hml]; rfl) (Steps.refl _) (a := b7) (argsL := [(.ref b), (.ref b18)]) (rest := [(.ref b7)]) (lenOf pd__28_5bB_5bB_29V rfl) rfl (by show 2 * 0 + _ ≤ _; exact Nat.le_of_eq rfl) (hb hby d7_20) (fun _ _ => ⟨rfl, rfl, (by decide : 4 + 4 ≤ _), (by decide : 22 + 68 ≤ _)⟩)
  dsimp only [Pt.U, Pt.locs, Pt.cells, Pt.slots] at X32 l32 y32 z32 st32 hQ32 sS32 gS32
  subst l32 y32 z32
  obtain ⟨X32, hS, hZ, hown⟩ := rebS (vm0 := T1.vm) hS hkS X32 sS32 gS32 hZ hown
  obtain ⟨rfl, Nq32, P33, P34, P35⟩ := hQ32
  have N32 := Fr.app N17 Nq32
  have hkS := Nat.le_trans hkS P33.1
  have F36 := F26.keep P33 (ninS ne8 nin0)
  have F37 := F27.keep P33
  have F38 := P21.keep P33 (ninS (Ne.symm ne23) nin0)
  have O39 := O30.keep P33 (allS g9 all0)
  have K40 := K31.trans P33 (allS (Or.inr z10) all0)
  have hkS : T32.heap.size ≤ T32.heap.size := Nat.le_refl _
  refine own_GW.step (T' := T32) (g' := (mkF m 23 #[.val (.ref b)] [(.ref b7)])) (fun tq_ kq_ => st32.trans kq_) ?_
  exact own_retW X32 hS rfl hkS (v := some (.ref b7)) (fun h => by rw [Bd.returns] at h; cases h) Bd.notSynchronized ⟨b7, b18, rfl, N32, K40, P34, P35, F38⟩ (by decide) (by decide) (fun fs hr => own_retR X32 hx Bd.returns rfl rfl (hb hby d7_23) hr)
theorem d10_0 : decode prog_13_method_2_code 0 = .ok (.getstatic 24, 3) := by decide +kernel
theorem d10_3 : decode prog_13_method_2_code 3 = .ok (.areturn, 1) := by decide +kernel
theorem ef_all (m : MethodId)  : entryFrame m #[] 0 = mkF m 0 #[] [] := by
  first | (simp [entryFrame, mkF, argsToLocals, Value.category]; done) | rfl
def Q_all (Z : State) (al : Addr) (h0 : Heap) (n0 : Nat) (v : Option Value) (h : Heap) (L : List Loc) : Prop := v = some (.ref al) ∧ Fr n0 L ∧ h = h0
set_option maxRecDepth 65536 in
set_option maxHeartbeats 40000000 in
theorem rm_all (l : Launch) (Z : State) (a0 : Array Value) (hw : ∀ d ∈ tables_1, d.before a0 Z = true) (ws : List Jvm.Cond) (al : Addr) (h0 : Heap) (n0 : Nat) (O0 : Old Z n0 h0) (S_ALL : Sta Z Z.heap "com/example/evenkey/evenkey/model/RowRange" "ALL" "Lcom/example/evenkey/evenkey/model/RowRange;" (.ref al)) :
    MetFree l (⟨"com/example/evenkey/evenkey/model/RowRange", "all", "()Lcom/example/evenkey/evenkey/model/RowRange;"⟩ : MethodName) (head1 (Jvm.Cond.code (⟨"com/example/evenkey/evenkey/model/RowRange", "all", "()Lcom/example/evenkey/evenkey/model/RowRange;"⟩ : MethodName) prog_13_method_2_code 0 (some (.object "com/example/evenkey/evenkey/model/RowRange")) :: ws) ({ frames := 0, cells := 0, slots := 0, locals := 0 } : Room)) (fun aq_ Uq_ => aq_ = #[] ∧ Z.Warmed39 Uq_.vm ∧ Uq_.heap = h0) (fun _ _ _ _ _ => True) (fun _ Uq_ oq_ Ur_ => ∃ vq_ Lq_, oq_ = .returned vq_ ∧ Q_all Z al h0 n0 vq_ Ur_.heap Lq_ ∧ FrameEnd Uq_ oq_ Ur_ Lq_ ({ frames := 0, cells := 0, slots := 0, locals := 0 } : Room).cells ({ frames := 0, cells := 0, slots := 0, locals := 0 } : Room).slots) := by
  refine MetFree.of_bodySF (plainFor_of_name pn_com_2fexample_2fevenkey_2fevenkey_2fmodel_2fRowRange) hisR ?_
  intro p e s m args below meth c s₁ Bd hml0 hP hK
  obtain ⟨rfl, hZ, hh⟩ := hP
  have hx := Bd.exec
  have hby := Bd.bytes
  have hml : c.maxLocals = 0 := hml0
  have hown : s.vm.findClass "com/example/evenkey/evenkey/model/RowRange" = some m.cls := findClass_of_methodNamed Bd.named
  have hnm := (name_of_methodNamed Bd.named Bd.method).1
  have X0 : Stand p l e ({ frames := 0, cells := 0, slots := 0, locals := 0 } : Room) s m #[] below meth c s₁ [] 0 0 := Stand.of_body Bd
  have e0 : s₁.heap = h0 := by rw [← hh, Bd.state]; rfl
  have N0 := Fr.nil n0
  have K0 := Keep.refl h0 []
  refine own_G.start (Q := Q_all Z al h0 n0) (ef_all m ) ?_
  obtain ⟨T1, X1, e1, st1⟩ := getS2 X0 hx hZ hown (host := "") (Or.inl (hw _ (List.mem_of_getElem? (i := 61) rfl))) Via.refl e0 (Sta.ext O0.2 S_ALL) (g := (mkF m 0 #[] [])) rfl (hb hby d10_0)
  refine own_G.step (T' := T1) (g' := (mkF m 3 #[] [(.ref al)])) st1 ?_
  exact own_ret X1 e1 (v := some (.ref al)) (fun h => by rw [Bd.returns] at h; cases h) Bd.notSynchronized ⟨rfl, N0, rfl⟩ (by decide) (by decide) (fun fs hr => own_retR X1 hx Bd.returns rfl rfl (hb hby d10_3) hr)
theorem own_pm {m : Int32} (h : m = (0 : Int32) ∨ m = (1 : Int32) ∨ m = (2 : Int32) ∨ m = (3 : Int32)) : (m = (0 : Int32) → own_pos m = 0) ∧ (¬ m = (0 : Int32) → own_pos m = 1) := by
  rcases h with rfl | rfl | rfl | rfl <;> decide
theorem own_p1 {m : Int32} (h : m = (0 : Int32) ∨ m = (1 : Int32) ∨ m = (2 : Int32) ∨ m = (3 : Int32)) : own_pos (m + (1 : Int32)) = 1 := by
  rcases h with rfl | rfl | rfl | rfl <;> decide
theorem pd__28II_29_5bB : parseMethodDescriptor "(II)[B" = some ⟨[.int, .int], some (.array .byte)⟩ := by decide +kernel
theorem pd__28_29Z : parseMethodDescriptor "()Z" = some ⟨[], some .boolean⟩ := by decide +kernel
theorem pd__28_5bB_29Lcom_2fexample_2fevenkey_2fevenkey_2fmodel_2fRowRange_3b : parseMethodDescriptor "([B)Lcom/example/evenkey/evenkey/model/RowRange;" = some ⟨[(.array .byte)], some (.object "com/example/evenkey/evenkey/model/RowRange")⟩ := by decide +kernel
theorem pd__28_29Lcom_2fexample_2fevenkey_2fevenkey_2fmodel_2fRowRange_3b : parseMethodDescriptor "()Lcom/example/evenkey/evenkey/model/RowRange;" = some ⟨[], some (.object "com/example/evenkey/evenkey/model/RowRange")⟩ := by decide +kernel
theorem ef_law (m : MethodId) (i0 : Int32) (i1 : Int32) (i2 : Int32) : entryFrame m #[(.int i0), (.int i1), (.int i2)] maxLocals = mkF m 0 #[.val (.int i0), .val (.int i1), .val (.int i2), .unset, .unset, .unset, .unset, .unset, .unset, .unset] [] := by
  first | (simp [entryFrame, mkF, argsToLocals, Value.category, maxLocals]; done) | rfl
def Q_law (Z : State) (i0 : Int32) (i1 : Int32) (i2 : Int32) (al : Addr) (at_ : Addr) (h0 : Heap) (n0 : Nat) (v : Option Value) (h : Heap) (L : List Loc) : Prop := v = some (.int 1) ∧ Fr n0 L
set_option maxRecDepth 65536 in
set_option maxHeartbeats 40000000 in
theorem rm_law (l : Launch) (Z : State) (a0 : Array Value) (hw : ∀ d ∈ tables_1, d.before a0 Z = true) (ws : List Jvm.Cond) (i0 : Int32) (i1 : Int32) (i2 : Int32) (al : Addr) (at_ : Addr) (h0 : Heap) (n0 : Nat) (O0 : Old Z n0 h0) (S_ALL : Sta Z Z.heap "com/example/evenkey/evenkey/model/RowRange" "ALL" "Lcom/example/evenkey/evenkey/model/RowRange;" (.ref al)) (E_ALL : Exa Z Z.heap al "com/example/evenkey/evenkey/model/RowRange") (F_ALL : Fld Z Z.heap al "com/example/evenkey/evenkey/model/RowRange" "stopRow" "[B" (.ref at_)) (L_ALL : own_Len Z Z.heap at_ (0 : Int32)) :
    MetFree l x (head1 (Jvm.Cond.code x code maxLocals ret :: ws) room_1) (fun aq_ Uq_ => aq_ = #[(.int i0), (.int i1), (.int i2)] ∧ Z.Warmed39 Uq_.vm ∧ Uq_.heap = h0) (fun _ _ _ _ _ => True) (fun _ Uq_ oq_ Ur_ => ∃ vq_ Lq_, oq_ = .returned vq_ ∧ Q_law Z i0 i1 i2 al at_ h0 n0 vq_ Ur_.heap Lq_ ∧ ReturnedEndW Uq_ oq_ Ur_ Lq_ 15 166) := by
  refine MetFree.of_bodySF (plainFor_of_name pn_com_2fexample_2fevenkey_2fevenkey_2fmodel_2fRowRangeHasStopRowPinLaw) hisR ?_
  intro p e s m args below meth c s₁ Bd hml0 hP hK
  obtain ⟨rfl, hZ, hh⟩ := hP
  have hx := Bd.exec
  have hby := Bd.bytes
  have hml : c.maxLocals = 10 := hml0
  have hown : s.vm.findClass "com/example/evenkey/evenkey/model/RowRangeHasStopRowPinLaw" = some m.cls := findClass_of_methodNamed Bd.named
  have hnm := (name_of_methodNamed Bd.named Bd.method).1
  have X0 : Stand p l e room_1 (s.setVm s.vm) m #[(.int i0), (.int i1), (.int i2)] below meth c s₁ [] 0 0 := Stand.of_body Bd
  have e0 : s₁.heap = h0 := by rw [← hh, Bd.state]; rfl
  have N0 := Fr.nil n0
  have K0 := Keep.refl h0 []
  have hS : s.Since s.vm s.heap.size := (State.WarmedH.refl s).since _
  have hkS : s.heap.size ≤ h0.size := by rw [hh]; exact Nat.le_refl _
  have hZ : Z.Warmed39 (s.setVm s.vm).vm := hZ
  have hown : (s.setVm s.vm).vm.findClass "com/example/evenkey/evenkey/model/RowRangeHasStopRowPinLaw" = some m.cls := hown
  refine own_GW.start (Q := Q_law Z i0 i1 i2 al at_ h0 n0) (ef_law m i0 i1 i2) ?_
  refine own_GW.step (g' := (mkF m 1 #[.val (.int i0), .val (.int i1), .val (.int i2), .unset, .unset, .unset, .unset, .unset, .unset, .unset] [(.int i0)])) (fun tq_ kq_ => XS.iloadN X0.here hx rfl (hb hby at_0) rfl kq_) ?_
  refine own_GW.step (g' := (mkF m 2 #[.val (.int i0), .val (.int i1), .val (.int i2), .unset, .unset, .unset, .unset, .unset, .unset, .unset] [(.int (3 : Int32)), (.int i0)])) (fun tq_ kq_ => XS.iconst X0.here hx rfl (hb hby at_1) kq_) ?_
  refine own_GW.step (g' := (mkF m 3 #[.val (.int i0), .val (.int i1), .val (.int i2), .unset, .unset, .unset, .unset, .unset, .unset, .unset] [(.int (i0 &&& (3 : Int32)))])) (fun tq_ kq_ => XS.iand X0.here hx rfl (hb hby at_2) rfl kq_) ?_
  refine own_GW.step (g' := (mkF m 4 #[.val (.int i0), .val (.int i1), .val (.int i2), .val (.int (i0 &&& (3 : Int32))), .unset, .unset, .unset, .unset, .unset, .unset] [])) (fun tq_ kq_ => XS.istoreN X0.here hx rfl (hb hby at_3) rfl (l' := #[.val (.int i0), .val (.int i1), .val (.int i2), .val (.int (i0 &&& (3 : Int32))), .unset, .unset, .unset, .unset, .unset, .unset]) rfl kq_) ?_
  refine own_GW.step (g' := (mkF m 5 #[.val (.int i0), .val (.int i1), .val (.int i2), .val (.int (i0 &&& (3 : Int32))), .unset, .unset, .unset, .unset, .unset, .unset] [(.int i0)])) (fun tq_ kq_ => XS.iloadN X0.here hx rfl (hb hby at_4) rfl kq_) ?_
  refine own_GW.step (g' := (mkF m 6 #[.val (.int i0), .val (.int i1), .val (.int i2), .val (.int (i0 &&& (3 : Int32))), .unset, .unset, .unset, .unset, .unset, .unset] [(.int (2 : Int32)), (.int i0)])) (fun tq_ kq_ => XS.iconst X0.here hx rfl (hb hby at_5) kq_) ?_
  refine own_GW.step (g' := (mkF m 7 #[.val (.int i0), .val (.int i1), .val (.int i2), .val (.int (i0 &&& (3 : Int32))), .unset, .unset, .unset, .unset, .unset, .unset] [(.int ((i0.toUInt32 >>> ((2 : Int32) &&& 31).toUInt32).toInt32))])) (fun tq_ kq_ => XS.iushr X0.here hx rfl (hb hby at_6) rfl kq_) ?_
  refine own_GW.step (g' := (mkF m 8 #[.val (.int i0), .val (.int i1), .val (.int i2), .val (.int (i0 &&& (3 : Int32))), .unset, .unset, .unset, .unset, .unset, .unset] [(.int (3 : Int32)), (.int ((i0.toUInt32 >>> ((2 : Int32) &&& 31).toUInt32).toInt32))])) (fun tq_ kq_ => XS.iconst X0.here hx rfl (hb hby at_7) kq_) ?_
  refine own_GW.step (g' := (mkF m 9 #[.val (.int i0), .val (.int i1), .val (.int i2), .val (.int (i0 &&& (3 : Int32))), .unset, .unset, .unset, .unset, .unset, .unset] [(.int (((i0.toUInt32 >>> ((2 : Int32) &&& 31).toUInt32).toInt32) &&& (3 : Int32)))])) (fun tq_ kq_ => XS.iand X0.here hx rfl (hb hby at_8) rfl kq_) ?_
  refine own_GW.step (g' := (mkF m 11 #[.val (.int i0), .val (.int i1), .val (.int i2), .val (.int (i0 &&& (3 : Int32))), .val (.int (((i0.toUInt32 >>> ((2 : Int32) &&& 31).toUInt32).toInt32) &&& (3 : Int32))), .unset, .unset, .unset, .unset, .unset] [])) (fun tq_ kq_ => XS.istore X0.here hx rfl (hb hby at_9) rfl (l' := #[.val (.int i0), .val (.int i1), .val (.int i2), .val (.int (i0 &&& (3 : Int32))), .val (.int (((i0.toUInt32 >>> ((2 : Int32) &&& 31).toUInt32).toInt32) &&& (3 : Int32))), .unset, .unset, .unset, .unset, .unset]) rfl kq_) ?_
  obtain ⟨m1, hm1⟩ : ∃ z, z = (((i0.toUInt32 >>> ((2 : Int32) &&& 31).toUInt32).toInt32) &&& (3 : Int32)) := ⟨_, rfl⟩
  refine own_GW.cast (g' := (mkF m 11 #[.val (.int i0), .val (.int i1), .val (.int i2), .val (.int (i0 &&& (3 : Int32))), .val (.int m1), .unset, .unset, .unset, .unset, .unset] [])) (by rw [hm1]) ?_
  have hm4 := own_four ((i0.toUInt32 >>> ((2 : Int32) &&& 31).toUInt32).toInt32)
  rw [← hm1] at hm4
  obtain ⟨n, hn⟩ : ∃ z, z = (i0 &&& (3 : Int32)) := ⟨_, rfl⟩
  refine own_GW.cast (g' := (mkF m 11 #[.val (.int i0), .val (.int i1), .val (.int i2), .val (.int n), .val (.int m1), .unset, .unset, .unset, .unset, .unset] [])) (by rw [hn]) ?_
  have hn4 := own_four i0
  rw [← hn] at hn4
  refine own_GW.step (g' := (mkF m 12 #[.val (.int i0), .val (.int i1), .val (.int i2), .val (.int n), .val (.int m1), .unset, .unset, .unset, .unset, .unset] [(.int n)])) (fun tq_ kq_ => XS.iloadN X0.here hx rfl (hb hby at_11) rfl kq_) ?_
  refine own_GW.step (g' := (mkF m 13 #[.val (.int i0), .val (.int i1), .val (.int i2), .val (.int n), .val (.int m1), .unset, .unset, .unset, .unset, .unset] [(.int i1), (.int n)])) (fun tq_ kq_ => XS.iloadN X0.here hx rfl (hb hby at_12) rfl kq_) ?_
  obtain ⟨_, _, ⟨T1, L1, k1, n1⟩, -, X1, ⟨Lc1, hQ1, l1, y1, z1⟩, st1⟩ := Jvm.LawKit.callS X0 hx (y := (⟨"com/example/evenkey/evenkey/model/RowRangeHasStopRowPinLaw", "bytes", "(II)[B"⟩ : MethodName)) hown (mvT hZ (hw _ (List.mem_of_getElem? (i := 0) rfl))) (mvT hZ (hw _ (List.mem_of_getElem? (i := 1) rfl))) (mvT hZ (hw _ (List.mem_of_getElem? (i := 2) rfl))) (mvT hZ (hw _ (List.mem_of_getElem? (i := 3) rfl))) (by decide) (backOf (W := 0) (rm_bytes l Z a0 hw [] n i1 h0 n0 O0 hn4) hZ (hw _ (List.mem_of_getElem? (i := 3) rfl)) (hw _ (List.mem_of_getElem? (i := 2) rfl)) (by decide) (by decide)) (g := (mkF m 13 #[.val (.int i0), .val (.int i1), .val (.int i2), .val (.int n), .val (.int m1), .unset, .unset, .unset, .unset, .unset] [(.int i1), (.int n)])) rfl (by rw [hml]; rfl) (argsL := [(.int n), (.int i1)]) (rest := []) (lenOf pd__28II_29_5bB rfl) rfl (by show 2 * 0 + _ ≤ _; exact Nat.le_of_eq rfl) (hb hby at_13) (fun _ _ => ⟨rfl, e0, (by decide : 0 + 1 ≤ _), (by decide : 0 + 3 ≤ _)⟩)
  dsimp only [Pt.U, Pt.locs, Pt.cells, Pt.slots] at X1 l1 y1 z1 st1 hQ1
  subst l1 y1 z1
  obtain ⟨b2, x3, x4, rfl, Nq1, P5, P6, P7, P8⟩ := hQ1
  have N1 := Fr.app N0 Nq1
  have g9 : n0 ≤ b2 := Nat.le_trans O0.le P6
  have z10 : h0.size ≤ b2 := Nat.le_trans K0.1 P6
  have hkS := Nat.le_trans hkS P5.1
  have O11 := O0.keep P5 all0
  have K12 := K0.trans P5 all0
  refine own_GW.step (T' := T1) (g' := (mkF m 16 #[.val (.int i0), .val (.int i1), .val (.int i2), .val (.int n), .val (.int m1), .unset, .unset, .unset, .unset, .unset] [(.ref b2)])) (fun tq_ kq_ => st1 _ kq_) ?_
  refine own_GW.step (g' := (mkF m 18 #[.val (.int i0), .val (.int i1), .val (.int i2), .val (.int n), .val (.int m1), .val (.ref b2), .unset, .unset, .unset, .unset] [])) (fun tq_ kq_ => XS.astore X1.here hx rfl (hb hby at_16) rfl rfl (l' := #[.val (.int i0), .val (.int i1), .val (.int i2), .val (.int n), .val (.int m1), .val (.ref b2), .unset, .unset, .unset, .unset]) rfl kq_) ?_
  refine own_GW.step (g' := (mkF m 20 #[.val (.int i0), .val (.int i1), .val (.int i2), .val (.int n), .val (.int m1), .val (.ref b2), .unset, .unset, .unset, .unset] [(.int m1)])) (fun tq_ kq_ => XS.iload X1.here hx rfl (hb hby at_18) rfl kq_) ?_
  refine own_GW.step (g' := (mkF m 21 #[.val (.int i0), .val (.int i1), .val (.int i2), .val (.int n), .val (.int m1), .val (.ref b2), .unset, .unset, .unset, .unset] [(.int i2), (.int m1)])) (fun tq_ kq_ => XS.iloadN X1.here hx rfl (hb hby at_20) rfl kq_) ?_
  obtain ⟨_, _, ⟨T13, L13, k13, n13⟩, -, X13, ⟨Lc13, hQ13, l13, y13, z13⟩, st13⟩ := Jvm.LawKit.callS X1 hx (y := (⟨"com/example/evenkey/evenkey/model/RowRangeHasStopRowPinLaw", "bytes", "(II)[B"⟩ : MethodName)) hown (mvT hZ (hw _ (List.mem_of_getElem? (i := 0) rfl))) (mvT hZ (hw _ (List.mem_of_getElem? (i := 1) rfl))) (mvT hZ (hw _ (List.mem_of_getElem? (i := 2) rfl))) (mvT hZ (hw _ (List.mem_of_getElem? (i := 3) rfl))) (by decide) (backOf (W := 0) (rm_bytes l Z a0 hw [] m1 i2 T1.heap n0 O11 hm4) hZ (hw _ (List.mem_of_getElem? (i := 3) rfl)) (hw _ (List.mem_of_getElem? (i := 2) rfl)) (by decide) (by decide)) (g := (mkF m 21 #[.val (.int i0), .val (.int i1), .val (.int i2), .val (.int n), .val (.int m1), .val (.ref b2), .unset, .unset, .unset, .unset] [(.int i2), (.int m1)])) rfl (by rw [hml]; rfl) (argsL := [(.int m1), (.int i2)]) (rest := []) (lenOf pd__28II_29_5bB rfl) rfl (by show 2 * 0 + _ ≤ _; exact Nat.le_of_eq rfl) (hb hby at_21) (fun _ _ => ⟨rfl, rfl, (by decide : 1 + 1 ≤ _), (by decide : 3 + 3 ≤ _)⟩)
  dsimp only [Pt.U, Pt.locs, Pt.cells, Pt.slots] at X13 l13 y13 z13 st13 hQ13
  subst l13 y13 z13
  obtain ⟨b14, x15, x16, rfl, Nq13, P17, P18, P19, P20⟩ := hQ13
  have N13 := Fr.app N1 Nq13
  have ne21 : b2 ≠ b14 := Nat.ne_of_lt (Nat.lt_of_lt_of_le P7.lt P18)
  have g22 : n0 ≤ b14 := Nat.le_trans O11.le P18
  have z23 : h0.size ≤ b14 := Nat.le_trans K12.1 P18
  have hkS := Nat.le_trans hkS P17.1
  have F24 := P7.keep P17 nin0
  have O25 := O11.keep P17 all0
  have K26 := K12.trans P17 all0
  refine own_GW.step (T' := T13) (g' := (mkF m 24 #[.val (.int i0), .val (.int i1), .val (.int i2), .val (.int n), .val (.int m1), .val (.ref b2), .unset, .unset, .unset, .unset] [(.ref b14)])) (fun tq_ kq_ => st13 _ kq_) ?_
  refine own_GW.step (g' := (mkF m 26 #[.val (.int i0), .val (.int i1), .val (.int i2), .val (.int n), .val (.int m1), .val (.ref b2), .val (.ref b14), .unset, .unset, .unset] [])) (fun tq_ kq_ => XS.astore X13.here hx rfl (hb hby at_24) rfl rfl (l' := #[.val (.int i0), .val (.int i1), .val (.int i2), .val (.int n), .val (.int m1), .val (.ref b2), .val (.ref b14), .unset, .unset, .unset]) rfl kq_) ?_
  obtain ⟨T27, h27, X27, e27, E27, A27, D27, -, st27⟩ := newO X13 hx hZ hown (hw _ (List.mem_of_getElem? (i := 5) rfl)) (hw _ (List.mem_of_getElem? (i := 6) rfl)) (hw _ (List.mem_of_getElem? (i := 7) rfl)) rfl (g := (mkF m 26 #[.val (.int i0), .val (.int i1), .val (.int i2), .val (.int n), .val (.int m1), .val (.ref b2), .val (.ref b14), .unset, .unset, .unset] [])) rfl (hb hby at_26) (by decide) (by decide)
  obtain ⟨b27, g27⟩ : ∃ z, z = T13.heap.size := ⟨_, rfl⟩
  rw [← g27] at A27 D27 st27
  have ne28 : b2 ≠ b27 := Nat.ne_of_lt (Nat.lt_of_lt_of_le F24.lt (Nat.le_of_eq g27.symm))
  have ne29 : b14 ≠ b27 := Nat.ne_of_lt (Nat.lt_of_lt_of_le P19.lt (Nat.le_of_eq g27.symm))
  have g30 : n0 ≤ b27 := Nat.le_trans O25.le (Nat.le_of_eq g27.symm)
  have z31 : h0.size ≤ b27 := Nat.le_trans K26.1 (Nat.le_of_eq g27.symm)
  have hkS := Nat.le_trans hkS E27.1
  have F32 := F24.ext E27
  have F33 := P19.ext E27
  have O34 := O25.ext E27
  have K35 := K26.ext E27
  have F36 : Fld Z h27 b27 "com/example/evenkey/evenkey/model/RowRange" "startRow" "[B" .null := D27 (Or.inr (hw _ (List.mem_of_getElem? (i := 32) rfl))) (ty := (.array .byte)) (by decide)
  have F37 : Fld Z h27 b27 "com/example/evenkey/evenkey/model/RowRange" "stopRow" "[B" .null := D27 (Or.inr (hw _ (List.mem_of_getElem? (i := 34) rfl))) (ty := (.array .byte)) (by decide)
  refine own_GW.step (T' := T27) (g' := (mkF m 29 #[.val (.int i0), .val (.int i1), .val (.int i2), .val (.int n), .val (.int m1), .val (.ref b2), .val (.ref b14), .unset, .unset, .unset] [(.ref b27)])) st27 ?_
  refine own_GW.step (g' := (mkF m 30 #[.val (.int i0), .val (.int i1), .val (.int i2), .val (.int n), .val (.int m1), .val (.ref b2), .val (.ref b14), .unset, .unset, .unset] [(.ref b27), (.ref b27)])) (fun tq_ kq_ => XS.dup X27.here hx rfl (hb hby at_29) rfl rfl kq_) ?_
  refine own_GW.step (g' := (mkF m 32 #[.val (.int i0), .val (.int i1), .val (.int i2), .val (.int n), .val (.int m1), .val (.ref b2), .val (.ref b14), .unset, .unset, .unset] [(.ref b2), (.ref b27), (.ref b27)])) (fun tq_ kq_ => XS.aload X27.here hx rfl (hb hby at_30) rfl rfl kq_) ?_
  refine own_GW.step (g' := (mkF m 34 #[.val (.int i0), .val (.int i1), .val (.int i2), .val (.int n), .val (.int m1), .val (.ref b2), .val (.ref b14), .unset, .unset, .unset] [(.ref b14), (.ref b2), (.ref b27), (.ref b27)])) (fun tq_ kq_ => XS.aload X27.here hx rfl (hb hby at_32) rfl rfl kq_) ?_
  obtain ⟨_, _, ⟨T38, L38, k38, n38⟩, -, X38, sS38, gS38, ⟨Lc38, hQ38, l38, y38, z38⟩, st38⟩ := X27.specialBackS hx (y := (⟨"com/example/evenkey/evenkey/model/RowRange", "<init>", "([B[B)V"⟩ : MethodName)) rfl hown (mvT hZ (hw _ (List.mem_of_getElem? (i := 8) rfl))) (mvT hZ (hw _ (List.mem_of_getElem? (i := 9) rfl))) (mvT hZ (hw _ (List.mem_of_getElem? (i := 10) rfl))) (by decide) (backOfS (W := 1) (rm_rri l Z a0 hw [] b27 b2 b14 h27 n0 O34 F36 F37 A27 g30) hZ (hw _ (List.mem_of_getElem? (i := 10) rfl)) (hw _ (List.mem_of_getElem? (i := 7) rfl)) (by decide) (by decide)) (g := (mkF m 34 #[.val (.int i0), .val (.int i1), .val (.int i2), .val (.int n), .val (.int m1), .val (.ref b2), .val (.ref b14), .unset, .unset, .unset] [(.ref b14), (.ref b2), (.ref b27), (.ref b27)])) rfl (by rw [hml]; rfl) (Steps.refl _) (a := b27) (argsL := [(.ref b2), (.ref b14)]) (rest := [(.ref b27)]) (lenOf pd__28_5bB_5bB_29V rfl) rfl (by show 2 * 0 + _ ≤ _; exact Nat.le_of_eq rfl) (hb hby at_34) (fun _ _ => ⟨rfl, e27, (by decide : 3 + 4 ≤ _), (by decide : 8 + 68 ≤ _)⟩)
  dsimp only [Pt.U, Pt.locs, Pt.cells, Pt.slots] at X38 l38 y38 z38 st38 hQ38 sS38 gS38
  subst l38 y38 z38
  obtain ⟨X38, hS, hZ, hown⟩ := rebS (vm0 := s.vm) hS (by rw [e27]; exact hkS) X38 sS38 gS38 hZ hown
  obtain ⟨rfl, Nq38, P39, P40, P41⟩ := hQ38
  have N38 := Fr.app N13 Nq38
  have hkS := Nat.le_trans hkS P39.1
  have F42 := F32.keep P39 (ninS ne28 nin0)
  have F43 := F33.keep P39 (ninS ne29 nin0)
  have F44 := A27.keep P39
  have O45 := O34.keep P39 (allS g30 all0)
  have K46 := K35.trans P39 (allS (Or.inr z31) all0)
  have hkS : T38.heap.size ≤ T38.heap.size := Nat.le_refl _
  refine own_GW.step (T' := T38) (g' := (mkF m 37 #[.val (.int i0), .val (.int i1), .val (.int i2), .val (.int n), .val (.int m1), .val (.ref b2), .val (.ref b14), .unset, .unset, .unset] [(.ref b27)])) (fun tq_ kq_ => st38.trans kq_) ?_
  refine own_GW.step (g' := (mkF m 39 #[.val (.int i0), .val (.int i1), .val (.int i2), .val (.int n), .val (.int m1), .val (.ref b2), .val (.ref b14), .val (.ref b27), .unset, .unset] [])) (fun tq_ kq_ => XS.astore X38.here hx rfl (hb hby at_37) rfl rfl (l' := #[.val (.int i0), .val (.int i1), .val (.int i2), .val (.int n), .val (.int m1), .val (.ref b2), .val (.ref b14), .val (.ref b27), .unset, .unset]) rfl kq_) ?_
  refine own_GW.step (g' := (mkF m 41 #[.val (.int i0), .val (.int i1), .val (.int i2), .val (.int n), .val (.int m1), .val (.ref b2), .val (.ref b14), .val (.ref b27), .unset, .unset] [(.ref b27)])) (fun tq_ kq_ => XS.aload X38.here hx rfl (hb hby at_39) rfl rfl kq_) ?_
  obtain ⟨cq47, kq47, q47a, q47b, q47c⟩ := isOf hZ rfl P40
  obtain ⟨_, _, ⟨T47, L47, k47, n47⟩, -, X47, ⟨Lc47, hQ47, l47, y47, z47⟩, st47⟩ := X38.virtualBack hx (y := (⟨"com/example/evenkey/evenkey/model/RowRange", "hasStopRow", "()Z"⟩ : MethodName)) (z := (⟨"com/example/evenkey/evenkey/model/RowRange", "hasStopRow", "()Z"⟩ : MethodName)) hown (mvT hZ (hw _ (List.mem_of_getElem? (i := 35) rfl))) (mvT hZ (hw _ (List.mem_of_getElem? (i := 36) rfl))) (notFace_of_selects (args := #[]) (mvT hZ (hw _ (List.mem_of_getElem? (i := 38) rfl)))) (mvT hZ (hw _ (List.mem_of_getElem? (i := 38) rfl))) (mvT hZ (hw _ (List.mem_of_getElem? (i := 37) rfl))) (by decide) (backOf (W := 0) (rm_hsr l Z a0 hw [] b27 b14 m1 T38.heap n0 O45 P41 (own_Len.arv F43)) hZ (hw _ (List.mem_of_getElem? (i := 39) rfl)) (hw _ (List.mem_of_getElem? (i := 7) rfl)) (by decide) (by decide)) q47a q47c (g := (mkF m 41 #[.val (.int i0), .val (.int i1), .val (.int i2), .val (.int n), .val (.int m1), .val (.ref b2), .val (.ref b14), .val (.ref b27), .unset, .unset] [(.ref b27)])) rfl (by rw [hml]; rfl) (Steps.refl _) (argsL := []) (rest := []) (lenOf pd__28_29Z rfl) rfl (by show 2 * 0 + _ ≤ _; exact Nat.le_of_eq rfl) (hb hby at_41) (fun _ _ => ⟨rfl, rfl, (by decide : 7 + 0 ≤ _), (by decide : 76 + 0 ≤ _)⟩)
  dsimp only [Pt.U, Pt.locs, Pt.cells, Pt.slots] at X47 l47 y47 z47 st47 hQ47
  subst l47 y47 z47
  obtain ⟨rfl, Nq47, P48⟩ := hQ47
  have N47 := Fr.app N38 Nq47
  refine own_GW.step (T' := T47) (g' := (mkF m 44 #[.val (.int i0), .val (.int i1), .val (.int i2), .val (.int n), .val (.int m1), .val (.ref b2), .val (.ref b14), .val (.ref b27), .unset, .unset] [(.int (own_pos m1))])) (fun tq_ kq_ => st47.trans kq_) ?_
  refine own_GW.step (g' := (mkF m 46 #[.val (.int i0), .val (.int i1), .val (.int i2), .val (.int n), .val (.int m1), .val (.ref b2), .val (.ref b14), .val (.ref b27), .unset, .unset] [(.int m1), (.int (own_pos m1))])) (fun tq_ kq_ => XS.iload X47.here hx rfl (hb hby at_44) rfl kq_) ?_
  rcases Classical.em (m1 = (0 : Int32)) with hc46 | hc46
  · refine own_GW.step (g' := (mkF m 53 #[.val (.int i0), .val (.int i1), .val (.int i2), .val (.int n), .val (.int m1), .val (.ref b2), .val (.ref b14), .val (.ref b27), .unset, .unset] [(.int (own_pos m1))])) (fun tq_ kq_ => XS.ifYes X47.here hx rfl (pc0 := 46) (pc' := 53) rfl (hb hby at_46) rfl ((if0 _ _).trans (teq hc46).1) (by decide) (by decide) kq_) ?_
    refine own_GW.step (g' := (mkF m 54 #[.val (.int i0), .val (.int i1), .val (.int i2), .val (.int n), .val (.int m1), .val (.ref b2), .val (.ref b14), .val (.ref b27), .unset, .unset] [(.int (0 : Int32)), (.int (own_pos m1))])) (fun tq_ kq_ => XS.iconst X47.here hx rfl (hb hby at_53) kq_) ?_
    have hc54 : (own_pos m1) = (0 : Int32) := (own_pm hm4).1 hc46
    refine own_GW.step (g' := (mkF m 57 #[.val (.int i0), .val (.int i1), .val (.int i2), .val (.int n), .val (.int m1), .val (.ref b2), .val (.ref b14), .val (.ref b27), .unset, .unset] [])) (fun tq_ kq_ => XS.icmpNo X47.here hx rfl (hb hby at_54) rfl (teq hc54).2 kq_) ?_
    refine own_GW.step (g' := (mkF m 58 #[.val (.int i0), .val (.int i1), .val (.int i2), .val (.int n), .val (.int m1), .val (.ref b2), .val (.ref b14), .val (.ref b27), .unset, .unset] [(.int (1 : Int32))])) (fun tq_ kq_ => XS.iconst X47.here hx rfl (hb hby at_57) kq_) ?_
    refine own_GW.step (g' := (mkF m 62 #[.val (.int i0), .val (.int i1), .val (.int i2), .val (.int n), .val (.int m1), .val (.ref b2), .val (.ref b14), .val (.ref b27), .unset, .unset] [(.int (1 : Int32))])) (fun tq_ kq_ => XS.goto X47.here hx rfl (pc0 := 58) (pc' := 62) rfl (hb hby at_58) (by decide) (by decide) kq_) ?_
    refine own_GW.step (g' := (mkF m 64 #[.val (.int i0), .val (.int i1), .val (.int i2), .val (.int n), .val (.int m1), .val (.ref b2), .val (.ref b14), .val (.ref b27), .val (.int (1 : Int32)), .unset] [])) (fun tq_ kq_ => XS.istore X47.here hx rfl (hb hby at_62) rfl (l' := #[.val (.int i0), .val (.int i1), .val (.int i2), .val (.int n), .val (.int m1), .val (.ref b2), .val (.ref b14), .val (.ref b27), .val (.int (1 : Int32)), .unset]) rfl kq_) ?_
    refine own_GW.step (g' := (mkF m 66 #[.val (.int i0), .val (.int i1), .val (.int i2), .val (.int n), .val (.int m1), .val (.ref b2), .val (.ref b14), .val (.ref b27), .val (.int (1 : Int32)), .unset] [(.ref b2)])) (fun tq_ kq_ => XS.aload X47.here hx rfl (hb hby at_64) rfl rfl kq_) ?_
    obtain ⟨_, _, ⟨T49, L49, k49, n49⟩, -, X49, sS49, gS49, ⟨Lc49, hQ49, l49, y49, z49⟩, st49⟩ := callSS X47 hx (y := (⟨"com/example/evenkey/evenkey/model/RowRange", "single", "([B)Lcom/example/evenkey/evenkey/model/RowRange;"⟩ : MethodName)) hown (mvT hZ (hw _ (List.mem_of_getElem? (i := 40) rfl))) (mvT hZ (hw _ (List.mem_of_getElem? (i := 41) rfl))) (mvT hZ (hw _ (List.mem_of_getElem? (i := 7) rfl))) (mvT hZ (hw _ (List.mem_of_getElem? (i := 42) rfl))) (by decide) (backOfS (W := 0) (rm_single l Z a0 hw [] b2 n x3 x4 T38.heap n0 O45 hn4 F42) hZ (hw _ (List.mem_of_getElem? (i := 42) rfl)) (hw _ (List.mem_of_getElem? (i := 7) rfl)) (by decide) (by decide)) (g := (mkF m 66 #[.val (.int i0), .val (.int i1), .val (.int i2), .val (.int n), .val (.int m1), .val (.ref b2), .val (.ref b14), .val (.ref b27), .val (.int (1 : Int32)), .unset] [(.ref b2)])) rfl (by rw [hml]; rfl) (argsL := [(.ref b2)]) (rest := []) (lenOf pd__28_5bB_29Lcom_2fexample_2fevenkey_2fevenkey_2fmodel_2fRowRange_3b rfl) rfl (by show 2 * 0 + _ ≤ _; exact Nat.le_of_eq rfl) (hb hby at_66) (fun _ _ => ⟨rfl, P48, (by decide : 7 + 8 ≤ _), (by decide : 76 + 90 ≤ _)⟩)
    dsimp only [Pt.U, Pt.locs, Pt.cells, Pt.slots] at X49 l49 y49 z49 st49 hQ49 sS49 gS49
    subst l49 y49 z49
    obtain ⟨X49, hS, hZ, hown⟩ := rebS (vm0 := T38.vm) hS (by rw [P48]; exact hkS) X49 sS49 gS49 hZ hown
    obtain ⟨b50, b51, rfl, Nq49, P52, P53, P54, P55⟩ := hQ49
    have N49 := Fr.app N47 Nq49
    have hkS := Nat.le_trans hkS P52.1
    have F56 := F42.keep P52 nin0
    have F57 := F43.keep P52 nin0
    have F58 := P40.keep P52
    have F59 := P41.keep P52 nin0
    have O60 := O45.keep P52 all0
    have K61 := K46.trans P52 all0
    have hkS : T49.heap.size ≤ T49.heap.size := Nat.le_refl _
    refine own_GW.step (T' := T49) (g' := (mkF m 69 #[.val (.int i0), .val (.int i1), .val (.int i2), .val (.int n), .val (.int m1), .val (.ref b2), .val (.ref b14), .val (.ref b27), .val (.int (1 : Int32)), .unset] [(.ref b50)])) (fun tq_ kq_ => st49.trans kq_) ?_
    refine own_GW.step (g' := (mkF m 71 #[.val (.int i0), .val (.int i1), .val (.int i2), .val (.int n), .val (.int m1), .val (.ref b2), .val (.ref b14), .val (.ref b27), .val (.int (1 : Int32)), .val (.ref b50)] [])) (fun tq_ kq_ => XS.astore X49.here hx rfl (hb hby at_69) rfl rfl (l' := #[.val (.int i0), .val (.int i1), .val (.int i2), .val (.int n), .val (.int m1), .val (.ref b2), .val (.ref b14), .val (.ref b27), .val (.int (1 : Int32)), .val (.ref b50)]) rfl kq_) ?_
    refine own_GW.step (g' := (mkF m 73 #[.val (.int i0), .val (.int i1), .val (.int i2), .val (.int n), .val (.int m1), .val (.ref b2), .val (.ref b14), .val (.ref b27), .val (.int (1 : Int32)), .val (.ref b50)] [(.int (1 : Int32))])) (fun tq_ kq_ => XS.iload X49.here hx rfl (hb hby at_71) rfl kq_) ?_
    have hc73 : ¬ ((1 : Int32) = (0 : Int32)) := (by decide)
    refine own_GW.step (g' := (mkF m 76 #[.val (.int i0), .val (.int i1), .val (.int i2), .val (.int n), .val (.int m1), .val (.ref b2), .val (.ref b14), .val (.ref b27), .val (.int (1 : Int32)), .val (.ref b50)] [])) (fun tq_ kq_ => XS.ifNo X49.here hx rfl (hb hby at_73) rfl ((if0 _ _).trans (feq hc73).1) kq_) ?_
    refine own_GW.step (g' := (mkF m 78 #[.val (.int i0), .val (.int i1), .val (.int i2), .val (.int n), .val (.int m1), .val (.ref b2), .val (.ref b14), .val (.ref b27), .val (.int (1 : Int32)), .val (.ref b50)] [(.ref b50)])) (fun tq_ kq_ => XS.aload X49.here hx rfl (hb hby at_76) rfl rfl kq_) ?_
    obtain ⟨cq62, kq62, q62a, q62b, q62c⟩ := isOf hZ rfl P53
    obtain ⟨_, _, ⟨T62, L62, k62, n62⟩, -, X62, ⟨Lc62, hQ62, l62, y62, z62⟩, st62⟩ := X49.virtualBack hx (y := (⟨"com/example/evenkey/evenkey/model/RowRange", "hasStopRow", "()Z"⟩ : MethodName)) (z := (⟨"com/example/evenkey/evenkey/model/RowRange", "hasStopRow", "()Z"⟩ : MethodName)) hown (mvT hZ (hw _ (List.mem_of_getElem? (i := 35) rfl))) (mvT hZ (hw _ (List.mem_of_getElem? (i := 36) rfl))) (notFace_of_selects (args := #[]) (mvT hZ (hw _ (List.mem_of_getElem? (i := 38) rfl)))) (mvT hZ (hw _ (List.mem_of_getElem? (i := 38) rfl))) (mvT hZ (hw _ (List.mem_of_getElem? (i := 37) rfl))) (by decide) (backOf (W := 0) (rm_hsr l Z a0 hw [] b50 b51 (n + (1 : Int32)) T49.heap n0 O60 P54 P55) hZ (hw _ (List.mem_of_getElem? (i := 39) rfl)) (hw _ (List.mem_of_getElem? (i := 7) rfl)) (by decide) (by decide)) q62a q62c (g := (mkF m 78 #[.val (.int i0), .val (.int i1), .val (.int i2), .val (.int n), .val (.int m1), .val (.ref b2), .val (.ref b14), .val (.ref b27), .val (.int (1 : Int32)), .val (.ref b50)] [(.ref b50)])) rfl (by rw [hml]; rfl) (Steps.refl _) (argsL := []) (rest := []) (lenOf pd__28_29Z rfl) rfl (by show 2 * 0 + _ ≤ _; exact Nat.le_of_eq rfl) (hb hby at_78) (fun _ _ => ⟨rfl, rfl, (by decide : 15 + 0 ≤ _), (by decide : 166 + 0 ≤ _)⟩)
    dsimp only [Pt.U, Pt.locs, Pt.cells, Pt.slots] at X62 l62 y62 z62 st62 hQ62
    subst l62 y62 z62
    obtain ⟨rfl, Nq62, P63⟩ := hQ62
    have N62 := Fr.app N49 Nq62
    refine own_GW.step (T' := T62) (g' := (mkF m 81 #[.val (.int i0), .val (.int i1), .val (.int i2), .val (.int n), .val (.int m1), .val (.ref b2), .val (.ref b14), .val (.ref b27), .val (.int (1 : Int32)), .val (.ref b50)] [(.int (own_pos (n + (1 : Int32))))])) (fun tq_ kq_ => st62.trans kq_) ?_
    have hc81 : ¬ ((own_pos (n + (1 : Int32))) = (0 : Int32)) := by rw [own_p1 hn4]; decide
    refine own_GW.step (g' := (mkF m 84 #[.val (.int i0), .val (.int i1), .val (.int i2), .val (.int n), .val (.int m1), .val (.ref b2), .val (.ref b14), .val (.ref b27), .val (.int (1 : Int32)), .val (.ref b50)] [])) (fun tq_ kq_ => XS.ifNo X62.here hx rfl (hb hby at_81) rfl ((if0 _ _).trans (feq hc81).1) kq_) ?_
    refine own_GW.step (g' := (mkF m 85 #[.val (.int i0), .val (.int i1), .val (.int i2), .val (.int n), .val (.int m1), .val (.ref b2), .val (.ref b14), .val (.ref b27), .val (.int (1 : Int32)), .val (.ref b50)] [(.int (1 : Int32))])) (fun tq_ kq_ => XS.iconst X62.here hx rfl (hb hby at_84) kq_) ?_
    refine own_GW.step (g' := (mkF m 89 #[.val (.int i0), .val (.int i1), .val (.int i2), .val (.int n), .val (.int m1), .val (.ref b2), .val (.ref b14), .val (.ref b27), .val (.int (1 : Int32)), .val (.ref b50)] [(.int (1 : Int32))])) (fun tq_ kq_ => XS.goto X62.here hx rfl (pc0 := 85) (pc' := 89) rfl (hb hby at_85) (by decide) (by decide) kq_) ?_
    refine own_GW.step (g' := (mkF m 91 #[.val (.int i0), .val (.int i1), .val (.int i2), .val (.int n), .val (.int m1), .val (.ref b2), .val (.ref b14), .val (.ref b27), .val (.int (1 : Int32)), .val (.ref b50)] [])) (fun tq_ kq_ => XS.istore X62.here hx rfl (hb hby at_89) rfl (l' := #[.val (.int i0), .val (.int i1), .val (.int i2), .val (.int n), .val (.int m1), .val (.ref b2), .val (.ref b14), .val (.ref b27), .val (.int (1 : Int32)), .val (.ref b50)]) rfl kq_) ?_
    refine own_GW.step (g' := (mkF m 93 #[.val (.int i0), .val (.int i1), .val (.int i2), .val (.int n), .val (.int m1), .val (.ref b2), .val (.ref b14), .val (.ref b27), .val (.int (1 : Int32)), .val (.ref b50)] [(.int (1 : Int32))])) (fun tq_ kq_ => XS.iload X62.here hx rfl (hb hby at_91) rfl kq_) ?_
    have hc93 : ¬ ((1 : Int32) = (0 : Int32)) := (by decide)
    refine own_GW.step (g' := (mkF m 96 #[.val (.int i0), .val (.int i1), .val (.int i2), .val (.int n), .val (.int m1), .val (.ref b2), .val (.ref b14), .val (.ref b27), .val (.int (1 : Int32)), .val (.ref b50)] [])) (fun tq_ kq_ => XS.ifNo X62.here hx rfl (hb hby at_93) rfl ((if0 _ _).trans (feq hc93).1) kq_) ?_
    obtain ⟨_, _, ⟨T64, L64, k64, n64⟩, -, X64, ⟨Lc64, hQ64, l64, y64, z64⟩, st64⟩ := Jvm.LawKit.callS X62 hx (y := (⟨"com/example/evenkey/evenkey/model/RowRange", "all", "()Lcom/example/evenkey/evenkey/model/RowRange;"⟩ : MethodName)) hown (mvT hZ (hw _ (List.mem_of_getElem? (i := 58) rfl))) (mvT hZ (hw _ (List.mem_of_getElem? (i := 59) rfl))) (mvT hZ (hw _ (List.mem_of_getElem? (i := 7) rfl))) (mvT hZ (hw _ (List.mem_of_getElem? (i := 60) rfl))) (by decide) (backOf (W := 0) (rm_all l Z a0 hw [] al T49.heap n0 O60 S_ALL) hZ (hw _ (List.mem_of_getElem? (i := 60) rfl)) (hw _ (List.mem_of_getElem? (i := 7) rfl)) (by decide) (by decide)) (g := (mkF m 96 #[.val (.int i0), .val (.int i1), .val (.int i2), .val (.int n), .val (.int m1), .val (.ref b2), .val (.ref b14), .val (.ref b27), .val (.int (1 : Int32)), .val (.ref b50)] [])) rfl (by rw [hml]; rfl) (argsL := []) (rest := []) (lenOf pd__28_29Lcom_2fexample_2fevenkey_2fevenkey_2fmodel_2fRowRange_3b rfl) rfl (by show 2 * 0 + _ ≤ _; exact Nat.le_of_eq rfl) (hb hby at_96) (fun _ _ => ⟨rfl, P63, (by decide : 15 + 0 ≤ _), (by decide : 166 + 0 ≤ _)⟩)
    dsimp only [Pt.U, Pt.locs, Pt.cells, Pt.slots] at X64 l64 y64 z64 st64 hQ64
    subst l64 y64 z64
    obtain ⟨rfl, Nq64, P65⟩ := hQ64
    have N64 := Fr.app N62 Nq64
    refine own_GW.step (T' := T64) (g' := (mkF m 99 #[.val (.int i0), .val (.int i1), .val (.int i2), .val (.int n), .val (.int m1), .val (.ref b2), .val (.ref b14), .val (.ref b27), .val (.int (1 : Int32)), .val (.ref b50)] [(.ref al)])) (fun tq_ kq_ => st64 _ kq_) ?_
    obtain ⟨cq66, kq66, q66a, q66b, q66c⟩ := isOf hZ P65 (Exa.ext O60.2 E_ALL)
    obtain ⟨_, _, ⟨T66, L66, k66, n66⟩, -, X66, ⟨Lc66, hQ66, l66, y66, z66⟩, st66⟩ := X64.virtualBack hx (y := (⟨"com/example/evenkey/evenkey/model/RowRange", "hasStopRow", "()Z"⟩ : MethodName)) (z := (⟨"com/example/evenkey/evenkey/model/RowRange", "hasStopRow", "()Z"⟩ : MethodName)) hown (mvT hZ (hw _ (List.mem_of_getElem? (i := 35) rfl))) (mvT hZ (hw _ (List.mem_of_getElem? (i := 36) rfl))) (notFace_of_selects (args := #[]) (mvT hZ (hw _ (List.mem_of_getElem? (i := 38) rfl)))) (mvT hZ (hw _ (List.mem_of_getElem? (i := 38) rfl))) (mvT hZ (hw _ (List.mem_of_getElem? (i := 37) rfl))) (by decide) (backOf (W := 0) (rm_hsr l Z a0 hw [] al at_ (0 : Int32) T49.heap n0 O60 (Fld.ext O60.2 F_ALL) (own_Len.ext L_ALL O60.2)) hZ (hw _ (List.mem_of_getElem? (i := 39) rfl)) (hw _ (List.mem_of_getElem? (i := 7) rfl)) (by decide) (by decide)) q66a q66c (g := (mkF m 99 #[.val (.int i0), .val (.int i1), .val (.int i2), .val (.int n), .val (.int m1), .val (.ref b2), .val (.ref b14), .val (.ref b27), .val (.int (1 : Int32)), .val (.ref b50)] [(.ref al)])) rfl (by rw [hml]; rfl) (Steps.refl _) (argsL := []) (rest := []) (lenOf pd__28_29Z rfl) rfl (by show 2 * 0 + _ ≤ _; exact Nat.le_of_eq rfl) (hb hby at_99) (fun _ _ => ⟨rfl, P65, (by decide : 15 + 0 ≤ _), (by decide : 166 + 0 ≤ _)⟩)
    dsimp only [Pt.U, Pt.locs, Pt.cells, Pt.slots] at X66 l66 y66 z66 st66 hQ66
    subst l66 y66 z66
    obtain ⟨rfl, Nq66, P67⟩ := hQ66
    have N66 := Fr.app N64 Nq66
    refine own_GW.step (T' := T66) (g' := (mkF m 102 #[.val (.int i0), .val (.int i1), .val (.int i2), .val (.int n), .val (.int m1), .val (.ref b2), .val (.ref b14), .val (.ref b27), .val (.int (1 : Int32)), .val (.ref b50)] [(.int (own_pos (0 : Int32)))])) (fun tq_ kq_ => st66.trans kq_) ?_
    have hc102 : (own_pos (0 : Int32)) = (0 : Int32) := by decide
    refine own_GW.step (g' := (mkF m 105 #[.val (.int i0), .val (.int i1), .val (.int i2), .val (.int n), .val (.int m1), .val (.ref b2), .val (.ref b14), .val (.ref b27), .val (.int (1 : Int32)), .val (.ref b50)] [])) (fun tq_ kq_ => XS.ifNo X66.here hx rfl (hb hby at_102) rfl ((if0 _ _).trans (teq hc102).2) kq_) ?_
    refine own_GW.step (g' := (mkF m 106 #[.val (.int i0), .val (.int i1), .val (.int i2), .val (.int n), .val (.int m1), .val (.ref b2), .val (.ref b14), .val (.ref b27), .val (.int (1 : Int32)), .val (.ref b50)] [(.int (1 : Int32))])) (fun tq_ kq_ => XS.iconst X66.here hx rfl (hb hby at_105) kq_) ?_
    refine own_GW.step (g' := (mkF m 110 #[.val (.int i0), .val (.int i1), .val (.int i2), .val (.int n), .val (.int m1), .val (.ref b2), .val (.ref b14), .val (.ref b27), .val (.int (1 : Int32)), .val (.ref b50)] [(.int (1 : Int32))])) (fun tq_ kq_ => XS.goto X66.here hx rfl (pc0 := 106) (pc' := 110) rfl (hb hby at_106) (by decide) (by decide) kq_) ?_
    refine own_GW.step (g' := (mkF m 112 #[.val (.int i0), .val (.int i1), .val (.int i2), .val (.int n), .val (.int m1), .val (.ref b2), .val (.ref b14), .val (.ref b27), .val (.int (1 : Int32)), .val (.ref b50)] [])) (fun tq_ kq_ => XS.istore X66.here hx rfl (hb hby at_110) rfl (l' := #[.val (.int i0), .val (.int i1), .val (.int i2), .val (.int n), .val (.int m1), .val (.ref b2), .val (.ref b14), .val (.ref b27), .val (.int (1 : Int32)), .val (.ref b50)]) rfl kq_) ?_
    refine own_GW.step (g' := (mkF m 114 #[.val (.int i0), .val (.int i1), .val (.int i2), .val (.int n), .val (.int m1), .val (.ref b2), .val (.ref b14), .val (.ref b27), .val (.int (1 : Int32)), .val (.ref b50)] [(.int (1 : Int32))])) (fun tq_ kq_ => XS.iload X66.here hx rfl (hb hby at_112) rfl kq_) ?_
    exact own_retW X66 hS P67 hkS (v := some (.int (1 : Int32))) (fun h => by rw [Bd.returns] at h; cases h) Bd.notSynchronized ⟨rfl, N66⟩ (by decide) (by decide) (fun fs hr => retN X66 hx (t := .boolean) Bd.returns (by simp) (hb hby at_114) hr)
  · refine own_GW.step (g' := (mkF m 49 #[.val (.int i0), .val (.int i1), .val (.int i2), .val (.int n), .val (.int m1), .val (.ref b2), .val (.ref b14), .val (.ref b27), .unset, .unset] [(.int (own_pos m1))])) (fun tq_ kq_ => XS.ifNo X47.here hx rfl (hb hby at_46) rfl ((if0 _ _).trans (feq hc46).1) kq_) ?_
    refine own_GW.step (g' := (mkF m 50 #[.val (.int i0), .val (.int i1), .val (.int i2), .val (.int n), .val (.int m1), .val (.ref b2), .val (.ref b14), .val (.ref b27), .unset, .unset] [(.int (1 : Int32)), (.int (own_pos m1))])) (fun tq_ kq_ => XS.iconst X47.here hx rfl (hb hby at_49) kq_) ?_
    refine own_GW.step (g' := (mkF m 54 #[.val (.int i0), .val (.int i1), .val (.int i2), .val (.int n), .val (.int m1), .val (.ref b2), .val (.ref b14), .val (.ref b27), .unset, .unset] [(.int (1 : Int32)), (.int (own_pos m1))])) (fun tq_ kq_ => XS.goto X47.here hx rfl (pc0 := 50) (pc' := 54) rfl (hb hby at_50) (by decide) (by decide) kq_) ?_
    have hc54 : (own_pos m1) = (1 : Int32) := (own_pm hm4).2 hc46
    refine own_GW.step (g' := (mkF m 57 #[.val (.int i0), .val (.int i1), .val (.int i2), .val (.int n), .val (.int m1), .val (.ref b2), .val (.ref b14), .val (.ref b27), .unset, .unset] [])) (fun tq_ kq_ => XS.icmpNo X47.here hx rfl (hb hby at_54) rfl (teq hc54).2 kq_) ?_
    refine own_GW.step (g' := (mkF m 58 #[.val (.int i0), .val (.int i1), .val (.int i2), .val (.int n), .val (.int m1), .val (.ref b2), .val (.ref b14), .val (.ref b27), .unset, .unset] [(.int (1 : Int32))])) (fun tq_ kq_ => XS.iconst X47.here hx rfl (hb hby at_57) kq_) ?_
    refine own_GW.step (g' := (mkF m 62 #[.val (.int i0), .val (.int i1), .val (.int i2), .val (.int n), .val (.int m1), .val (.ref b2), .val (.ref b14), .val (.ref b27), .unset, .unset] [(.int (1 : Int32))])) (fun tq_ kq_ => XS.goto X47.here hx rfl (pc0 := 58) (pc' := 62) rfl (hb hby at_58) (by decide) (by decide) kq_) ?_
    refine own_GW.step (g' := (mkF m 64 #[.val (.int i0), .val (.int i1), .val (.int i2), .val (.int n), .val (.int m1), .val (.ref b2), .val (.ref b14), .val (.ref b27), .val (.int (1 : Int32)), .unset] [])) (fun tq_ kq_ => XS.istore X47.here hx rfl (hb hby at_62) rfl (l' := #[.val (.int i0), .val (.int i1), .val (.int i2), .val (.int n), .val (.int m1), .val (.ref b2), .val (.ref b14), .val (.ref b27), .val (.int (1 : Int32)), .unset]) rfl kq_) ?_
    refine own_GW.step (g' := (mkF m 66 #[.val (.int i0), .val (.int i1), .val (.int i2), .val (.int n), .val (.int m1), .val (.ref b2), .val (.ref b14), .val (.ref b27), .val (.int (1 : Int32)), .unset] [(.ref b2)])) (fun tq_ kq_ => XS.aload X47.here hx rfl (hb hby at_64) rfl rfl kq_) ?_
    obtain ⟨_, _, ⟨T68, L68, k68, n68⟩, -, X68, sS68, gS68, ⟨Lc68, hQ68, l68, y68, z68⟩, st68⟩ := callSS X47 hx (y := (⟨"com/example/evenkey/evenkey/model/RowRange", "single", "([B)Lcom/example/evenkey/evenkey/model/RowRange;"⟩ : MethodName)) hown (mvT hZ (hw _ (List.mem_of_getElem? (i := 40) rfl))) (mvT hZ (hw _ (List.mem_of_getElem? (i := 41) rfl))) (mvT hZ (hw _ (List.mem_of_getElem? (i := 7) rfl))) (mvT hZ (hw _ (List.mem_of_getElem? (i := 42) rfl))) (by decide) (backOfS (W := 0) (rm_single l Z a0 hw [] b2 n x3 x4 T38.heap n0 O45 hn4 F42) hZ (hw _ (List.mem_of_getElem? (i := 42) rfl)) (hw _ (List.mem_of_getElem? (i := 7) rfl)) (by decide) (by decide)) (g := (mkF m 66 #[.val (.int i0), .val (.int i1), .val (.int i2), .val (.int n), .val (.int m1), .val (.ref b2), .val (.ref b14), .val (.ref b27), .val (.int (1 : Int32)), .unset] [(.ref b2)])) rfl (by rw [hml]; rfl) (argsL := [(.ref b2)]) (rest := []) (lenOf pd__28_5bB_29Lcom_2fexample_2fevenkey_2fevenkey_2fmodel_2fRowRange_3b rfl) rfl (by show 2 * 0 + _ ≤ _; exact Nat.le_of_eq rfl) (hb hby at_66) (fun _ _ => ⟨rfl, P48, (by decide : 7 + 8 ≤ _), (by decide : 76 + 90 ≤ _)⟩)
    dsimp only [Pt.U, Pt.locs, Pt.cells, Pt.slots] at X68 l68 y68 z68 st68 hQ68 sS68 gS68
    subst l68 y68 z68
    obtain ⟨X68, hS, hZ, hown⟩ := rebS (vm0 := T38.vm) hS (by rw [P48]; exact hkS) X68 sS68 gS68 hZ hown
    obtain ⟨b69, b70, rfl, Nq68, P71, P72, P73, P74⟩ := hQ68
    have N68 := Fr.app N47 Nq68
    have hkS := Nat.le_trans hkS P71.1
    have F75 := F42.keep P71 nin0
    have F76 := F43.keep P71 nin0
    have F77 := P40.keep P71
    have F78 := P41.keep P71 nin0
    have O79 := O45.keep P71 all0
    have K80 := K46.trans P71 all0
    have hkS : T68.heap.size ≤ T68.heap.size := Nat.le_refl _
    refine own_GW.step (T' := T68) (g' := (mkF m 69 #[.val (.int i0), .val (.int i1), .val (.int i2), .val (.int n), .val (.int m1), .val (.ref b2), .val (.ref b14), .val (.ref b27), .val (.int (1 : Int32)), .unset] [(.ref b69)])) (fun tq_ kq_ => st68.trans kq_) ?_
    refine own_GW.step (g' := (mkF m 71 #[.val (.int i0), .val (.int i1), .val (.int i2), .val (.int n), .val (.int m1), .val (.ref b2), .val (.ref b14), .val (.ref b27), .val (.int (1 : Int32)), .val (.ref b69)] [])) (fun tq_ kq_ => XS.astore X68.here hx rfl (hb hby at_69) rfl rfl (l' := #[.val (.int i0), .val (.int i1), .val (.int i2), .val (.int n), .val (.int m1), .val (.ref b2), .val (.ref b14), .val (.ref b27), .val (.int (1 : Int32)), .val (.ref b69)]) rfl kq_) ?_
    refine own_GW.step (g' := (mkF m 73 #[.val (.int i0), .val (.int i1), .val (.int i2), .val (.int n), .val (.int m1), .val (.ref b2), .val (.ref b14), .val (.ref b27), .val (.int (1 : Int32)), .val (.ref b69)] [(.int (1 : Int32))])) (fun tq_ kq_ => XS.iload X68.here hx rfl (hb hby at_71) rfl kq_) ?_
    have hc73 : ¬ ((1 : Int32) = (0 : Int32)) := (by decide)
    refine own_GW.step (g' := (mkF m 76 #[.val (.int i0), .val (.int i1), .val (.int i2), .val (.int n), .val (.int m1), .val (.ref b2), .val (.ref b14), .val (.ref b27), .val (.int (1 : Int32)), .val (.ref b69)] [])) (fun tq_ kq_ => XS.ifNo X68.here hx rfl (hb hby at_73) rfl ((if0 _ _).trans (feq hc73).1) kq_) ?_
    refine own_GW.step (g' := (mkF m 78 #[.val (.int i0), .val (.int i1), .val (.int i2), .val (.int n), .val (.int m1), .val (.ref b2), .val (.ref b14), .val (.ref b27), .val (.int (1 : Int32)), .val (.ref b69)] [(.ref b69)])) (fun tq_ kq_ => XS.aload X68.here hx rfl (hb hby at_76) rfl rfl kq_) ?_
    obtain ⟨cq81, kq81, q81a, q81b, q81c⟩ := isOf hZ rfl P72
    obtain ⟨_, _, ⟨T81, L81, k81, n81⟩, -, X81, ⟨Lc81, hQ81, l81, y81, z81⟩, st81⟩ := X68.virtualBack hx (y := (⟨"com/example/evenkey/evenkey/model/RowRange", "hasStopRow", "()Z"⟩ : MethodName)) (z := (⟨"com/example/evenkey/evenkey/model/RowRange", "hasStopRow", "()Z"⟩ : MethodName)) hown (mvT hZ (hw _ (List.mem_of_getElem? (i := 35) rfl))) (mvT hZ (hw _ (List.mem_of_getElem? (i := 36) rfl))) (notFace_of_selects (args := #[]) (mvT hZ (hw _ (List.mem_of_getElem? (i := 38) rfl)))) (mvT hZ (hw _ (List.mem_of_getElem? (i := 38) rfl))) (mvT hZ (hw _ (List.mem_of_getElem? (i := 37) rfl))) (by decide) (backOf (W := 0) (rm_hsr l Z a0 hw [] b69 b70 (n + (1 : Int32)) T68.heap n0 O79 P73 P74) hZ (hw _ (List.mem_of_getElem? (i := 39) rfl)) (hw _ (List.mem_of_getElem? (i := 7) rfl)) (by decide) (by decide)) q81a q81c (g := (mkF m 78 #[.val (.int i0), .val (.int i1), .val (.int i2), .val (.int n), .val (.int m1), .val (.ref b2), .val (.ref b14), .val (.ref b27), .val (.int (1 : Int32)), .val (.ref b69)] [(.ref b69)])) rfl (by rw [hml]; rfl) (Steps.refl _) (argsL := []) (rest := []) (lenOf pd__28_29Z rfl) rfl (by show 2 * 0 + _ ≤ _; exact Nat.le_of_eq rfl) (hb hby at_78) (fun _ _ => ⟨rfl, rfl, (by decide : 15 + 0 ≤ _), (by decide : 166 + 0 ≤ _)⟩)
    dsimp only [Pt.U, Pt.locs, Pt.cells, Pt.slots] at X81 l81 y81 z81 st81 hQ81
    subst l81 y81 z81
    obtain ⟨rfl, Nq81, P82⟩ := hQ81
    have N81 := Fr.app N68 Nq81
    refine own_GW.step (T' := T81) (g' := (mkF m 81 #[.val (.int i0), .val (.int i1), .val (.int i2), .val (.int n), .val (.int m1), .val (.ref b2), .val (.ref b14), .val (.ref b27), .val (.int (1 : Int32)), .val (.ref b69)] [(.int (own_pos (n + (1 : Int32))))])) (fun tq_ kq_ => st81.trans kq_) ?_
    have hc81 : ¬ ((own_pos (n + (1 : Int32))) = (0 : Int32)) := by rw [own_p1 hn4]; decide
    refine own_GW.step (g' := (mkF m 84 #[.val (.int i0), .val (.int i1), .val (.int i2), .val (.int n), .val (.int m1), .val (.ref b2), .val (.ref b14), .val (.ref b27), .val (.int (1 : Int32)), .val (.ref b69)] [])) (fun tq_ kq_ => XS.ifNo X81.here hx rfl (hb hby at_81) rfl ((if0 _ _).trans (feq hc81).1) kq_) ?_
    refine own_GW.step (g' := (mkF m 85 #[.val (.int i0), .val (.int i1), .val (.int i2), .val (.int n), .val (.int m1), .val (.ref b2), .val (.ref b14), .val (.ref b27), .val (.int (1 : Int32)), .val (.ref b69)] [(.int (1 : Int32))])) (fun tq_ kq_ => XS.iconst X81.here hx rfl (hb hby at_84) kq_) ?_
    refine own_GW.step (g' := (mkF m 89 #[.val (.int i0), .val (.int i1), .val (.int i2), .val (.int n), .val (.int m1), .val (.ref b2), .val (.ref b14), .val (.ref b27), .val (.int (1 : Int32)), .val (.ref b69)] [(.int (1 : Int32))])) (fun tq_ kq_ => XS.goto X81.here hx rfl (pc0 := 85) (pc' := 89) rfl (hb hby at_85) (by decide) (by decide) kq_) ?_
    refine own_GW.step (g' := (mkF m 91 #[.val (.int i0), .val (.int i1), .val (.int i2), .val (.int n), .val (.int m1), .val (.ref b2), .val (.ref b14), .val (.ref b27), .val (.int (1 : Int32)), .val (.ref b69)] [])) (fun tq_ kq_ => XS.istore X81.here hx rfl (hb hby at_89) rfl (l' := #[.val (.int i0), .val (.int i1), .val (.int i2), .val (.int n), .val (.int m1), .val (.ref b2), .val (.ref b14), .val (.ref b27), .val (.int (1 : Int32)), .val (.ref b69)]) rfl kq_) ?_
    refine own_GW.step (g' := (mkF m 93 #[.val (.int i0), .val (.int i1), .val (.int i2), .val (.int n), .val (.int m1), .val (.ref b2), .val (.ref b14), .val (.ref b27), .val (.int (1 : Int32)), .val (.ref b69)] [(.int (1 : Int32))])) (fun tq_ kq_ => XS.iload X81.here hx rfl (hb hby at_91) rfl kq_) ?_
    have hc93 : ¬ ((1 : Int32) = (0 : Int32)) := (by decide)
    refine own_GW.step (g' := (mkF m 96 #[.val (.int i0), .val (.int i1), .val (.int i2), .val (.int n), .val (.int m1), .val (.ref b2), .val (.ref b14), .val (.ref b27), .val (.int (1 : Int32)), .val (.ref b69)] [])) (fun tq_ kq_ => XS.ifNo X81.here hx rfl (hb hby at_93) rfl ((if0 _ _).trans (feq hc93).1) kq_) ?_
    obtain ⟨_, _, ⟨T83, L83, k83, n83⟩, -, X83, ⟨Lc83, hQ83, l83, y83, z83⟩, st83⟩ := Jvm.LawKit.callS X81 hx (y := (⟨"com/example/evenkey/evenkey/model/RowRange", "all", "()Lcom/example/evenkey/evenkey/model/RowRange;"⟩ : MethodName)) hown (mvT hZ (hw _ (List.mem_of_getElem? (i := 58) rfl))) (mvT hZ (hw _ (List.mem_of_getElem? (i := 59) rfl))) (mvT hZ (hw _ (List.mem_of_getElem? (i := 7) rfl))) (mvT hZ (hw _ (List.mem_of_getElem? (i := 60) rfl))) (by decide) (backOf (W := 0) (rm_all l Z a0 hw [] al T68.heap n0 O79 S_ALL) hZ (hw _ (List.mem_of_getElem? (i := 60) rfl)) (hw _ (List.mem_of_getElem? (i := 7) rfl)) (by decide) (by decide)) (g := (mkF m 96 #[.val (.int i0), .val (.int i1), .val (.int i2), .val (.int n), .val (.int m1), .val (.ref b2), .val (.ref b14), .val (.ref b27), .val (.int (1 : Int32)), .val (.ref b69)] [])) rfl (by rw [hml]; rfl) (argsL := []) (rest := []) (lenOf pd__28_29Lcom_2fexample_2fevenkey_2fevenkey_2fmodel_2fRowRange_3b rfl) rfl (by show 2 * 0 + _ ≤ _; exact Nat.le_of_eq rfl) (hb hby at_96) (fun _ _ => ⟨rfl, P82, (by decide : 15 + 0 ≤ _), (by decide : 166 + 0 ≤ _)⟩)
    dsimp only [Pt.U, Pt.locs, Pt.cells, Pt.slots] at X83 l83 y83 z83 st83 hQ83
    subst l83 y83 z83
    obtain ⟨rfl, Nq83, P84⟩ := hQ83
    have N83 := Fr.app N81 Nq83
    refine own_GW.step (T' := T83) (g' := (mkF m 99 #[.val (.int i0), .val (.int i1), .val (.int i2), .val (.int n), .val (.int m1), .val (.ref b2), .val (.ref b14), .val (.ref b27), .val (.int (1 : Int32)), .val (.ref b69)] [(.ref al)])) (fun tq_ kq_ => st83 _ kq_) ?_
    obtain ⟨cq85, kq85, q85a, q85b, q85c⟩ := isOf hZ P84 (Exa.ext O79.2 E_ALL)
    obtain ⟨_, _, ⟨T85, L85, k85, n85⟩, -, X85, ⟨Lc85, hQ85, l85, y85, z85⟩, st85⟩ := X83.virtualBack hx (y := (⟨"com/example/evenkey/evenkey/model/RowRange", "hasStopRow", "()Z"⟩ : MethodName)) (z := (⟨"com/example/evenkey/evenkey/model/RowRange", "hasStopRow", "()Z"⟩ : MethodName)) hown (mvT hZ (hw _ (List.mem_of_getElem? (i := 35) rfl))) (mvT hZ (hw _ (List.mem_of_getElem? (i := 36) rfl))) (notFace_of_selects (args := #[]) (mvT hZ (hw _ (List.mem_of_getElem? (i := 38) rfl)))) (mvT hZ (hw _ (List.mem_of_getElem? (i := 38) rfl))) (mvT hZ (hw _ (List.mem_of_getElem? (i := 37) rfl))) (by decide) (backOf (W := 0) (rm_hsr l Z a0 hw [] al at_ (0 : Int32) T68.heap n0 O79 (Fld.ext O79.2 F_ALL) (own_Len.ext L_ALL O79.2)) hZ (hw _ (List.mem_of_getElem? (i := 39) rfl)) (hw _ (List.mem_of_getElem? (i := 7) rfl)) (by decide) (by decide)) q85a q85c (g := (mkF m 99 #[.val (.int i0), .val (.int i1), .val (.int i2), .val (.int n), .val (.int m1), .val (.ref b2), .val (.ref b14), .val (.ref b27), .val (.int (1 : Int32)), .val (.ref b69)] [(.ref al)])) rfl (by rw [hml]; rfl) (Steps.refl _) (argsL := []) (rest := []) (lenOf pd__28_29Z rfl) rfl (by show 2 * 0 + _ ≤ _; exact Nat.le_of_eq rfl) (hb hby at_99) (fun _ _ => ⟨rfl, P84, (by decide : 15 + 0 ≤ _), (by decide : 166 + 0 ≤ _)⟩)
    dsimp only [Pt.U, Pt.locs, Pt.cells, Pt.slots] at X85 l85 y85 z85 st85 hQ85
    subst l85 y85 z85
    obtain ⟨rfl, Nq85, P86⟩ := hQ85
    have N85 := Fr.app N83 Nq85
    refine own_GW.step (T' := T85) (g' := (mkF m 102 #[.val (.int i0), .val (.int i1), .val (.int i2), .val (.int n), .val (.int m1), .val (.ref b2), .val (.ref b14), .val (.ref b27), .val (.int (1 : Int32)), .val (.ref b69)] [(.int (own_pos (0 : Int32)))])) (fun tq_ kq_ => st85.trans kq_) ?_
    have hc102 : (own_pos (0 : Int32)) = (0 : Int32) := by decide
    refine own_GW.step (g' := (mkF m 105 #[.val (.int i0), .val (.int i1), .val (.int i2), .val (.int n), .val (.int m1), .val (.ref b2), .val (.ref b14), .val (.ref b27), .val (.int (1 : Int32)), .val (.ref b69)] [])) (fun tq_ kq_ => XS.ifNo X85.here hx rfl (hb hby at_102) rfl ((if0 _ _).trans (teq hc102).2) kq_) ?_
    refine own_GW.step (g' := (mkF m 106 #[.val (.int i0), .val (.int i1), .val (.int i2), .val (.int n), .val (.int m1), .val (.ref b2), .val (.ref b14), .val (.ref b27), .val (.int (1 : Int32)), .val (.ref b69)] [(.int (1 : Int32))])) (fun tq_ kq_ => XS.iconst X85.here hx rfl (hb hby at_105) kq_) ?_
    refine own_GW.step (g' := (mkF m 110 #[.val (.int i0), .val (.int i1), .val (.int i2), .val (.int n), .val (.int m1), .val (.ref b2), .val (.ref b14), .val (.ref b27), .val (.int (1 : Int32)), .val (.ref b69)] [(.int (1 : Int32))])) (fun tq_ kq_ => XS.goto X85.here hx rfl (pc0 := 106) (pc' := 110) rfl (hb hby at_106) (by decide) (by decide) kq_) ?_
    refine own_GW.step (g' := (mkF m 112 #[.val (.int i0), .val (.int i1), .val (.int i2), .val (.int n), .val (.int m1), .val (.ref b2), .val (.ref b14), .val (.ref b27), .val (.int (1 : Int32)), .val (.ref b69)] [])) (fun tq_ kq_ => XS.istore X85.here hx rfl (hb hby at_110) rfl (l' := #[.val (.int i0), .val (.int i1), .val (.int i2), .val (.int n), .val (.int m1), .val (.ref b2), .val (.ref b14), .val (.ref b27), .val (.int (1 : Int32)), .val (.ref b69)]) rfl kq_) ?_
    refine own_GW.step (g' := (mkF m 114 #[.val (.int i0), .val (.int i1), .val (.int i2), .val (.int n), .val (.int m1), .val (.ref b2), .val (.ref b14), .val (.ref b27), .val (.int (1 : Int32)), .val (.ref b69)] [(.int (1 : Int32))])) (fun tq_ kq_ => XS.iload X85.here hx rfl (hb hby at_112) rfl kq_) ?_
    exact own_retW X85 hS P86 hkS (v := some (.int (1 : Int32))) (fun h => by rw [Bd.returns] at h; cases h) Bd.notSynchronized ⟨rfl, N85⟩ (by decide) (by decide) (fun fs hr => retN X85 hx (t := .boolean) Bd.returns (by simp) (hb hby at_114) hr)
theorem own_len {args : Array Value} {s : State} {t : Term} {a : Addr} {cl : Cell} {n : Int32} (ht : t.eval args s none [] s = some (.ref a)) (ha : s.arrayAt? a = some cl) (h : (Term.length t).eval args s none [] s = some (.int n)) : cl.slots.size < 2 ^ 31 ∧ cl.slots.size.toInt32 = n := by
  by_cases q : cl.slots.size < 2147483648
  · simp [Term.eval, ht, ha, q] at h
    exact ⟨q, h⟩
  · simp [Term.eval, ht, ha, q] at h
set_option maxRecDepth 65536 in
set_option maxHeartbeats 40000000 in
theorem comes_1 {Post : Tables → Env → Array Value → State → Outcome → State → Prop} (hpost : ∀ tb e args s v u, (limb_1_1.after args s (.returned v) u = true ∧ limb_1_2.after args s (.returned v) u = true ∧ True) → ReturnedEndW s (.returned v) u (Jvm.fieldLocs frame_1_writes args s ++ Jvm.arrayLocs frame_1_arrays args s ++ Jvm.staticLocs frame_1_statics s) 24 3200 → Post tb e args s (.returned v) u) :
    ArmFor flags0 classFile x code maxLocals ret World_1 tables_1 room_1 Calls_1 rest_1 Pre_1 Post := by
  intro l hfl _ _ p e ha hc hk s m args below hf hA hF happ hP
  obtain ⟨hcalls, hrest, hpre⟩ := hP
  obtain ⟨-, -, -, hnamed, -, -, -, hat⟩ := (Spec.applies_iff hf).mp happ
  obtain ⟨hg, hn⟩ := and_e (Cond.before_iff.mp (show (Jvm.Cond.and given_1 narrow_1).before args s = true from hpre))
  obtain ⟨gz1, gz2⟩ := and_e hg
  obtain ⟨gz3, gz4⟩ := and_e gz2
  obtain ⟨gz5, gz6⟩ := and_e gz4
  obtain ⟨gz7, gz8⟩ := and_e hn
  obtain ⟨gz9, gz10⟩ := and_e gz8
  obtain ⟨u0, u1, u2, rfl⟩ : ∃ u0 u1 u2 : Value, args = #[u0, u1, u2] := by
    have hs : args.size = 3 := by simpa [Cond.value, given_1] using gz1
    obtain ⟨L⟩ := args
    match L, hs with
    | [u0, u1, u2], _ => exact ⟨u0, u1, u2, rfl⟩
  have hw := fun d (hd : d ∈ tables_1) => atoms_spec (ws := Jvm.Cond.code x code maxLocals ret :: tables_1) hat d (List.mem_cons_of_mem _ hd)
  have hfit : Fit s := fun {y c} hc i hi => by
    obtain ⟨ha, rfl⟩ := Array.getElem?_eq_some_iff.mp hc
    have q := List.all_eq_true.mp ((Array.all_eq_true_iff_forall_mem.mp hF) _ (Array.getElem_mem ha)) i (List.mem_range.mpr hi)
    simpa [Array.getElem?_eq_getElem hi] using q
  obtain ⟨i0, ei0⟩ := is_v gz3
  obtain rfl : u0 = (.int i0) := Option.some.inj ei0
  obtain ⟨i1, ei1⟩ := is_v gz5
  obtain rfl : u1 = (.int i1) := Option.some.inj ei1
  obtain ⟨i2, ei2⟩ := is_v gz6
  obtain rfl : u2 = (.int i2) := Option.some.inj ei2
  obtain ⟨al, ev_ALL⟩ := exa_v gz7
  have S_ALL : Sta s s.heap "com/example/evenkey/evenkey/model/RowRange" "ALL" "Lcom/example/evenkey/evenkey/model/RowRange;" (.ref al) := Sta.start ev_ALL (Or.inr ⟨(hw _ (List.mem_of_getElem? (i := 7) rfl)), (hw _ (List.mem_of_getElem? (i := 62) rfl))⟩)
  have E_ALL : Exa s s.heap al "com/example/evenkey/evenkey/model/RowRange" := Exa.start ev_ALL gz7
  obtain ⟨at_, ev_at⟩ := arr_v gz9
  have F_ALL : Fld s s.heap al "com/example/evenkey/evenkey/model/RowRange" "stopRow" "[B" (.ref at_) := Fld.start ((fld_at ev_ALL).symm.trans ev_at)
  obtain ⟨cat_, Aat⟩ := Arr.start ev_at gz9
  obtain ⟨hz_lt, hz_eq⟩ := own_len ev_at (Aat.fin (Vm.Alike.refl _)) (eqv_i (Term.int_eval (0 : Int32)) gz10)
  have L_ALL : own_Len s s.heap at_ (0 : Int32) := own_Len.start Aat hz_lt hz_eq (by decide)
  obtain ⟨n, o, h1, h2, h3, _, L, rfl, ⟨rfl, N⟩, hq⟩ := rm_law l s _ hw tables_1 i0 i1 i2 al at_ s.heap s.heap.size (Old.start s) S_ALL E_ALL F_ALL L_ALL p e ha hc hk s m _ below hf ((Spec.applies_iff_loose hf).mp happ).1 ⟨rfl, State.Warmed39.refl s, rfl⟩ trivial
  refine ⟨n, _, h1, h2, h3, hpost _ _ _ _ _ _ ⟨Cond.after_iff.mpr rfl, Cond.after_iff.mpr (eq_i res_at (Term.int_eval (1)) rfl), trivial⟩ ⟨hq.1, hq.2.1, hq.2.2.1, (hq.2.2.2.sift fun y hy => Or.inr (N y hy)).mono (by decide) (by decide)⟩⟩
theorem main_1_1 : Claimed_1_1 := comes_1 fun _ _ _ _ _ _ h hF => ⟨h.1, hF⟩
theorem main_1_2 : Claimed_1_2 := comes_1 fun _ _ _ _ _ _ h hF => ⟨h.2.1, hF⟩
end Jvm.Pilot.@@N@@
namespace Jvm.Pilot.@@N@@
open Jvm Jvm.ClassFile Sem Op Lib Jvm.Free Jvm.Stand Jvm.Pilot.@@N@@.Jvm.D
/-! MADE BY PROGRAM (witnessworld.py) out of the Statement's table words and the real class files: 19 classes; the members and pool entries that the words name. The judged class is class 1, her method 2. -/
namespace start1
open Jvm.ClassFile
def u (s : String) : CpInfo := .utf8 (stringToUtf16 s)
/-- a pool by its gaps: so many unusable entries, then the entry; so many at the end -/
def gap : Nat → List CpInfo → List CpInfo
  | 0, r => r
  | n + 1, r => .unusable :: gap n r
def poolList (es : List (Nat × CpInfo)) (last : Nat) : List CpInfo := es.foldr (fun e r => gap e.1 (e.2 :: r)) (gap last [])
def pool (es : List (Nat × CpInfo)) (last : Nat) : Array CpInfo := ⟨poolList es last⟩
def fileOf (pool : Array CpInfo) (this : Nat) (attrs : Array Attribute := #[]) (ms : Array MethodInfo := #[]) (fl : Nat := 33) (sup : Nat := 0) (ifs : Array Nat := #[]) (fds : Array FieldInfo := #[]) : ClassFile where
  minorVersion := 0
  majorVersion := 65
  constantPool := pool
  accessFlags := fl
  thisClass := this
  superClass := sup
  interfaces := ifs
  fields := fds
  methods := ms
  attributes := attrs
def plain (name : String) (sup : Option ClassId) : Class where
  name := name
  kind := .ordinary
  loader := none
  accessFlags := 33
  super := sup
  interfaces := #[]
  cf := none
  fields := #[]
  methods := #[]
  instanceTypes := #[]
  staticTypes := #[]
  resolved := #[]
  callSites := []
  init := .initialized
  statics := none
  mirror := none

def pool0 : Array CpInfo := pool [(5, u "<init>"), (0, u "()V"), (1, .class_ 10), (1, u "java/lang/Object")] 113

def k0c0 : Code := { maxStack := 0, maxLocals := 1, code := object_method_1_code, exceptionTable := #[], attributes := #[] }
def k0m0 : Method := { name := "<init>", desc := "()V", sig := { parameters := [], returnType := none }, accessFlags := 1, code := some k0c0 }
/-- java/lang/Object -/
def k0 : Class := { plain "java/lang/Object" none with
  accessFlags := 33
  interfaces := #[]
  cf := some (fileOf pool0 8 #[] #[{ accessFlags := 1, nameIndex := 5, descriptorIndex := 6, attributes := #[] }] 33 0 #[] #[])
  fields := #[]
  methods := #[k0m0]
  instanceTypes := #[]
  staticTypes := #[]
  resolved := Array.replicate 124 none
  statics := none }

def pool1 : Array CpInfo := pool [(2, .class_ 4), (1, u "java/lang/Object"), (0, u "<init>"), (0, u "()V"), (0, .methodref 8 9), (0, .class_ 10), (0, .nameAndType 11 12), (0, u "com/example/evenkey/evenkey/model/RowRangeHasStopRowPinLaw"), (0, u "bytes"), (0, u "(II)[B"), (0, .class_ 14), (0, u "com/example/evenkey/evenkey/model/RowRange"), (0, .methodref 13 16), (0, .nameAndType 5 17), (0, u "([B[B)V"), (0, .methodref 13 19), (0, .nameAndType 20 21), (0, u "hasStopRow"), (0, u "()Z"), (0, .methodref 13 23), (0, .nameAndType 24 25), (0, u "single"), (0, u "([B)Lcom/example/evenkey/evenkey/model/RowRange;"), (0, .methodref 13 27), (0, .nameAndType 28 29), (0, u "all"), (0, u "()Lcom/example/evenkey/evenkey/model/RowRange;"), (5, u "law"), (0, u "(III)Z")] 2

def k1m0 : Method := { name := "<init>", desc := "()V", sig := { parameters := [], returnType := none }, accessFlags := 1, code := none }
def k1c1 : Code := { maxStack := 4, maxLocals := 3, code := method_2_code, exceptionTable := #[], attributes := #[] }
def k1m1 : Method := { name := "bytes", desc := "(II)[B", sig := { parameters := [.int, .int], returnType := some (.array .byte) }, accessFlags := 10, code := some k1c1 }
def k1c2 : Code := { maxStack := 4, maxLocals := 10, code := code, exceptionTable := #[], attributes := #[] }
def k1m2 : Method := { name := "law", desc := "(III)Z", sig := { parameters := [.int, .int, .int], returnType := some .boolean }, accessFlags := 9, code := some k1c2 }
/-- com/example/evenkey/evenkey/model/RowRangeHasStopRowPinLaw -/
def k1 : Class := { plain "com/example/evenkey/evenkey/model/RowRangeHasStopRowPinLaw" (some 0) with
  accessFlags := 49
  interfaces := #[]
  cf := some (fileOf pool1 8 #[] #[{ accessFlags := 1, nameIndex := 5, descriptorIndex := 6, attributes := #[] }, { accessFlags := 10, nameIndex := 11, descriptorIndex := 12, attributes := #[] }, { accessFlags := 9, nameIndex := 35, descriptorIndex := 36, attributes := #[] }] 49 2 #[] #[])
  fields := #[]
  methods := #[k1m0, k1m1, k1m2]
  instanceTypes := #[]
  staticTypes := #[]
  resolved := Array.replicate 39 none
  statics := none }

def pool2 : Array CpInfo := pool [(1, .methodref 2 3), (0, .class_ 4), (0, .nameAndType 5 6), (0, u "java/lang/Object"), (0, u "<init>"), (0, u "()V"), (0, .class_ 8), (0, u "java/lang/Record")] 13

def k2c0 : Code := { maxStack := 1, maxLocals := 1, code := jdk_30_method_1_code, exceptionTable := #[], attributes := #[] }
def k2m0 : Method := { name := "<init>", desc := "()V", sig := { parameters := [], returnType := none }, accessFlags := 4, code := some k2c0 }
/-- java/lang/Record -/
def k2 : Class := { plain "java/lang/Record" (some 0) with
  accessFlags := 1057
  interfaces := #[]
  cf := some (fileOf pool2 7 #[] #[{ accessFlags := 4, nameIndex := 5, descriptorIndex := 6, attributes := #[] }] 1057 2 #[] #[])
  fields := #[]
  methods := #[k2m0]
  instanceTypes := #[]
  staticTypes := #[]
  resolved := Array.replicate 22 none
  statics := none }

def pool3 : Array CpInfo := pool [(1, .methodref 2 3), (0, .class_ 4), (0, .nameAndType 5 6), (0, u "java/lang/Record"), (0, u "<init>"), (0, u "()V"), (0, .string 8), (0, u "startRow"), (0, .methodref 10 11), (0, .class_ 12), (0, .nameAndType 13 14), (0, u "java/util/Objects"), (0, u "requireNonNull"), (0, u "(Ljava/lang/Object;Ljava/lang/String;)Ljava/lang/Object;"), (0, .string 16), (0, u "stopRow"), (0, .fieldref 18 19), (0, .class_ 20), (0, .nameAndType 8 21), (0, u "com/example/evenkey/evenkey/model/RowRange"), (0, u "[B"), (0, .fieldref 18 23), (0, .nameAndType 16 21), (0, .fieldref 18 25), (0, .nameAndType 26 27), (0, u "ALL"), (0, u "Lcom/example/evenkey/evenkey/model/RowRange;"), (0, .string 29), (0, u "row"), (0, .methodref 31 32), (0, .class_ 33), (0, .nameAndType 34 35), (0, u "java/util/Arrays"), (0, u "copyOf"), (0, u "([BI)[B"), (0, .methodref 18 37), (0, .nameAndType 5 38), (0, u "([B[B)V"), (18, u "hasStopRow"), (0, u "()Z"), (15, u "all"), (0, u "()Lcom/example/evenkey/evenkey/model/RowRange;"), (0, u "single"), (0, u "([B)Lcom/example/evenkey/evenkey/model/RowRange;")] 31

def k3c0 : Code := { maxStack := 2, maxLocals := 3, code := prog_13_method_1_code, exceptionTable := #[], attributes := #[] }
def k3m0 : Method := { name := "<init>", desc := "([B[B)V", sig := { parameters := [(.array .byte), (.array .byte)], returnType := none }, accessFlags := 1, code := some k3c0 }
def k3c1 : Code := { maxStack := 1, maxLocals := 0, code := prog_13_method_2_code, exceptionTable := #[], attributes := #[] }
def k3m1 : Method := { name := "all", desc := "()Lcom/example/evenkey/evenkey/model/RowRange;", sig := { parameters := [], returnType := some (.object "com/example/evenkey/evenkey/model/RowRange") }, accessFlags := 9, code := some k3c1 }
def k3c2 : Code := { maxStack := 6, maxLocals := 1, code := prog_13_method_3_code, exceptionTable := #[], attributes := #[] }
def k3m2 : Method := { name := "single", desc := "([B)Lcom/example/evenkey/evenkey/model/RowRange;", sig := { parameters := [(.array .byte)], returnType := some (.object "com/example/evenkey/evenkey/model/RowRange") }, accessFlags := 9, code := some k3c2 }
def k3c3 : Code := { maxStack := 1, maxLocals := 1, code := prog_13_method_6_code, exceptionTable := #[], attributes := #[] }
def k3m3 : Method := { name := "hasStopRow", desc := "()Z", sig := { parameters := [], returnType := some .boolean }, accessFlags := 1, code := some k3c3 }
/-- com/example/evenkey/evenkey/model/RowRange -/
def k3 : Class := { plain "com/example/evenkey/evenkey/model/RowRange" (some 2) with
  accessFlags := 49
  interfaces := #[]
  cf := some (fileOf pool3 18 #[] #[{ accessFlags := 1, nameIndex := 5, descriptorIndex := 38, attributes := #[] }, { accessFlags := 9, nameIndex := 74, descriptorIndex := 75, attributes := #[] }, { accessFlags := 9, nameIndex := 76, descriptorIndex := 77, attributes := #[] }, { accessFlags := 1, nameIndex := 57, descriptorIndex := 58, attributes := #[] }] 49 2 #[] #[{ accessFlags := 18, nameIndex := 8, descriptorIndex := 21, attributes := #[] }, { accessFlags := 18, nameIndex := 16, descriptorIndex := 21, attributes := #[] }, { accessFlags := 26, nameIndex := 26, descriptorIndex := 27, attributes := #[] }])
  fields := #[{ name := "startRow", type := (.array .byte), accessFlags := 18, slot := 0, constantValue := 0 }, { name := "stopRow", type := (.array .byte), accessFlags := 18, slot := 1, constantValue := 0 }, { name := "ALL", type := (.object "com/example/evenkey/evenkey/model/RowRange"), accessFlags := 26, slot := 0, constantValue := 0 }]
  methods := #[k3m0, k3m1, k3m2, k3m3]
  instanceTypes := #[(.array .byte), (.array .byte)]
  staticTypes := #[(.object "com/example/evenkey/evenkey/model/RowRange")]
  resolved := Array.replicate 109 none
  statics := some 0 }

def pool4 : Array CpInfo := pool [(1, .class_ 2), (0, u "java/io/Serializable"), (0, .class_ 4), (0, u "java/lang/Object")] 2

/-- java/io/Serializable -/
def k4 : Class := { plain "java/io/Serializable" (some 0) with
  accessFlags := 1537
  interfaces := #[]
  cf := some (fileOf pool4 1 #[] #[] 1537 3 #[] #[])
  fields := #[]
  methods := #[]
  instanceTypes := #[]
  staticTypes := #[]
  resolved := Array.replicate 7 none
  statics := none }

def pool5 : Array CpInfo := pool [(1, .class_ 2), (0, u "java/lang/Comparable"), (0, .class_ 4), (0, u "java/lang/Object")] 7

/-- java/lang/Comparable -/
def k5 : Class := { plain "java/lang/Comparable" (some 0) with
  accessFlags := 1537
  interfaces := #[]
  cf := some (fileOf pool5 1 #[] #[] 1537 3 #[] #[])
  fields := #[]
  methods := #[]
  instanceTypes := #[]
  staticTypes := #[]
  resolved := Array.replicate 12 none
  statics := none }

def pool6 : Array CpInfo := pool [(2, .class_ 4), (1, u "java/lang/CharSequence"), (42, .class_ 48), (0, u "java/lang/CharSequence$1CodePointIterator"), (10, .class_ 60), (0, u "java/lang/CharSequence$1CharIterator"), (5, .class_ 67), (0, u "java/lang/Object")] 63

/-- java/lang/CharSequence -/
def k6 : Class := { plain "java/lang/CharSequence" (some 0) with
  accessFlags := 1537
  interfaces := #[]
  cf := some (fileOf pool6 2 #[.nestMembers #[47, 59]] #[] 1537 66 #[] #[])
  fields := #[]
  methods := #[]
  instanceTypes := #[]
  staticTypes := #[]
  resolved := Array.replicate 131 none
  statics := none }

def pool7 : Array CpInfo := pool [(1, .class_ 2), (0, u "java/lang/constant/Constable"), (0, .class_ 4), (0, u "java/lang/Object")] 6

/-- java/lang/constant/Constable -/
def k7 : Class := { plain "java/lang/constant/Constable" (some 0) with
  accessFlags := 1537
  interfaces := #[]
  cf := some (fileOf pool7 1 #[] #[] 1537 3 #[] #[])
  fields := #[]
  methods := #[]
  instanceTypes := #[]
  staticTypes := #[]
  resolved := Array.replicate 11 none
  statics := none }

def pool8 : Array CpInfo := pool [(1, .class_ 2), (0, u "java/lang/constant/ConstantDesc"), (0, .class_ 4), (0, u "java/lang/Object")] 32

/-- java/lang/constant/ConstantDesc -/
def k8 : Class := { plain "java/lang/constant/ConstantDesc" (some 0) with
  accessFlags := 1537
  interfaces := #[]
  cf := some (fileOf pool8 1 #[] #[] 1537 3 #[] #[])
  fields := #[]
  methods := #[]
  instanceTypes := #[]
  staticTypes := #[]
  resolved := Array.replicate 37 none
  statics := none }

def pool9 : Array CpInfo := pool [(2, .class_ 4), (1, u "java/lang/Object"), (0, u "<init>"), (0, u "()V"), (3, .class_ 12), (1, u "java/lang/String"), (0, u "value"), (0, u "[B"), (2, u "coder"), (0, u "B"), (2, u "hash"), (0, u "I"), (2, u "hashIsZero"), (0, u "Z"), (13, u "COMPACT_STRINGS"), (534, .class_ 576), (0, u "java/lang/CharSequence"), (22, u "CASE_INSENSITIVE_ORDER"), (0, u "Ljava/util/Comparator;"), (500, u "serialPersistentFields"), (0, u "[Ljava/io/ObjectStreamField;"), (0, .class_ 1104), (0, u "java/lang/String$CaseInsensitiveComparator"), (1, .class_ 1107), (0, u "java/io/Serializable"), (0, .class_ 1109), (0, u "java/lang/Comparable"), (0, .class_ 1111), (0, u "java/lang/constant/Constable"), (0, .class_ 1113), (0, u "java/lang/constant/ConstantDesc"), (2, u "serialVersionUID"), (0, u "J"), (3, u "REPL"), (0, u "C"), (2, u "LATIN1"), (1, u "UTF16")] 323

def k9m0 : Method := { name := "<init>", desc := "()V", sig := { parameters := [], returnType := none }, accessFlags := 1, code := none }
/-- java/lang/String -/
def k9 : Class := { plain "java/lang/String" (some 0) with
  accessFlags := 49
  interfaces := #[4, 5, 6, 7, 8]
  cf := some (fileOf pool9 10 #[.nestMembers #[1103]] #[{ accessFlags := 1, nameIndex := 5, descriptorIndex := 6, attributes := #[] }] 49 2 #[1106, 1108, 575, 1110, 1112] #[{ accessFlags := 18, nameIndex := 13, descriptorIndex := 14, attributes := #[] }, { accessFlags := 18, nameIndex := 17, descriptorIndex := 18, attributes := #[] }, { accessFlags := 2, nameIndex := 21, descriptorIndex := 22, attributes := #[] }, { accessFlags := 2, nameIndex := 25, descriptorIndex := 26, attributes := #[] }, { accessFlags := 26, nameIndex := 1116, descriptorIndex := 1117, attributes := #[] }, { accessFlags := 24, nameIndex := 40, descriptorIndex := 26, attributes := #[] }, { accessFlags := 26, nameIndex := 1101, descriptorIndex := 1102, attributes := #[] }, { accessFlags := 26, nameIndex := 1121, descriptorIndex := 1122, attributes := #[] }, { accessFlags := 25, nameIndex := 599, descriptorIndex := 600, attributes := #[] }, { accessFlags := 24, nameIndex := 1125, descriptorIndex := 18, attributes := #[] }, { accessFlags := 24, nameIndex := 1127, descriptorIndex := 18, attributes := #[] }])
  fields := #[{ name := "value", type := (.array .byte), accessFlags := 18, slot := 0, constantValue := 0 }, { name := "coder", type := .byte, accessFlags := 18, slot := 1, constantValue := 0 }, { name := "hash", type := .int, accessFlags := 2, slot := 2, constantValue := 0 }, { name := "hashIsZero", type := .boolean, accessFlags := 2, slot := 3, constantValue := 0 }, { name := "serialVersionUID", type := .long, accessFlags := 26, slot := 0, constantValue := 0 }, { name := "COMPACT_STRINGS", type := .boolean, accessFlags := 24, slot := 1, constantValue := 0 }, { name := "serialPersistentFields", type := (.array (.object "java/io/ObjectStreamField")), accessFlags := 26, slot := 2, constantValue := 0 }, { name := "REPL", type := .char, accessFlags := 26, slot := 3, constantValue := 0 }, { name := "CASE_INSENSITIVE_ORDER", type := (.object "java/util/Comparator"), accessFlags := 25, slot := 4, constantValue := 0 }, { name := "LATIN1", type := .byte, accessFlags := 24, slot := 5, constantValue := 0 }, { name := "UTF16", type := .byte, accessFlags := 24, slot := 6, constantValue := 0 }]
  methods := #[k9m0]
  instanceTypes := #[(.array .byte), .byte, .int, .boolean]
  staticTypes := #[.long, .boolean, (.array (.object "java/io/ObjectStreamField")), .char, (.object "java/util/Comparator"), .byte, .byte]
  resolved := Array.replicate 1451 none
  statics := none }

def pool10 : Array CpInfo := pool [(2, .class_ 4), (1, u "java/lang/Object"), (0, u "<init>"), (0, u "()V"), (35, .class_ 44), (1, u "java/util/Objects"), (0, u "requireNonNull"), (48, u "(Ljava/lang/Object;Ljava/lang/String;)Ljava/lang/Object;")] 89

def k10m0 : Method := { name := "<init>", desc := "()V", sig := { parameters := [], returnType := none }, accessFlags := 2, code := none }
def k10c1 : Code := { maxStack := 3, maxLocals := 2, code := jdk_31_method_11_code, exceptionTable := #[], attributes := #[] }
def k10m1 : Method := { name := "requireNonNull", desc := "(Ljava/lang/Object;Ljava/lang/String;)Ljava/lang/Object;", sig := { parameters := [(.object "java/lang/Object"), (.object "java/lang/String")], returnType := some (.object "java/lang/Object") }, accessFlags := 9, code := some k10c1 }
/-- java/util/Objects -/
def k10 : Class := { plain "java/util/Objects" (some 0) with
  accessFlags := 49
  interfaces := #[]
  cf := some (fileOf pool10 42 #[] #[{ accessFlags := 2, nameIndex := 5, descriptorIndex := 6, attributes := #[] }, { accessFlags := 9, nameIndex := 45, descriptorIndex := 94, attributes := #[] }] 49 2 #[] #[])
  fields := #[]
  methods := #[k10m0, k10m1]
  instanceTypes := #[]
  staticTypes := #[]
  resolved := Array.replicate 184 none
  statics := none }

def pool11 : Array CpInfo := pool [(2, .class_ 4), (1, u "java/lang/Object"), (0, u "<init>"), (0, u "()V"), (7, .class_ 16), (1, u "java/util/Arrays"), (57, .class_ 76), (1, u "java/util/Arrays$NaturalOrder"), (36, .class_ 115), (1, u "java/util/Arrays$LegacyMergeSort"), (1, u "Z"), (32, .methodref 151 152), (0, .class_ 153), (0, .nameAndType 154 155), (0, u "java/lang/System"), (0, u "arraycopy"), (0, u "(Ljava/lang/Object;ILjava/lang/Object;II)V"), (146, u "copyOf"), (1, .methodref 305 306), (0, .class_ 307), (0, .nameAndType 308 309), (0, u "java/lang/Math"), (0, u "min"), (0, u "(II)I"), (65, .class_ 376), (0, u "java/util/Arrays$ArrayList"), (68, u "$assertionsDisabled"), (269, u "MIN_ARRAY_SORT_GRAN"), (0, u "I"), (2, u "INSERTIONSORT_THRESHOLD"), (149, u "([BI)[B"), (105, .class_ 976), (0, u "java/util/Arrays$ArrayItr")] 52

def k11m0 : Method := { name := "<init>", desc := "()V", sig := { parameters := [], returnType := none }, accessFlags := 2, code := none }
def k11c1 : Code := { maxStack := 6, maxLocals := 3, code := jdk_65_method_121_code, exceptionTable := #[], attributes := #[] }
def k11m1 : Method := { name := "copyOf", desc := "([BI)[B", sig := { parameters := [(.array .byte), .int], returnType := some (.array .byte) }, accessFlags := 9, code := some k11c1 }
/-- java/util/Arrays -/
def k11 : Class := { plain "java/util/Arrays" (some 0) with
  accessFlags := 49
  interfaces := #[]
  cf := some (fileOf pool11 14 #[.nestMembers #[975, 375, 113, 74]] #[{ accessFlags := 2, nameIndex := 5, descriptorIndex := 6, attributes := #[] }, { accessFlags := 9, nameIndex := 302, descriptorIndex := 869, attributes := #[] }] 49 2 #[] #[{ accessFlags := 26, nameIndex := 715, descriptorIndex := 716, attributes := #[] }, { accessFlags := 26, nameIndex := 719, descriptorIndex := 716, attributes := #[] }, { accessFlags := 4120, nameIndex := 445, descriptorIndex := 117, attributes := #[] }])
  fields := #[{ name := "MIN_ARRAY_SORT_GRAN", type := .int, accessFlags := 26, slot := 0, constantValue := 0 }, { name := "INSERTIONSORT_THRESHOLD", type := .int, accessFlags := 26, slot := 1, constantValue := 0 }, { name := "$assertionsDisabled", type := .boolean, accessFlags := 4120, slot := 2, constantValue := 0 }]
  methods := #[k11m0, k11m1]
  instanceTypes := #[]
  staticTypes := #[.int, .int, .boolean]
  resolved := Array.replicate 1029 none
  statics := none }

def pool12 : Array CpInfo := pool [(1, .class_ 2), (0, u "java/lang/Math"), (1, .class_ 6), (1, u "java/lang/Object"), (0, u "<init>"), (0, u "()V"), (89, .class_ 100), (1, u "java/lang/Math$RandomNumberGeneratorHolder"), (71, u "negativeZeroFloatBits"), (0, u "J"), (2, u "negativeZeroDoubleBits"), (24, u "min"), (43, u "$assertionsDisabled"), (0, u "Z"), (88, u "(II)I"), (2, u "twoToTheDoubleScaleDown"), (0, u "D"), (4, u "twoToTheDoubleScaleUp"), (9, u "E"), (3, u "PI"), (2, u "TAU"), (2, u "DEGREES_TO_RADIANS"), (0, u "RADIANS_TO_DEGREES")] 94

def k12m0 : Method := { name := "<init>", desc := "()V", sig := { parameters := [], returnType := none }, accessFlags := 2, code := none }
def k12c1 : Code := { maxStack := 2, maxLocals := 2, code := jdk_29_method_69_code, exceptionTable := #[], attributes := #[] }
def k12m1 : Method := { name := "min", desc := "(II)I", sig := { parameters := [.int, .int], returnType := some .int }, accessFlags := 9, code := some k12c1 }
/-- java/lang/Math -/
def k12 : Class := { plain "java/lang/Math" (some 0) with
  accessFlags := 49
  interfaces := #[]
  cf := some (fileOf pool12 1 #[.nestMembers #[98]] #[{ accessFlags := 2, nameIndex := 7, descriptorIndex := 8, attributes := #[] }, { accessFlags := 9, nameIndex := 201, descriptorIndex := 335, attributes := #[] }] 49 4 #[] #[{ accessFlags := 25, nameIndex := 354, descriptorIndex := 339, attributes := #[] }, { accessFlags := 25, nameIndex := 358, descriptorIndex := 339, attributes := #[] }, { accessFlags := 25, nameIndex := 361, descriptorIndex := 339, attributes := #[] }, { accessFlags := 26, nameIndex := 364, descriptorIndex := 339, attributes := #[] }, { accessFlags := 26, nameIndex := 365, descriptorIndex := 339, attributes := #[] }, { accessFlags := 26, nameIndex := 172, descriptorIndex := 173, attributes := #[] }, { accessFlags := 26, nameIndex := 176, descriptorIndex := 173, attributes := #[] }, { accessFlags := 8, nameIndex := 344, descriptorIndex := 339, attributes := #[] }, { accessFlags := 8, nameIndex := 338, descriptorIndex := 339, attributes := #[] }, { accessFlags := 4120, nameIndex := 245, descriptorIndex := 246, attributes := #[] }])
  fields := #[{ name := "E", type := .double, accessFlags := 25, slot := 0, constantValue := 0 }, { name := "PI", type := .double, accessFlags := 25, slot := 1, constantValue := 0 }, { name := "TAU", type := .double, accessFlags := 25, slot := 2, constantValue := 0 }, { name := "DEGREES_TO_RADIANS", type := .double, accessFlags := 26, slot := 3, constantValue := 0 }, { name := "RADIANS_TO_DEGREES", type := .double, accessFlags := 26, slot := 4, constantValue := 0 }, { name := "negativeZeroFloatBits", type := .long, accessFlags := 26, slot := 5, constantValue := 0 }, { name := "negativeZeroDoubleBits", type := .long, accessFlags := 26, slot := 6, constantValue := 0 }, { name := "twoToTheDoubleScaleUp", type := .double, accessFlags := 8, slot := 7, constantValue := 0 }, { name := "twoToTheDoubleScaleDown", type := .double, accessFlags := 8, slot := 8, constantValue := 0 }, { name := "$assertionsDisabled", type := .boolean, accessFlags := 4120, slot := 9, constantValue := 0 }]
  methods := #[k12m0, k12m1]
  instanceTypes := #[]
  staticTypes := #[.double, .double, .double, .double, .double, .long, .long, .double, .double, .boolean]
  resolved := Array.replicate 460 none
  statics := none }

def pool13 : Array CpInfo := pool [(2, .class_ 4), (1, u "java/lang/Object"), (0, u "<init>"), (0, u "()V"), (1, .class_ 10), (1, u "java/lang/System"), (0, u "allowSecurityManager"), (0, u "I"), (16, u "cons"), (0, u "Ljava/io/Console;"), (77, .class_ 110), (1, u "java/lang/System$CallersHolder"), (43, u "initialErrStream"), (0, u "Ljava/io/PrintStream;"), (19, u "security"), (0, u "Ljava/lang/SecurityManager;"), (31, .class_ 209), (0, u "java/lang/System$1"), (7, u "props"), (0, u "Ljava/util/Properties;"), (2, u "lineSeparator"), (0, u "Ljava/lang/String;"), (96, .class_ 321), (1, u "java/lang/System$LoggerFinder"), (5, .class_ 328), (0, u "java/lang/System$Logger"), (67, u "err"), (2, u "out"), (91, u "notSupportedJnuEncoding"), (15, u "in"), (17, u "initialIn"), (0, u "Ljava/io/InputStream;"), (35, u "bootLayer"), (0, u "Ljava/lang/ModuleLayer;"), (99, .class_ 664), (0, u "java/lang/System$2"), (9, u "NEVER"), (2, u "MAYBE"), (49, u "arraycopy"), (0, u "(Ljava/lang/Object;ILjava/lang/Object;II)V"), (72, .class_ 802), (0, u "java/lang/System$Logger$Level")] 31

def k13m0 : Method := { name := "<init>", desc := "()V", sig := { parameters := [], returnType := none }, accessFlags := 2, code := none }
def k13m1 : Method := { name := "arraycopy", desc := "(Ljava/lang/Object;ILjava/lang/Object;II)V", sig := { parameters := [(.object "java/lang/Object"), .int, (.object "java/lang/Object"), .int, .int], returnType := none }, accessFlags := 265, code := none }
/-- java/lang/System -/
def k13 : Class := { plain "java/lang/System" (some 0) with
  accessFlags := 49
  interfaces := #[]
  cf := some (fileOf pool13 8 #[.nestMembers #[319, 327, 801, 108, 663, 208]] #[{ accessFlags := 2, nameIndex := 5, descriptorIndex := 6, attributes := #[] }, { accessFlags := 265, nameIndex := 727, descriptorIndex := 728, attributes := #[] }] 49 2 #[] #[{ accessFlags := 25, nameIndex := 507, descriptorIndex := 526, attributes := #[] }, { accessFlags := 25, nameIndex := 399, descriptorIndex := 155, attributes := #[] }, { accessFlags := 25, nameIndex := 396, descriptorIndex := 155, attributes := #[] }, { accessFlags := 10, nameIndex := 525, descriptorIndex := 526, attributes := #[] }, { accessFlags := 26, nameIndex := 674, descriptorIndex := 12, attributes := #[] }, { accessFlags := 26, nameIndex := 677, descriptorIndex := 12, attributes := #[] }, { accessFlags := 10, nameIndex := 11, descriptorIndex := 12, attributes := #[] }, { accessFlags := 74, nameIndex := 175, descriptorIndex := 176, attributes := #[] }, { accessFlags := 10, nameIndex := 491, descriptorIndex := 222, attributes := #[] }, { accessFlags := 74, nameIndex := 29, descriptorIndex := 30, attributes := #[] }, { accessFlags := 74, nameIndex := 154, descriptorIndex := 155, attributes := #[] }, { accessFlags := 10, nameIndex := 217, descriptorIndex := 218, attributes := #[] }, { accessFlags := 10, nameIndex := 221, descriptorIndex := 222, attributes := #[] }, { accessFlags := 8, nameIndex := 562, descriptorIndex := 563, attributes := #[] }])
  fields := #[{ name := "in", type := (.object "java/io/InputStream"), accessFlags := 25, slot := 0, constantValue := 0 }, { name := "out", type := (.object "java/io/PrintStream"), accessFlags := 25, slot := 1, constantValue := 0 }, { name := "err", type := (.object "java/io/PrintStream"), accessFlags := 25, slot := 2, constantValue := 0 }, { name := "initialIn", type := (.object "java/io/InputStream"), accessFlags := 10, slot := 3, constantValue := 0 }, { name := "NEVER", type := .int, accessFlags := 26, slot := 4, constantValue := 0 }, { name := "MAYBE", type := .int, accessFlags := 26, slot := 5, constantValue := 0 }, { name := "allowSecurityManager", type := .int, accessFlags := 10, slot := 6, constantValue := 0 }, { name := "security", type := (.object "java/lang/SecurityManager"), accessFlags := 74, slot := 7, constantValue := 0 }, { name := "notSupportedJnuEncoding", type := (.object "java/lang/String"), accessFlags := 10, slot := 8, constantValue := 0 }, { name := "cons", type := (.object "java/io/Console"), accessFlags := 74, slot := 9, constantValue := 0 }, { name := "initialErrStream", type := (.object "java/io/PrintStream"), accessFlags := 74, slot := 10, constantValue := 0 }, { name := "props", type := (.object "java/util/Properties"), accessFlags := 10, slot := 11, constantValue := 0 }, { name := "lineSeparator", type := (.object "java/lang/String"), accessFlags := 10, slot := 12, constantValue := 0 }, { name := "bootLayer", type := (.object "java/lang/ModuleLayer"), accessFlags := 8, slot := 13, constantValue := 0 }]
  methods := #[k13m0, k13m1]
  instanceTypes := #[]
  staticTypes := #[(.object "java/io/InputStream"), (.object "java/io/PrintStream"), (.object "java/io/PrintStream"), (.object "java/io/InputStream"), .int, .int, .int, (.object "java/lang/SecurityManager"), (.object "java/lang/String"), (.object "java/io/Console"), (.object "java/io/PrintStream"), (.object "java/util/Properties"), (.object "java/lang/String"), (.object "java/lang/ModuleLayer")]
  resolved := Array.replicate 834 none
  statics := none }

def pool14 : Array CpInfo := pool [(1, u "java/lang/Cloneable"), (0, .class_ 1), (0, u "java/lang/Object"), (0, .class_ 3)] 3

/-- java/lang/Cloneable -/
def k14 : Class := { plain "java/lang/Cloneable" (some 0) with
  accessFlags := 1537
  interfaces := #[]
  cf := some (fileOf pool14 2 #[] #[] 1537 4 #[] #[])
  fields := #[]
  methods := #[]
  instanceTypes := #[]
  staticTypes := #[]
  resolved := Array.replicate 8 none
  statics := none }

/-- the primitive byte -/
def k15 : Class := { plain "byte" none with kind := .primitive 'B', accessFlags := 0x411 }
/-- [B -/
def k16 : Class := { plain "[B" (some 0) with kind := .array 15 .byte, interfaces := #[14, 4], accessFlags := 1041 }

/-- the primitive int -/
def k17 : Class := { plain "int" none with kind := .primitive 'I', accessFlags := 0x411 }
/-- [I -/
def k18 : Class := { plain "[I" (some 0) with kind := .array 17 .int, interfaces := #[14, 4], accessFlags := 1041 }

def heap : Heap := #[{ cls := 3, slots := #[.ref 2], vm := .statics 3 },
  { cls := 16, slots := #[], vm := .none },
  { cls := 3, slots := #[.ref 1, .ref 1], vm := .none }]
def classes : Array Class := #[k0, k1, k2, k3, k4, k5, k6, k7, k8, k9, k10, k11, k12, k13, k14, k15, k16, k17, k18]
def interned : List (Array UInt16 × Addr) := []
def slotsUsed : Nat := 3
def theMethod : MethodId := ⟨1, 2⟩
def args0 : Array Value := #[.int 6, .int 5, .int 7]
def aboutOver (below : List Frame) : State where
  vm := { classes := classes, interned := interned.toArray }
  heap := heap
  slotsUsed := slotsUsed
  threads := #[{ frames := .invoking theMethod args0 :: below }]
def below0 : List Frame := [.native { method := ⟨0, 0⟩, args := #[] }]
def about1 : State := aboutOver below0
def p0 : Program := .bare "" "" ""
def e0 : Env := launch0.env 0 0 0
theorem w_frames : about1.frames = Frame.invoking theMethod args0 :: below0 := rfl
set_option maxRecDepth 65536 in
theorem w_args : argsFit about1.vm theMethod args0 = true := by decide +kernel
set_option maxRecDepth 65536 in
theorem w_heap : heapFits about1 = true := by decide +kernel
set_option maxRecDepth 65536 in
theorem w_runnable : about1.curStatus? = some .runnable := by decide +kernel
set_option maxRecDepth 65536 in
theorem w_alone : about1.alone = true := by decide +kernel
set_option maxRecDepth 65536 in
theorem w_named : about1.methodNamed? x = some theMethod := by decide +kernel
set_option maxRecDepth 65536 in
theorem w_hears : about1.hears theMethod below0 = true := by decide +kernel
set_option maxRecDepth 65536 in
theorem w_ripe : about1.ripe theMethod args0 below0 = true := by decide +kernel
theorem w_running : about1.status = .running := rfl
set_option maxRecDepth 65536 in
theorem w_room : about1.hasRoom e0.platform room_1 = true :=
  launch0.hasRoom_least _ room_1 (by decide +kernel) (by decide +kernel) (by decide +kernel) (by decide +kernel) (by decide +kernel) (by decide +kernel)
theorem allAtoms_all (ts : List Jvm.Cond) (a : Array Jvm.Value) (st : Jvm.State) : (allAtoms ts).before a st = ts.all (fun c => c.before a st) := by
  induction ts with
  | nil => rfl
  | cons c t ih =>
    show (Jvm.Cond.and c (allAtoms t)).before a st = _
    rw [Jvm.Cond.before_and, ih, List.all_cons]
def words1 : List Jvm.Cond := Jvm.Cond.code x code maxLocals ret :: tables_1
/-- a 'code' word, met by the world's own term for the bytes: nothing is compared byte by byte -/
theorem code_word {y : MethodName} {bytes : ByteArray} {mx : Nat} {rt : Option FieldType} {a : Array Value} {s : State} {m : MethodId} {meth : Method} {c : Code} (h1 : s.methodNamed? y = some m) (h2 : s.vm.method? m = some meth) (h3 : meth.code = some c) (h4 : c.code = bytes)
    (h5 : (c.maxLocals == mx && c.exceptionTable.isEmpty && decide (c.maxStack ≤ mostOperands) && decide (meth.sig.returnType = rt) && !meth.locks && decide (parseMethodDescriptor y.desc = some meth.sig)) = true) : (Jvm.Cond.code y bytes mx rt).before a s = true := by
  simp only [Bool.and_eq_true, beq_iff_eq, Bool.not_eq_true', decide_eq_true_eq] at h5
  obtain ⟨⟨⟨⟨⟨g1, g2⟩, g3⟩, g4⟩, g5⟩, g6⟩ := h5
  simp [Cond.before, Cond.holds, Cond.value, h1, h2, h3, h4, g1, g2, g3, g4, g5, g6]
def isCode : Jvm.Cond → Bool
  | .code _ _ _ _ => true
  | _ => false
theorem all_split {L : List Jvm.Cond} {P : Jvm.Cond → Bool} (h1 : L.all (fun c => isCode c || P c) = true) (h2 : ∀ c ∈ L.filter isCode, P c = true) : L.all P = true := by
  refine List.all_eq_true.mpr fun c hc => ?_
  have h := List.all_eq_true.mp h1 c hc
  rcases Bool.eq_false_or_eq_true (isCode c) with hi | hi
  · exact h2 c (List.mem_filter.mpr ⟨hc, hi⟩)
  · simpa [hi] using h
set_option maxRecDepth 65536 in
theorem w_c0 : (Jvm.Cond.code x code maxLocals ret).before args0 about1 = true := code_word (m := ⟨1, 2⟩) (meth := k1m2) (c := k1c2) (by decide +kernel) rfl rfl rfl (by decide +kernel)
set_option maxRecDepth 65536 in
theorem w_c1 : (Jvm.Cond.code ({ cls := "com/example/evenkey/evenkey/model/RowRangeHasStopRowPinLaw", name := "bytes", desc := "(II)[B" } : Jvm.MethodName) method_2_code (3 : Nat) (Option.some (Jvm.ClassFile.FieldType.array Jvm.ClassFile.FieldType.byte))).before args0 about1 = true := code_word (m := ⟨1, 1⟩) (meth := k1m1) (c := k1c1) (by decide +kernel) rfl rfl rfl (by decide +kernel)
set_option maxRecDepth 65536 in
theorem w_c2 : (Jvm.Cond.code ({ cls := "com/example/evenkey/evenkey/model/RowRange", name := "<init>", desc := "([B[B)V" } : Jvm.MethodName) prog_13_method_1_code (3 : Nat) (Option.none : Option Jvm.ClassFile.FieldType)).before args0 about1 = true := code_word (m := ⟨3, 0⟩) (meth := k3m0) (c := k3c0) (by decide +kernel) rfl rfl rfl (by decide +kernel)
set_option maxRecDepth 65536 in
theorem w_c3 : (Jvm.Cond.code ({ cls := "java/lang/Record", name := "<init>", desc := "()V" } : Jvm.MethodName) jdk_30_method_1_code (1 : Nat) (Option.none : Option Jvm.ClassFile.FieldType)).before args0 about1 = true := code_word (m := ⟨2, 0⟩) (meth := k2m0) (c := k2c0) (by decide +kernel) rfl rfl rfl (by decide +kernel)
set_option maxRecDepth 65536 in
theorem w_c4 : (Jvm.Cond.code ({ cls := "java/lang/Object", name := "<init>", desc := "()V" } : Jvm.MethodName) object_method_1_code (1 : Nat) (Option.none : Option Jvm.ClassFile.FieldType)).before args0 about1 = true := code_word (m := ⟨0, 0⟩) (meth := k0m0) (c := k0c0) (by decide +kernel) rfl rfl rfl (by decide +kernel)
set_option maxRecDepth 65536 in
theorem w_c5 : (Jvm.Cond.code ({ cls := "java/util/Objects", name := "requireNonNull", desc := "(Ljava/lang/Object;Ljava/lang/String;)Ljava/lang/Object;" } : Jvm.MethodName) jdk_31_method_11_code (2 : Nat) (Option.some (Jvm.ClassFile.FieldType.object "java/lang/Object"))).before args0 about1 = true := code_word (m := ⟨10, 1⟩) (meth := k10m1) (c := k10c1) (by decide +kernel) rfl rfl rfl (by decide +kernel)
set_option maxRecDepth 65536 in
theorem w_c6 : (Jvm.Cond.code ({ cls := "com/example/evenkey/evenkey/model/RowRange", name := "hasStopRow", desc := "()Z" } : Jvm.MethodName) prog_13_method_6_code (1 : Nat) (Option.some Jvm.ClassFile.FieldType.boolean)).before args0 about1 = true := code_word (m := ⟨3, 3⟩) (meth := k3m3) (c := k3c3) (by decide +kernel) rfl rfl rfl (by decide +kernel)
set_option maxRecDepth 65536 in
theorem w_c7 : (Jvm.Cond.code ({ cls := "com/example/evenkey/evenkey/model/RowRange", name := "single", desc := "([B)Lcom/example/evenkey/evenkey/model/RowRange;" } : Jvm.MethodName) prog_13_method_3_code (1 : Nat) (Option.some (Jvm.ClassFile.FieldType.object "com/example/evenkey/evenkey/model/RowRange"))).before args0 about1 = true := code_word (m := ⟨3, 2⟩) (meth := k3m2) (c := k3c2) (by decide +kernel) rfl rfl rfl (by decide +kernel)
set_option maxRecDepth 65536 in
theorem w_c8 : (Jvm.Cond.code ({ cls := "java/util/Arrays", name := "copyOf", desc := "([BI)[B" } : Jvm.MethodName) jdk_65_method_121_code (3 : Nat) (Option.some (Jvm.ClassFile.FieldType.array Jvm.ClassFile.FieldType.byte))).before args0 about1 = true := code_word (m := ⟨11, 1⟩) (meth := k11m1) (c := k11c1) (by decide +kernel) rfl rfl rfl (by decide +kernel)
set_option maxRecDepth 65536 in
theorem w_c9 : (Jvm.Cond.code ({ cls := "java/lang/Math", name := "min", desc := "(II)I" } : Jvm.MethodName) jdk_29_method_69_code (2 : Nat) (Option.some Jvm.ClassFile.FieldType.int)).before args0 about1 = true := code_word (m := ⟨12, 1⟩) (meth := k12m1) (c := k12c1) (by decide +kernel) rfl rfl rfl (by decide +kernel)
set_option maxRecDepth 65536 in
theorem w_c10 : (Jvm.Cond.code ({ cls := "com/example/evenkey/evenkey/model/RowRange", name := "all", desc := "()Lcom/example/evenkey/evenkey/model/RowRange;" } : Jvm.MethodName) prog_13_method_2_code (0 : Nat) (Option.some (Jvm.ClassFile.FieldType.object "com/example/evenkey/evenkey/model/RowRange"))).before args0 about1 = true := code_word (m := ⟨3, 1⟩) (meth := k3m1) (c := k3c1) (by decide +kernel) rfl rfl rfl (by decide +kernel)
def codes1 : List Jvm.Cond := [Jvm.Cond.code x code maxLocals ret, Jvm.Cond.code ({ cls := "com/example/evenkey/evenkey/model/RowRangeHasStopRowPinLaw", name := "bytes", desc := "(II)[B" } : Jvm.MethodName) method_2_code (3 : Nat) (Option.some (Jvm.ClassFile.FieldType.array Jvm.ClassFile.FieldType.byte)), Jvm.Cond.code ({ cls := "com/example/evenkey/evenkey/model/RowRange", name := "<init>", desc := "([B[B)V" } : Jvm.MethodName) prog_13_method_1_code (3 : Nat) (Option.none : Option Jvm.ClassFile.FieldType), Jvm.Cond.code ({ cls := "java/lang/Record", name := "<init>", desc := "()V" } : Jvm.MethodName) jdk_30_method_1_code (1 : Nat) (Option.none : Option Jvm.ClassFile.FieldType), Jvm.Cond.code ({ cls := "java/lang/Object", name := "<init>", desc := "()V" } : Jvm.MethodName) object_method_1_code (1 : Nat) (Option.none : Option Jvm.ClassFile.FieldType), Jvm.Cond.code ({ cls := "java/util/Objects", name := "requireNonNull", desc := "(Ljava/lang/Object;Ljava/lang/String;)Ljava/lang/Object;" } : Jvm.MethodName) jdk_31_method_11_code (2 : Nat) (Option.some (Jvm.ClassFile.FieldType.object "java/lang/Object")), Jvm.Cond.code ({ cls := "com/example/evenkey/evenkey/model/RowRange", name := "hasStopRow", desc := "()Z" } : Jvm.MethodName) prog_13_method_6_code (1 : Nat) (Option.some Jvm.ClassFile.FieldType.boolean), Jvm.Cond.code ({ cls := "com/example/evenkey/evenkey/model/RowRange", name := "single", desc := "([B)Lcom/example/evenkey/evenkey/model/RowRange;" } : Jvm.MethodName) prog_13_method_3_code (1 : Nat) (Option.some (Jvm.ClassFile.FieldType.object "com/example/evenkey/evenkey/model/RowRange")), Jvm.Cond.code ({ cls := "java/util/Arrays", name := "copyOf", desc := "([BI)[B" } : Jvm.MethodName) jdk_65_method_121_code (3 : Nat) (Option.some (Jvm.ClassFile.FieldType.array Jvm.ClassFile.FieldType.byte)), Jvm.Cond.code ({ cls := "java/lang/Math", name := "min", desc := "(II)I" } : Jvm.MethodName) jdk_29_method_69_code (2 : Nat) (Option.some Jvm.ClassFile.FieldType.int), Jvm.Cond.code ({ cls := "com/example/evenkey/evenkey/model/RowRange", name := "all", desc := "()Lcom/example/evenkey/evenkey/model/RowRange;" } : Jvm.MethodName) prog_13_method_2_code (0 : Nat) (Option.some (Jvm.ClassFile.FieldType.object "com/example/evenkey/evenkey/model/RowRange"))]
set_option maxRecDepth 65536 in
theorem codes_eq : words1.filter isCode = codes1 := rfl
theorem w_codes : ∀ c ∈ words1.filter isCode, c.before args0 about1 = true := by
  rw [codes_eq]
  intro c hc
  simp only [codes1, List.mem_cons, List.not_mem_nil, or_false] at hc
  rcases hc with rfl | rfl | rfl | rfl | rfl | rfl | rfl | rfl | rfl | rfl | rfl
  · exact w_c0
  · exact w_c1
  · exact w_c2
  · exact w_c3
  · exact w_c4
  · exact w_c5
  · exact w_c6
  · exact w_c7
  · exact w_c8
  · exact w_c9
  · exact w_c10
set_option maxRecDepth 65536 in
theorem w_t1 : (words1.take 24).all (fun c => isCode c || c.before args0 about1) = true := by decide +kernel
set_option maxRecDepth 65536 in
theorem w_t2 : ((words1.drop 24).take 24).all (fun c => isCode c || c.before args0 about1) = true := by decide +kernel
set_option maxRecDepth 65536 in
theorem w_t3 : ((words1.drop 24).drop 24).all (fun c => isCode c || c.before args0 about1) = true := by decide +kernel
theorem w_tables : (allAtoms (Jvm.Cond.code x code maxLocals ret :: tables_1)).before args0 about1 = true := by
  rw [allAtoms_all]
  show words1.all (fun c => c.before args0 about1) = true
  refine all_split ?_ w_codes
  rw [← List.take_append_drop 24 words1, List.all_append, w_t1, ← List.take_append_drop 24 (words1.drop 24), List.all_append, w_t2, w_t3]
  rfl
set_option maxRecDepth 65536 in
theorem w_case : (Jvm.Cond.and given_1 narrow_1).before args0 about1 = true := by decide +kernel
theorem w_applies : (headSpec (Jvm.Cond.code x code maxLocals ret :: tables_1) room_1).applies x e0.platform about1 = true :=
  (Spec.applies_iff w_frames).mpr ⟨w_running, w_runnable, w_alone, w_named, w_hears, w_ripe, w_room, w_tables⟩
theorem atStart : AtStart classFile x code maxLocals ret World_1 tables_1 room_1 Calls_1 rest_1 Pre_1 launch0 p0 e0 about1 theMethod args0 below0 :=
  ⟨lists_1, trivial, launch0.admits_env _ _ _, launch0.least_env, fairChoices_fair.cas, fairChoices_fair.clock, w_frames, w_args, w_heap, w_applies, trivial, trivial, w_case⟩
end start1
theorem witness_1 : WitnessClaimed_1 := ⟨start1.p0, start1.e0, start1.about1, start1.theMethod, start1.args0, start1.below0, start1.atStart⟩
end Jvm.Pilot.@@N@@
