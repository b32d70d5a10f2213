import JvmDerived
import JvmDerived.Pilot.@@N@@Statement
import JvmDerived.Pilot.@@N@@Code
set_option linter.unusedVariables false
set_option linter.unusedSimpArgs false
namespace Jvm.Own
open Sem ClassFile Op Lib Jvm.Stand Jvm.Free Jvm.LawKit Jvm.RoadKit
/-! A plain store over the heap: what each address that matters holds. -/
abbrev Key : Type := String × String × String
abbrev Obj : Type := Sum (String × List (Key × Value)) (FieldType × List Value)
abbrev Mem : Type := Addr → Option Obj
def upd (μ : Mem) (a : Addr) (o : Obj) : Mem := fun x => if x = a then some o else μ x
section MemFacts
variable {μ : Mem} {a b : Addr} {o o' : Obj}
theorem upd_same : upd μ a o a = some o := by simp [upd]
theorem upd_ne (h : b ≠ a) : upd μ a o b = μ b := by simp [upd, h]
theorem upd_upd : upd (upd μ a o) a o' = upd μ a o' := by funext x; simp only [upd]; split <;> rfl
theorem upd_at (h : b ≠ a) {q : Obj} (hb : μ b = some q) : upd μ a o b = some q := (upd_ne h).trans hb
theorem upd_id (h : μ a = some o) : upd μ a o = μ := by funext x; simp only [upd]; split <;> simp_all
theorem upd_in {ν : Mem} {w : Obj} (h : upd μ a o = ν) (hb : b ≠ a) : upd (upd μ b w) a o = upd ν b w := by
  subst h; funext x; simp only [upd]
  by_cases h1 : x = a
  · subst h1; simp [Ne.symm hb]
  · by_cases h2 : x = b
    · subst h2; simp [h1]
    · simp [h1, h2]
theorem upd2 {ν ρ : Mem} {o' : Obj} (h1 : upd μ a o = ν) (h2 : upd ν b o' = ρ) : upd (upd μ a o) b o' = ρ := by subst h1; exact h2
theorem upd_list {ty : FieldType} {vs vs' : List Value} {ν : Mem} (h : vs = vs') (e : upd μ a (.inr (ty, vs')) = ν) : upd μ a (.inr (ty, vs)) = ν := by subst h; exact e
end MemFacts
def sl (Z : State) (q : Key × Value) : Nat := RoadKit.slotOf Z q.1.1 q.1.2.1 q.1.2.2
def IsO (Z : State) (h : Heap) (a : Addr) (C : String) (fs : List (Key × Value)) : Prop :=
  Exa Z h a C ∧ (∀ q ∈ fs, Fld Z h a q.1.1 q.1.2.1 q.1.2.2 q.2) ∧ fs.Pairwise fun q r => sl Z q ≠ sl Z r
def IsA (Z : State) (n0 : Nat) (h : Heap) (a : Addr) (ty : FieldType) (vs : List Value) : Prop :=
  ∃ c : Cell, Arr Z h a c ty ∧ c.slots.toList = vs ∧ vs.length < 2 ^ 31 ∧ (∀ v ∈ vs, fits ty v = true) ∧ (n0 ≤ a → ∀ C, ty = .object C → Ovr Z c.cls C)
def Is (Z : State) (n0 : Nat) (h : Heap) (a : Addr) : Obj → Prop
  | .inl q => IsO Z h a q.1 q.2
  | .inr q => IsA Z n0 h a q.1 q.2
def Hp (Z : State) (n0 : Nat) (μ : Mem) (h : Heap) : Prop := Old Z n0 h ∧ ∀ a o, μ a = some o → Is Z n0 h a o
section HpFacts
variable {Z : State} {n0 : Nat} {μ : Mem} {h h' : Heap} {a b : Addr} {o : Obj} {sl' : Nat} {v : Value}
theorem Is.lt (H : Is Z n0 h a o) : a < h.size := by
  rcases o with q | q
  · exact H.1.lt
  · obtain ⟨c, A, -⟩ := H; exact A.lt
theorem Is.ext (H : Is Z n0 h a o) (E : Ext h h') : Is Z n0 h' a o := by
  rcases o with q | q
  · exact ⟨H.1.ext E, fun r hr => (H.2.1 r hr).ext E, H.2.2⟩
  · obtain ⟨c, A, r⟩ := H; exact ⟨c, A.ext E, r⟩
theorem Is.other (H : Is Z n0 h b o) (W : Wr h h' a sl' v) (q : b ≠ a) : Is Z n0 h' b o := by
  rcases o with r | r
  · exact ⟨H.1.wr W, fun r hr => (H.2.1 r hr).other W (Or.inl q), H.2.2⟩
  · obtain ⟨c, A, r⟩ := H; exact ⟨c, A.other W q, r⟩
theorem Hp.ext (H : Hp Z n0 μ h) (E : Ext h h') : Hp Z n0 μ h' := ⟨H.1.ext E, fun a o q => (H.2 a o q).ext E⟩
theorem Hp.ge (H : Hp Z n0 μ h) : n0 ≤ h.size := H.1.1 ▸ H.1.2.1
theorem Hp.fresh (H : Hp Z n0 μ h) : ∀ b o, μ b = some o → b ≠ h.size := fun b o q => Nat.ne_of_lt (H.2 b o q).lt
theorem Hp.set (H : Hp Z n0 μ h') (I : Is Z n0 h' a o) : Hp Z n0 (upd μ a o) h' := ⟨H.1, fun b o' q => by
  by_cases e : b = a
  · subst e; rw [upd_same] at q; cases q; exact I
  · rw [upd_ne e] at q; exact H.2 b o' q⟩
theorem Hp.wr (H : Hp Z n0 μ h) (W : Wr h h' a sl' v) (g : n0 ≤ a) (I : Is Z n0 h' a o) : Hp Z n0 (upd μ a o) h' := ⟨H.1.wr W g, fun b o' q => by
  by_cases e : b = a
  · subst e; rw [upd_same] at q; cases q; exact I
  · rw [upd_ne e] at q; exact (H.2 b o' q).other W e⟩
theorem IsO.put {C : String} {fs fs' : List (Key × Value)} {k : Key} {i : Nat} {w : Value} (H : IsO Z h a C fs) (hi : fs[i]? = some (k, w)) (W : Wr h h' a (RoadKit.slotOf Z k.1 k.2.1 k.2.2) v) (e : fs.set i (k, v) = fs') : IsO Z h' a C fs' := by
  subst e
  obtain ⟨hlt, hk⟩ := List.getElem?_eq_some_iff.mp hi
  have F0 := H.2.1 _ (List.mem_of_getElem? hi)
  have hp := List.pairwise_iff_getElem.mp H.2.2
  refine ⟨H.1.wr W, fun q hq => ?_, ?_⟩
  · obtain ⟨j, hj, rfl⟩ := List.mem_iff_getElem.mp hq
    rw [List.length_set] at hj
    by_cases e : i = j
    · subst e; rw [List.getElem_set_self]; exact F0.same W
    · rw [List.getElem_set_ne e]
      refine (H.2.1 _ (List.getElem_mem hj)).other W (Or.inr ?_)
      have e0 : sl Z fs[i] = RoadKit.slotOf Z k.1 k.2.1 k.2.2 := by rw [hk]; rfl
      rcases Nat.lt_or_gt_of_ne e with q | q
      · have := hp i j hlt hj q; rw [e0] at this; exact fun z => this z.symm
      · have := hp j i hj hlt q; rw [e0] at this; exact this
  · rw [List.pairwise_iff_getElem]
    intro x y hx hy hxy
    rw [List.length_set] at hx hy
    have key : ∀ z (hz : z < (fs.set i (k, v)).length) (hz' : z < fs.length), sl Z (fs.set i (k, v))[z] = sl Z fs[z] := fun z hz hz' => by
      by_cases e : i = z
      · subst e; rw [List.getElem_set_self, hk]; rfl
      · rw [List.getElem_set_ne e]
    rw [key x _ hx, key y _ hy]
    exact hp x y hx hy hxy
theorem IsA.put {ty : FieldType} {vs : List Value} {j : Nat} (H : IsA Z n0 h a ty vs) (hv : fits ty v = true) (W : Wr h h' a j v) : IsA Z n0 h' a ty (vs.set j v) := by
  obtain ⟨c, A, rfl, hl, hf, ho⟩ := H
  refine ⟨_, A.same W, by simp [Cell.setSlot], by simpa using hl, fun w hw => ?_, ho⟩
  rcases List.mem_or_eq_of_mem_set hw with q | q
  · exact hf w q
  · subst q; exact hv
end HpFacts
/-- what is left to show from the frame g on -/
def Go (p : Program) (l : Launch) (e : Env) (R : Room) (s : State) (m : MethodId) (args : Array Value) (below : List Frame) (meth : Method) (c : Code) (Z : State) (n0 : Nat) (P : Option Value → Mem → Prop) (kc ks : Nat) (μ : Mem) (k n : Nat) (g : JFrame) : Prop :=
  ∀ T locs, Stand p l e R s m args below meth c T locs k n → Fr n0 locs → Hp Z n0 μ T.heap →
    ∃ s₂ o, Steps p.tables e below (T.setTop g) s₂ ∧ s₂.status = .running ∧ Ended s₂ below o ∧ ∃ v L, o = .returned v ∧ (Fr n0 L ∧ ∃ μ', Hp Z n0 μ' s₂.heap ∧ P v μ') ∧ FrameEnd s o s₂ L kc ks
/-- what stands fast while a body is walked -/
def Ctx (p : Program) (s : State) (m : MethodId) (meth : Method) (c : Code) (Z : State) (own nm : String) (B : ByteArray) (ml : Nat) (rt : Option FieldType) : Prop :=
  p.tables.exec = Jvm.exec ∧ c.code = B ∧ c.maxLocals = ml ∧ Z.Warmed39 s.vm ∧ s.vm.findClass own = some m.cls ∧ meth.sig.returnType = rt ∧ meth.locks = false ∧ meth.name = nm
/-- a body's contract -/
def Con (l : Launch) (Z : State) (n0 : Nat) (y : MethodName) (B : ByteArray) (ml : Nat) (rt : Option FieldType) (ws : List Cond) (rm : Room) (kc ks : Nat) (as : Array Value) (μ : Mem) (P : Option Value → Mem → Prop) : Prop :=
  ∀ h0, Hp Z n0 μ h0 → MetFree l y (head1 (Cond.code y B ml rt :: ws) rm) (fun a U => a = as ∧ Z.Warmed39 U.vm ∧ U.heap = h0) (fun _ _ _ _ _ => True)
    (fun _ U o U' => ∃ v L, o = .returned v ∧ (Fr n0 L ∧ ∃ μ', Hp Z n0 μ' U'.heap ∧ P v μ') ∧ FrameEnd U o U' L kc ks)
section Rules
variable {p : Program} {l : Launch} {e : Env} {R : Room} {s : State} {m : MethodId} {args : Array Value} {below : List Frame} {meth : Method} {c : Code} {Z : State} {a0 : Array Value} {n0 : Nat} {P : Option Value → Mem → Prop} {kc ks : Nat} {μ : Mem} {k n : Nat}
  {own nm : String} {B : ByteArray} {ml : Nat} {rt : Option FieldType} {pc q : Nat} {L L' : Array Slot} {st : List Value} {y : MethodName} {ws : List Cond} {rm : Room} {as : Array Value}
theorem Con.intro {L0 : Array Slot} (hx : plainFor y = true) (hef : ∀ m, entryFrame m as ml = mkF m 0 L0 [])
    (body : ∀ (p : Program) (e : Env) (s : State) (m : MethodId) (below : List Frame) (meth : Method) (c : Code), Ctx p s m meth c Z y.cls y.name B ml rt → Go p l e rm s m as below meth c Z n0 P kc ks μ 0 0 (mkF m 0 L0 [])) : Con l Z n0 y B ml rt ws rm kc ks as μ P := by
  intro h0 H0
  refine MetFree.of_bodySF hx hisR ?_
  intro p e s m args below meth c s₁ Bd hml hP hK
  obtain ⟨rfl, hZ, hh⟩ := hP
  have X0 : Stand p l e rm s m args below meth c s₁ [] 0 0 := Stand.of_body Bd
  have e0 : s₁.heap = h0 := by rw [← hh, Bd.state]; rfl
  obtain ⟨s2, o, g1, g2, g3, g4⟩ := body p e s m below meth c ⟨Bd.exec, Bd.bytes, hml, hZ, findClass_of_methodNamed Bd.named, Bd.returns, Bd.notSynchronized, (name_of_methodNamed Bd.named Bd.method).1⟩ s₁ [] X0 (Fr.nil n0) (by rw [e0]; exact H0)
  exact ⟨s2, o, castTop (hef m) g1, g2, g3, g4⟩
theorem Go.pure {g g' : JFrame} (K : Go p l e R s m args below meth c Z n0 P kc ks μ k n g') (st : ∀ T, At T m c below → ∀ target, Steps p.tables e below (T.setTop g') target → Steps p.tables e below (T.setTop g) target) : Go p l e R s m args below meth c Z n0 P kc ks μ k n g := fun T locs X F H => by
  obtain ⟨s2, o, h1, h2⟩ := K T locs X F H
  exact ⟨s2, o, st T X.here _ h1, h2⟩
theorem Go.stand {g g' : JFrame} (K : Go p l e R s m args below meth c Z n0 P kc ks μ k n g') (st : ∀ T locs, Stand p l e R s m args below meth c T locs k n → Hp Z n0 μ T.heap → ∃ T', Stand p l e R s m args below meth c T' locs k n ∧ T'.heap = T.heap ∧ ∀ target, Steps p.tables e below (T'.setTop g') target → Steps p.tables e below (T.setTop g) target) : Go p l e R s m args below meth c Z n0 P kc ks μ k n g := fun T locs X F H => by
  obtain ⟨T', X', e', h⟩ := st T locs X H
  obtain ⟨s2, o, h1, h2⟩ := K T' locs X' F (by rw [e']; exact H)
  exact ⟨s2, o, h _ h1, h2⟩
theorem iadd (C : Ctx p s m meth c Z own nm B ml rt) {x y : Int32} (hd : decode B pc = .ok (.iadd, 1)) (hq : pc + 1 = q) (k' : ∀ z : Int32, z = x + y → Go p l e R s m args below meth c Z n0 P kc ks μ k n (mkF m q L (.int z :: st))) : Go p l e R s m args below meth c Z n0 P kc ks μ k n (mkF m pc L (.int y :: .int x :: st)) := by
  subst hq
  exact Go.pure (k' _ rfl) fun T h t hr => XS.iadd h C.1 rfl (hb C.2.1 hd) rfl hr
theorem isub (C : Ctx p s m meth c Z own nm B ml rt) {x y : Int32} (hd : decode B pc = .ok (.isub, 1)) (hq : pc + 1 = q) (k' : ∀ z : Int32, z = x - y → Go p l e R s m args below meth c Z n0 P kc ks μ k n (mkF m q L (.int z :: st))) : Go p l e R s m args below meth c Z n0 P kc ks μ k n (mkF m pc L (.int y :: .int x :: st)) := by
  subst hq
  exact Go.pure (k' _ rfl) fun T h t hr => XS.isub h C.1 rfl (hb C.2.1 hd) rfl hr
theorem imul (C : Ctx p s m meth c Z own nm B ml rt) {x y : Int32} (hd : decode B pc = .ok (.imul, 1)) (hq : pc + 1 = q) (k' : ∀ z : Int32, z = x * y → Go p l e R s m args below meth c Z n0 P kc ks μ k n (mkF m q L (.int z :: st))) : Go p l e R s m args below meth c Z n0 P kc ks μ k n (mkF m pc L (.int y :: .int x :: st)) := by
  subst hq
  exact Go.pure (k' _ rfl) fun T h t hr => XS.imul h C.1 rfl (hb C.2.1 hd) rfl hr
theorem iand (C : Ctx p s m meth c Z own nm B ml rt) {x y : Int32} (hd : decode B pc = .ok (.iand, 1)) (hq : pc + 1 = q) (k' : ∀ z : Int32, z = x &&& y → Go p l e R s m args below meth c Z n0 P kc ks μ k n (mkF m q L (.int z :: st))) : Go p l e R s m args below meth c Z n0 P kc ks μ k n (mkF m pc L (.int y :: .int x :: st)) := by
  subst hq
  exact Go.pure (k' _ rfl) fun T h t hr => XS.iand h C.1 rfl (hb C.2.1 hd) rfl hr
theorem ior (C : Ctx p s m meth c Z own nm B ml rt) {x y : Int32} (hd : decode B pc = .ok (.ior, 1)) (hq : pc + 1 = q) (k' : ∀ z : Int32, z = x ||| y → Go p l e R s m args below meth c Z n0 P kc ks μ k n (mkF m q L (.int z :: st))) : Go p l e R s m args below meth c Z n0 P kc ks μ k n (mkF m pc L (.int y :: .int x :: st)) := by
  subst hq
  exact Go.pure (k' _ rfl) fun T h t hr => XS.ior h C.1 rfl (hb C.2.1 hd) rfl hr
theorem ixor (C : Ctx p s m meth c Z own nm B ml rt) {x y : Int32} (hd : decode B pc = .ok (.ixor, 1)) (hq : pc + 1 = q) (k' : ∀ z : Int32, z = x ^^^ y → Go p l e R s m args below meth c Z n0 P kc ks μ k n (mkF m q L (.int z :: st))) : Go p l e R s m args below meth c Z n0 P kc ks μ k n (mkF m pc L (.int y :: .int x :: st)) := by
  subst hq
  exact Go.pure (k' _ rfl) fun T h t hr => XS.ixor h C.1 rfl (hb C.2.1 hd) rfl hr
theorem ladd (C : Ctx p s m meth c Z own nm B ml rt) {x y : Int64} (hd : decode B pc = .ok (.ladd, 1)) (hq : pc + 1 = q) (k' : ∀ z : Int64, z = x + y → Go p l e R s m args below meth c Z n0 P kc ks μ k n (mkF m q L (.long z :: st))) : Go p l e R s m args below meth c Z n0 P kc ks μ k n (mkF m pc L (.long y :: .long x :: st)) := by
  subst hq
  exact Go.pure (k' _ rfl) fun T h t hr => XS.ladd h C.1 rfl (hb C.2.1 hd) rfl hr
theorem lsub (C : Ctx p s m meth c Z own nm B ml rt) {x y : Int64} (hd : decode B pc = .ok (.lsub, 1)) (hq : pc + 1 = q) (k' : ∀ z : Int64, z = x - y → Go p l e R s m args below meth c Z n0 P kc ks μ k n (mkF m q L (.long z :: st))) : Go p l e R s m args below meth c Z n0 P kc ks μ k n (mkF m pc L (.long y :: .long x :: st)) := by
  subst hq
  exact Go.pure (k' _ rfl) fun T h t hr => XS.lsub h C.1 rfl (hb C.2.1 hd) rfl hr
theorem lmul (C : Ctx p s m meth c Z own nm B ml rt) {x y : Int64} (hd : decode B pc = .ok (.lmul, 1)) (hq : pc + 1 = q) (k' : ∀ z : Int64, z = x * y → Go p l e R s m args below meth c Z n0 P kc ks μ k n (mkF m q L (.long z :: st))) : Go p l e R s m args below meth c Z n0 P kc ks μ k n (mkF m pc L (.long y :: .long x :: st)) := by
  subst hq
  exact Go.pure (k' _ rfl) fun T h t hr => XS.lmul h C.1 rfl (hb C.2.1 hd) rfl hr
theorem land (C : Ctx p s m meth c Z own nm B ml rt) {x y : Int64} (hd : decode B pc = .ok (.land, 1)) (hq : pc + 1 = q) (k' : ∀ z : Int64, z = x &&& y → Go p l e R s m args below meth c Z n0 P kc ks μ k n (mkF m q L (.long z :: st))) : Go p l e R s m args below meth c Z n0 P kc ks μ k n (mkF m pc L (.long y :: .long x :: st)) := by
  subst hq
  exact Go.pure (k' _ rfl) fun T h t hr => XS.land h C.1 rfl (hb C.2.1 hd) rfl hr
theorem lor (C : Ctx p s m meth c Z own nm B ml rt) {x y : Int64} (hd : decode B pc = .ok (.lor, 1)) (hq : pc + 1 = q) (k' : ∀ z : Int64, z = x ||| y → Go p l e R s m args below meth c Z n0 P kc ks μ k n (mkF m q L (.long z :: st))) : Go p l e R s m args below meth c Z n0 P kc ks μ k n (mkF m pc L (.long y :: .long x :: st)) := by
  subst hq
  exact Go.pure (k' _ rfl) fun T h t hr => XS.lor h C.1 rfl (hb C.2.1 hd) rfl hr
theorem lxor (C : Ctx p s m meth c Z own nm B ml rt) {x y : Int64} (hd : decode B pc = .ok (.lxor, 1)) (hq : pc + 1 = q) (k' : ∀ z : Int64, z = x ^^^ y → Go p l e R s m args below meth c Z n0 P kc ks μ k n (mkF m q L (.long z :: st))) : Go p l e R s m args below meth c Z n0 P kc ks μ k n (mkF m pc L (.long y :: .long x :: st)) := by
  subst hq
  exact Go.pure (k' _ rfl) fun T h t hr => XS.lxor h C.1 rfl (hb C.2.1 hd) rfl hr
theorem ishl (C : Ctx p s m meth c Z own nm B ml rt) {x y : Int32} (hd : decode B pc = .ok (.ishl, 1)) (hq : pc + 1 = q) (k' : ∀ z : Int32, z = x <<< (y &&& 31) → Go p l e R s m args below meth c Z n0 P kc ks μ k n (mkF m q L (.int z :: st))) : Go p l e R s m args below meth c Z n0 P kc ks μ k n (mkF m pc L (.int y :: .int x :: st)) := by
  subst hq
  exact Go.pure (k' _ rfl) fun T h t hr => XS.ishl h C.1 rfl (hb C.2.1 hd) rfl hr
theorem ishr (C : Ctx p s m meth c Z own nm B ml rt) {x y : Int32} (hd : decode B pc = .ok (.ishr, 1)) (hq : pc + 1 = q) (k' : ∀ z : Int32, z = x >>> (y &&& 31) → Go p l e R s m args below meth c Z n0 P kc ks μ k n (mkF m q L (.int z :: st))) : Go p l e R s m args below meth c Z n0 P kc ks μ k n (mkF m pc L (.int y :: .int x :: st)) := by
  subst hq
  exact Go.pure (k' _ rfl) fun T h t hr => XS.ishr h C.1 rfl (hb C.2.1 hd) rfl hr
theorem iushr (C : Ctx p s m meth c Z own nm B ml rt) {x y : Int32} (hd : decode B pc = .ok (.iushr, 1)) (hq : pc + 1 = q) (k' : ∀ z : Int32, z = (x.toUInt32 >>> (y &&& 31).toUInt32).toInt32 → Go p l e R s m args below meth c Z n0 P kc ks μ k n (mkF m q L (.int z :: st))) : Go p l e R s m args below meth c Z n0 P kc ks μ k n (mkF m pc L (.int y :: .int x :: st)) := by
  subst hq
  exact Go.pure (k' _ rfl) fun T h t hr => XS.iushr h C.1 rfl (hb C.2.1 hd) rfl hr
theorem lshl (C : Ctx p s m meth c Z own nm B ml rt) {x : Int64} {y : Int32} (hd : decode B pc = .ok (.lshl, 1)) (hq : pc + 1 = q) (k' : ∀ z : Int64, z = x <<< (y &&& 0x3f).toInt64 → Go p l e R s m args below meth c Z n0 P kc ks μ k n (mkF m q L (.long z :: st))) : Go p l e R s m args below meth c Z n0 P kc ks μ k n (mkF m pc L (.int y :: .long x :: st)) := by
  subst hq
  exact Go.pure (k' _ rfl) fun T h t hr => XS.lshl h C.1 rfl (hb C.2.1 hd) rfl hr
theorem lshr (C : Ctx p s m meth c Z own nm B ml rt) {x : Int64} {y : Int32} (hd : decode B pc = .ok (.lshr, 1)) (hq : pc + 1 = q) (k' : ∀ z : Int64, z = x >>> (y &&& 0x3f).toInt64 → Go p l e R s m args below meth c Z n0 P kc ks μ k n (mkF m q L (.long z :: st))) : Go p l e R s m args below meth c Z n0 P kc ks μ k n (mkF m pc L (.int y :: .long x :: st)) := by
  subst hq
  exact Go.pure (k' _ rfl) fun T h t hr => XS.lshr h C.1 rfl (hb C.2.1 hd) rfl hr
theorem lushr (C : Ctx p s m meth c Z own nm B ml rt) {x : Int64} {y : Int32} (hd : decode B pc = .ok (.lushr, 1)) (hq : pc + 1 = q) (k' : ∀ z : Int64, z = (x.toUInt64 >>> (y &&& 0x3f).toInt64.toUInt64).toInt64 → Go p l e R s m args below meth c Z n0 P kc ks μ k n (mkF m q L (.long z :: st))) : Go p l e R s m args below meth c Z n0 P kc ks μ k n (mkF m pc L (.int y :: .long x :: st)) := by
  subst hq
  exact Go.pure (k' _ rfl) fun T h t hr => XS.lushr h C.1 rfl (hb C.2.1 hd) rfl hr
theorem idiv (C : Ctx p s m meth c Z own nm B ml rt) {x y : Int32} (hd : decode B pc = .ok (.idiv, 1)) (hq : pc + 1 = q) (hy : y ≠ 0) (k' : ∀ z : Int32, z = x / y → Go p l e R s m args below meth c Z n0 P kc ks μ k n (mkF m q L (.int z :: st))) : Go p l e R s m args below meth c Z n0 P kc ks μ k n (mkF m pc L (.int y :: .int x :: st)) := by
  subst hq
  exact Go.pure (k' _ rfl) fun T h t hr => XS.idiv h C.1 rfl (hb C.2.1 hd) rfl hy hr
theorem irem (C : Ctx p s m meth c Z own nm B ml rt) {x y : Int32} (hd : decode B pc = .ok (.irem, 1)) (hq : pc + 1 = q) (hy : y ≠ 0) (k' : ∀ z : Int32, z = x % y → Go p l e R s m args below meth c Z n0 P kc ks μ k n (mkF m q L (.int z :: st))) : Go p l e R s m args below meth c Z n0 P kc ks μ k n (mkF m pc L (.int y :: .int x :: st)) := by
  subst hq
  exact Go.pure (k' _ rfl) fun T h t hr => XS.irem h C.1 rfl (hb C.2.1 hd) rfl hy (by rw [irem_eq_mod]; exact hr)
theorem ldiv (C : Ctx p s m meth c Z own nm B ml rt) {x y : Int64} (hd : decode B pc = .ok (.ldiv, 1)) (hq : pc + 1 = q) (hy : y ≠ 0) (k' : ∀ z : Int64, z = x / y → Go p l e R s m args below meth c Z n0 P kc ks μ k n (mkF m q L (.long z :: st))) : Go p l e R s m args below meth c Z n0 P kc ks μ k n (mkF m pc L (.long y :: .long x :: st)) := by
  subst hq
  exact Go.pure (k' _ rfl) fun T h t hr => XS.ldiv h C.1 rfl (hb C.2.1 hd) rfl hy hr
theorem lrem (C : Ctx p s m meth c Z own nm B ml rt) {x y : Int64} (hd : decode B pc = .ok (.lrem, 1)) (hq : pc + 1 = q) (hy : y ≠ 0) (k' : ∀ z : Int64, z = x - (x / y) * y → Go p l e R s m args below meth c Z n0 P kc ks μ k n (mkF m q L (.long z :: st))) : Go p l e R s m args below meth c Z n0 P kc ks μ k n (mkF m pc L (.long y :: .long x :: st)) := by
  subst hq
  exact Go.pure (k' _ rfl) fun T h t hr => XS.lrem h C.1 rfl (hb C.2.1 hd) rfl hy hr
theorem ineg (C : Ctx p s m meth c Z own nm B ml rt) {x : Int32} (hd : decode B pc = .ok (.ineg, 1)) (hq : pc + 1 = q) (k' : ∀ z : Int32, z = -x → Go p l e R s m args below meth c Z n0 P kc ks μ k n (mkF m q L (.int z :: st))) : Go p l e R s m args below meth c Z n0 P kc ks μ k n (mkF m pc L (.int x :: st)) := by
  subst hq
  exact Go.pure (k' _ rfl) fun T h t hr => XS.ineg h C.1 rfl (hb C.2.1 hd) rfl hr
theorem lneg (C : Ctx p s m meth c Z own nm B ml rt) {x : Int64} (hd : decode B pc = .ok (.lneg, 1)) (hq : pc + 1 = q) (k' : ∀ z : Int64, z = -x → Go p l e R s m args below meth c Z n0 P kc ks μ k n (mkF m q L (.long z :: st))) : Go p l e R s m args below meth c Z n0 P kc ks μ k n (mkF m pc L (.long x :: st)) := by
  subst hq
  exact Go.pure (k' _ rfl) fun T h t hr => XS.lneg h C.1 rfl (hb C.2.1 hd) rfl hr
theorem i2l (C : Ctx p s m meth c Z own nm B ml rt) {x : Int32} (hd : decode B pc = .ok (.i2l, 1)) (hq : pc + 1 = q) (k' : ∀ z : Int64, z = x.toInt64 → Go p l e R s m args below meth c Z n0 P kc ks μ k n (mkF m q L (.long z :: st))) : Go p l e R s m args below meth c Z n0 P kc ks μ k n (mkF m pc L (.int x :: st)) := by
  subst hq
  exact Go.pure (k' _ rfl) fun T h t hr => XS.i2l h C.1 rfl (hb C.2.1 hd) rfl hr
theorem l2i (C : Ctx p s m meth c Z own nm B ml rt) {x : Int64} (hd : decode B pc = .ok (.l2i, 1)) (hq : pc + 1 = q) (k' : ∀ z : Int32, z = x.toInt32 → Go p l e R s m args below meth c Z n0 P kc ks μ k n (mkF m q L (.int z :: st))) : Go p l e R s m args below meth c Z n0 P kc ks μ k n (mkF m pc L (.long x :: st)) := by
  subst hq
  exact Go.pure (k' _ rfl) fun T h t hr => XS.l2i h C.1 rfl (hb C.2.1 hd) rfl hr
theorem i2b (C : Ctx p s m meth c Z own nm B ml rt) {x : Int32} (hd : decode B pc = .ok (.i2b, 1)) (hq : pc + 1 = q) (k' : ∀ z : Int32, z = x.toInt8.toInt32 → Go p l e R s m args below meth c Z n0 P kc ks μ k n (mkF m q L (.int z :: st))) : Go p l e R s m args below meth c Z n0 P kc ks μ k n (mkF m pc L (.int x :: st)) := by
  subst hq
  exact Go.pure (k' _ rfl) fun T h t hr => XS.i2b h C.1 rfl (hb C.2.1 hd) rfl hr
theorem i2s (C : Ctx p s m meth c Z own nm B ml rt) {x : Int32} (hd : decode B pc = .ok (.i2s, 1)) (hq : pc + 1 = q) (k' : ∀ z : Int32, z = x.toInt16.toInt32 → Go p l e R s m args below meth c Z n0 P kc ks μ k n (mkF m q L (.int z :: st))) : Go p l e R s m args below meth c Z n0 P kc ks μ k n (mkF m pc L (.int x :: st)) := by
  subst hq
  exact Go.pure (k' _ rfl) fun T h t hr => XS.i2s h C.1 rfl (hb C.2.1 hd) rfl hr
theorem i2c (C : Ctx p s m meth c Z own nm B ml rt) {x : Int32} (hd : decode B pc = .ok (.i2c, 1)) (hq : pc + 1 = q) (k' : ∀ z : Int32, z = x.toUInt32.toUInt16.toUInt32.toInt32 → Go p l e R s m args below meth c Z n0 P kc ks μ k n (mkF m q L (.int z :: st))) : Go p l e R s m args below meth c Z n0 P kc ks μ k n (mkF m pc L (.int x :: st)) := by
  subst hq
  exact Go.pure (k' _ rfl) fun T h t hr => XS.i2c h C.1 rfl (hb C.2.1 hd) rfl hr
theorem iloadN (C : Ctx p s m meth c Z own nm B ml rt) {i : Fin 4} {v : Int32} (hd : decode B pc = .ok (.iload_n i, 1)) (hq : pc + 1 = q) (hl : L[i.val]? = some (.val (.int v))) (k' : Go p l e R s m args below meth c Z n0 P kc ks μ k n (mkF m q L (.int v :: st))) : Go p l e R s m args below meth c Z n0 P kc ks μ k n (mkF m pc L st) := by
  subst hq
  exact Go.pure k' fun T h t hr => XS.iloadN h C.1 rfl (hb C.2.1 hd) hl hr
theorem iload (C : Ctx p s m meth c Z own nm B ml rt) {i : Nat} {v : Int32} (hd : decode B pc = .ok (.iload i, 2)) (hq : pc + 2 = q) (hl : L[i]? = some (.val (.int v))) (k' : Go p l e R s m args below meth c Z n0 P kc ks μ k n (mkF m q L (.int v :: st))) : Go p l e R s m args below meth c Z n0 P kc ks μ k n (mkF m pc L st) := by
  subst hq
  exact Go.pure k' fun T h t hr => XS.iload h C.1 rfl (hb C.2.1 hd) hl hr
theorem istoreN (C : Ctx p s m meth c Z own nm B ml rt) {i : Fin 4} {v : Int32} (hd : decode B pc = .ok (.istore_n i, 1)) (hq : pc + 1 = q) (hl : storeLocals L i.val (.int v) = some L') (k' : Go p l e R s m args below meth c Z n0 P kc ks μ k n (mkF m q L' st)) : Go p l e R s m args below meth c Z n0 P kc ks μ k n (mkF m pc L (.int v :: st)) := by
  subst hq
  exact Go.pure k' fun T h t hr => XS.istoreN h C.1 rfl (hb C.2.1 hd) rfl hl hr
theorem istore (C : Ctx p s m meth c Z own nm B ml rt) {i : Nat} {v : Int32} (hd : decode B pc = .ok (.istore i, 2)) (hq : pc + 2 = q) (hl : storeLocals L i (.int v) = some L') (k' : Go p l e R s m args below meth c Z n0 P kc ks μ k n (mkF m q L' st)) : Go p l e R s m args below meth c Z n0 P kc ks μ k n (mkF m pc L (.int v :: st)) := by
  subst hq
  exact Go.pure k' fun T h t hr => XS.istore h C.1 rfl (hb C.2.1 hd) rfl hl hr
theorem lloadN (C : Ctx p s m meth c Z own nm B ml rt) {i : Fin 4} {v : Int64} (hd : decode B pc = .ok (.lload_n i, 1)) (hq : pc + 1 = q) (hl : L[i.val]? = some (.val (.long v))) (k' : Go p l e R s m args below meth c Z n0 P kc ks μ k n (mkF m q L (.long v :: st))) : Go p l e R s m args below meth c Z n0 P kc ks μ k n (mkF m pc L st) := by
  subst hq
  exact Go.pure k' fun T h t hr => XS.lloadN h C.1 rfl (hb C.2.1 hd) hl hr
theorem lload (C : Ctx p s m meth c Z own nm B ml rt) {i : Nat} {v : Int64} (hd : decode B pc = .ok (.lload i, 2)) (hq : pc + 2 = q) (hl : L[i]? = some (.val (.long v))) (k' : Go p l e R s m args below meth c Z n0 P kc ks μ k n (mkF m q L (.long v :: st))) : Go p l e R s m args below meth c Z n0 P kc ks μ k n (mkF m pc L st) := by
  subst hq
  exact Go.pure k' fun T h t hr => XS.lload h C.1 rfl (hb C.2.1 hd) hl hr
theorem lstoreN (C : Ctx p s m meth c Z own nm B ml rt) {i : Fin 4} {v : Int64} (hd : decode B pc = .ok (.lstore_n i, 1)) (hq : pc + 1 = q) (hl : storeLocals L i.val (.long v) = some L') (k' : Go p l e R s m args below meth c Z n0 P kc ks μ k n (mkF m q L' st)) : Go p l e R s m args below meth c Z n0 P kc ks μ k n (mkF m pc L (.long v :: st)) := by
  subst hq
  exact Go.pure k' fun T h t hr => XS.lstoreN h C.1 rfl (hb C.2.1 hd) rfl hl hr
theorem lstore (C : Ctx p s m meth c Z own nm B ml rt) {i : Nat} {v : Int64} (hd : decode B pc = .ok (.lstore i, 2)) (hq : pc + 2 = q) (hl : storeLocals L i (.long v) = some L') (k' : Go p l e R s m args below meth c Z n0 P kc ks μ k n (mkF m q L' st)) : Go p l e R s m args below meth c Z n0 P kc ks μ k n (mkF m pc L (.long v :: st)) := by
  subst hq
  exact Go.pure k' fun T h t hr => XS.lstore h C.1 rfl (hb C.2.1 hd) rfl hl hr
theorem aloadN (C : Ctx p s m meth c Z own nm B ml rt) {i : Fin 4} {v : Value} (hd : decode B pc = .ok (.aload_n i, 1)) (hq : pc + 1 = q) (hl : L[i.val]? = some (.val v)) (hv : v.isRef = true) (k' : Go p l e R s m args below meth c Z n0 P kc ks μ k n (mkF m q L (v :: st))) : Go p l e R s m args below meth c Z n0 P kc ks μ k n (mkF m pc L st) := by
  subst hq
  exact Go.pure k' fun T h t hr => XS.aloadN h C.1 rfl (hb C.2.1 hd) hl hv hr
theorem aload (C : Ctx p s m meth c Z own nm B ml rt) {i : Nat} {v : Value} (hd : decode B pc = .ok (.aload i, 2)) (hq : pc + 2 = q) (hl : L[i]? = some (.val v)) (hv : v.isRef = true) (k' : Go p l e R s m args below meth c Z n0 P kc ks μ k n (mkF m q L (v :: st))) : Go p l e R s m args below meth c Z n0 P kc ks μ k n (mkF m pc L st) := by
  subst hq
  exact Go.pure k' fun T h t hr => XS.aload h C.1 rfl (hb C.2.1 hd) hl hv hr
theorem astoreN (C : Ctx p s m meth c Z own nm B ml rt) {i : Fin 4} {v : Value} (hd : decode B pc = .ok (.astore_n i, 1)) (hq : pc + 1 = q) (hl : storeLocals L i.val v = some L') (hv : v.isRef = true) (k' : Go p l e R s m args below meth c Z n0 P kc ks μ k n (mkF m q L' st)) : Go p l e R s m args below meth c Z n0 P kc ks μ k n (mkF m pc L (v :: st)) := by
  subst hq
  exact Go.pure k' fun T h t hr => XS.astoreN h C.1 rfl (hb C.2.1 hd) rfl hv hl hr
theorem astore (C : Ctx p s m meth c Z own nm B ml rt) {i : Nat} {v : Value} (hd : decode B pc = .ok (.astore i, 2)) (hq : pc + 2 = q) (hl : storeLocals L i v = some L') (hv : v.isRef = true) (k' : Go p l e R s m args below meth c Z n0 P kc ks μ k n (mkF m q L' st)) : Go p l e R s m args below meth c Z n0 P kc ks μ k n (mkF m pc L (v :: st)) := by
  subst hq
  exact Go.pure k' fun T h t hr => XS.astore h C.1 rfl (hb C.2.1 hd) rfl hv hl hr
theorem iconst (C : Ctx p s m meth c Z own nm B ml rt) {i : Int} {z : Int32} (hd : decode B pc = .ok (.iconst i, 1)) (hq : pc + 1 = q) (hz : Int32.ofInt i = z) (k' : Go p l e R s m args below meth c Z n0 P kc ks μ k n (mkF m q L (.int z :: st))) : Go p l e R s m args below meth c Z n0 P kc ks μ k n (mkF m pc L st) := by
  subst hq
  exact Go.pure k' fun T h t hr => XS.iconst h C.1 rfl (hb C.2.1 hd) (by rw [hz]; exact hr)
theorem bipush (C : Ctx p s m meth c Z own nm B ml rt) {i : Int} {z : Int32} (hd : decode B pc = .ok (.bipush i, 2)) (hq : pc + 2 = q) (hz : (Int8.ofInt i).toInt32 = z) (k' : Go p l e R s m args below meth c Z n0 P kc ks μ k n (mkF m q L (.int z :: st))) : Go p l e R s m args below meth c Z n0 P kc ks μ k n (mkF m pc L st) := by
  subst hq
  exact Go.pure k' fun T h t hr => XS.bipush h C.1 rfl (hb C.2.1 hd) (by rw [hz]; exact hr)
theorem sipush (C : Ctx p s m meth c Z own nm B ml rt) {i : Int} {z : Int32} (hd : decode B pc = .ok (.sipush i, 3)) (hq : pc + 3 = q) (hz : (Int16.ofInt i).toInt32 = z) (k' : Go p l e R s m args below meth c Z n0 P kc ks μ k n (mkF m q L (.int z :: st))) : Go p l e R s m args below meth c Z n0 P kc ks μ k n (mkF m pc L st) := by
  subst hq
  exact Go.pure k' fun T h t hr => XS.sipush h C.1 rfl (hb C.2.1 hd) (by rw [hz]; exact hr)
theorem lconst (C : Ctx p s m meth c Z own nm B ml rt) {i : Fin 2} {z : Int64} (hd : decode B pc = .ok (.lconst i, 1)) (hq : pc + 1 = q) (hz : Int64.ofNat i = z) (k' : Go p l e R s m args below meth c Z n0 P kc ks μ k n (mkF m q L (.long z :: st))) : Go p l e R s m args below meth c Z n0 P kc ks μ k n (mkF m pc L st) := by
  subst hq
  exact Go.pure k' fun T h t hr => XS.lconst h C.1 rfl (hb C.2.1 hd) (by rw [hz]; exact hr)
theorem aconstNull (C : Ctx p s m meth c Z own nm B ml rt)  (hd : decode B pc = .ok (.aconst_null, 1)) (hq : pc + 1 = q) (k' : Go p l e R s m args below meth c Z n0 P kc ks μ k n (mkF m q L (.null :: st))) : Go p l e R s m args below meth c Z n0 P kc ks μ k n (mkF m pc L st) := by
  subst hq
  exact Go.pure k' fun T h t hr => XS.aconstNull h C.1 rfl (hb C.2.1 hd) hr
theorem dup (C : Ctx p s m meth c Z own nm B ml rt) {v : Value} (hd : decode B pc = .ok (.dup, 1)) (hq : pc + 1 = q) (hv : v.category = 1) (k' : Go p l e R s m args below meth c Z n0 P kc ks μ k n (mkF m q L (v :: v :: st))) : Go p l e R s m args below meth c Z n0 P kc ks μ k n (mkF m pc L (v :: st)) := by
  subst hq
  exact Go.pure k' fun T h t hr => XS.dup h C.1 rfl (hb C.2.1 hd) rfl hv hr
theorem pop (C : Ctx p s m meth c Z own nm B ml rt) {v : Value} (hd : decode B pc = .ok (.pop, 1)) (hq : pc + 1 = q) (hv : v.category = 1) (k' : Go p l e R s m args below meth c Z n0 P kc ks μ k n (mkF m q L st)) : Go p l e R s m args below meth c Z n0 P kc ks μ k n (mkF m pc L (v :: st)) := by
  subst hq
  exact Go.pure k' fun T h t hr => XS.pop h C.1 rfl (hb C.2.1 hd) rfl hv hr
theorem dupX1 (C : Ctx p s m meth c Z own nm B ml rt) {v w : Value} (hd : decode B pc = .ok (.dup_x1, 1)) (hq : pc + 1 = q) (hv : v.category = 1) (hw : w.category = 1) (k' : Go p l e R s m args below meth c Z n0 P kc ks μ k n (mkF m q L (v :: w :: v :: st))) : Go p l e R s m args below meth c Z n0 P kc ks μ k n (mkF m pc L (v :: w :: st)) := by
  subst hq
  exact Go.pure k' fun T h t hr => XS.dupX1 h C.1 rfl (hb C.2.1 hd) rfl hv hw hr
theorem dup2 (C : Ctx p s m meth c Z own nm B ml rt) {v w : Value} (hd : decode B pc = .ok (.dup2, 1)) (hq : pc + 1 = q) (hv : v.category = 1) (hw : w.category = 1) (k' : Go p l e R s m args below meth c Z n0 P kc ks μ k n (mkF m q L (v :: w :: v :: w :: st))) : Go p l e R s m args below meth c Z n0 P kc ks μ k n (mkF m pc L (v :: w :: st)) := by
  subst hq
  exact Go.pure k' fun T h t hr => XT.dup2 h C.1 rfl (hb C.2.1 hd) rfl hv hw hr
theorem dup2L (C : Ctx p s m meth c Z own nm B ml rt) {x : Int64} (hd : decode B pc = .ok (.dup2, 1)) (hq : pc + 1 = q) (k' : Go p l e R s m args below meth c Z n0 P kc ks μ k n (mkF m q L (.long x :: .long x :: st))) : Go p l e R s m args below meth c Z n0 P kc ks μ k n (mkF m pc L (.long x :: st)) := by
  subst hq
  exact Go.pure k' fun T h t hr => XT.dup2L h C.1 rfl (hb C.2.1 hd) rfl hr
theorem iinc (C : Ctx p s m meth c Z own nm B ml rt) {i : Nat} {d : Int} {x z : Int32} (hd : decode B pc = .ok (.iinc i d, 3)) (hq : pc + 3 = q) (hl : L[i]? = some (.val (.int x))) (hz : x + Int32.ofInt d = z) (hl' : storeLocals L i (.int z) = some L') (k' : Go p l e R s m args below meth c Z n0 P kc ks μ k n (mkF m q L' st)) : Go p l e R s m args below meth c Z n0 P kc ks μ k n (mkF m pc L st) := by
  subst hq
  exact Go.pure k' fun T h t hr => XS.iinc h C.1 rfl (hb C.2.1 hd) hl (by rw [hz]; exact hl') hr
theorem goto (C : Ctx p s m meth c Z own nm B ml rt) {o : Int} (hd : decode B pc = .ok (.goto o, 3)) (hq : 0 ≤ (pc : Int) + o ∧ ((pc : Int) + o).toNat = q) (k' : Go p l e R s m args below meth c Z n0 P kc ks μ k n (mkF m q L st)) : Go p l e R s m args below meth c Z n0 P kc ks μ k n (mkF m pc L st) := Go.pure k' fun T h t hr => XS.goto h C.1 rfl rfl (hb C.2.1 hd) hq.1 hq.2 hr
theorem icmp_eq (C : Ctx p s m meth c Z own nm B ml rt) {x y : Int32} {o : Int} {r : Nat} (hd : decode B pc = .ok (.if_icmp .eq o, 3)) (hq : pc + 3 = q) (hr : 0 ≤ (pc : Int) + o ∧ ((pc : Int) + o).toNat = r) (ky : x = y → Go p l e R s m args below meth c Z n0 P kc ks μ k n (mkF m r L st)) (kn : ¬ x = y → Go p l e R s m args below meth c Z n0 P kc ks μ k n (mkF m q L st)) : Go p l e R s m args below meth c Z n0 P kc ks μ k n (mkF m pc L (.int y :: .int x :: st)) := by
  subst hq
  by_cases hc : x = y
  · exact Go.pure (ky hc) fun T h t k => XS.icmpYes h C.1 rfl rfl (hb C.2.1 hd) rfl (XT.ii_eq_t hc) hr.1 hr.2 k
  · exact Go.pure (kn (by first | exact hc | exact Decidable.of_not_not hc)) fun T h t k => XS.icmpNo h C.1 rfl (hb C.2.1 hd) rfl (XT.ii_eq_f (by first | exact hc | exact Decidable.of_not_not hc)) k
theorem if_eq (C : Ctx p s m meth c Z own nm B ml rt) {x : Int32} {o : Int} {r : Nat} (hd : decode B pc = .ok (.ifCond .eq o, 3)) (hq : pc + 3 = q) (hr : 0 ≤ (pc : Int) + o ∧ ((pc : Int) + o).toNat = r) (ky : x = 0 → Go p l e R s m args below meth c Z n0 P kc ks μ k n (mkF m r L st)) (kn : ¬ x = 0 → Go p l e R s m args below meth c Z n0 P kc ks μ k n (mkF m q L st)) : Go p l e R s m args below meth c Z n0 P kc ks μ k n (mkF m pc L (.int x :: st)) := by
  subst hq
  by_cases hc : x = 0
  · exact Go.pure (ky hc) fun T h t k => XS.ifYes h C.1 rfl rfl (hb C.2.1 hd) rfl (XT.i0_eq_t hc) hr.1 hr.2 k
  · exact Go.pure (kn (by first | exact hc | exact Decidable.of_not_not hc)) fun T h t k => XS.ifNo h C.1 rfl (hb C.2.1 hd) rfl (XT.i0_eq_f (by first | exact hc | exact Decidable.of_not_not hc)) k
theorem lcmp_eq (C : Ctx p s m meth c Z own nm B ml rt) {x y : Int64} {o : Int} {r pc1 : Nat} (hd0 : decode B pc = .ok (.lcmp, 1)) (h1 : pc + 1 = pc1) (hd : decode B pc1 = .ok (.ifCond .eq o, 3)) (hq : pc1 + 3 = q) (hr : 0 ≤ (pc1 : Int) + o ∧ ((pc1 : Int) + o).toNat = r) (ky : x = y → Go p l e R s m args below meth c Z n0 P kc ks μ k n (mkF m r L st)) (kn : ¬ x = y → Go p l e R s m args below meth c Z n0 P kc ks μ k n (mkF m q L st)) : Go p l e R s m args below meth c Z n0 P kc ks μ k n (mkF m pc L (.long y :: .long x :: st)) := by
  subst hq h1
  refine Go.pure (g' := mkF m (pc + 1) L (.int (XT.cmpL x y) :: st)) ?_ fun T h t k => XT.lcmp h C.1 rfl (hb C.2.1 hd0) rfl k
  by_cases hc : x = y
  · exact Go.pure (ky hc) fun T h t k => XS.ifYes h C.1 rfl rfl (hb C.2.1 hd) rfl (XT.ll_eq_t hc) hr.1 hr.2 k
  · exact Go.pure (kn (by first | exact hc | exact Decidable.of_not_not hc)) fun T h t k => XS.ifNo h C.1 rfl (hb C.2.1 hd) rfl (XT.ll_eq_f (by first | exact hc | exact Decidable.of_not_not hc)) k
theorem icmp_ne (C : Ctx p s m meth c Z own nm B ml rt) {x y : Int32} {o : Int} {r : Nat} (hd : decode B pc = .ok (.if_icmp .ne o, 3)) (hq : pc + 3 = q) (hr : 0 ≤ (pc : Int) + o ∧ ((pc : Int) + o).toNat = r) (ky : ¬ x = y → Go p l e R s m args below meth c Z n0 P kc ks μ k n (mkF m r L st)) (kn : x = y → Go p l e R s m args below meth c Z n0 P kc ks μ k n (mkF m q L st)) : Go p l e R s m args below meth c Z n0 P kc ks μ k n (mkF m pc L (.int y :: .int x :: st)) := by
  subst hq
  by_cases hc : ¬ x = y
  · exact Go.pure (ky hc) fun T h t k => XS.icmpYes h C.1 rfl rfl (hb C.2.1 hd) rfl (XT.ii_ne_t hc) hr.1 hr.2 k
  · exact Go.pure (kn (by first | exact hc | exact Decidable.of_not_not hc)) fun T h t k => XS.icmpNo h C.1 rfl (hb C.2.1 hd) rfl (XT.ii_ne_f (by first | exact hc | exact Decidable.of_not_not hc)) k
theorem if_ne (C : Ctx p s m meth c Z own nm B ml rt) {x : Int32} {o : Int} {r : Nat} (hd : decode B pc = .ok (.ifCond .ne o, 3)) (hq : pc + 3 = q) (hr : 0 ≤ (pc : Int) + o ∧ ((pc : Int) + o).toNat = r) (ky : ¬ x = 0 → Go p l e R s m args below meth c Z n0 P kc ks μ k n (mkF m r L st)) (kn : x = 0 → Go p l e R s m args below meth c Z n0 P kc ks μ k n (mkF m q L st)) : Go p l e R s m args below meth c Z n0 P kc ks μ k n (mkF m pc L (.int x :: st)) := by
  subst hq
  by_cases hc : ¬ x = 0
  · exact Go.pure (ky hc) fun T h t k => XS.ifYes h C.1 rfl rfl (hb C.2.1 hd) rfl (XT.i0_ne_t hc) hr.1 hr.2 k
  · exact Go.pure (kn (by first | exact hc | exact Decidable.of_not_not hc)) fun T h t k => XS.ifNo h C.1 rfl (hb C.2.1 hd) rfl (XT.i0_ne_f (by first | exact hc | exact Decidable.of_not_not hc)) k
theorem lcmp_ne (C : Ctx p s m meth c Z own nm B ml rt) {x y : Int64} {o : Int} {r pc1 : Nat} (hd0 : decode B pc = .ok (.lcmp, 1)) (h1 : pc + 1 = pc1) (hd : decode B pc1 = .ok (.ifCond .ne o, 3)) (hq : pc1 + 3 = q) (hr : 0 ≤ (pc1 : Int) + o ∧ ((pc1 : Int) + o).toNat = r) (ky : ¬ x = y → Go p l e R s m args below meth c Z n0 P kc ks μ k n (mkF m r L st)) (kn : x = y → Go p l e R s m args below meth c Z n0 P kc ks μ k n (mkF m q L st)) : Go p l e R s m args below meth c Z n0 P kc ks μ k n (mkF m pc L (.long y :: .long x :: st)) := by
  subst hq h1
  refine Go.pure (g' := mkF m (pc + 1) L (.int (XT.cmpL x y) :: st)) ?_ fun T h t k => XT.lcmp h C.1 rfl (hb C.2.1 hd0) rfl k
  by_cases hc : ¬ x = y
  · exact Go.pure (ky hc) fun T h t k => XS.ifYes h C.1 rfl rfl (hb C.2.1 hd) rfl (XT.ll_ne_t hc) hr.1 hr.2 k
  · exact Go.pure (kn (by first | exact hc | exact Decidable.of_not_not hc)) fun T h t k => XS.ifNo h C.1 rfl (hb C.2.1 hd) rfl (XT.ll_ne_f (by first | exact hc | exact Decidable.of_not_not hc)) k
theorem icmp_lt (C : Ctx p s m meth c Z own nm B ml rt) {x y : Int32} {o : Int} {r : Nat} (hd : decode B pc = .ok (.if_icmp .lt o, 3)) (hq : pc + 3 = q) (hr : 0 ≤ (pc : Int) + o ∧ ((pc : Int) + o).toNat = r) (ky : x < y → Go p l e R s m args below meth c Z n0 P kc ks μ k n (mkF m r L st)) (kn : ¬ x < y → Go p l e R s m args below meth c Z n0 P kc ks μ k n (mkF m q L st)) : Go p l e R s m args below meth c Z n0 P kc ks μ k n (mkF m pc L (.int y :: .int x :: st)) := by
  subst hq
  by_cases hc : x < y
  · exact Go.pure (ky hc) fun T h t k => XS.icmpYes h C.1 rfl rfl (hb C.2.1 hd) rfl (XT.ii_lt_t hc) hr.1 hr.2 k
  · exact Go.pure (kn (by first | exact hc | exact Decidable.of_not_not hc)) fun T h t k => XS.icmpNo h C.1 rfl (hb C.2.1 hd) rfl (XT.ii_lt_f (by first | exact hc | exact Decidable.of_not_not hc)) k
theorem if_lt (C : Ctx p s m meth c Z own nm B ml rt) {x : Int32} {o : Int} {r : Nat} (hd : decode B pc = .ok (.ifCond .lt o, 3)) (hq : pc + 3 = q) (hr : 0 ≤ (pc : Int) + o ∧ ((pc : Int) + o).toNat = r) (ky : x < 0 → Go p l e R s m args below meth c Z n0 P kc ks μ k n (mkF m r L st)) (kn : ¬ x < 0 → Go p l e R s m args below meth c Z n0 P kc ks μ k n (mkF m q L st)) : Go p l e R s m args below meth c Z n0 P kc ks μ k n (mkF m pc L (.int x :: st)) := by
  subst hq
  by_cases hc : x < 0
  · exact Go.pure (ky hc) fun T h t k => XS.ifYes h C.1 rfl rfl (hb C.2.1 hd) rfl (XT.i0_lt_t hc) hr.1 hr.2 k
  · exact Go.pure (kn (by first | exact hc | exact Decidable.of_not_not hc)) fun T h t k => XS.ifNo h C.1 rfl (hb C.2.1 hd) rfl (XT.i0_lt_f (by first | exact hc | exact Decidable.of_not_not hc)) k
theorem lcmp_lt (C : Ctx p s m meth c Z own nm B ml rt) {x y : Int64} {o : Int} {r pc1 : Nat} (hd0 : decode B pc = .ok (.lcmp, 1)) (h1 : pc + 1 = pc1) (hd : decode B pc1 = .ok (.ifCond .lt o, 3)) (hq : pc1 + 3 = q) (hr : 0 ≤ (pc1 : Int) + o ∧ ((pc1 : Int) + o).toNat = r) (ky : x < y → Go p l e R s m args below meth c Z n0 P kc ks μ k n (mkF m r L st)) (kn : ¬ x < y → Go p l e R s m args below meth c Z n0 P kc ks μ k n (mkF m q L st)) : Go p l e R s m args below meth c Z n0 P kc ks μ k n (mkF m pc L (.long y :: .long x :: st)) := by
  subst hq h1
  refine Go.pure (g' := mkF m (pc + 1) L (.int (XT.cmpL x y) :: st)) ?_ fun T h t k => XT.lcmp h C.1 rfl (hb C.2.1 hd0) rfl k
  by_cases hc : x < y
  · exact Go.pure (ky hc) fun T h t k => XS.ifYes h C.1 rfl rfl (hb C.2.1 hd) rfl (XT.ll_lt_t hc) hr.1 hr.2 k
  · exact Go.pure (kn (by first | exact hc | exact Decidable.of_not_not hc)) fun T h t k => XS.ifNo h C.1 rfl (hb C.2.1 hd) rfl (XT.ll_lt_f (by first | exact hc | exact Decidable.of_not_not hc)) k
theorem icmp_ge (C : Ctx p s m meth c Z own nm B ml rt) {x y : Int32} {o : Int} {r : Nat} (hd : decode B pc = .ok (.if_icmp .ge o, 3)) (hq : pc + 3 = q) (hr : 0 ≤ (pc : Int) + o ∧ ((pc : Int) + o).toNat = r) (ky : ¬ x < y → Go p l e R s m args below meth c Z n0 P kc ks μ k n (mkF m r L st)) (kn : x < y → Go p l e R s m args below meth c Z n0 P kc ks μ k n (mkF m q L st)) : Go p l e R s m args below meth c Z n0 P kc ks μ k n (mkF m pc L (.int y :: .int x :: st)) := by
  subst hq
  by_cases hc : ¬ x < y
  · exact Go.pure (ky hc) fun T h t k => XS.icmpYes h C.1 rfl rfl (hb C.2.1 hd) rfl (XT.ii_ge_t hc) hr.1 hr.2 k
  · exact Go.pure (kn (by first | exact hc | exact Decidable.of_not_not hc)) fun T h t k => XS.icmpNo h C.1 rfl (hb C.2.1 hd) rfl (XT.ii_ge_f (by first | exact hc | exact Decidable.of_not_not hc)) k
theorem if_ge (C : Ctx p s m meth c Z own nm B ml rt) {x : Int32} {o : Int} {r : Nat} (hd : decode B pc = .ok (.ifCond .ge o, 3)) (hq : pc + 3 = q) (hr : 0 ≤ (pc : Int) + o ∧ ((pc : Int) + o).toNat = r) (ky : ¬ x < 0 → Go p l e R s m args below meth c Z n0 P kc ks μ k n (mkF m r L st)) (kn : x < 0 → Go p l e R s m args below meth c Z n0 P kc ks μ k n (mkF m q L st)) : Go p l e R s m args below meth c Z n0 P kc ks μ k n (mkF m pc L (.int x :: st)) := by
  subst hq
  by_cases hc : ¬ x < 0
  · exact Go.pure (ky hc) fun T h t k => XS.ifYes h C.1 rfl rfl (hb C.2.1 hd) rfl (XT.i0_ge_t hc) hr.1 hr.2 k
  · exact Go.pure (kn (by first | exact hc | exact Decidable.of_not_not hc)) fun T h t k => XS.ifNo h C.1 rfl (hb C.2.1 hd) rfl (XT.i0_ge_f (by first | exact hc | exact Decidable.of_not_not hc)) k
theorem lcmp_ge (C : Ctx p s m meth c Z own nm B ml rt) {x y : Int64} {o : Int} {r pc1 : Nat} (hd0 : decode B pc = .ok (.lcmp, 1)) (h1 : pc + 1 = pc1) (hd : decode B pc1 = .ok (.ifCond .ge o, 3)) (hq : pc1 + 3 = q) (hr : 0 ≤ (pc1 : Int) + o ∧ ((pc1 : Int) + o).toNat = r) (ky : ¬ x < y → Go p l e R s m args below meth c Z n0 P kc ks μ k n (mkF m r L st)) (kn : x < y → Go p l e R s m args below meth c Z n0 P kc ks μ k n (mkF m q L st)) : Go p l e R s m args below meth c Z n0 P kc ks μ k n (mkF m pc L (.long y :: .long x :: st)) := by
  subst hq h1
  refine Go.pure (g' := mkF m (pc + 1) L (.int (XT.cmpL x y) :: st)) ?_ fun T h t k => XT.lcmp h C.1 rfl (hb C.2.1 hd0) rfl k
  by_cases hc : ¬ x < y
  · exact Go.pure (ky hc) fun T h t k => XS.ifYes h C.1 rfl rfl (hb C.2.1 hd) rfl (XT.ll_ge_t hc) hr.1 hr.2 k
  · exact Go.pure (kn (by first | exact hc | exact Decidable.of_not_not hc)) fun T h t k => XS.ifNo h C.1 rfl (hb C.2.1 hd) rfl (XT.ll_ge_f (by first | exact hc | exact Decidable.of_not_not hc)) k
theorem icmp_gt (C : Ctx p s m meth c Z own nm B ml rt) {x y : Int32} {o : Int} {r : Nat} (hd : decode B pc = .ok (.if_icmp .gt o, 3)) (hq : pc + 3 = q) (hr : 0 ≤ (pc : Int) + o ∧ ((pc : Int) + o).toNat = r) (ky : y < x → Go p l e R s m args below meth c Z n0 P kc ks μ k n (mkF m r L st)) (kn : ¬ y < x → Go p l e R s m args below meth c Z n0 P kc ks μ k n (mkF m q L st)) : Go p l e R s m args below meth c Z n0 P kc ks μ k n (mkF m pc L (.int y :: .int x :: st)) := by
  subst hq
  by_cases hc : y < x
  · exact Go.pure (ky hc) fun T h t k => XS.icmpYes h C.1 rfl rfl (hb C.2.1 hd) rfl (XT.ii_gt_t hc) hr.1 hr.2 k
  · exact Go.pure (kn (by first | exact hc | exact Decidable.of_not_not hc)) fun T h t k => XS.icmpNo h C.1 rfl (hb C.2.1 hd) rfl (XT.ii_gt_f (by first | exact hc | exact Decidable.of_not_not hc)) k
theorem if_gt (C : Ctx p s m meth c Z own nm B ml rt) {x : Int32} {o : Int} {r : Nat} (hd : decode B pc = .ok (.ifCond .gt o, 3)) (hq : pc + 3 = q) (hr : 0 ≤ (pc : Int) + o ∧ ((pc : Int) + o).toNat = r) (ky : 0 < x → Go p l e R s m args below meth c Z n0 P kc ks μ k n (mkF m r L st)) (kn : ¬ 0 < x → Go p l e R s m args below meth c Z n0 P kc ks μ k n (mkF m q L st)) : Go p l e R s m args below meth c Z n0 P kc ks μ k n (mkF m pc L (.int x :: st)) := by
  subst hq
  by_cases hc : 0 < x
  · exact Go.pure (ky hc) fun T h t k => XS.ifYes h C.1 rfl rfl (hb C.2.1 hd) rfl (XT.i0_gt_t hc) hr.1 hr.2 k
  · exact Go.pure (kn (by first | exact hc | exact Decidable.of_not_not hc)) fun T h t k => XS.ifNo h C.1 rfl (hb C.2.1 hd) rfl (XT.i0_gt_f (by first | exact hc | exact Decidable.of_not_not hc)) k
theorem lcmp_gt (C : Ctx p s m meth c Z own nm B ml rt) {x y : Int64} {o : Int} {r pc1 : Nat} (hd0 : decode B pc = .ok (.lcmp, 1)) (h1 : pc + 1 = pc1) (hd : decode B pc1 = .ok (.ifCond .gt o, 3)) (hq : pc1 + 3 = q) (hr : 0 ≤ (pc1 : Int) + o ∧ ((pc1 : Int) + o).toNat = r) (ky : y < x → Go p l e R s m args below meth c Z n0 P kc ks μ k n (mkF m r L st)) (kn : ¬ y < x → Go p l e R s m args below meth c Z n0 P kc ks μ k n (mkF m q L st)) : Go p l e R s m args below meth c Z n0 P kc ks μ k n (mkF m pc L (.long y :: .long x :: st)) := by
  subst hq h1
  refine Go.pure (g' := mkF m (pc + 1) L (.int (XT.cmpL x y) :: st)) ?_ fun T h t k => XT.lcmp h C.1 rfl (hb C.2.1 hd0) rfl k
  by_cases hc : y < x
  · exact Go.pure (ky hc) fun T h t k => XS.ifYes h C.1 rfl rfl (hb C.2.1 hd) rfl (XT.ll_gt_t hc) hr.1 hr.2 k
  · exact Go.pure (kn (by first | exact hc | exact Decidable.of_not_not hc)) fun T h t k => XS.ifNo h C.1 rfl (hb C.2.1 hd) rfl (XT.ll_gt_f (by first | exact hc | exact Decidable.of_not_not hc)) k
theorem icmp_le (C : Ctx p s m meth c Z own nm B ml rt) {x y : Int32} {o : Int} {r : Nat} (hd : decode B pc = .ok (.if_icmp .le o, 3)) (hq : pc + 3 = q) (hr : 0 ≤ (pc : Int) + o ∧ ((pc : Int) + o).toNat = r) (ky : ¬ y < x → Go p l e R s m args below meth c Z n0 P kc ks μ k n (mkF m r L st)) (kn : y < x → Go p l e R s m args below meth c Z n0 P kc ks μ k n (mkF m q L st)) : Go p l e R s m args below meth c Z n0 P kc ks μ k n (mkF m pc L (.int y :: .int x :: st)) := by
  subst hq
  by_cases hc : ¬ y < x
  · exact Go.pure (ky hc) fun T h t k => XS.icmpYes h C.1 rfl rfl (hb C.2.1 hd) rfl (XT.ii_le_t hc) hr.1 hr.2 k
  · exact Go.pure (kn (by first | exact hc | exact Decidable.of_not_not hc)) fun T h t k => XS.icmpNo h C.1 rfl (hb C.2.1 hd) rfl (XT.ii_le_f (by first | exact hc | exact Decidable.of_not_not hc)) k
theorem if_le (C : Ctx p s m meth c Z own nm B ml rt) {x : Int32} {o : Int} {r : Nat} (hd : decode B pc = .ok (.ifCond .le o, 3)) (hq : pc + 3 = q) (hr : 0 ≤ (pc : Int) + o ∧ ((pc : Int) + o).toNat = r) (ky : ¬ 0 < x → Go p l e R s m args below meth c Z n0 P kc ks μ k n (mkF m r L st)) (kn : 0 < x → Go p l e R s m args below meth c Z n0 P kc ks μ k n (mkF m q L st)) : Go p l e R s m args below meth c Z n0 P kc ks μ k n (mkF m pc L (.int x :: st)) := by
  subst hq
  by_cases hc : ¬ 0 < x
  · exact Go.pure (ky hc) fun T h t k => XS.ifYes h C.1 rfl rfl (hb C.2.1 hd) rfl (XT.i0_le_t hc) hr.1 hr.2 k
  · exact Go.pure (kn (by first | exact hc | exact Decidable.of_not_not hc)) fun T h t k => XS.ifNo h C.1 rfl (hb C.2.1 hd) rfl (XT.i0_le_f (by first | exact hc | exact Decidable.of_not_not hc)) k
theorem lcmp_le (C : Ctx p s m meth c Z own nm B ml rt) {x y : Int64} {o : Int} {r pc1 : Nat} (hd0 : decode B pc = .ok (.lcmp, 1)) (h1 : pc + 1 = pc1) (hd : decode B pc1 = .ok (.ifCond .le o, 3)) (hq : pc1 + 3 = q) (hr : 0 ≤ (pc1 : Int) + o ∧ ((pc1 : Int) + o).toNat = r) (ky : ¬ y < x → Go p l e R s m args below meth c Z n0 P kc ks μ k n (mkF m r L st)) (kn : y < x → Go p l e R s m args below meth c Z n0 P kc ks μ k n (mkF m q L st)) : Go p l e R s m args below meth c Z n0 P kc ks μ k n (mkF m pc L (.long y :: .long x :: st)) := by
  subst hq h1
  refine Go.pure (g' := mkF m (pc + 1) L (.int (XT.cmpL x y) :: st)) ?_ fun T h t k => XT.lcmp h C.1 rfl (hb C.2.1 hd0) rfl k
  by_cases hc : ¬ y < x
  · exact Go.pure (ky hc) fun T h t k => XS.ifYes h C.1 rfl rfl (hb C.2.1 hd) rfl (XT.ll_le_t hc) hr.1 hr.2 k
  · exact Go.pure (kn (by first | exact hc | exact Decidable.of_not_not hc)) fun T h t k => XS.ifNo h C.1 rfl (hb C.2.1 hd) rfl (XT.ll_le_f (by first | exact hc | exact Decidable.of_not_not hc)) k
theorem ifnullY (C : Ctx p s m meth c Z own nm B ml rt) {o : Int} {b : Addr} (hd : decode B pc = .ok (.ifnull o, 3)) (hq : 0 ≤ (pc : Int) + o ∧ ((pc : Int) + o).toNat = q) (k' : Go p l e R s m args below meth c Z n0 P kc ks μ k n (mkF m q L st)) : Go p l e R s m args below meth c Z n0 P kc ks μ k n (mkF m pc L (.null :: st)) := Go.pure k' fun T h t hr => XS.ifnullYes h C.1 rfl rfl (hb C.2.1 hd) rfl hq.1 hq.2 hr
theorem ifnullN (C : Ctx p s m meth c Z own nm B ml rt) {o : Int} {b : Addr} (hd : decode B pc = .ok (.ifnull o, 3)) (hq : pc + 3 = q) (k' : Go p l e R s m args below meth c Z n0 P kc ks μ k n (mkF m q L st)) : Go p l e R s m args below meth c Z n0 P kc ks μ k n (mkF m pc L ((.ref b) :: st)) := by
  subst hq
  exact Go.pure k' fun T h t hr => XS.ifnullNo h C.1 rfl (hb C.2.1 hd) rfl hr
theorem ifnonnullY (C : Ctx p s m meth c Z own nm B ml rt) {o : Int} {b : Addr} (hd : decode B pc = .ok (.ifnonnull o, 3)) (hq : 0 ≤ (pc : Int) + o ∧ ((pc : Int) + o).toNat = q) (k' : Go p l e R s m args below meth c Z n0 P kc ks μ k n (mkF m q L st)) : Go p l e R s m args below meth c Z n0 P kc ks μ k n (mkF m pc L ((.ref b) :: st)) := Go.pure k' fun T h t hr => XT.ifnonnullYes h C.1 rfl rfl (hb C.2.1 hd) rfl hq.1 hq.2 hr
theorem ifnonnullN (C : Ctx p s m meth c Z own nm B ml rt) {o : Int} {b : Addr} (hd : decode B pc = .ok (.ifnonnull o, 3)) (hq : pc + 3 = q) (k' : Go p l e R s m args below meth c Z n0 P kc ks μ k n (mkF m q L st)) : Go p l e R s m args below meth c Z n0 P kc ks μ k n (mkF m pc L (.null :: st)) := by
  subst hq
  exact Go.pure k' fun T h t hr => XT.ifnonnullNo h C.1 rfl (hb C.2.1 hd) rfl hr
theorem acmp_eq (C : Ctx p s m meth c Z own nm B ml rt) {x y : Value} {o : Int} {r : Nat} (hd : decode B pc = .ok (.if_acmp .eq o, 3)) (hq : pc + 3 = q) (hr : 0 ≤ (pc : Int) + o ∧ ((pc : Int) + o).toNat = r) (h1 : x.isRef = true) (h2 : y.isRef = true) (ky : x = y → Go p l e R s m args below meth c Z n0 P kc ks μ k n (mkF m r L st)) (kn : ¬ x = y → Go p l e R s m args below meth c Z n0 P kc ks μ k n (mkF m q L st)) : Go p l e R s m args below meth c Z n0 P kc ks μ k n (mkF m pc L (y :: x :: st)) := by
  subst hq
  by_cases hc : x = y
  · exact Go.pure (ky hc) fun T h t k => XT.acmpYes h C.1 rfl rfl (hb C.2.1 hd) rfl h1 h2 (XT.aa_eq_t hc) hr.1 hr.2 k
  · exact Go.pure (kn (by first | exact hc | exact Decidable.of_not_not hc)) fun T h t k => XT.acmpNo h C.1 rfl (hb C.2.1 hd) rfl h1 h2 (XT.aa_eq_f (by first | exact hc | exact Decidable.of_not_not hc)) k
theorem acmp_ne (C : Ctx p s m meth c Z own nm B ml rt) {x y : Value} {o : Int} {r : Nat} (hd : decode B pc = .ok (.if_acmp .ne o, 3)) (hq : pc + 3 = q) (hr : 0 ≤ (pc : Int) + o ∧ ((pc : Int) + o).toNat = r) (h1 : x.isRef = true) (h2 : y.isRef = true) (ky : ¬ x = y → Go p l e R s m args below meth c Z n0 P kc ks μ k n (mkF m r L st)) (kn : x = y → Go p l e R s m args below meth c Z n0 P kc ks μ k n (mkF m q L st)) : Go p l e R s m args below meth c Z n0 P kc ks μ k n (mkF m pc L (y :: x :: st)) := by
  subst hq
  by_cases hc : ¬ x = y
  · exact Go.pure (ky hc) fun T h t k => XT.acmpYes h C.1 rfl rfl (hb C.2.1 hd) rfl h1 h2 (XT.aa_ne_t hc) hr.1 hr.2 k
  · exact Go.pure (kn (by first | exact hc | exact Decidable.of_not_not hc)) fun T h t k => XT.acmpNo h C.1 rfl (hb C.2.1 hd) rfl h1 h2 (XT.aa_ne_f (by first | exact hc | exact Decidable.of_not_not hc)) k
theorem mem {μ' : Mem} {g : JFrame} (h : μ = μ') (k' : Go p l e R s m args below meth c Z n0 P kc ks μ' k n g) : Go p l e R s m args below meth c Z n0 P kc ks μ k n g := by subst h; exact k'
/-! constants of the pool -/
theorem ldcI (C : Ctx p s m meth c Z own nm B ml rt) {i : Nat} {v : Int32} (hd : decode B pc = .ok (.ldc i, 2)) (hq : pc + 2 = q) (w : (Cond.constant own i v).before a0 Z = true) (k' : Go p l e R s m args below meth c Z n0 P kc ks μ k n (mkF m q L (.int v :: st))) : Go p l e R s m args below meth c Z n0 P kc ks μ k n (mkF m pc L st) := by
  subst hq
  exact Go.stand k' fun T locs X H => ⟨T, X, rfl, X.ldcInt C.1 C.2.2.2.2.1 (mvT C.2.2.2.1 w) (g := mkF m pc L st) rfl (hb C.2.1 hd)⟩
theorem ldcwI (C : Ctx p s m meth c Z own nm B ml rt) {i : Nat} {v : Int32} (hd : decode B pc = .ok (.ldc_w i, 3)) (hq : pc + 3 = q) (w : (Cond.constant own i v).before a0 Z = true) (k' : Go p l e R s m args below meth c Z n0 P kc ks μ k n (mkF m q L (.int v :: st))) : Go p l e R s m args below meth c Z n0 P kc ks μ k n (mkF m pc L st) := by
  subst hq
  exact Go.stand k' fun T locs X H => ⟨T, X, rfl, X.ldcwInt C.1 C.2.2.2.2.1 (mvT C.2.2.2.1 w) (g := mkF m pc L st) rfl (hb C.2.1 hd)⟩
theorem ldcJ (C : Ctx p s m meth c Z own nm B ml rt) {i : Nat} {v : Int64} (hd : decode B pc = .ok (.ldc2_w i, 3)) (hq : pc + 3 = q) (w : (Cond.constantLong own i v).before a0 Z = true) (k' : Go p l e R s m args below meth c Z n0 P kc ks μ k n (mkF m q L (.long v :: st))) : Go p l e R s m args below meth c Z n0 P kc ks μ k n (mkF m pc L st) := by
  subst hq
  exact Go.stand k' fun T locs X H => ⟨T, X, rfl, X.ldc2Long C.1 C.2.2.2.2.1 (mvT C.2.2.2.1 w) (g := mkF m pc L st) rfl (hb C.2.1 hd)⟩
/-! fields -/
theorem getfield (C : Ctx p s m meth c Z own nm B ml rt) {i j : Nat} {R0 O f d host K : String} {fs : List (Key × Value)} {v : Value} {a : Addr} (hd : decode B pc = .ok (.getfield i, 3)) (hq : pc + 3 = q) (w : (Cond.fieldLink own i R0 f d).before a0 Z = true ∨ (Cond.fieldLinkNest own i R0 f d host).before a0 Z = true) (via : Via Z R0 O f d)
    (hμ : μ a = some (.inl (K, fs))) (hj : fs[j]? = some ((O, f, d), v)) (k' : Go p l e R s m args below meth c Z n0 P kc ks μ k n (mkF m q L (v :: st))) : Go p l e R s m args below meth c Z n0 P kc ks μ k n (mkF m pc L (.ref a :: st)) := by
  subst hq
  refine Go.stand k' fun T locs X H => ?_
  have I := H.2 a _ hμ
  exact getF X C.1 C.2.2.2.1 C.2.2.2.2.1 w via rfl (I.2.1 _ (List.mem_of_getElem? hj)) (g := mkF m pc L (.ref a :: st)) rfl rfl (hb C.2.1 hd)
theorem putfield (C : Ctx p s m meth c Z own nm B ml rt) {i j kk : Nat} {R0 O f d host K : String} {fs fs' : List (Key × Value)} {v old : Value} {a : Addr} {ty : FieldType} (hd : decode B pc = .ok (.putfield i, 3)) (hq : pc + 3 = q) (w : (Cond.fieldLink own i R0 f d).before a0 Z = true ∨ (Cond.fieldLinkNest own i R0 f d host).before a0 Z = true) (via : Via Z R0 O f d)
    (wl : (Cond.lays K O f d).before a0 Z = true ∨ ((Cond.laysFinal K O f d).before a0 Z = true ∧ own = O ∧ nm = "<init>")) (wi : (Cond.instantiable K kk).before a0 Z = true) (hty : parseFieldDescriptor d = some ty) (hn : narrow ty v = v) (hf : fits ty v = true)
    (hμ : μ a = some (.inl (K, fs))) (hj : fs[j]? = some ((O, f, d), old)) (hfs : fs.set j ((O, f, d), v) = fs') (ha : n0 ≤ a) (k' : Go p l e R s m args below meth c Z n0 P kc ks (upd μ a (.inl (K, fs'))) k n (mkF m q L st)) : Go p l e R s m args below meth c Z n0 P kc ks μ k n (mkF m pc L (v :: .ref a :: st)) := by
  subst hq
  intro T locs X F H
  have I := H.2 a _ hμ
  obtain ⟨T', h', X', e', W, stp⟩ := putF X C.1 C.2.2.2.1 C.2.2.2.2.1 w via rfl (I.2.1 _ (List.mem_of_getElem? hj)) I.1 (wl.imp id fun z => ⟨z.1, z.2.1, C.2.2.2.2.2.2.2.trans z.2.2⟩) wi hty hn hf (g := mkF m pc L (v :: .ref a :: st)) rfl rfl (hb C.2.1 hd)
  obtain ⟨s2, o, h1, h2⟩ := k' T' _ X' (Fr.snoc X' F ha) (by rw [e']; exact H.wr W ha (IsO.put I hj W hfs))
  exact ⟨s2, o, stp _ h1, h2⟩
theorem putfieldN (C : Ctx p s m meth c Z own nm B ml rt) {i j kk : Nat} {R0 O f d K : String} {fs fs' : List (Key × Value)} {v v' old : Value} {a : Addr} {ty : FieldType} (hd : decode B pc = .ok (.putfield i, 3)) (hq : pc + 3 = q) (w : (Cond.fieldLink own i R0 f d).before a0 Z = true) (via : Via Z R0 O f d)
    (wl : (Cond.lays K O f d).before a0 Z = true ∨ ((Cond.laysFinal K O f d).before a0 Z = true ∧ own = O ∧ nm = "<init>")) (wi : (Cond.instantiable K kk).before a0 Z = true) (hty : parseFieldDescriptor d = some ty) (hn : narrow ty v = v') (hf : fits ty v' = true)
    (hμ : μ a = some (.inl (K, fs))) (hj : fs[j]? = some ((O, f, d), old)) (hfs : fs.set j ((O, f, d), v') = fs') (ha : n0 ≤ a) (k' : Go p l e R s m args below meth c Z n0 P kc ks (upd μ a (.inl (K, fs'))) k n (mkF m q L st)) : Go p l e R s m args below meth c Z n0 P kc ks μ k n (mkF m pc L (v :: .ref a :: st)) := by
  subst hq
  intro T locs X F H
  have I := H.2 a _ hμ
  obtain ⟨T', h', X', e', W, stp⟩ := putFN X C.1 C.2.2.2.1 C.2.2.2.2.1 w via rfl (I.2.1 _ (List.mem_of_getElem? hj)) I.1 (wl.imp id fun z => ⟨z.1, z.2.1, C.2.2.2.2.2.2.2.trans z.2.2⟩) wi hty hn hf (g := mkF m pc L (v :: .ref a :: st)) rfl rfl (hb C.2.1 hd)
  obtain ⟨s2, o, h1, h2⟩ := k' T' _ X' (Fr.snoc X' F ha) (by rw [e']; exact H.wr W ha (IsO.put I hj W hfs))
  exact ⟨s2, o, stp _ h1, h2⟩
theorem getstatic (C : Ctx p s m meth c Z own nm B ml rt) {i : Nat} {R0 O f d host : String} {v : Value} (hd : decode B pc = .ok (.getstatic i, 3)) (hq : pc + 3 = q) (w : (Cond.fieldLink own i R0 f d).before a0 Z = true ∨ (Cond.fieldLinkNest own i R0 f d host).before a0 Z = true) (via : Via Z R0 O f d)
    (S : Sta Z Z.heap O f d v) (k' : Go p l e R s m args below meth c Z n0 P kc ks μ k n (mkF m q L (v :: st))) : Go p l e R s m args below meth c Z n0 P kc ks μ k n (mkF m pc L st) := by
  subst hq
  exact Go.stand k' fun T locs X H => getS2 X C.1 C.2.2.2.1 C.2.2.2.2.1 w via rfl (S.ext H.1.2) (g := mkF m pc L st) rfl (hb C.2.1 hd)
/-! new objects -/
def AllLaid (Z : State) (a0 : Array Value) (C : String) : List (Key × Value) → Prop
  | [] => True
  | q :: r => (∃ ty, Laid Z a0 C q.1.1 q.1.2.1 q.1.2.2 ∧ parseFieldDescriptor q.1.2.2 = some ty ∧ q.2 = defaultValue ty) ∧ AllLaid Z a0 C r
theorem AllLaid.mem {K : String} : ∀ {fs : List (Key × Value)}, AllLaid Z a0 K fs → ∀ q ∈ fs, ∃ ty, Laid Z a0 K q.1.1 q.1.2.1 q.1.2.2 ∧ parseFieldDescriptor q.1.2.2 = some ty ∧ q.2 = defaultValue ty
  | [], _, _, h => nomatch h
  | _ :: _, H, q, h => (List.mem_cons.mp h).elim (fun z => z ▸ H.1) (AllLaid.mem H.2 q)
theorem AllLaid.pw {K : String} : ∀ {fs : List (Key × Value)}, AllLaid Z a0 K fs → fs.Pairwise (fun q r => q.1.2.1 ≠ r.1.2.1) → fs.Pairwise fun q r => sl Z q ≠ sl Z r
  | [], _, _ => .nil
  | x :: r, H, N => by
    cases N with
    | cons h1 h2 =>
      refine .cons (fun y hy => ?_) (AllLaid.pw H.2 h2)
      obtain ⟨t1, L1, p1, -⟩ := H.1
      obtain ⟨t2, L2, p2, -⟩ := AllLaid.mem H.2 y hy
      exact RoadKit.slot_ne L1 L2 (h1 y hy) p1 p2
theorem new (C : Ctx p s m meth c Z own nm B ml rt) {i ns : Nat} {K : String} {fs : List (Key × Value)} (hd : decode B pc = .ok (.new i, 3)) (hq : pc + 3 = q) (w1 : (Cond.classLink own i K).before a0 Z = true) (w2 : (Cond.instantiable K ns).before a0 Z = true) (w3 : (Cond.initialized K).before a0 Z = true)
    (hl : AllLaid Z a0 K fs) (hnd : fs.Pairwise (fun q r => q.1.2.1 ≠ r.1.2.1)) (hc : k + 1 ≤ R.cells) (hs : n + ns ≤ R.slots)
    (k' : ∀ a : Addr, (∀ b o, μ b = some o → b ≠ a) → n0 ≤ a → Go p l e R s m args below meth c Z n0 P kc ks (upd μ a (.inl (K, fs))) (k + 1) (n + ns) (mkF m q L (.ref a :: st))) : Go p l e R s m args below meth c Z n0 P kc ks μ k n (mkF m pc L st) := by
  subst hq
  intro T locs X F H
  obtain ⟨T', h', X', e', E, A, D, -, stp⟩ := newO X C.1 C.2.2.2.1 C.2.2.2.2.1 w1 w2 w3 rfl (g := mkF m pc L st) rfl (hb C.2.1 hd) hc hs
  obtain ⟨s2, o, h1, h2⟩ := k' T.heap.size H.fresh H.ge T' _ X' F (by
    rw [e']
    refine Hp.set (H.ext E) ⟨A, fun z hz => ?_, hl.pw hnd⟩
    obtain ⟨ty, l1, l2, l3⟩ := hl.mem z hz
    rw [l3]; exact D l1 l2)
  exact ⟨s2, o, stp _ h1, h2⟩
theorem newArr (C : Ctx p s m meth c Z own nm B ml rt) {aty : ArrayType} {ty : FieldType} {z : Int32} {cap : Nat} {vs : List Value} (hd : decode B pc = .ok (.newarray aty, 2)) (hq : pc + 2 = q) (ht : newarray.typeOf aty = ty) (w : (Cond.arrayClass ty).before a0 Z = true) (hz : ¬ z < 0) (hcap : z.toNatClampNeg ≤ cap) (hbig : cap * 8 ≤ 536870912) (hvs : List.replicate z.toNatClampNeg (defaultValue ty) = vs)
    (hc : k + 1 ≤ R.cells) (hs : n + cap ≤ R.slots)
    (k' : ∀ a : Addr, (∀ b o, μ b = some o → b ≠ a) → n0 ≤ a → Go p l e R s m args below meth c Z n0 P kc ks (upd μ a (.inr (ty, vs))) (k + 1) (n + cap) (mkF m q L (.ref a :: st))) : Go p l e R s m args below meth c Z n0 P kc ks μ k n (mkF m pc L (.int z :: st)) := by
  subst hq hvs ht
  intro T locs X F H
  obtain ⟨T', h', cA, X', e', E, A, stp⟩ := newP X C.1 C.2.2.2.1 w rfl (g := mkF m pc L (.int z :: st)) rfl (hb C.2.1 hd) rfl hz hcap hbig hc hs
  obtain ⟨s2, o, h1, h2⟩ := k' T.heap.size H.fresh H.ge T' _ X' F (by
    rw [e']
    refine Hp.set (H.ext E) ⟨_, A, by simp [newA], by rw [List.length_replicate]; exact (back32 hz).2, fun v hv => ?_, fun _ K hK => ?_⟩
    · rw [(List.mem_replicate.mp hv).2]; cases aty <;> rfl
    · cases aty <;> cases hK)
  exact ⟨s2, o, stp _ h1, h2⟩
theorem newRef (C : Ctx p s m meth c Z own nm B ml rt) {i : Nat} {K : String} {z : Int32} {cap : Nat} {vs : List Value} (hd : decode B pc = .ok (.anewarray i, 3)) (hq : pc + 3 = q) (w1 : (Cond.classLink own i K).before a0 Z = true) (w2 : (Cond.arrayOver (.object K)).before a0 Z = true) (hz : ¬ z < 0) (hcap : z.toNatClampNeg ≤ cap) (hbig : cap * 8 ≤ 536870912) (hvs : List.replicate z.toNatClampNeg Value.null = vs)
    (hc : k + 1 ≤ R.cells) (hs : n + cap ≤ R.slots)
    (k' : ∀ a : Addr, (∀ b o, μ b = some o → b ≠ a) → n0 ≤ a → Go p l e R s m args below meth c Z n0 P kc ks (upd μ a (.inr (.object K, vs))) (k + 1) (n + cap) (mkF m q L (.ref a :: st))) : Go p l e R s m args below meth c Z n0 P kc ks μ k n (mkF m pc L (.int z :: st)) := by
  subst hq hvs
  intro T locs X F H
  obtain ⟨T', h', cA, X', e', E, A, O, stp⟩ := newR X C.1 C.2.2.2.1 C.2.2.2.2.1 w1 w2 rfl (g := mkF m pc L (.int z :: st)) rfl (hb C.2.1 hd) rfl hz hcap hbig hc hs
  obtain ⟨s2, o, h1, h2⟩ := k' T.heap.size H.fresh H.ge T' _ X' F (by
    rw [e']
    refine Hp.set (H.ext E) ⟨_, A, by simp [newA, defaultValue], by rw [List.length_replicate]; exact (back32 hz).2, fun v hv => ?_, fun _ K' hK => ?_⟩
    · rw [(List.mem_replicate.mp hv).2]; rfl
    · cases hK; exact O)
  exact ⟨s2, o, stp _ h1, h2⟩
/-! arrays -/
theorem inb {c : Cell} {vs : List Value} {j : Int32} (e : c.slots.toList = vs) (h0 : ¬ j < 0) (hj : j.toNatClampNeg < vs.length) : ¬ (j < 0 ∨ c.slots.size ≤ j.toNatClampNeg) := by
  subst e; rw [Array.length_toList] at hj; rintro (q | q)
  · exact h0 q
  · omega
theorem atL {c : Cell} {vs : List Value} {j : Nat} {v : Value} (e : c.slots.toList = vs) (hv : vs[j]? = some v) : c.slots[j]? = some v := by
  subst e; rw [Array.getElem?_toList] at hv; exact hv
theorem arraylength (C : Ctx p s m meth c Z own nm B ml rt) {ty : FieldType} {vs : List Value} {a : Addr} (hd : decode B pc = .ok (.arraylength, 1)) (hq : pc + 1 = q) (hμ : μ a = some (.inr (ty, vs))) (k' : ∀ z : Int32, z = Int32.ofNat vs.length → z.toInt = vs.length → Go p l e R s m args below meth c Z n0 P kc ks μ k n (mkF m q L (.int z :: st))) : Go p l e R s m args below meth c Z n0 P kc ks μ k n (mkF m pc L (.ref a :: st)) := by
  subst hq
  intro T locs X F H
  obtain ⟨cl, A, e1, hl, -⟩ := H.2 a _ hμ
  have e2 : cl.slots.size = vs.length := by subst e1; rw [Array.length_toList]
  obtain ⟨s2, o, h1, h2⟩ := k' (Int32.ofNat vs.length) rfl (Int32.toInt_ofNat_small hl) T _ X F H
  exact ⟨s2, o, X.arraylength C.1 A.1 (State.isArrayOf_alike C.2.2.2.1.alike A.2.1) (g := mkF m pc L (.ref a :: st)) rfl rfl (hb C.2.1 hd) _ (by rw [e2]; exact h1), h2⟩
theorem iaload (C : Ctx p s m meth c Z own nm B ml rt) {vs : List Value} {a : Addr} {j : Int32} {v : Value} (hd : decode B pc = .ok (.iaload, 1)) (hq : pc + 1 = q) (hμ : μ a = some (.inr (.int, vs))) (h0 : ¬ j < 0) (hv : vs[j.toNatClampNeg]? = some v) (k' : Go p l e R s m args below meth c Z n0 P kc ks μ k n (mkF m q L (v :: st))) : Go p l e R s m args below meth c Z n0 P kc ks μ k n (mkF m pc L (.int j :: .ref a :: st)) := by
  subst hq
  intro T locs X F H
  obtain ⟨cl, A, e1, -⟩ := H.2 a _ hμ
  obtain ⟨s2, o, h1, h2⟩ := k' T _ X F H
  exact ⟨s2, o, X.iaload C.1 A.1 (State.isArrayOf_alike C.2.2.2.1.alike A.2.1) A.2.2 (inb e1 h0 (List.getElem?_eq_some_iff.mp hv).1) (atL e1 hv) (g := mkF m pc L (.int j :: .ref a :: st)) rfl rfl (hb C.2.1 hd) _ h1, h2⟩
theorem laload (C : Ctx p s m meth c Z own nm B ml rt) {vs : List Value} {a : Addr} {j : Int32} {v : Value} (hd : decode B pc = .ok (.laload, 1)) (hq : pc + 1 = q) (hμ : μ a = some (.inr (.long, vs))) (h0 : ¬ j < 0) (hv : vs[j.toNatClampNeg]? = some v) (k' : Go p l e R s m args below meth c Z n0 P kc ks μ k n (mkF m q L (v :: st))) : Go p l e R s m args below meth c Z n0 P kc ks μ k n (mkF m pc L (.int j :: .ref a :: st)) := by
  subst hq
  intro T locs X F H
  obtain ⟨cl, A, e1, -⟩ := H.2 a _ hμ
  obtain ⟨s2, o, h1, h2⟩ := k' T _ X F H
  exact ⟨s2, o, X.laload C.1 A.1 (State.isArrayOf_alike C.2.2.2.1.alike A.2.1) A.2.2 (inb e1 h0 (List.getElem?_eq_some_iff.mp hv).1) (atL e1 hv) (g := mkF m pc L (.int j :: .ref a :: st)) rfl rfl (hb C.2.1 hd) _ h1, h2⟩
theorem caload (C : Ctx p s m meth c Z own nm B ml rt) {vs : List Value} {a : Addr} {j : Int32} {v : Value} (hd : decode B pc = .ok (.caload, 1)) (hq : pc + 1 = q) (hμ : μ a = some (.inr (.char, vs))) (h0 : ¬ j < 0) (hv : vs[j.toNatClampNeg]? = some v) (k' : Go p l e R s m args below meth c Z n0 P kc ks μ k n (mkF m q L (v :: st))) : Go p l e R s m args below meth c Z n0 P kc ks μ k n (mkF m pc L (.int j :: .ref a :: st)) := by
  subst hq
  intro T locs X F H
  obtain ⟨cl, A, e1, -⟩ := H.2 a _ hμ
  obtain ⟨s2, o, h1, h2⟩ := k' T _ X F H
  exact ⟨s2, o, X.caload C.1 A.1 (State.isArrayOf_alike C.2.2.2.1.alike A.2.1) A.2.2 (inb e1 h0 (List.getElem?_eq_some_iff.mp hv).1) (atL e1 hv) (g := mkF m pc L (.int j :: .ref a :: st)) rfl rfl (hb C.2.1 hd) _ h1, h2⟩
theorem baload (C : Ctx p s m meth c Z own nm B ml rt) {vs : List Value} {a : Addr} {j : Int32} {v : Value} (hd : decode B pc = .ok (.baload, 1)) (hq : pc + 1 = q) (hμ : μ a = some (.inr (.byte, vs))) (h0 : ¬ j < 0) (hv : vs[j.toNatClampNeg]? = some v) (k' : Go p l e R s m args below meth c Z n0 P kc ks μ k n (mkF m q L (v :: st))) : Go p l e R s m args below meth c Z n0 P kc ks μ k n (mkF m pc L (.int j :: .ref a :: st)) := by
  subst hq
  intro T locs X F H
  obtain ⟨cl, A, e1, -⟩ := H.2 a _ hμ
  obtain ⟨s2, o, h1, h2⟩ := k' T _ X F H
  exact ⟨s2, o, X.baloadBytes C.1 A.1 (State.isArrayOf_alike C.2.2.2.1.alike A.2.1) A.2.2 (inb e1 h0 (List.getElem?_eq_some_iff.mp hv).1) (atL e1 hv) (g := mkF m pc L (.int j :: .ref a :: st)) rfl rfl (hb C.2.1 hd) _ h1, h2⟩
theorem zaload (C : Ctx p s m meth c Z own nm B ml rt) {vs : List Value} {a : Addr} {j : Int32} {v : Value} (hd : decode B pc = .ok (.baload, 1)) (hq : pc + 1 = q) (hμ : μ a = some (.inr (.boolean, vs))) (h0 : ¬ j < 0) (hv : vs[j.toNatClampNeg]? = some v) (k' : Go p l e R s m args below meth c Z n0 P kc ks μ k n (mkF m q L (v :: st))) : Go p l e R s m args below meth c Z n0 P kc ks μ k n (mkF m pc L (.int j :: .ref a :: st)) := by
  subst hq
  intro T locs X F H
  obtain ⟨cl, A, e1, -⟩ := H.2 a _ hμ
  obtain ⟨s2, o, h1, h2⟩ := k' T _ X F H
  exact ⟨s2, o, X.baloadBooleans C.1 A.1 (State.isArrayOf_alike C.2.2.2.1.alike A.2.1) A.2.2 (inb e1 h0 (List.getElem?_eq_some_iff.mp hv).1) (atL e1 hv) (g := mkF m pc L (.int j :: .ref a :: st)) rfl rfl (hb C.2.1 hd) _ h1, h2⟩
theorem aaload (C : Ctx p s m meth c Z own nm B ml rt) {ty : FieldType} {vs : List Value} {a : Addr} {j : Int32} {v : Value} (hd : decode B pc = .ok (.aaload, 1)) (hq : pc + 1 = q) (hμ : μ a = some (.inr (ty, vs))) (hr : ty.isReference = true) (h0 : ¬ j < 0) (hv : vs[j.toNatClampNeg]? = some v) (k' : Go p l e R s m args below meth c Z n0 P kc ks μ k n (mkF m q L (v :: st))) : Go p l e R s m args below meth c Z n0 P kc ks μ k n (mkF m pc L (.int j :: .ref a :: st)) := by
  subst hq
  intro T locs X F H
  obtain ⟨cl, A, e1, -⟩ := H.2 a _ hμ
  obtain ⟨s2, o, h1, h2⟩ := k' T _ X F H
  exact ⟨s2, o, X.aaload C.1 A.1 (State.isArrayOf_alike C.2.2.2.1.alike A.2.1) hr A.2.2 (inb e1 h0 (List.getElem?_eq_some_iff.mp hv).1) (atL e1 hv) (g := mkF m pc L (.int j :: .ref a :: st)) rfl rfl (hb C.2.1 hd) _ h1, h2⟩
theorem iastore (C : Ctx p s m meth c Z own nm B ml rt) {vs : List Value} {a : Addr} {j : Int32} {x : Int32} (hd : decode B pc = .ok (.iastore, 1)) (hq : pc + 1 = q) (hμ : μ a = some (.inr (.int, vs))) (h0 : ¬ j < 0) (hj : j.toNatClampNeg < vs.length) (ha : n0 ≤ a) (k' : Go p l e R s m args below meth c Z n0 P kc ks (upd μ a (.inr (.int, vs.set j.toNatClampNeg (.int x)))) k n (mkF m q L st)) : Go p l e R s m args below meth c Z n0 P kc ks μ k n (mkF m pc L ((.int x) :: .int j :: .ref a :: st)) := by
  subst hq
  intro T locs X F H
  have I := H.2 a _ hμ
  obtain ⟨cl, A, e1, -⟩ := id I
  obtain ⟨T', h', X', e', W, stp⟩ := stI X C.1 C.2.2.2.1 rfl A (inb e1 h0 hj) (g := mkF m pc L ((.int x) :: .int j :: .ref a :: st)) rfl rfl (hb C.2.1 hd)
  obtain ⟨s2, o, h1, h2⟩ := k' T' _ X' (Fr.snoc X' F ha) (by rw [e']; exact H.wr W ha (IsA.put I rfl W))
  exact ⟨s2, o, stp _ h1, h2⟩
theorem lastore (C : Ctx p s m meth c Z own nm B ml rt) {vs : List Value} {a : Addr} {j : Int32} {x : Int64} (hd : decode B pc = .ok (.lastore, 1)) (hq : pc + 1 = q) (hμ : μ a = some (.inr (.long, vs))) (h0 : ¬ j < 0) (hj : j.toNatClampNeg < vs.length) (ha : n0 ≤ a) (k' : Go p l e R s m args below meth c Z n0 P kc ks (upd μ a (.inr (.long, vs.set j.toNatClampNeg (.long x)))) k n (mkF m q L st)) : Go p l e R s m args below meth c Z n0 P kc ks μ k n (mkF m pc L ((.long x) :: .int j :: .ref a :: st)) := by
  subst hq
  intro T locs X F H
  have I := H.2 a _ hμ
  obtain ⟨cl, A, e1, -⟩ := id I
  obtain ⟨T', h', X', e', W, stp⟩ := stJ X C.1 C.2.2.2.1 rfl A (inb e1 h0 hj) (g := mkF m pc L ((.long x) :: .int j :: .ref a :: st)) rfl rfl (hb C.2.1 hd)
  obtain ⟨s2, o, h1, h2⟩ := k' T' _ X' (Fr.snoc X' F ha) (by rw [e']; exact H.wr W ha (IsA.put I rfl W))
  exact ⟨s2, o, stp _ h1, h2⟩
theorem castore (C : Ctx p s m meth c Z own nm B ml rt) {vs : List Value} {a : Addr} {j : Int32} {x : Int32} (hd : decode B pc = .ok (.castore, 1)) (hq : pc + 1 = q) (hμ : μ a = some (.inr (.char, vs))) (h0 : ¬ j < 0) (hj : j.toNatClampNeg < vs.length) (ha : n0 ≤ a) (k' : Go p l e R s m args below meth c Z n0 P kc ks (upd μ a (.inr (.char, vs.set j.toNatClampNeg (.int (nar .char x))))) k n (mkF m q L st)) : Go p l e R s m args below meth c Z n0 P kc ks μ k n (mkF m pc L ((.int x) :: .int j :: .ref a :: st)) := by
  subst hq
  intro T locs X F H
  have I := H.2 a _ hμ
  obtain ⟨cl, A, e1, -⟩ := id I
  obtain ⟨T', h', X', e', W, stp⟩ := stC X C.1 C.2.2.2.1 rfl A (inb e1 h0 hj) (g := mkF m pc L ((.int x) :: .int j :: .ref a :: st)) rfl rfl (hb C.2.1 hd)
  obtain ⟨s2, o, h1, h2⟩ := k' T' _ X' (Fr.snoc X' F ha) (by rw [e']; exact H.wr W ha (IsA.put I (fits_nar_char _) W))
  exact ⟨s2, o, stp _ h1, h2⟩
theorem bastore (C : Ctx p s m meth c Z own nm B ml rt) {vs : List Value} {a : Addr} {j : Int32} {x : Int32} (hd : decode B pc = .ok (.bastore, 1)) (hq : pc + 1 = q) (hμ : μ a = some (.inr (.byte, vs))) (h0 : ¬ j < 0) (hj : j.toNatClampNeg < vs.length) (ha : n0 ≤ a) (k' : Go p l e R s m args below meth c Z n0 P kc ks (upd μ a (.inr (.byte, vs.set j.toNatClampNeg (.int x.toInt8.toInt32)))) k n (mkF m q L st)) : Go p l e R s m args below meth c Z n0 P kc ks μ k n (mkF m pc L ((.int x) :: .int j :: .ref a :: st)) := by
  subst hq
  intro T locs X F H
  have I := H.2 a _ hμ
  obtain ⟨cl, A, e1, -⟩ := id I
  obtain ⟨T', h', X', e', W, stp⟩ := stB X C.1 C.2.2.2.1 rfl A (inb e1 h0 hj) (g := mkF m pc L ((.int x) :: .int j :: .ref a :: st)) rfl rfl (hb C.2.1 hd)
  obtain ⟨s2, o, h1, h2⟩ := k' T' _ X' (Fr.snoc X' F ha) (by rw [e']; exact H.wr W ha (IsA.put I (fits_nar_byte _) W))
  exact ⟨s2, o, stp _ h1, h2⟩
theorem zastore (C : Ctx p s m meth c Z own nm B ml rt) {vs : List Value} {a : Addr} {j : Int32} {x : Int32} (hd : decode B pc = .ok (.bastore, 1)) (hq : pc + 1 = q) (hμ : μ a = some (.inr (.boolean, vs))) (h0 : ¬ j < 0) (hj : j.toNatClampNeg < vs.length) (ha : n0 ≤ a) (k' : Go p l e R s m args below meth c Z n0 P kc ks (upd μ a (.inr (.boolean, vs.set j.toNatClampNeg (.int (nar .boolean x))))) k n (mkF m q L st)) : Go p l e R s m args below meth c Z n0 P kc ks μ k n (mkF m pc L ((.int x) :: .int j :: .ref a :: st)) := by
  subst hq
  intro T locs X F H
  have I := H.2 a _ hμ
  obtain ⟨cl, A, e1, -⟩ := id I
  obtain ⟨T', h', X', e', W, stp⟩ := stZ X C.1 C.2.2.2.1 rfl A (inb e1 h0 hj) (g := mkF m pc L ((.int x) :: .int j :: .ref a :: st)) rfl rfl (hb C.2.1 hd)
  obtain ⟨s2, o, h1, h2⟩ := k' T' _ X' (Fr.snoc X' F ha) (by rw [e']; exact H.wr W ha (IsA.put I (fits_nar_bool _) W))
  exact ⟨s2, o, stp _ h1, h2⟩
theorem aastore (C : Ctx p s m meth c Z own nm B ml rt) {K : String} {vs : List Value} {a : Addr} {j : Int32} {v : Value} (hd : decode B pc = .ok (.aastore, 1)) (hq : pc + 1 = q) (hμ : μ a = some (.inr (.object K, vs))) (hv : v = .null ∨ ∃ b, v = .ref b ∧ ∀ h, Hp Z n0 μ h → Ins Z h b K true) (h0 : ¬ j < 0) (hj : j.toNatClampNeg < vs.length) (ha : n0 ≤ a) (k' : Go p l e R s m args below meth c Z n0 P kc ks (upd μ a (.inr (.object K, vs.set j.toNatClampNeg v))) k n (mkF m q L st)) : Go p l e R s m args below meth c Z n0 P kc ks μ k n (mkF m pc L (v :: .int j :: .ref a :: st)) := by
  subst hq
  intro T locs X F H
  have I := H.2 a _ hμ
  obtain ⟨cl, A, e1, -, -, O⟩ := id I
  have S : Sto Z T.heap a v := by
    rcases hv with rfl | ⟨b, rfl, hb⟩
    · exact Or.inl rfl
    · exact Sto.of A (O ha K rfl) (hb _ H)
  have hf : fits (.object K) v = true := by
    rcases hv with rfl | ⟨b, rfl, -⟩ <;> rfl
  obtain ⟨T', h', X', e', W, stp⟩ := stR X C.1 C.2.2.2.1 rfl A (inb e1 h0 hj) rfl S (g := mkF m pc L (v :: .int j :: .ref a :: st)) rfl rfl (hb C.2.1 hd)
  obtain ⟨s2, o, h1, h2⟩ := k' T' _ X' (Fr.snoc X' F ha) (by rw [e']; exact H.wr W ha (IsA.put I hf W))
  exact ⟨s2, o, stp _ h1, h2⟩
/-! returns -/
theorem ireturn (C : Ctx p s m meth c Z own nm B ml (some .int)) {z : Int32} (hd : decode B pc = .ok (.ireturn, 1)) (hk : k ≤ kc) (hn : n ≤ ks) (h : P (some (.int z)) μ) : Go p l e R s m args below meth c Z n0 P kc ks μ k n (mkF m pc L (.int z :: st)) := fun T locs X F H => by
  obtain ⟨fs, hr, hrun, hended, hW, hsame⟩ := X.leave (v := some (.int z)) (fun h => by rw [C.2.2.2.2.2.1] at h; cases h) C.2.2.2.2.2.2.1
  exact ⟨_, _, retOut X C.1 C.2.2.2.2.2.1 rfl (Or.inl ⟨rfl, Or.inl rfl, z, rfl⟩) (hb C.2.1 hd) hr, hrun, hended, _, _, rfl, ⟨F, μ, H, h⟩, ⟨_, rfl⟩, hW, hsame.mono hk hn⟩
theorem nreturn {t : FieldType} (C : Ctx p s m meth c Z own nm B ml (some t)) {z z' : Int32} (hd : decode B pc = .ok (.ireturn, 1)) (ht : t = .boolean ∨ t = .byte ∨ t = .char ∨ t = .short) (hz : nar t z = z') (hk : k ≤ kc) (hn : n ≤ ks) (h : P (some (.int z')) μ) : Go p l e R s m args below meth c Z n0 P kc ks μ k n (mkF m pc L (.int z :: st)) := fun T locs X F H => by
  subst hz
  obtain ⟨fs, hr, hrun, hended, hW, hsame⟩ := X.leave (v := some (.int (nar t z))) (fun h => by rw [C.2.2.2.2.2.1] at h; cases h) C.2.2.2.2.2.2.1
  exact ⟨_, _, retN X C.1 C.2.2.2.2.2.1 ht (hb C.2.1 hd) hr, hrun, hended, _, _, rfl, ⟨F, μ, H, h⟩, ⟨_, rfl⟩, hW, hsame.mono hk hn⟩
theorem lreturn (C : Ctx p s m meth c Z own nm B ml (some .long)) {z : Int64} (hd : decode B pc = .ok (.lreturn, 1)) (hk : k ≤ kc) (hn : n ≤ ks) (h : P (some (.long z)) μ) : Go p l e R s m args below meth c Z n0 P kc ks μ k n (mkF m pc L (.long z :: st)) := fun T locs X F H => by
  obtain ⟨fs, hr, hrun, hended, hW, hsame⟩ := X.leave (v := some (.long z)) (fun h => by rw [C.2.2.2.2.2.1] at h; cases h) C.2.2.2.2.2.2.1
  exact ⟨_, _, retOut X C.1 C.2.2.2.2.2.1 rfl (Or.inr (Or.inl ⟨rfl, rfl, z, rfl⟩)) (hb C.2.1 hd) hr, hrun, hended, _, _, rfl, ⟨F, μ, H, h⟩, ⟨_, rfl⟩, hW, hsame.mono hk hn⟩
theorem nref {t : FieldType} {v : Value} (h1 : t.isReference = true) (h2 : v.isRef = true) : narrow t v = v := by
  cases t <;> first | (cases h1; done) | rfl
theorem areturn {t : FieldType} (C : Ctx p s m meth c Z own nm B ml (some t)) {v : Value} (ht : t.isReference = true) (hv : v.isRef = true) (hd : decode B pc = .ok (.areturn, 1)) (hk : k ≤ kc) (hn : n ≤ ks) (h : P (some v) μ) : Go p l e R s m args below meth c Z n0 P kc ks μ k n (mkF m pc L (v :: st)) := fun T locs X F H => by
  obtain ⟨fs, hr, hrun, hended, hW, hsame⟩ := X.leave (v := some v) (fun h => by rw [C.2.2.2.2.2.1] at h; cases h) C.2.2.2.2.2.2.1
  exact ⟨_, _, retOut X C.1 C.2.2.2.2.2.1 (nref ht hv) (Or.inr (Or.inr (Or.inr (Or.inr ⟨rfl, ht, hv⟩)))) (hb C.2.1 hd) hr, hrun, hended, _, _, rfl, ⟨F, μ, H, h⟩, ⟨_, rfl⟩, hW, hsame.mono hk hn⟩
theorem vreturn (C : Ctx p s m meth c Z own nm B ml none) (hd : decode B pc = .ok (.return_, 1)) (hk : k ≤ kc) (hn : n ≤ ks) (h : P none μ) : Go p l e R s m args below meth c Z n0 P kc ks μ k n (mkF m pc L []) := fun T locs X F H => by
  obtain ⟨fs, hr, hrun, hended, hW, hsame⟩ := X.leave (v := none) (fun _ => rfl) C.2.2.2.2.2.2.1
  exact ⟨_, _, X.returnOut C.1 C.2.2.2.2.2.1 (hb C.2.1 hd) hr, hrun, hended, _, _, rfl, ⟨F, μ, H, h⟩, ⟨_, rfl⟩, hW, hsame.mono hk hn⟩
/-! what a callee leaves, by the kind of its return -/
def RV (Q : Mem → Prop) : Option Value → Mem → Prop := fun v μ => v = none ∧ Q μ
def RI (Q : Int32 → Mem → Prop) : Option Value → Mem → Prop := fun v μ => ∃ z, v = some (.int z) ∧ Q z μ
def RJ (Q : Int64 → Mem → Prop) : Option Value → Mem → Prop := fun v μ => ∃ z, v = some (.long z) ∧ Q z μ
def RR (Q : Value → Mem → Prop) : Option Value → Mem → Prop := fun v μ => ∃ z : Value, v = some z ∧ z.isRef = true ∧ Q z μ
section Nx
variable {k2 n2 : Nat}
theorem nxV {Q : Mem → Prop} (h : ∀ μ', Q μ' → Go p l e R s m args below meth c Z n0 P kc ks μ' k2 n2 (mkF m q L st)) : ∀ v μ', RV Q v μ' → Go p l e R s m args below meth c Z n0 P kc ks μ' k2 n2 (mkF m q L (v.toList ++ st)) := fun v μ' ⟨e1, e2⟩ => by subst e1; exact h μ' e2
theorem nxI {Q : Int32 → Mem → Prop} (h : ∀ z μ', Q z μ' → Go p l e R s m args below meth c Z n0 P kc ks μ' k2 n2 (mkF m q L (.int z :: st))) : ∀ v μ', RI Q v μ' → Go p l e R s m args below meth c Z n0 P kc ks μ' k2 n2 (mkF m q L (v.toList ++ st)) := fun v μ' ⟨z, e1, e2⟩ => by subst e1; exact h z μ' e2
theorem nxJ {Q : Int64 → Mem → Prop} (h : ∀ z μ', Q z μ' → Go p l e R s m args below meth c Z n0 P kc ks μ' k2 n2 (mkF m q L (.long z :: st))) : ∀ v μ', RJ Q v μ' → Go p l e R s m args below meth c Z n0 P kc ks μ' k2 n2 (mkF m q L (v.toList ++ st)) := fun v μ' ⟨z, e1, e2⟩ => by subst e1; exact h z μ' e2
theorem nxR {Q : Value → Mem → Prop} (h : ∀ z μ', z.isRef = true → Q z μ' → Go p l e R s m args below meth c Z n0 P kc ks μ' k2 n2 (mkF m q L (z :: st))) : ∀ v μ', RR Q v μ' → Go p l e R s m args below meth c Z n0 P kc ks μ' k2 n2 (mkF m q L (v.toList ++ st)) := fun v μ' ⟨z, e1, e2, e3⟩ => by subst e1; exact h z μ' e2 e3
end Nx
/-! calls by contract -/
theorem backs {y : MethodName} {B' : ByteArray} {ml' : Nat} {rt' : Option FieldType} {rm : Room} {len W : Nat} {as' : Array Value} {P' : Option Value → Mem → Prop} {h : Heap}
    (con : Con l Z n0 y B' ml' rt' [] rm rm.cells rm.slots as' μ P') (H : Hp Z n0 μ h) (hZ : Z.Warmed39 s.vm) (wc : (Cond.code y B' ml' rt').before a0 Z = true) (wz : (Cond.initialized y.cls).before a0 Z = true) (hf : rm.frames + 1 ≤ R.frames) (hl : W + (ml' + 11) + rm.locals ≤ R.locals) :
    Back l R p e below s args y len W (fun A a => a = as' ∧ A.U.heap = h ∧ A.cells + rm.cells ≤ R.cells ∧ A.slots + rm.slots ≤ R.slots)
      (fun A _ v B => ∃ L, (Fr n0 L ∧ ∃ μ', Hp Z n0 μ' B.U.heap ∧ P' v μ') ∧ B.locs = A.locs ++ L ∧ B.cells = A.cells + rm.cells ∧ B.slots = A.slots + rm.slots) :=
  backOf (Q := fun v h' L => Fr n0 L ∧ ∃ μ', Hp Z n0 μ' h' ∧ P' v μ') (con h H) hZ wc wz hf hl
theorem callS (C : Ctx p s m meth c Z own nm B ml rt) {i : Nat} {y : MethodName} {B' : ByteArray} {ml' : Nat} {rt' : Option FieldType} {rm : Room} {W : Nat} {argsL : List Value} {P' : Option Value → Mem → Prop} {S : List Value} (hd : decode B pc = .ok (.invokestatic i, 3)) (hq : pc + 3 = q)
    (w1 : (Cond.methodLink own i y).before a0 Z = true) (w2 : (Cond.static y).before a0 Z = true) (w3 : (Cond.initialized y.cls).before a0 Z = true) (w4 : (Cond.code y B' ml' rt').before a0 Z = true) (hy : y.cls ≠ "java/lang/invoke/MethodHandle" ∧ y.cls ≠ "java/lang/invoke/VarHandle")
    (hlen : ∀ sig, parseMethodDescriptor y.desc = some sig → argsL.length = sig.parameters.length) (hS : S = argsL.reverse ++ st) (hsz : L.size = ml) (hW : 2 * 0 + (st.map fun v => v.category).sum ≤ W) (hf : rm.frames + 1 ≤ R.frames) (hl : W + (ml' + 11) + rm.locals ≤ R.locals) (hc : k + rm.cells ≤ R.cells) (hs : n + rm.slots ≤ R.slots)
    (con : Con l Z n0 y B' ml' rt' [] rm rm.cells rm.slots argsL.toArray μ P')
    (k' : ∀ v μ', P' v μ' → Go p l e R s m args below meth c Z n0 P kc ks μ' (k + rm.cells) (n + rm.slots) (mkF m q L (v.toList ++ st))) : Go p l e R s m args below meth c Z n0 P kc ks μ k n (mkF m pc L S) := by
  subst hq
  intro T locs X F H
  obtain ⟨v, vm1, ⟨T', L', k2, n2⟩, -, X', ⟨Lc, ⟨N, μ', H', hP⟩, e1, e2, e3⟩, stp⟩ := Jvm.LawKit.callS X C.1 (y := y) C.2.2.2.2.1 (mvT C.2.2.2.1 w1) (mvT C.2.2.2.1 w2) (mvT C.2.2.2.1 w3) (mvT C.2.2.2.1 w4) hy (backs (W := W) con H C.2.2.2.1 w4 w3 hf hl) (g := mkF m pc L S) rfl (hsz.trans C.2.2.1.symm) (argsL := argsL) (rest := st) hlen hS hW (hb C.2.1 hd) (fun _ _ => ⟨rfl, rfl, hc, hs⟩)
  dsimp only [Pt.U, Pt.locs, Pt.cells, Pt.slots] at X' e1 e2 e3 stp H'
  subst e1 e2 e3
  obtain ⟨s2, o, h1, h2⟩ := k' v μ' hP T' _ X' (F.app N) H'
  exact ⟨s2, o, stp _ h1, h2⟩
theorem callI (C : Ctx p s m meth c Z own nm B ml rt) {i : Nat} {y : MethodName} {B' : ByteArray} {ml' : Nat} {rm : Room} {W : Nat} {argsL : List Value} {P' : Option Value → Mem → Prop} {S : List Value} {a : Addr} (hd : decode B pc = .ok (.invokespecial i, 3)) (hq : pc + 3 = q) (hnm : y.name = "<init>")
    (w1 : (Cond.methodLink own i y).before a0 Z = true) (w2 : (Cond.instanceMethod y).before a0 Z = true) (w3 : (Cond.initialized y.cls).before a0 Z = true) (w4 : (Cond.code y B' ml' none).before a0 Z = true) (hy : y.cls ≠ "java/lang/invoke/MethodHandle" ∧ y.cls ≠ "java/lang/invoke/VarHandle")
    (hlen : ∀ sig, parseMethodDescriptor y.desc = some sig → argsL.length = sig.parameters.length) (hS : S = argsL.reverse ++ .ref a :: st) (hsz : L.size = ml) (hW : 2 * 0 + (st.map fun v => v.category).sum ≤ W) (hf : rm.frames + 1 ≤ R.frames) (hl : W + (ml' + 11) + rm.locals ≤ R.locals) (hc : k + rm.cells ≤ R.cells) (hs : n + rm.slots ≤ R.slots)
    (con : Con l Z n0 y B' ml' none [] rm rm.cells rm.slots (.ref a :: argsL).toArray μ P')
    (k' : ∀ v μ', P' v μ' → Go p l e R s m args below meth c Z n0 P kc ks μ' (k + rm.cells) (n + rm.slots) (mkF m q L (v.toList ++ st))) : Go p l e R s m args below meth c Z n0 P kc ks μ k n (mkF m pc L S) := by
  subst hq
  intro T locs X F H
  obtain ⟨v, vm1, ⟨T', L', k2, n2⟩, -, X', ⟨Lc, ⟨N, μ', H', hP⟩, e1, e2, e3⟩, stp⟩ := X.specialBack C.1 (y := y) hnm C.2.2.2.2.1 (mvT C.2.2.2.1 w1) (mvT C.2.2.2.1 w2) (mvT C.2.2.2.1 w4) hy (backs (W := W) con H C.2.2.2.1 w4 w3 hf hl) (g := mkF m pc L S) rfl (hsz.trans C.2.2.1.symm) (Steps.refl _) (a := a) (argsL := argsL) (rest := st) hlen hS hW (hb C.2.1 hd) (fun _ _ => ⟨rfl, rfl, hc, hs⟩)
  dsimp only [Pt.U, Pt.locs, Pt.cells, Pt.slots] at X' e1 e2 e3 stp H'
  subst e1 e2 e3
  obtain ⟨s2, o, h1, h2⟩ := k' v μ' hP T' _ X' (F.app N) H'
  exact ⟨s2, o, stp.trans h1, h2⟩
theorem initObj (C : Ctx p s m meth c Z own nm B ml rt) {i W : Nat} {a : Addr} (hd : decode B pc = .ok (.invokespecial i, 3)) (hq : pc + 3 = q) (w1 : (Cond.methodLink own i Lib.objectInit).before a0 Z = true) (w2 : (Cond.instanceMethod Lib.objectInit).before a0 Z = true) (w3 : (Cond.code Lib.objectInit ⟨#[0xb1]⟩ 1 none).before a0 Z = true)
    (hsz : L.size = ml) (hf : 1 ≤ R.frames) (hW : 2 * 0 + (st.map fun v => v.category).sum ≤ W) (hl : W + 12 ≤ R.locals) (k' : Go p l e R s m args below meth c Z n0 P kc ks μ k n (mkF m q L st)) : Go p l e R s m args below meth c Z n0 P kc ks μ k n (mkF m pc L (.ref a :: st)) := by
  subst hq
  exact Go.stand k' fun T locs X H => initO X C.1 C.2.2.2.1 C.2.2.2.2.1 w1 w2 w3 rfl (g := mkF m pc L (.ref a :: st)) rfl (hsz.trans C.2.2.1.symm) rfl (hb C.2.1 hd) hf hW hl
theorem callV (C : Ctx p s m meth c Z own nm B ml rt) {i : Nat} {y z : MethodName} {K : String} {fs : List (Key × Value)} {B' : ByteArray} {ml' : Nat} {rt' : Option FieldType} {rm : Room} {W : Nat} {argsL : List Value} {P' : Option Value → Mem → Prop} {S : List Value} {a : Addr} (hd : decode B pc = .ok (.invokevirtual i, 3)) (hq : pc + 3 = q)
    (w1 : (Cond.methodLink own i y).before a0 Z = true) (w2 : (Cond.declares y).before a0 Z = true) (hnf : NotFace s y) (w5 : (Cond.selects K y z).before a0 Z = true) (w6 : (Cond.instanceMethod z).before a0 Z = true) (w3 : (Cond.initialized z.cls).before a0 Z = true) (w4 : (Cond.code z B' ml' rt').before a0 Z = true) (hy : y.cls ≠ "java/lang/invoke/MethodHandle" ∧ y.cls ≠ "java/lang/invoke/VarHandle")
    (hlen : ∀ sig, parseMethodDescriptor y.desc = some sig → argsL.length = sig.parameters.length) (hS : S = argsL.reverse ++ .ref a :: st) (hsz : L.size = ml) (hW : 2 * 0 + (st.map fun v => v.category).sum ≤ W) (hf : rm.frames + 1 ≤ R.frames) (hl : W + (ml' + 11) + rm.locals ≤ R.locals) (hc : k + rm.cells ≤ R.cells) (hs : n + rm.slots ≤ R.slots)
    (hμ : μ a = some (.inl (K, fs))) (con : Con l Z n0 z B' ml' rt' [] rm rm.cells rm.slots (.ref a :: argsL).toArray μ P')
    (k' : ∀ v μ', P' v μ' → Go p l e R s m args below meth c Z n0 P kc ks μ' (k + rm.cells) (n + rm.slots) (mkF m q L (v.toList ++ st))) : Go p l e R s m args below meth c Z n0 P kc ks μ k n (mkF m pc L S) := by
  subst hq
  intro T locs X F H
  obtain ⟨cq, kq, qa, qb, qc⟩ := isOf (T := T) C.2.2.2.1 rfl (H.2 a _ hμ).1
  obtain ⟨v, vm1, ⟨T', L', k2, n2⟩, -, X', ⟨Lc, ⟨N, μ', H', hP⟩, e1, e2, e3⟩, stp⟩ := X.virtualBack C.1 (y := y) (z := z) C.2.2.2.2.1 (mvT C.2.2.2.1 w1) (mvT C.2.2.2.1 w2) hnf (mvT C.2.2.2.1 w5) (mvT C.2.2.2.1 w6) hy (backs (W := W) con H C.2.2.2.1 w4 w3 hf hl) qa qc (g := mkF m pc L S) rfl (hsz.trans C.2.2.1.symm) (Steps.refl _) (argsL := argsL) (rest := st) hlen hS hW (hb C.2.1 hd) (fun _ _ => ⟨rfl, rfl, hc, hs⟩)
  dsimp only [Pt.U, Pt.locs, Pt.cells, Pt.slots] at X' e1 e2 e3 stp H'
  subst e1 e2 e3
  obtain ⟨s2, o, h1, h2⟩ := k' v μ' hP T' _ X' (F.app N) H'
  exact ⟨s2, o, stp.trans h1, h2⟩
theorem callP (C : Ctx p s m meth c Z own nm B ml rt) {i : Nat} {y : MethodName} {K : String} {fs : List (Key × Value)} {B' : ByteArray} {ml' : Nat} {rt' : Option FieldType} {rm : Room} {W : Nat} {argsL : List Value} {P' : Option Value → Mem → Prop} {S : List Value} {a : Addr} (hd : decode B pc = .ok (.invokevirtual i, 3)) (hq : pc + 3 = q)
    (w1 : (Cond.methodLink own i y).before a0 Z = true) (w2 : (Cond.privateMethod y).before a0 Z = true) {kk : Nat} (w5 : (Cond.instantiable y.cls kk).before a0 Z = true) (w6 : (Cond.instanceMethod y).before a0 Z = true) (w3 : (Cond.initialized y.cls).before a0 Z = true) (w4 : (Cond.code y B' ml' rt').before a0 Z = true) (hy : y.cls ≠ "java/lang/invoke/MethodHandle" ∧ y.cls ≠ "java/lang/invoke/VarHandle")
    (hlen : ∀ sig, parseMethodDescriptor y.desc = some sig → argsL.length = sig.parameters.length) (hS : S = argsL.reverse ++ .ref a :: st) (hsz : L.size = ml) (hW : 2 * 0 + (st.map fun v => v.category).sum ≤ W) (hf : rm.frames + 1 ≤ R.frames) (hl : W + (ml' + 11) + rm.locals ≤ R.locals) (hc : k + rm.cells ≤ R.cells) (hs : n + rm.slots ≤ R.slots)
    (hμ : μ a = some (.inl (K, fs))) (con : Con l Z n0 y B' ml' rt' [] rm rm.cells rm.slots (.ref a :: argsL).toArray μ P')
    (k' : ∀ v μ', P' v μ' → Go p l e R s m args below meth c Z n0 P kc ks μ' (k + rm.cells) (n + rm.slots) (mkF m q L (v.toList ++ st))) : Go p l e R s m args below meth c Z n0 P kc ks μ k n (mkF m pc L S) := by
  subst hq
  intro T locs X F H
  obtain ⟨cq, q1, q2⟩ := (H.2 a _ hμ).1.cell
  have hp : s.PrivateAt y := Cond.privateMethod_at (mvP C.2.2.2.1 w2 (args := #[]))
  obtain ⟨c2, k2, i1, i2, -, i4, -⟩ := Cond.instantiable_spec (show (Cond.instantiable y.cls kk).before args s = true from mvT C.2.2.2.1 w5)
  have h5 : (Cond.selects y.cls y y).before args s = true := Jvm.Stand.selects_self_of_private i1 i2 (by simp only [Bool.or_eq_false_iff] at i4; exact i4.1) hp (mvT C.2.2.2.1 w6) hy
  obtain ⟨v, vm1, ⟨T', L', k2, n2⟩, -, X', ⟨Lc, ⟨N, μ', H', hP⟩, e1, e2, e3⟩, stp⟩ := X.privateBack C.1 (y := y) C.2.2.2.2.1 (mvT C.2.2.2.1 w1) (mvT C.2.2.2.1 w6) h5 hp (mvT C.2.2.2.1 w4) hy (backs (W := W) con H C.2.2.2.1 w4 w3 hf hl) (g := mkF m pc L S) rfl (hsz.trans C.2.2.1.symm) (Steps.refl _) (a := a) q1 q2 (argsL := argsL) (rest := st) hlen hS hW (hb C.2.1 hd) (fun _ _ => ⟨rfl, rfl, hc, hs⟩)
  dsimp only [Pt.U, Pt.locs, Pt.cells, Pt.slots] at X' e1 e2 e3 stp H'
  subst e1 e2 e3
  obtain ⟨s2, o, h1, h2⟩ := k' v μ' hP T' _ X' (F.app N) H'
  exact ⟨s2, o, stp.trans h1, h2⟩
end Rules
end Jvm.Own
namespace Jvm.Pilot.@@N@@
open Jvm Jvm.ClassFile Sem Op Lib Jvm.Free Jvm.Stand Jvm.LawKit Jvm.RoadKit Bundle Jvm.Own Jvm.Pilot.@@N@@.Jvm.D
def exv (g pos : Int) : Int := if pos < 0 ∨ 7 < pos then 0 else 48 + g / (if pos = 0 then 10000000 else if pos = 1 then 1000000 else if pos = 2 then 100000 else if pos = 3 then 10000 else if pos = 4 then 1000 else if pos = 5 then 100 else if pos = 6 then 10 else 1) % 10
theorem exv_0 (g : Int) : exv g 0 = 48 + g / 10000000 % 10 := by simp [exv]
theorem exv_1 (g : Int) : exv g 1 = 48 + g / 1000000 % 10 := by simp [exv]
theorem exv_2 (g : Int) : exv g 2 = 48 + g / 100000 % 10 := by simp [exv]
theorem exv_3 (g : Int) : exv g 3 = 48 + g / 10000 % 10 := by simp [exv]
theorem exv_4 (g : Int) : exv g 4 = 48 + g / 1000 % 10 := by simp [exv]
theorem exv_5 (g : Int) : exv g 5 = 48 + g / 100 % 10 := by simp [exv]
theorem exv_6 (g : Int) : exv g 6 = 48 + g / 10 % 10 := by simp [exv]
theorem exv_7 (g : Int) : exv g 7 = 48 + g / 1 % 10 := by simp [exv]
theorem exv_out {g p : Int} (h : p < 0 ∨ 7 < p) : exv g p = 0 := by rw [exv, if_pos h]
theorem w_first {g : Int32} {a s : Int64} (e1 : a = g.toInt64) (e2 : s = a * 7205759404) (h : 0 ≤ g.toInt ∧ g.toInt < 100000000) : s.toInt = 7205759404 * g.toInt := by
  have o1 := c_i2l g; rw [← e1] at o1; have o2 := c_lmul a 7205759404; rw [← e2] at o2; have := rng64 s
  simp only [show (7205759404 : Int64).toInt = 7205759404 from rfl] at o2; omega
theorem w_next {s r s' : Int64} (e1 : r = s &&& 72057594037927935) (e2 : s' = r * 10) : s'.toInt = (s.toInt % 72057594037927936) * 10 := by
  have o1 := c_maskL s 72057594037927935 56 (by decide) (by decide); rw [← e1] at o1; have o2 := c_lmul r 10; rw [← e2] at o2; have := rng64 s'
  simp only [show (10 : Int64).toInt = 10 from rfl] at o2; omega
theorem w_byte {s t u : Int64} {v w : Int32} (e1 : t = (s.toUInt64 >>> ((56 : Int32) &&& 0x3f).toInt64.toUInt64).toInt64) (e2 : u = 48 + t) (e3 : v = u.toInt32) (e4 : w = v.toInt8.toInt32) (h : 0 ≤ s.toInt ∧ s.toInt < 720575940379279360) : w.toInt8.toInt32.toInt = 48 + s.toInt / 72057594037927936 := by
  have o1 := c_lushr s 56 56 (by decide) (by decide); rw [← e1] at o1; have o2 := c_ladd 48 t; rw [← e2] at o2
  have o3 := c_l2i u; rw [← e3] at o3; have o4 := c_i2b v; rw [← e4] at o4; have o5 := c_i2b w; have := rng64 u; have := rng32 v
  simp only [show (48 : Int64).toInt = 48 from rfl] at o2; omega
theorem w8 {s u : Int} (h : 0 ≤ u ∧ u < 10) (e : s / 72057594037927936 = u) : (0 ≤ s ∧ s < 720575940379279360) ∧ s / 72057594037927936 = u := by omega
theorem digs (g : Int) (h : 0 ≤ g ∧ g < 100000000) (s0 s1 s2 s3 s4 s5 s6 s7 : Int) (h0 : s0 = 7205759404 * g) (h1 : s1 = s0 % 72057594037927936 * 10) (h2 : s2 = s1 % 72057594037927936 * 10) (h3 : s3 = s2 % 72057594037927936 * 10) (h4 : s4 = s3 % 72057594037927936 * 10) (h5 : s5 = s4 % 72057594037927936 * 10) (h6 : s6 = s5 % 72057594037927936 * 10) (h7 : s7 = s6 % 72057594037927936 * 10) : ((0 ≤ s0 ∧ s0 < 720575940379279360) ∧ s0 / 72057594037927936 = g / 10000000 % 10) ∧ ((0 ≤ s1 ∧ s1 < 720575940379279360) ∧ s1 / 72057594037927936 = g / 1000000 % 10) ∧ ((0 ≤ s2 ∧ s2 < 720575940379279360) ∧ s2 / 72057594037927936 = g / 100000 % 10) ∧ ((0 ≤ s3 ∧ s3 < 720575940379279360) ∧ s3 / 72057594037927936 = g / 10000 % 10) ∧ ((0 ≤ s4 ∧ s4 < 720575940379279360) ∧ s4 / 72057594037927936 = g / 1000 % 10) ∧ ((0 ≤ s5 ∧ s5 < 720575940379279360) ∧ s5 / 72057594037927936 = g / 100 % 10) ∧ ((0 ≤ s6 ∧ s6 < 720575940379279360) ∧ s6 / 72057594037927936 = g / 10 % 10) ∧ ((0 ≤ s7 ∧ s7 < 720575940379279360) ∧ s7 / 72057594037927936 = g / 1 % 10) := by
  have r0 : s0 = 7205759404 * g - 720575940379279360 * (g / 100000000) := by omega
  have q0 : (7205759404 * g) / 72057594037927936 = g / 10000000 := by omega
  have r1 : s1 = 72057594040 * g - 720575940379279360 * (g / 10000000) := by omega
  have q1 : (72057594040 * g) / 72057594037927936 = g / 1000000 := by omega
  have r2 : s2 = 720575940400 * g - 720575940379279360 * (g / 1000000) := by omega
  have q2 : (720575940400 * g) / 72057594037927936 = g / 100000 := by omega
  have r3 : s3 = 7205759404000 * g - 720575940379279360 * (g / 100000) := by omega
  have q3 : (7205759404000 * g) / 72057594037927936 = g / 10000 := by omega
  have r4 : s4 = 72057594040000 * g - 720575940379279360 * (g / 10000) := by omega
  have q4 : (72057594040000 * g) / 72057594037927936 = g / 1000 := by omega
  have r5 : s5 = 720575940400000 * g - 720575940379279360 * (g / 1000) := by omega
  have q5 : (720575940400000 * g) / 72057594037927936 = g / 100 := by omega
  have r6 : s6 = 7205759404000000 * g - 720575940379279360 * (g / 100) := by omega
  have q6 : (7205759404000000 * g) / 72057594037927936 = g / 10 := by omega
  have r7 : s7 = 72057594040000000 * g - 720575940379279360 * (g / 10) := by omega
  have q7 : (72057594040000000 * g) / 72057594037927936 = g / 1 := by omega
  have m0 : g / 10000000 % 10 = g / 10000000 - 10 * (g / 100000000) := by clear r0 r1 r2 r3 r4 r5 r6 r7 q0 q1 q2 q3 q4 q5 q6 q7 h0 h1 h2 h3 h4 h5 h6 h7; omega
  have d0 : s0 / 72057594037927936 = g / 10000000 - 10 * (g / 100000000) := by rw [r0, ← q0]; clear r0 r1 r2 r3 r4 r5 r6 r7 q0 q1 q2 q3 q4 q5 q6 q7 h0 h1 h2 h3 h4 h5 h6 h7 m0; omega
  have b0 : 0 ≤ g / 10000000 % 10 ∧ g / 10000000 % 10 < 10 := by clear r0 r1 r2 r3 r4 r5 r6 r7 q0 q1 q2 q3 q4 q5 q6 q7 h0 h1 h2 h3 h4 h5 h6 h7 m0 d0; omega
  have m1 : g / 1000000 % 10 = g / 1000000 - 10 * (g / 10000000) := by clear r0 r1 r2 r3 r4 r5 r6 r7 q0 q1 q2 q3 q4 q5 q6 q7 h0 h1 h2 h3 h4 h5 h6 h7; omega
  have d1 : s1 / 72057594037927936 = g / 1000000 - 10 * (g / 10000000) := by rw [r1, ← q1]; clear r0 r1 r2 r3 r4 r5 r6 r7 q0 q1 q2 q3 q4 q5 q6 q7 h0 h1 h2 h3 h4 h5 h6 h7 m0 m1 d0; omega
  have b1 : 0 ≤ g / 1000000 % 10 ∧ g / 1000000 % 10 < 10 := by clear r0 r1 r2 r3 r4 r5 r6 r7 q0 q1 q2 q3 q4 q5 q6 q7 h0 h1 h2 h3 h4 h5 h6 h7 m0 m1 d0 d1 b0; omega
  have m2 : g / 100000 % 10 = g / 100000 - 10 * (g / 1000000) := by clear r0 r1 r2 r3 r4 r5 r6 r7 q0 q1 q2 q3 q4 q5 q6 q7 h0 h1 h2 h3 h4 h5 h6 h7; omega
  have d2 : s2 / 72057594037927936 = g / 100000 - 10 * (g / 1000000) := by rw [r2, ← q2]; clear r0 r1 r2 r3 r4 r5 r6 r7 q0 q1 q2 q3 q4 q5 q6 q7 h0 h1 h2 h3 h4 h5 h6 h7 m0 m1 m2 d0 d1; omega
  have b2 : 0 ≤ g / 100000 % 10 ∧ g / 100000 % 10 < 10 := by clear r0 r1 r2 r3 r4 r5 r6 r7 q0 q1 q2 q3 q4 q5 q6 q7 h0 h1 h2 h3 h4 h5 h6 h7 m0 m1 m2 d0 d1 d2 b0 b1; omega
  have m3 : g / 10000 % 10 = g / 10000 - 10 * (g / 100000) := by clear r0 r1 r2 r3 r4 r5 r6 r7 q0 q1 q2 q3 q4 q5 q6 q7 h0 h1 h2 h3 h4 h5 h6 h7; omega
  have d3 : s3 / 72057594037927936 = g / 10000 - 10 * (g / 100000) := by rw [r3, ← q3]; clear r0 r1 r2 r3 r4 r5 r6 r7 q0 q1 q2 q3 q4 q5 q6 q7 h0 h1 h2 h3 h4 h5 h6 h7 m0 m1 m2 m3 d0 d1 d2; omega
  have b3 : 0 ≤ g / 10000 % 10 ∧ g / 10000 % 10 < 10 := by clear r0 r1 r2 r3 r4 r5 r6 r7 q0 q1 q2 q3 q4 q5 q6 q7 h0 h1 h2 h3 h4 h5 h6 h7 m0 m1 m2 m3 d0 d1 d2 d3 b0 b1 b2; omega
  have m4 : g / 1000 % 10 = g / 1000 - 10 * (g / 10000) := by clear r0 r1 r2 r3 r4 r5 r6 r7 q0 q1 q2 q3 q4 q5 q6 q7 h0 h1 h2 h3 h4 h5 h6 h7; omega
  have d4 : s4 / 72057594037927936 = g / 1000 - 10 * (g / 10000) := by rw [r4, ← q4]; clear r0 r1 r2 r3 r4 r5 r6 r7 q0 q1 q2 q3 q4 q5 q6 q7 h0 h1 h2 h3 h4 h5 h6 h7 m0 m1 m2 m3 m4 d0 d1 d2 d3; omega
  have b4 : 0 ≤ g / 1000 % 10 ∧ g / 1000 % 10 < 10 := by clear r0 r1 r2 r3 r4 r5 r6 r7 q0 q1 q2 q3 q4 q5 q6 q7 h0 h1 h2 h3 h4 h5 h6 h7 m0 m1 m2 m3 m4 d0 d1 d2 d3 d4 b0 b1 b2 b3; omega
  have m5 : g / 100 % 10 = g / 100 - 10 * (g / 1000) := by clear r0 r1 r2 r3 r4 r5 r6 r7 q0 q1 q2 q3 q4 q5 q6 q7 h0 h1 h2 h3 h4 h5 h6 h7; omega
  have d5 : s5 / 72057594037927936 = g / 100 - 10 * (g / 1000) := by rw [r5, ← q5]; clear r0 r1 r2 r3 r4 r5 r6 r7 q0 q1 q2 q3 q4 q5 q6 q7 h0 h1 h2 h3 h4 h5 h6 h7 m0 m1 m2 m3 m4 m5 d0 d1 d2 d3 d4; omega
  have b5 : 0 ≤ g / 100 % 10 ∧ g / 100 % 10 < 10 := by clear r0 r1 r2 r3 r4 r5 r6 r7 q0 q1 q2 q3 q4 q5 q6 q7 h0 h1 h2 h3 h4 h5 h6 h7 m0 m1 m2 m3 m4 m5 d0 d1 d2 d3 d4 d5 b0 b1 b2 b3 b4; omega
  have m6 : g / 10 % 10 = g / 10 - 10 * (g / 100) := by clear r0 r1 r2 r3 r4 r5 r6 r7 q0 q1 q2 q3 q4 q5 q6 q7 h0 h1 h2 h3 h4 h5 h6 h7; omega
  have d6 : s6 / 72057594037927936 = g / 10 - 10 * (g / 100) := by rw [r6, ← q6]; clear r0 r1 r2 r3 r4 r5 r6 r7 q0 q1 q2 q3 q4 q5 q6 q7 h0 h1 h2 h3 h4 h5 h6 h7 m0 m1 m2 m3 m4 m5 m6 d0 d1 d2 d3 d4 d5; omega
  have b6 : 0 ≤ g / 10 % 10 ∧ g / 10 % 10 < 10 := by clear r0 r1 r2 r3 r4 r5 r6 r7 q0 q1 q2 q3 q4 q5 q6 q7 h0 h1 h2 h3 h4 h5 h6 h7 m0 m1 m2 m3 m4 m5 m6 d0 d1 d2 d3 d4 d5 d6 b0 b1 b2 b3 b4 b5; omega
  have m7 : g / 1 % 10 = g / 1 - 10 * (g / 10) := by clear r0 r1 r2 r3 r4 r5 r6 r7 q0 q1 q2 q3 q4 q5 q6 q7 h0 h1 h2 h3 h4 h5 h6 h7; omega
  have d7 : s7 / 72057594037927936 = g / 1 - 10 * (g / 10) := by rw [r7, ← q7]; clear r0 r1 r2 r3 r4 r5 r6 r7 q0 q1 q2 q3 q4 q5 q6 q7 h0 h1 h2 h3 h4 h5 h6 h7 m0 m1 m2 m3 m4 m5 m6 m7 d0 d1 d2 d3 d4 d5 d6; omega
  have b7 : 0 ≤ g / 1 % 10 ∧ g / 1 % 10 < 10 := by clear r0 r1 r2 r3 r4 r5 r6 r7 q0 q1 q2 q3 q4 q5 q6 q7 h0 h1 h2 h3 h4 h5 h6 h7 m0 m1 m2 m3 m4 m5 m6 m7 d0 d1 d2 d3 d4 d5 d6 d7 b0 b1 b2 b3 b4 b5 b6; omega
  refine ⟨w8 b0 (d0.trans m0.symm), w8 b1 (d1.trans m1.symm), w8 b2 (d2.trans m2.symm), w8 b3 (d3.trans m3.symm), w8 b4 (d4.trans m4.symm), w8 b5 (d5.trans m5.symm), w8 b6 (d6.trans m6.symm), w8 b7 (d7.trans m7.symm)⟩
abbrev rm_3 : Room := { frames := 0, cells := 0, slots := 0, locals := 0 }
theorem d3_0 : decode method_4_code 0 = .ok (.iload_n 2, 1) := by decide +kernel
theorem d3_1 : decode method_4_code 1 = .ok (.iload_n 1, 1) := by decide +kernel
theorem d3_2 : decode method_4_code 2 = .ok (.isub, 1) := by decide +kernel
theorem d3_3 : decode method_4_code 3 = .ok (.istore_n 3, 1) := by decide +kernel
theorem d3_4 : decode method_4_code 4 = .ok (.iload_n 3, 1) := by decide +kernel
theorem d3_5 : decode method_4_code 5 = .ok (.ifCond .lt 9, 3) := by decide +kernel
theorem d3_8 : decode method_4_code 8 = .ok (.iload_n 3, 1) := by decide +kernel
theorem d3_9 : decode method_4_code 9 = .ok (.bipush 7, 2) := by decide +kernel
theorem d3_11 : decode method_4_code 11 = .ok (.if_icmp .le 5, 3) := by decide +kernel
theorem d3_14 : decode method_4_code 14 = .ok (.iconst 0, 1) := by decide +kernel
theorem d3_15 : decode method_4_code 15 = .ok (.ireturn, 1) := by decide +kernel
theorem d3_16 : decode method_4_code 16 = .ok (.iload_n 3, 1) := by decide +kernel
theorem d3_17 : decode method_4_code 17 = .ok (.ifCond .ne 10, 3) := by decide +kernel
theorem d3_20 : decode method_4_code 20 = .ok (.ldc 25, 2) := by decide +kernel
theorem d3_22 : decode method_4_code 22 = .ok (.istore 4, 2) := by decide +kernel
theorem d3_24 : decode method_4_code 24 = .ok (.goto 81, 3) := by decide +kernel
theorem d3_27 : decode method_4_code 27 = .ok (.iload_n 3, 1) := by decide +kernel
theorem d3_28 : decode method_4_code 28 = .ok (.iconst 1, 1) := by decide +kernel
theorem d3_29 : decode method_4_code 29 = .ok (.if_icmp .ne 10, 3) := by decide +kernel
theorem d3_32 : decode method_4_code 32 = .ok (.ldc 26, 2) := by decide +kernel
theorem d3_34 : decode method_4_code 34 = .ok (.istore 4, 2) := by decide +kernel
theorem d3_36 : decode method_4_code 36 = .ok (.goto 69, 3) := by decide +kernel
theorem d3_39 : decode method_4_code 39 = .ok (.iload_n 3, 1) := by decide +kernel
theorem d3_40 : decode method_4_code 40 = .ok (.iconst 2, 1) := by decide +kernel
theorem d3_41 : decode method_4_code 41 = .ok (.if_icmp .ne 10, 3) := by decide +kernel
theorem d3_44 : decode method_4_code 44 = .ok (.ldc 27, 2) := by decide +kernel
theorem d3_46 : decode method_4_code 46 = .ok (.istore 4, 2) := by decide +kernel
theorem d3_48 : decode method_4_code 48 = .ok (.goto 57, 3) := by decide +kernel
theorem d3_51 : decode method_4_code 51 = .ok (.iload_n 3, 1) := by decide +kernel
theorem d3_52 : decode method_4_code 52 = .ok (.iconst 3, 1) := by decide +kernel
theorem d3_53 : decode method_4_code 53 = .ok (.if_icmp .ne 11, 3) := by decide +kernel
theorem d3_56 : decode method_4_code 56 = .ok (.sipush 10000, 3) := by decide +kernel
theorem d3_59 : decode method_4_code 59 = .ok (.istore 4, 2) := by decide +kernel
theorem d3_61 : decode method_4_code 61 = .ok (.goto 44, 3) := by decide +kernel
theorem d3_64 : decode method_4_code 64 = .ok (.iload_n 3, 1) := by decide +kernel
theorem d3_65 : decode method_4_code 65 = .ok (.iconst 4, 1) := by decide +kernel
theorem d3_66 : decode method_4_code 66 = .ok (.if_icmp .ne 11, 3) := by decide +kernel
theorem d3_69 : decode method_4_code 69 = .ok (.sipush 1000, 3) := by decide +kernel
theorem d3_72 : decode method_4_code 72 = .ok (.istore 4, 2) := by decide +kernel
theorem d3_74 : decode method_4_code 74 = .ok (.goto 31, 3) := by decide +kernel
theorem d3_77 : decode method_4_code 77 = .ok (.iload_n 3, 1) := by decide +kernel
theorem d3_78 : decode method_4_code 78 = .ok (.iconst 5, 1) := by decide +kernel
theorem d3_79 : decode method_4_code 79 = .ok (.if_icmp .ne 10, 3) := by decide +kernel
theorem d3_82 : decode method_4_code 82 = .ok (.bipush 100, 2) := by decide +kernel
theorem d3_84 : decode method_4_code 84 = .ok (.istore 4, 2) := by decide +kernel
theorem d3_86 : decode method_4_code 86 = .ok (.goto 19, 3) := by decide +kernel
theorem d3_89 : decode method_4_code 89 = .ok (.iload_n 3, 1) := by decide +kernel
theorem d3_90 : decode method_4_code 90 = .ok (.bipush 6, 2) := by decide +kernel
theorem d3_92 : decode method_4_code 92 = .ok (.if_icmp .ne 10, 3) := by decide +kernel
theorem d3_95 : decode method_4_code 95 = .ok (.bipush 10, 2) := by decide +kernel
theorem d3_97 : decode method_4_code 97 = .ok (.istore 4, 2) := by decide +kernel
theorem d3_99 : decode method_4_code 99 = .ok (.goto 6, 3) := by decide +kernel
theorem d3_102 : decode method_4_code 102 = .ok (.iconst 1, 1) := by decide +kernel
theorem d3_103 : decode method_4_code 103 = .ok (.istore 4, 2) := by decide +kernel
theorem d3_105 : decode method_4_code 105 = .ok (.bipush 48, 2) := by decide +kernel
theorem d3_107 : decode method_4_code 107 = .ok (.iload_n 0, 1) := by decide +kernel
theorem d3_108 : decode method_4_code 108 = .ok (.iload 4, 2) := by decide +kernel
theorem d3_110 : decode method_4_code 110 = .ok (.idiv, 1) := by decide +kernel
theorem d3_111 : decode method_4_code 111 = .ok (.bipush 10, 2) := by decide +kernel
theorem d3_113 : decode method_4_code 113 = .ok (.irem, 1) := by decide +kernel
theorem d3_114 : decode method_4_code 114 = .ok (.iadd, 1) := by decide +kernel
theorem d3_115 : decode method_4_code 115 = .ok (.i2b, 1) := by decide +kernel
theorem d3_116 : decode method_4_code 116 = .ok (.ireturn, 1) := by decide +kernel
set_option maxRecDepth 65536 in
set_option maxHeartbeats 4000000 in
theorem c_exp (l : Launch) (Z : State) (a0 : Array Value) (hw : ∀ d ∈ tables_1, d.before a0 Z = true) (n0 : Nat) (μ : Mem) (g : Int32) (t : Int32) (i : Int32) (hg : 0 ≤ g.toInt ∧ g.toInt < 100000000) (hi : 0 ≤ i.toInt ∧ i.toInt ≤ 11) (ht : 0 ≤ t.toInt ∧ t.toInt ≤ 3) :
    Con l Z n0 (⟨"com/example/porthcurno/porthcurno/dissect/LineWriterWriteEightDigitsPinLaw", "expected", "(III)B"⟩ : MethodName) method_4_code 5 (some .byte) [] rm_3 rm_3.cells rm_3.slots #[(.int g), (.int t), (.int i)] μ (RI fun z μ' => μ' = μ ∧ z.toInt = exv g.toInt (i.toInt - t.toInt)) := by
  refine Con.intro (L0 := #[.val (.int g), .val (.int t), .val (.int i), .unset, .unset]) (plainFor_of_name (by first | (simp [plainName, overriddenIn]; done) | decide +kernel)) (fun m => by first | (simp [entryFrame, mkF, argsToLocals, Value.category]; done) | rfl) ?_
  intro p e s m below meth c C
  have C : Ctx p s m meth c Z "com/example/porthcurno/porthcurno/dissect/LineWriterWriteEightDigitsPinLaw" "expected" method_4_code 5 (some .byte) := C
  refine Own.iloadN C d3_0 (q := 1) rfl rfl ?_
  refine Own.iloadN C d3_1 (q := 2) rfl rfl ?_
  refine Own.isub C d3_2 (q := 3) rfl fun z2 e2 => ?_
  refine Own.istoreN C d3_3 (q := 4) rfl (L' := #[.val (.int g), .val (.int t), .val (.int i), .val (.int z2), .unset]) rfl ?_
  refine Own.iloadN C d3_4 (q := 5) rfl rfl ?_
  refine Own.if_lt C d3_5 (q := 8) rfl (r := 14) (by decide) (fun h5 => ?_) (fun h5 => ?_)
  · refine Own.iconst C d3_14 (q := 15) rfl (z := 0) (by decide) ?_
    refine Own.nreturn C d3_15 (by simp) (z' := (0 : Int32)) (by decide) (by decide) (by decide) ?_
    have o2 := c_isub i t; rw [← e2] at o2; have q2 := rng32 z2
    refine ⟨_, rfl, rfl, (exv_out ?_).symm⟩
    simp only [Int32.lt_iff_toInt_lt, ← Int32.toInt_inj, Int32.reduceToInt] at *
    omega
  · refine Own.iloadN C d3_8 (q := 9) rfl rfl ?_
    refine Own.bipush C d3_9 (q := 11) rfl (z := 7) (by decide) ?_
    refine Own.icmp_le C d3_11 (q := 14) rfl (r := 16) (by decide) (fun h11 => ?_) (fun h11 => ?_)
    · refine Own.iloadN C d3_16 (q := 17) rfl rfl ?_
      refine Own.if_ne C d3_17 (q := 20) rfl (r := 27) (by decide) (fun h17 => ?_) (fun h17 => ?_)
      · refine Own.iloadN C d3_27 (q := 28) rfl rfl ?_
        refine Own.iconst C d3_28 (q := 29) rfl (z := 1) (by decide) ?_
        refine Own.icmp_ne C d3_29 (q := 32) rfl (r := 39) (by decide) (fun h29 => ?_) (fun h29 => ?_)
        · refine Own.iloadN C d3_39 (q := 40) rfl rfl ?_
          refine Own.iconst C d3_40 (q := 41) rfl (z := 2) (by decide) ?_
          refine Own.icmp_ne C d3_41 (q := 44) rfl (r := 51) (by decide) (fun h41 => ?_) (fun h41 => ?_)
          · refine Own.iloadN C d3_51 (q := 52) rfl rfl ?_
            refine Own.iconst C d3_52 (q := 53) rfl (z := 3) (by decide) ?_
            refine Own.icmp_ne C d3_53 (q := 56) rfl (r := 64) (by decide) (fun h53 => ?_) (fun h53 => ?_)
            · refine Own.iloadN C d3_64 (q := 65) rfl rfl ?_
              refine Own.iconst C d3_65 (q := 66) rfl (z := 4) (by decide) ?_
              refine Own.icmp_ne C d3_66 (q := 69) rfl (r := 77) (by decide) (fun h66 => ?_) (fun h66 => ?_)
              · refine Own.iloadN C d3_77 (q := 78) rfl rfl ?_
                refine Own.iconst C d3_78 (q := 79) rfl (z := 5) (by decide) ?_
                refine Own.icmp_ne C d3_79 (q := 82) rfl (r := 89) (by decide) (fun h79 => ?_) (fun h79 => ?_)
                · refine Own.iloadN C d3_89 (q := 90) rfl rfl ?_
                  refine Own.bipush C d3_90 (q := 92) rfl (z := 6) (by decide) ?_
                  refine Own.icmp_ne C d3_92 (q := 95) rfl (r := 102) (by decide) (fun h92 => ?_) (fun h92 => ?_)
                  · refine Own.iconst C d3_102 (q := 103) rfl (z := 1) (by decide) ?_
                    refine Own.istore C d3_103 (q := 105) rfl (L' := #[.val (.int g), .val (.int t), .val (.int i), .val (.int z2), .val (.int (1 : Int32))]) rfl ?_
                    refine Own.bipush C d3_105 (q := 107) rfl (z := 48) (by decide) ?_
                    refine Own.iloadN C d3_107 (q := 108) rfl rfl ?_
                    refine Own.iload C d3_108 (q := 110) rfl rfl ?_
                    refine Own.idiv C d3_110 (q := 111) rfl (by decide) fun z110 e110 => ?_
                    refine Own.bipush C d3_111 (q := 113) rfl (z := 10) (by decide) ?_
                    refine Own.irem C d3_113 (q := 114) rfl (by decide) fun z113 e113 => ?_
                    refine Own.iadd C d3_114 (q := 115) rfl fun z114 e114 => ?_
                    refine Own.i2b C d3_115 (q := 116) rfl fun z115 e115 => ?_
                    refine Own.nreturn C d3_116 (by simp) (z' := z115.toInt8.toInt32) rfl (by decide) (by decide) ?_
                    have o2 := c_isub i t; rw [← e2] at o2; have q2 := rng32 z2
                    have o3 := c_idiv g 1 1 (by decide) (by decide); rw [← e110] at o3
                    have o4 := c_irem z110 10 10 (by decide); rw [← e113] at o4
                    have o5 := c_iadd 48 z113; rw [← e114] at o5; have q5 := rng32 z114
                    have o6 := c_i2b z114; rw [← e115] at o6
                    have o7 := c_i2b z115
                    refine ⟨_, rfl, rfl, ?_⟩
                    rw [show i.toInt - t.toInt = 7 by (simp only [Int32.lt_iff_toInt_lt, ← Int32.toInt_inj, Int32.reduceToInt] at *; omega), exv_7]
                    simp only [Int32.reduceToInt] at o5
                    clear o2 q2
                    omega
                  · refine Own.bipush C d3_95 (q := 97) rfl (z := 10) (by decide) ?_
                    refine Own.istore C d3_97 (q := 99) rfl (L' := #[.val (.int g), .val (.int t), .val (.int i), .val (.int z2), .val (.int (10 : Int32))]) rfl ?_
                    refine Own.goto C d3_99 (q := 105) (by decide) ?_
                    refine Own.bipush C d3_105 (q := 107) rfl (z := 48) (by decide) ?_
                    refine Own.iloadN C d3_107 (q := 108) rfl rfl ?_
                    refine Own.iload C d3_108 (q := 110) rfl rfl ?_
                    refine Own.idiv C d3_110 (q := 111) rfl (by decide) fun z110 e110 => ?_
                    refine Own.bipush C d3_111 (q := 113) rfl (z := 10) (by decide) ?_
                    refine Own.irem C d3_113 (q := 114) rfl (by decide) fun z113 e113 => ?_
                    refine Own.iadd C d3_114 (q := 115) rfl fun z114 e114 => ?_
                    refine Own.i2b C d3_115 (q := 116) rfl fun z115 e115 => ?_
                    refine Own.nreturn C d3_116 (by simp) (z' := z115.toInt8.toInt32) rfl (by decide) (by decide) ?_
                    have o2 := c_isub i t; rw [← e2] at o2; have q2 := rng32 z2
                    have o3 := c_idiv g 10 10 (by decide) (by decide); rw [← e110] at o3
                    have o4 := c_irem z110 10 10 (by decide); rw [← e113] at o4
                    have o5 := c_iadd 48 z113; rw [← e114] at o5; have q5 := rng32 z114
                    have o6 := c_i2b z114; rw [← e115] at o6
                    have o7 := c_i2b z115
                    refine ⟨_, rfl, rfl, ?_⟩
                    rw [show i.toInt - t.toInt = 6 by (simp only [Int32.lt_iff_toInt_lt, ← Int32.toInt_inj, Int32.reduceToInt] at *; omega), exv_6]
                    simp only [Int32.reduceToInt] at o5
                    clear o2 q2
                    omega
                · refine Own.bipush C d3_82 (q := 84) rfl (z := 100) (by decide) ?_
                  refine Own.istore C d3_84 (q := 86) rfl (L' := #[.val (.int g), .val (.int t), .val (.int i), .val (.int z2), .val (.int (100 : Int32))]) rfl ?_
                  refine Own.goto C d3_86 (q := 105) (by decide) ?_
                  refine Own.bipush C d3_105 (q := 107) rfl (z := 48) (by decide) ?_
                  refine Own.iloadN C d3_107 (q := 108) rfl rfl ?_
                  refine Own.iload C d3_108 (q := 110) rfl rfl ?_
                  refine Own.idiv C d3_110 (q := 111) rfl (by decide) fun z110 e110 => ?_
                  refine Own.bipush C d3_111 (q := 113) rfl (z := 10) (by decide) ?_
                  refine Own.irem C d3_113 (q := 114) rfl (by decide) fun z113 e113 => ?_
                  refine Own.iadd C d3_114 (q := 115) rfl fun z114 e114 => ?_
                  refine Own.i2b C d3_115 (q := 116) rfl fun z115 e115 => ?_
                  refine Own.nreturn C d3_116 (by simp) (z' := z115.toInt8.toInt32) rfl (by decide) (by decide) ?_
                  have o2 := c_isub i t; rw [← e2] at o2; have q2 := rng32 z2
                  have o3 := c_idiv g 100 100 (by decide) (by decide); rw [← e110] at o3
                  have o4 := c_irem z110 10 10 (by decide); rw [← e113] at o4
                  have o5 := c_iadd 48 z113; rw [← e114] at o5; have q5 := rng32 z114
                  have o6 := c_i2b z114; rw [← e115] at o6
                  have o7 := c_i2b z115
                  refine ⟨_, rfl, rfl, ?_⟩
                  rw [show i.toInt - t.toInt = 5 by (simp only [Int32.lt_iff_toInt_lt, ← Int32.toInt_inj, Int32.reduceToInt] at *; omega), exv_5]
                  simp only [Int32.reduceToInt] at o5
                  clear o2 q2
                  omega
              · refine Own.sipush C d3_69 (q := 72) rfl (z := 1000) (by decide) ?_
                refine Own.istore C d3_72 (q := 74) rfl (L' := #[.val (.int g), .val (.int t), .val (.int i), .val (.int z2), .val (.int (1000 : Int32))]) rfl ?_
                refine Own.goto C d3_74 (q := 105) (by decide) ?_
                refine Own.bipush C d3_105 (q := 107) rfl (z := 48) (by decide) ?_
                refine Own.iloadN C d3_107 (q := 108) rfl rfl ?_
                refine Own.iload C d3_108 (q := 110) rfl rfl ?_
                refine Own.idiv C d3_110 (q := 111) rfl (by decide) fun z110 e110 => ?_
                refine Own.bipush C d3_111 (q := 113) rfl (z := 10) (by decide) ?_
                refine Own.irem C d3_113 (q := 114) rfl (by decide) fun z113 e113 => ?_
                refine Own.iadd C d3_114 (q := 115) rfl fun z114 e114 => ?_
                refine Own.i2b C d3_115 (q := 116) rfl fun z115 e115 => ?_
                refine Own.nreturn C d3_116 (by simp) (z' := z115.toInt8.toInt32) rfl (by decide) (by decide) ?_
                have o2 := c_isub i t; rw [← e2] at o2; have q2 := rng32 z2
                have o3 := c_idiv g 1000 1000 (by decide) (by decide); rw [← e110] at o3
                have o4 := c_irem z110 10 10 (by decide); rw [← e113] at o4
                have o5 := c_iadd 48 z113; rw [← e114] at o5; have q5 := rng32 z114
                have o6 := c_i2b z114; rw [← e115] at o6
                have o7 := c_i2b z115
                refine ⟨_, rfl, rfl, ?_⟩
                rw [show i.toInt - t.toInt = 4 by (simp only [Int32.lt_iff_toInt_lt, ← Int32.toInt_inj, Int32.reduceToInt] at *; omega), exv_4]
                simp only [Int32.reduceToInt] at o5
                clear o2 q2
                omega
            · refine Own.sipush C d3_56 (q := 59) rfl (z := 10000) (by decide) ?_
              refine Own.istore C d3_59 (q := 61) rfl (L' := #[.val (.int g), .val (.int t), .val (.int i), .val (.int z2), .val (.int (10000 : Int32))]) rfl ?_
              refine Own.goto C d3_61 (q := 105) (by decide) ?_
              refine Own.bipush C d3_105 (q := 107) rfl (z := 48) (by decide) ?_
              refine Own.iloadN C d3_107 (q := 108) rfl rfl ?_
              refine Own.iload C d3_108 (q := 110) rfl rfl ?_
              refine Own.idiv C d3_110 (q := 111) rfl (by decide) fun z110 e110 => ?_
              refine Own.bipush C d3_111 (q := 113) rfl (z := 10) (by decide) ?_
              refine Own.irem C d3_113 (q := 114) rfl (by decide) fun z113 e113 => ?_
              refine Own.iadd C d3_114 (q := 115) rfl fun z114 e114 => ?_
              refine Own.i2b C d3_115 (q := 116) rfl fun z115 e115 => ?_
              refine Own.nreturn C d3_116 (by simp) (z' := z115.toInt8.toInt32) rfl (by decide) (by decide) ?_
              have o2 := c_isub i t; rw [← e2] at o2; have q2 := rng32 z2
              have o3 := c_idiv g 10000 10000 (by decide) (by decide); rw [← e110] at o3
              have o4 := c_irem z110 10 10 (by decide); rw [← e113] at o4
              have o5 := c_iadd 48 z113; rw [← e114] at o5; have q5 := rng32 z114
              have o6 := c_i2b z114; rw [← e115] at o6
              have o7 := c_i2b z115
              refine ⟨_, rfl, rfl, ?_⟩
              rw [show i.toInt - t.toInt = 3 by (simp only [Int32.lt_iff_toInt_lt, ← Int32.toInt_inj, Int32.reduceToInt] at *; omega), exv_3]
              simp only [Int32.reduceToInt] at o5
              clear o2 q2
              omega
          · refine Own.ldcI C d3_44 (q := 46) rfl (hw _ (List.mem_of_getElem? (i := 20) rfl)) ?_
            refine Own.istore C d3_46 (q := 48) rfl (L' := #[.val (.int g), .val (.int t), .val (.int i), .val (.int z2), .val (.int (100000 : Int32))]) rfl ?_
            refine Own.goto C d3_48 (q := 105) (by decide) ?_
            refine Own.bipush C d3_105 (q := 107) rfl (z := 48) (by decide) ?_
            refine Own.iloadN C d3_107 (q := 108) rfl rfl ?_
            refine Own.iload C d3_108 (q := 110) rfl rfl ?_
            refine Own.idiv C d3_110 (q := 111) rfl (by decide) fun z110 e110 => ?_
            refine Own.bipush C d3_111 (q := 113) rfl (z := 10) (by decide) ?_
            refine Own.irem C d3_113 (q := 114) rfl (by decide) fun z113 e113 => ?_
            refine Own.iadd C d3_114 (q := 115) rfl fun z114 e114 => ?_
            refine Own.i2b C d3_115 (q := 116) rfl fun z115 e115 => ?_
            refine Own.nreturn C d3_116 (by simp) (z' := z115.toInt8.toInt32) rfl (by decide) (by decide) ?_
            have o2 := c_isub i t; rw [← e2] at o2; have q2 := rng32 z2
            have o3 := c_idiv g 100000 100000 (by decide) (by decide); rw [← e110] at o3
            have o4 := c_irem z110 10 10 (by decide); rw [← e113] at o4
            have o5 := c_iadd 48 z113; rw [← e114] at o5; have q5 := rng32 z114
            have o6 := c_i2b z114; rw [← e115] at o6
            have o7 := c_i2b z115
            refine ⟨_, rfl, rfl, ?_⟩
            rw [show i.toInt - t.toInt = 2 by (simp only [Int32.lt_iff_toInt_lt, ← Int32.toInt_inj, Int32.reduceToInt] at *; omega), exv_2]
            simp only [Int32.reduceToInt] at o5
            clear o2 q2
            omega
        · refine Own.ldcI C d3_32 (q := 34) rfl (hw _ (List.mem_of_getElem? (i := 19) rfl)) ?_
          refine Own.istore C d3_34 (q := 36) rfl (L' := #[.val (.int g), .val (.int t), .val (.int i), .val (.int z2), .val (.int (1000000 : Int32))]) rfl ?_
          refine Own.goto C d3_36 (q := 105) (by decide) ?_
          refine Own.bipush C d3_105 (q := 107) rfl (z := 48) (by decide) ?_
          refine Own.iloadN C d3_107 (q := 108) rfl rfl ?_
          refine Own.iload C d3_108 (q := 110) rfl rfl ?_
          refine Own.idiv C d3_110 (q := 111) rfl (by decide) fun z110 e110 => ?_
          refine Own.bipush C d3_111 (q := 113) rfl (z := 10) (by decide) ?_
          refine Own.irem C d3_113 (q := 114) rfl (by decide) fun z113 e113 => ?_
          refine Own.iadd C d3_114 (q := 115) rfl fun z114 e114 => ?_
          refine Own.i2b C d3_115 (q := 116) rfl fun z115 e115 => ?_
          refine Own.nreturn C d3_116 (by simp) (z' := z115.toInt8.toInt32) rfl (by decide) (by decide) ?_
          have o2 := c_isub i t; rw [← e2] at o2; have q2 := rng32 z2
          have o3 := c_idiv g 1000000 1000000 (by decide) (by decide); rw [← e110] at o3
          have o4 := c_irem z110 10 10 (by decide); rw [← e113] at o4
          have o5 := c_iadd 48 z113; rw [← e114] at o5; have q5 := rng32 z114
          have o6 := c_i2b z114; rw [← e115] at o6
          have o7 := c_i2b z115
          refine ⟨_, rfl, rfl, ?_⟩
          rw [show i.toInt - t.toInt = 1 by (simp only [Int32.lt_iff_toInt_lt, ← Int32.toInt_inj, Int32.reduceToInt] at *; omega), exv_1]
          simp only [Int32.reduceToInt] at o5
          clear o2 q2
          omega
      · refine Own.ldcI C d3_20 (q := 22) rfl (hw _ (List.mem_of_getElem? (i := 18) rfl)) ?_
        refine Own.istore C d3_22 (q := 24) rfl (L' := #[.val (.int g), .val (.int t), .val (.int i), .val (.int z2), .val (.int (10000000 : Int32))]) rfl ?_
        refine Own.goto C d3_24 (q := 105) (by decide) ?_
        refine Own.bipush C d3_105 (q := 107) rfl (z := 48) (by decide) ?_
        refine Own.iloadN C d3_107 (q := 108) rfl rfl ?_
        refine Own.iload C d3_108 (q := 110) rfl rfl ?_
        refine Own.idiv C d3_110 (q := 111) rfl (by decide) fun z110 e110 => ?_
        refine Own.bipush C d3_111 (q := 113) rfl (z := 10) (by decide) ?_
        refine Own.irem C d3_113 (q := 114) rfl (by decide) fun z113 e113 => ?_
        refine Own.iadd C d3_114 (q := 115) rfl fun z114 e114 => ?_
        refine Own.i2b C d3_115 (q := 116) rfl fun z115 e115 => ?_
        refine Own.nreturn C d3_116 (by simp) (z' := z115.toInt8.toInt32) rfl (by decide) (by decide) ?_
        have o2 := c_isub i t; rw [← e2] at o2; have q2 := rng32 z2
        have o3 := c_idiv g 10000000 10000000 (by decide) (by decide); rw [← e110] at o3
        have o4 := c_irem z110 10 10 (by decide); rw [← e113] at o4
        have o5 := c_iadd 48 z113; rw [← e114] at o5; have q5 := rng32 z114
        have o6 := c_i2b z114; rw [← e115] at o6
        have o7 := c_i2b z115
        refine ⟨_, rfl, rfl, ?_⟩
        rw [show i.toInt - t.toInt = 0 by (simp only [Int32.lt_iff_toInt_lt, ← Int32.toInt_inj, Int32.reduceToInt] at *; omega), exv_0]
        simp only [Int32.reduceToInt] at o5
        clear o2 q2
        omega
    · refine Own.iconst C d3_14 (q := 15) rfl (z := 0) (by decide) ?_
      refine Own.nreturn C d3_15 (by simp) (z' := (0 : Int32)) (by decide) (by decide) (by decide) ?_
      have o2 := c_isub i t; rw [← e2] at o2; have q2 := rng32 z2
      refine ⟨_, rfl, rfl, (exv_out ?_).symm⟩
      simp only [Int32.lt_iff_toInt_lt, ← Int32.toInt_inj, Int32.reduceToInt] at *
      omega
theorem pd_0 : parseMethodDescriptor "(III)B" = some ⟨[.int, .int, .int], some .byte⟩ := by decide +kernel
abbrev rm_2 : Room := { frames := 1, cells := 0, slots := 0, locals := 17 }
theorem d2_0 : decode method_3_code 0 = .ok (.aload_n 0, 1) := by decide +kernel
theorem d2_1 : decode method_3_code 1 = .ok (.iload_n 3, 1) := by decide +kernel
theorem d2_2 : decode method_3_code 2 = .ok (.baload, 1) := by decide +kernel
theorem d2_3 : decode method_3_code 3 = .ok (.iload_n 1, 1) := by decide +kernel
theorem d2_4 : decode method_3_code 4 = .ok (.iload_n 2, 1) := by decide +kernel
theorem d2_5 : decode method_3_code 5 = .ok (.iload_n 3, 1) := by decide +kernel
theorem d2_6 : decode method_3_code 6 = .ok (.invokestatic 21, 3) := by decide +kernel
theorem d2_9 : decode method_3_code 9 = .ok (.if_icmp .ne 7, 3) := by decide +kernel
theorem d2_12 : decode method_3_code 12 = .ok (.iconst 1, 1) := by decide +kernel
theorem d2_13 : decode method_3_code 13 = .ok (.goto 4, 3) := by decide +kernel
theorem d2_17 : decode method_3_code 17 = .ok (.ireturn, 1) := by decide +kernel
set_option maxRecDepth 65536 in
set_option maxHeartbeats 4000000 in
theorem c_check (l : Launch) (Z : State) (a0 : Array Value) (hw : ∀ d ∈ tables_1, d.before a0 Z = true) (n0 : Nat) (μ : Mem) (a : Addr) (g : Int32) (t : Int32) (i : Int32) (hg : 0 ≤ g.toInt ∧ g.toInt < 100000000) (hi : 0 ≤ i.toInt ∧ i.toInt ≤ 11) (ht : 0 ≤ t.toInt ∧ t.toInt ≤ 3) (vs : List Value) (b : Int32) (ha : μ a = some (.inr (.byte, vs))) (hv : vs[i.toNatClampNeg]? = some (.int b)) (hb : b.toInt = exv g.toInt (i.toInt - t.toInt)) :
    Con l Z n0 (⟨"com/example/porthcurno/porthcurno/dissect/LineWriterWriteEightDigitsPinLaw", "check", "([BIII)Z"⟩ : MethodName) method_3_code 4 (some .boolean) [] rm_2 rm_2.cells rm_2.slots #[(.ref a), (.int g), (.int t), (.int i)] μ (RI fun z μ' => μ' = μ ∧ z = 1) := by
  refine Con.intro (L0 := #[.val (.ref a), .val (.int g), .val (.int t), .val (.int i)]) (plainFor_of_name (by first | (simp [plainName, overriddenIn]; done) | decide +kernel)) (fun m => by first | (simp [entryFrame, mkF, argsToLocals, Value.category]; done) | rfl) ?_
  intro p e s m below meth c C
  have C : Ctx p s m meth c Z "com/example/porthcurno/porthcurno/dissect/LineWriterWriteEightDigitsPinLaw" "check" method_3_code 4 (some .boolean) := C
  refine Own.aloadN C d2_0 (q := 1) rfl rfl rfl ?_
  refine Own.iloadN C d2_1 (q := 2) rfl rfl ?_
  refine Own.baload C d2_2 (q := 3) rfl ha (by rw [Int32.lt_iff_toInt_lt, show (0 : Int32).toInt = 0 from rfl]; omega) (v := (.int b)) hv ?_
  refine Own.iloadN C d2_3 (q := 4) rfl rfl ?_
  refine Own.iloadN C d2_4 (q := 5) rfl rfl ?_
  refine Own.iloadN C d2_5 (q := 6) rfl rfl ?_
  refine Own.callS C d2_6 (q := 9) rfl (hw _ (List.mem_of_getElem? (i := 15) rfl)) (hw _ (List.mem_of_getElem? (i := 16) rfl)) (hw _ (List.mem_of_getElem? (i := 13) rfl)) (hw _ (List.mem_of_getElem? (i := 17) rfl)) (by decide) (W := 1) (rm := rm_3) (argsL := [(.int g), (.int t), (.int i)]) (st := [(.int b)]) (lenOf pd_0 rfl) rfl rfl (Nat.le_of_eq rfl) (by decide) (by decide) (by decide) (by decide) (c_exp l Z a0 hw n0 _ g t i hg hi ht) (nxI fun z6 μ6 h6 => ?_)
  obtain ⟨rfl, h6⟩ := h6
  refine Own.icmp_ne C d2_9 (q := 12) rfl (r := 16) (by decide) (fun h9 => ?_) (fun h9 => ?_)
  · exact absurd (Int32.toInt_inj.mp (hb.trans h6.symm)) h9
  · refine Own.iconst C d2_12 (q := 13) rfl (z := 1) (by decide) ?_
    refine Own.goto C d2_13 (q := 17) (by decide) ?_
    refine Own.nreturn C d2_17 (by simp) (z' := (1 : Int32)) (by decide) (by decide) (by decide) ?_
    exact ⟨_, rfl, rfl, rfl⟩
abbrev rm_1 : Room := { frames := 0, cells := 0, slots := 0, locals := 0 }
theorem d1_0 : decode prog_116_method_12_code 0 = .ok (.iload_n 1, 1) := by decide +kernel
theorem d1_1 : decode prog_116_method_12_code 1 = .ok (.i2l, 1) := by decide +kernel
theorem d1_2 : decode prog_116_method_12_code 2 = .ok (.ldc2_w 122, 3) := by decide +kernel
theorem d1_5 : decode prog_116_method_12_code 5 = .ok (.lmul, 1) := by decide +kernel
theorem d1_6 : decode prog_116_method_12_code 6 = .ok (.lstore_n 3, 1) := by decide +kernel
theorem d1_7 : decode prog_116_method_12_code 7 = .ok (.aload_n 0, 1) := by decide +kernel
theorem d1_8 : decode prog_116_method_12_code 8 = .ok (.iload_n 2, 1) := by decide +kernel
theorem d1_9 : decode prog_116_method_12_code 9 = .ok (.ldc2_w 124, 3) := by decide +kernel
theorem d1_12 : decode prog_116_method_12_code 12 = .ok (.lload_n 3, 1) := by decide +kernel
theorem d1_13 : decode prog_116_method_12_code 13 = .ok (.bipush 56, 2) := by decide +kernel
theorem d1_15 : decode prog_116_method_12_code 15 = .ok (.lushr, 1) := by decide +kernel
theorem d1_16 : decode prog_116_method_12_code 16 = .ok (.ladd, 1) := by decide +kernel
theorem d1_17 : decode prog_116_method_12_code 17 = .ok (.l2i, 1) := by decide +kernel
theorem d1_18 : decode prog_116_method_12_code 18 = .ok (.i2b, 1) := by decide +kernel
theorem d1_19 : decode prog_116_method_12_code 19 = .ok (.bastore, 1) := by decide +kernel
theorem d1_20 : decode prog_116_method_12_code 20 = .ok (.lload_n 3, 1) := by decide +kernel
theorem d1_21 : decode prog_116_method_12_code 21 = .ok (.ldc2_w 126, 3) := by decide +kernel
theorem d1_24 : decode prog_116_method_12_code 24 = .ok (.land, 1) := by decide +kernel
theorem d1_25 : decode prog_116_method_12_code 25 = .ok (.ldc2_w 128, 3) := by decide +kernel
theorem d1_28 : decode prog_116_method_12_code 28 = .ok (.lmul, 1) := by decide +kernel
theorem d1_29 : decode prog_116_method_12_code 29 = .ok (.lstore_n 3, 1) := by decide +kernel
theorem d1_30 : decode prog_116_method_12_code 30 = .ok (.aload_n 0, 1) := by decide +kernel
theorem d1_31 : decode prog_116_method_12_code 31 = .ok (.iload_n 2, 1) := by decide +kernel
theorem d1_32 : decode prog_116_method_12_code 32 = .ok (.iconst 1, 1) := by decide +kernel
theorem d1_33 : decode prog_116_method_12_code 33 = .ok (.iadd, 1) := by decide +kernel
theorem d1_34 : decode prog_116_method_12_code 34 = .ok (.ldc2_w 124, 3) := by decide +kernel
theorem d1_37 : decode prog_116_method_12_code 37 = .ok (.lload_n 3, 1) := by decide +kernel
theorem d1_38 : decode prog_116_method_12_code 38 = .ok (.bipush 56, 2) := by decide +kernel
theorem d1_40 : decode prog_116_method_12_code 40 = .ok (.lushr, 1) := by decide +kernel
theorem d1_41 : decode prog_116_method_12_code 41 = .ok (.ladd, 1) := by decide +kernel
theorem d1_42 : decode prog_116_method_12_code 42 = .ok (.l2i, 1) := by decide +kernel
theorem d1_43 : decode prog_116_method_12_code 43 = .ok (.i2b, 1) := by decide +kernel
theorem d1_44 : decode prog_116_method_12_code 44 = .ok (.bastore, 1) := by decide +kernel
theorem d1_45 : decode prog_116_method_12_code 45 = .ok (.lload_n 3, 1) := by decide +kernel
theorem d1_46 : decode prog_116_method_12_code 46 = .ok (.ldc2_w 126, 3) := by decide +kernel
theorem d1_49 : decode prog_116_method_12_code 49 = .ok (.land, 1) := by decide +kernel
theorem d1_50 : decode prog_116_method_12_code 50 = .ok (.ldc2_w 128, 3) := by decide +kernel
theorem d1_53 : decode prog_116_method_12_code 53 = .ok (.lmul, 1) := by decide +kernel
theorem d1_54 : decode prog_116_method_12_code 54 = .ok (.lstore_n 3, 1) := by decide +kernel
theorem d1_55 : decode prog_116_method_12_code 55 = .ok (.aload_n 0, 1) := by decide +kernel
theorem d1_56 : decode prog_116_method_12_code 56 = .ok (.iload_n 2, 1) := by decide +kernel
theorem d1_57 : decode prog_116_method_12_code 57 = .ok (.iconst 2, 1) := by decide +kernel
theorem d1_58 : decode prog_116_method_12_code 58 = .ok (.iadd, 1) := by decide +kernel
theorem d1_59 : decode prog_116_method_12_code 59 = .ok (.ldc2_w 124, 3) := by decide +kernel
theorem d1_62 : decode prog_116_method_12_code 62 = .ok (.lload_n 3, 1) := by decide +kernel
theorem d1_63 : decode prog_116_method_12_code 63 = .ok (.bipush 56, 2) := by decide +kernel
theorem d1_65 : decode prog_116_method_12_code 65 = .ok (.lushr, 1) := by decide +kernel
theorem d1_66 : decode prog_116_method_12_code 66 = .ok (.ladd, 1) := by decide +kernel
theorem d1_67 : decode prog_116_method_12_code 67 = .ok (.l2i, 1) := by decide +kernel
theorem d1_68 : decode prog_116_method_12_code 68 = .ok (.i2b, 1) := by decide +kernel
theorem d1_69 : decode prog_116_method_12_code 69 = .ok (.bastore, 1) := by decide +kernel
theorem d1_70 : decode prog_116_method_12_code 70 = .ok (.lload_n 3, 1) := by decide +kernel
theorem d1_71 : decode prog_116_method_12_code 71 = .ok (.ldc2_w 126, 3) := by decide +kernel
theorem d1_74 : decode prog_116_method_12_code 74 = .ok (.land, 1) := by decide +kernel
theorem d1_75 : decode prog_116_method_12_code 75 = .ok (.ldc2_w 128, 3) := by decide +kernel
theorem d1_78 : decode prog_116_method_12_code 78 = .ok (.lmul, 1) := by decide +kernel
theorem d1_79 : decode prog_116_method_12_code 79 = .ok (.lstore_n 3, 1) := by decide +kernel
theorem d1_80 : decode prog_116_method_12_code 80 = .ok (.aload_n 0, 1) := by decide +kernel
theorem d1_81 : decode prog_116_method_12_code 81 = .ok (.iload_n 2, 1) := by decide +kernel
theorem d1_82 : decode prog_116_method_12_code 82 = .ok (.iconst 3, 1) := by decide +kernel
theorem d1_83 : decode prog_116_method_12_code 83 = .ok (.iadd, 1) := by decide +kernel
theorem d1_84 : decode prog_116_method_12_code 84 = .ok (.ldc2_w 124, 3) := by decide +kernel
theorem d1_87 : decode prog_116_method_12_code 87 = .ok (.lload_n 3, 1) := by decide +kernel
theorem d1_88 : decode prog_116_method_12_code 88 = .ok (.bipush 56, 2) := by decide +kernel
theorem d1_90 : decode prog_116_method_12_code 90 = .ok (.lushr, 1) := by decide +kernel
theorem d1_91 : decode prog_116_method_12_code 91 = .ok (.ladd, 1) := by decide +kernel
theorem d1_92 : decode prog_116_method_12_code 92 = .ok (.l2i, 1) := by decide +kernel
theorem d1_93 : decode prog_116_method_12_code 93 = .ok (.i2b, 1) := by decide +kernel
theorem d1_94 : decode prog_116_method_12_code 94 = .ok (.bastore, 1) := by decide +kernel
theorem d1_95 : decode prog_116_method_12_code 95 = .ok (.lload_n 3, 1) := by decide +kernel
theorem d1_96 : decode prog_116_method_12_code 96 = .ok (.ldc2_w 126, 3) := by decide +kernel
theorem d1_99 : decode prog_116_method_12_code 99 = .ok (.land, 1) := by decide +kernel
theorem d1_100 : decode prog_116_method_12_code 100 = .ok (.ldc2_w 128, 3) := by decide +kernel
theorem d1_103 : decode prog_116_method_12_code 103 = .ok (.lmul, 1) := by decide +kernel
theorem d1_104 : decode prog_116_method_12_code 104 = .ok (.lstore_n 3, 1) := by decide +kernel
theorem d1_105 : decode prog_116_method_12_code 105 = .ok (.aload_n 0, 1) := by decide +kernel
theorem d1_106 : decode prog_116_method_12_code 106 = .ok (.iload_n 2, 1) := by decide +kernel
theorem d1_107 : decode prog_116_method_12_code 107 = .ok (.iconst 4, 1) := by decide +kernel
theorem d1_108 : decode prog_116_method_12_code 108 = .ok (.iadd, 1) := by decide +kernel
theorem d1_109 : decode prog_116_method_12_code 109 = .ok (.ldc2_w 124, 3) := by decide +kernel
theorem d1_112 : decode prog_116_method_12_code 112 = .ok (.lload_n 3, 1) := by decide +kernel
theorem d1_113 : decode prog_116_method_12_code 113 = .ok (.bipush 56, 2) := by decide +kernel
theorem d1_115 : decode prog_116_method_12_code 115 = .ok (.lushr, 1) := by decide +kernel
theorem d1_116 : decode prog_116_method_12_code 116 = .ok (.ladd, 1) := by decide +kernel
theorem d1_117 : decode prog_116_method_12_code 117 = .ok (.l2i, 1) := by decide +kernel
theorem d1_118 : decode prog_116_method_12_code 118 = .ok (.i2b, 1) := by decide +kernel
theorem d1_119 : decode prog_116_method_12_code 119 = .ok (.bastore, 1) := by decide +kernel
theorem d1_120 : decode prog_116_method_12_code 120 = .ok (.lload_n 3, 1) := by decide +kernel
theorem d1_121 : decode prog_116_method_12_code 121 = .ok (.ldc2_w 126, 3) := by decide +kernel
theorem d1_124 : decode prog_116_method_12_code 124 = .ok (.land, 1) := by decide +kernel
theorem d1_125 : decode prog_116_method_12_code 125 = .ok (.ldc2_w 128, 3) := by decide +kernel
theorem d1_128 : decode prog_116_method_12_code 128 = .ok (.lmul, 1) := by decide +kernel
theorem d1_129 : decode prog_116_method_12_code 129 = .ok (.lstore_n 3, 1) := by decide +kernel
theorem d1_130 : decode prog_116_method_12_code 130 = .ok (.aload_n 0, 1) := by decide +kernel
theorem d1_131 : decode prog_116_method_12_code 131 = .ok (.iload_n 2, 1) := by decide +kernel
theorem d1_132 : decode prog_116_method_12_code 132 = .ok (.iconst 5, 1) := by decide +kernel
theorem d1_133 : decode prog_116_method_12_code 133 = .ok (.iadd, 1) := by decide +kernel
theorem d1_134 : decode prog_116_method_12_code 134 = .ok (.ldc2_w 124, 3) := by decide +kernel
theorem d1_137 : decode prog_116_method_12_code 137 = .ok (.lload_n 3, 1) := by decide +kernel
theorem d1_138 : decode prog_116_method_12_code 138 = .ok (.bipush 56, 2) := by decide +kernel
theorem d1_140 : decode prog_116_method_12_code 140 = .ok (.lushr, 1) := by decide +kernel
theorem d1_141 : decode prog_116_method_12_code 141 = .ok (.ladd, 1) := by decide +kernel
theorem d1_142 : decode prog_116_method_12_code 142 = .ok (.l2i, 1) := by decide +kernel
theorem d1_143 : decode prog_116_method_12_code 143 = .ok (.i2b, 1) := by decide +kernel
theorem d1_144 : decode prog_116_method_12_code 144 = .ok (.bastore, 1) := by decide +kernel
theorem d1_145 : decode prog_116_method_12_code 145 = .ok (.lload_n 3, 1) := by decide +kernel
theorem d1_146 : decode prog_116_method_12_code 146 = .ok (.ldc2_w 126, 3) := by decide +kernel
theorem d1_149 : decode prog_116_method_12_code 149 = .ok (.land, 1) := by decide +kernel
theorem d1_150 : decode prog_116_method_12_code 150 = .ok (.ldc2_w 128, 3) := by decide +kernel
theorem d1_153 : decode prog_116_method_12_code 153 = .ok (.lmul, 1) := by decide +kernel
theorem d1_154 : decode prog_116_method_12_code 154 = .ok (.lstore_n 3, 1) := by decide +kernel
theorem d1_155 : decode prog_116_method_12_code 155 = .ok (.aload_n 0, 1) := by decide +kernel
theorem d1_156 : decode prog_116_method_12_code 156 = .ok (.iload_n 2, 1) := by decide +kernel
theorem d1_157 : decode prog_116_method_12_code 157 = .ok (.bipush 6, 2) := by decide +kernel
theorem d1_159 : decode prog_116_method_12_code 159 = .ok (.iadd, 1) := by decide +kernel
theorem d1_160 : decode prog_116_method_12_code 160 = .ok (.ldc2_w 124, 3) := by decide +kernel
theorem d1_163 : decode prog_116_method_12_code 163 = .ok (.lload_n 3, 1) := by decide +kernel
theorem d1_164 : decode prog_116_method_12_code 164 = .ok (.bipush 56, 2) := by decide +kernel
theorem d1_166 : decode prog_116_method_12_code 166 = .ok (.lushr, 1) := by decide +kernel
theorem d1_167 : decode prog_116_method_12_code 167 = .ok (.ladd, 1) := by decide +kernel
theorem d1_168 : decode prog_116_method_12_code 168 = .ok (.l2i, 1) := by decide +kernel
theorem d1_169 : decode prog_116_method_12_code 169 = .ok (.i2b, 1) := by decide +kernel
theorem d1_170 : decode prog_116_method_12_code 170 = .ok (.bastore, 1) := by decide +kernel
theorem d1_171 : decode prog_116_method_12_code 171 = .ok (.lload_n 3, 1) := by decide +kernel
theorem d1_172 : decode prog_116_method_12_code 172 = .ok (.ldc2_w 126, 3) := by decide +kernel
theorem d1_175 : decode prog_116_method_12_code 175 = .ok (.land, 1) := by decide +kernel
theorem d1_176 : decode prog_116_method_12_code 176 = .ok (.ldc2_w 128, 3) := by decide +kernel
theorem d1_179 : decode prog_116_method_12_code 179 = .ok (.lmul, 1) := by decide +kernel
theorem d1_180 : decode prog_116_method_12_code 180 = .ok (.lstore_n 3, 1) := by decide +kernel
theorem d1_181 : decode prog_116_method_12_code 181 = .ok (.aload_n 0, 1) := by decide +kernel
theorem d1_182 : decode prog_116_method_12_code 182 = .ok (.iload_n 2, 1) := by decide +kernel
theorem d1_183 : decode prog_116_method_12_code 183 = .ok (.bipush 7, 2) := by decide +kernel
theorem d1_185 : decode prog_116_method_12_code 185 = .ok (.iadd, 1) := by decide +kernel
theorem d1_186 : decode prog_116_method_12_code 186 = .ok (.ldc2_w 124, 3) := by decide +kernel
theorem d1_189 : decode prog_116_method_12_code 189 = .ok (.lload_n 3, 1) := by decide +kernel
theorem d1_190 : decode prog_116_method_12_code 190 = .ok (.bipush 56, 2) := by decide +kernel
theorem d1_192 : decode prog_116_method_12_code 192 = .ok (.lushr, 1) := by decide +kernel
theorem d1_193 : decode prog_116_method_12_code 193 = .ok (.ladd, 1) := by decide +kernel
theorem d1_194 : decode prog_116_method_12_code 194 = .ok (.l2i, 1) := by decide +kernel
theorem d1_195 : decode prog_116_method_12_code 195 = .ok (.i2b, 1) := by decide +kernel
theorem d1_196 : decode prog_116_method_12_code 196 = .ok (.bastore, 1) := by decide +kernel
theorem d1_197 : decode prog_116_method_12_code 197 = .ok (.return_, 1) := by decide +kernel
set_option maxRecDepth 65536 in
set_option maxHeartbeats 4000000 in
theorem c_w8_0 (l : Launch) (Z : State) (a0 : Array Value) (hw : ∀ d ∈ tables_1, d.before a0 Z = true) (n0 : Nat) (μ : Mem) (a : Addr) (g : Int32) (hg : 0 ≤ g.toInt ∧ g.toInt < 100000000) (ha : μ a = some (.inr (.byte, [(.int (0 : Int32)), (.int (0 : Int32)), (.int (0 : Int32)), (.int (0 : Int32)), (.int (0 : Int32)), (.int (0 : Int32)), (.int (0 : Int32)), (.int (0 : Int32)), (.int (0 : Int32)), (.int (0 : Int32)), (.int (0 : Int32)), (.int (0 : Int32))]))) (ga : n0 ≤ a) :
    Con l Z n0 (⟨"com/example/porthcurno/porthcurno/dissect/LineWriter", "writeEightDigits", "([BII)V"⟩ : MethodName) prog_116_method_12_code 5 none [] rm_1 rm_1.cells rm_1.slots #[(.ref a), (.int g), (.int (0 : Int32))] μ (RV fun μ' => ∃ d0 d1 d2 d3 d4 d5 d6 d7 : Int32, μ' = upd μ a (.inr (.byte, [(.int d0), (.int d1), (.int d2), (.int d3), (.int d4), (.int d5), (.int d6), (.int d7), (.int (0 : Int32)), (.int (0 : Int32)), (.int (0 : Int32)), (.int (0 : Int32))])) ∧ d0.toInt = 48 + g.toInt / 10000000 % 10 ∧ d1.toInt = 48 + g.toInt / 1000000 % 10 ∧ d2.toInt = 48 + g.toInt / 100000 % 10 ∧ d3.toInt = 48 + g.toInt / 10000 % 10 ∧ d4.toInt = 48 + g.toInt / 1000 % 10 ∧ d5.toInt = 48 + g.toInt / 100 % 10 ∧ d6.toInt = 48 + g.toInt / 10 % 10 ∧ d7.toInt = 48 + g.toInt / 1 % 10) := by
  refine Con.intro (L0 := #[.val (.ref a), .val (.int g), .val (.int (0 : Int32)), .unset, .unset]) (plainFor_of_name (by first | (simp [plainName, overriddenIn]; done) | decide +kernel)) (fun m => by first | (simp [entryFrame, mkF, argsToLocals, Value.category]; done) | rfl) ?_
  intro p e s m below meth c C
  have C : Ctx p s m meth c Z "com/example/porthcurno/porthcurno/dissect/LineWriter" "writeEightDigits" prog_116_method_12_code 5 none := C
  refine Own.iloadN C d1_0 (q := 1) rfl rfl ?_
  refine Own.i2l C d1_1 (q := 2) rfl fun z1 e1 => ?_
  refine Own.ldcJ C d1_2 (q := 5) rfl (hw _ (List.mem_of_getElem? (i := 7) rfl)) ?_
  refine Own.lmul C d1_5 (q := 6) rfl fun z5 e5 => ?_
  refine Own.lstoreN C d1_6 (q := 7) rfl (L' := #[.val (.ref a), .val (.int g), .val (.int (0 : Int32)), .val (.long z5), .second]) rfl ?_
  refine Own.aloadN C d1_7 (q := 8) rfl rfl rfl ?_
  refine Own.iloadN C d1_8 (q := 9) rfl rfl ?_
  refine Own.ldcJ C d1_9 (q := 12) rfl (hw _ (List.mem_of_getElem? (i := 8) rfl)) ?_
  refine Own.lloadN C d1_12 (q := 13) rfl rfl ?_
  refine Own.bipush C d1_13 (q := 15) rfl (z := 56) (by decide) ?_
  refine Own.lushr C d1_15 (q := 16) rfl fun z15 e15 => ?_
  refine Own.ladd C d1_16 (q := 17) rfl fun z16 e16 => ?_
  refine Own.l2i C d1_17 (q := 18) rfl fun z17 e17 => ?_
  refine Own.i2b C d1_18 (q := 19) rfl fun z18 e18 => ?_
  refine Own.bastore C d1_19 (q := 20) rfl ha (by decide) (Nat.le_of_ble_eq_true rfl) ga (mem (upd_list (vs' := [(.int z18.toInt8.toInt32), (.int (0 : Int32)), (.int (0 : Int32)), (.int (0 : Int32)), (.int (0 : Int32)), (.int (0 : Int32)), (.int (0 : Int32)), (.int (0 : Int32)), (.int (0 : Int32)), (.int (0 : Int32)), (.int (0 : Int32)), (.int (0 : Int32))]) rfl rfl) ?_)
  refine Own.lloadN C d1_20 (q := 21) rfl rfl ?_
  refine Own.ldcJ C d1_21 (q := 24) rfl (hw _ (List.mem_of_getElem? (i := 9) rfl)) ?_
  refine Own.land C d1_24 (q := 25) rfl fun z24 e24 => ?_
  refine Own.ldcJ C d1_25 (q := 28) rfl (hw _ (List.mem_of_getElem? (i := 10) rfl)) ?_
  refine Own.lmul C d1_28 (q := 29) rfl fun z28 e28 => ?_
  refine Own.lstoreN C d1_29 (q := 30) rfl (L' := #[.val (.ref a), .val (.int g), .val (.int (0 : Int32)), .val (.long z28), .second]) rfl ?_
  refine Own.aloadN C d1_30 (q := 31) rfl rfl rfl ?_
  refine Own.iloadN C d1_31 (q := 32) rfl rfl ?_
  refine Own.iconst C d1_32 (q := 33) rfl (z := 1) (by decide) ?_
  refine Own.iadd C d1_33 (q := 34) rfl fun z33 e33 => ?_
  obtain rfl : z33 = (1 : Int32) := e33.trans (by decide)
  refine Own.ldcJ C d1_34 (q := 37) rfl (hw _ (List.mem_of_getElem? (i := 8) rfl)) ?_
  refine Own.lloadN C d1_37 (q := 38) rfl rfl ?_
  refine Own.bipush C d1_38 (q := 40) rfl (z := 56) (by decide) ?_
  refine Own.lushr C d1_40 (q := 41) rfl fun z40 e40 => ?_
  refine Own.ladd C d1_41 (q := 42) rfl fun z41 e41 => ?_
  refine Own.l2i C d1_42 (q := 43) rfl fun z42 e42 => ?_
  refine Own.i2b C d1_43 (q := 44) rfl fun z43 e43 => ?_
  refine Own.bastore C d1_44 (q := 45) rfl upd_same (by decide) (Nat.le_of_ble_eq_true rfl) ga (mem (upd_list (vs' := [(.int z18.toInt8.toInt32), (.int z43.toInt8.toInt32), (.int (0 : Int32)), (.int (0 : Int32)), (.int (0 : Int32)), (.int (0 : Int32)), (.int (0 : Int32)), (.int (0 : Int32)), (.int (0 : Int32)), (.int (0 : Int32)), (.int (0 : Int32)), (.int (0 : Int32))]) rfl upd_upd) ?_)
  refine Own.lloadN C d1_45 (q := 46) rfl rfl ?_
  refine Own.ldcJ C d1_46 (q := 49) rfl (hw _ (List.mem_of_getElem? (i := 9) rfl)) ?_
  refine Own.land C d1_49 (q := 50) rfl fun z49 e49 => ?_
  refine Own.ldcJ C d1_50 (q := 53) rfl (hw _ (List.mem_of_getElem? (i := 10) rfl)) ?_
  refine Own.lmul C d1_53 (q := 54) rfl fun z53 e53 => ?_
  refine Own.lstoreN C d1_54 (q := 55) rfl (L' := #[.val (.ref a), .val (.int g), .val (.int (0 : Int32)), .val (.long z53), .second]) rfl ?_
  refine Own.aloadN C d1_55 (q := 56) rfl rfl rfl ?_
  refine Own.iloadN C d1_56 (q := 57) rfl rfl ?_
  refine Own.iconst C d1_57 (q := 58) rfl (z := 2) (by decide) ?_
  refine Own.iadd C d1_58 (q := 59) rfl fun z58 e58 => ?_
  obtain rfl : z58 = (2 : Int32) := e58.trans (by decide)
  refine Own.ldcJ C d1_59 (q := 62) rfl (hw _ (List.mem_of_getElem? (i := 8) rfl)) ?_
  refine Own.lloadN C d1_62 (q := 63) rfl rfl ?_
  refine Own.bipush C d1_63 (q := 65) rfl (z := 56) (by decide) ?_
  refine Own.lushr C d1_65 (q := 66) rfl fun z65 e65 => ?_
  refine Own.ladd C d1_66 (q := 67) rfl fun z66 e66 => ?_
  refine Own.l2i C d1_67 (q := 68) rfl fun z67 e67 => ?_
  refine Own.i2b C d1_68 (q := 69) rfl fun z68 e68 => ?_
  refine Own.bastore C d1_69 (q := 70) rfl upd_same (by decide) (Nat.le_of_ble_eq_true rfl) ga (mem (upd_list (vs' := [(.int z18.toInt8.toInt32), (.int z43.toInt8.toInt32), (.int z68.toInt8.toInt32), (.int (0 : Int32)), (.int (0 : Int32)), (.int (0 : Int32)), (.int (0 : Int32)), (.int (0 : Int32)), (.int (0 : Int32)), (.int (0 : Int32)), (.int (0 : Int32)), (.int (0 : Int32))]) rfl upd_upd) ?_)
  refine Own.lloadN C d1_70 (q := 71) rfl rfl ?_
  refine Own.ldcJ C d1_71 (q := 74) rfl (hw _ (List.mem_of_getElem? (i := 9) rfl)) ?_
  refine Own.land C d1_74 (q := 75) rfl fun z74 e74 => ?_
  refine Own.ldcJ C d1_75 (q := 78) rfl (hw _ (List.mem_of_getElem? (i := 10) rfl)) ?_
  refine Own.lmul C d1_78 (q := 79) rfl fun z78 e78 => ?_
  refine Own.lstoreN C d1_79 (q := 80) rfl (L' := #[.val (.ref a), .val (.int g), .val (.int (0 : Int32)), .val (.long z78), .second]) rfl ?_
  refine Own.aloadN C d1_80 (q := 81) rfl rfl rfl ?_
  refine Own.iloadN C d1_81 (q := 82) rfl rfl ?_
  refine Own.iconst C d1_82 (q := 83) rfl (z := 3) (by decide) ?_
  refine Own.iadd C d1_83 (q := 84) rfl fun z83 e83 => ?_
  obtain rfl : z83 = (3 : Int32) := e83.trans (by decide)
  refine Own.ldcJ C d1_84 (q := 87) rfl (hw _ (List.mem_of_getElem? (i := 8) rfl)) ?_
  refine Own.lloadN C d1_87 (q := 88) rfl rfl ?_
  refine Own.bipush C d1_88 (q := 90) rfl (z := 56) (by decide) ?_
  refine Own.lushr C d1_90 (q := 91) rfl fun z90 e90 => ?_
  refine Own.ladd C d1_91 (q := 92) rfl fun z91 e91 => ?_
  refine Own.l2i C d1_92 (q := 93) rfl fun z92 e92 => ?_
  refine Own.i2b C d1_93 (q := 94) rfl fun z93 e93 => ?_
  refine Own.bastore C d1_94 (q := 95) rfl upd_same (by decide) (Nat.le_of_ble_eq_true rfl) ga (mem (upd_list (vs' := [(.int z18.toInt8.toInt32), (.int z43.toInt8.toInt32), (.int z68.toInt8.toInt32), (.int z93.toInt8.toInt32), (.int (0 : Int32)), (.int (0 : Int32)), (.int (0 : Int32)), (.int (0 : Int32)), (.int (0 : Int32)), (.int (0 : Int32)), (.int (0 : Int32)), (.int (0 : Int32))]) rfl upd_upd) ?_)
  refine Own.lloadN C d1_95 (q := 96) rfl rfl ?_
  refine Own.ldcJ C d1_96 (q := 99) rfl (hw _ (List.mem_of_getElem? (i := 9) rfl)) ?_
  refine Own.land C d1_99 (q := 100) rfl fun z99 e99 => ?_
  refine Own.ldcJ C d1_100 (q := 103) rfl (hw _ (List.mem_of_getElem? (i := 10) rfl)) ?_
  refine Own.lmul C d1_103 (q := 104) rfl fun z103 e103 => ?_
  refine Own.lstoreN C d1_104 (q := 105) rfl (L' := #[.val (.ref a), .val (.int g), .val (.int (0 : Int32)), .val (.long z103), .second]) rfl ?_
  refine Own.aloadN C d1_105 (q := 106) rfl rfl rfl ?_
  refine Own.iloadN C d1_106 (q := 107) rfl rfl ?_
  refine Own.iconst C d1_107 (q := 108) rfl (z := 4) (by decide) ?_
  refine Own.iadd C d1_108 (q := 109) rfl fun z108 e108 => ?_
  obtain rfl : z108 = (4 : Int32) := e108.trans (by decide)
  refine Own.ldcJ C d1_109 (q := 112) rfl (hw _ (List.mem_of_getElem? (i := 8) rfl)) ?_
  refine Own.lloadN C d1_112 (q := 113) rfl rfl ?_
  refine Own.bipush C d1_113 (q := 115) rfl (z := 56) (by decide) ?_
  refine Own.lushr C d1_115 (q := 116) rfl fun z115 e115 => ?_
  refine Own.ladd C d1_116 (q := 117) rfl fun z116 e116 => ?_
  refine Own.l2i C d1_117 (q := 118) rfl fun z117 e117 => ?_
  refine Own.i2b C d1_118 (q := 119) rfl fun z118 e118 => ?_
  refine Own.bastore C d1_119 (q := 120) rfl upd_same (by decide) (Nat.le_of_ble_eq_true rfl) ga (mem (upd_list (vs' := [(.int z18.toInt8.toInt32), (.int z43.toInt8.toInt32), (.int z68.toInt8.toInt32), (.int z93.toInt8.toInt32), (.int z118.toInt8.toInt32), (.int (0 : Int32)), (.int (0 : Int32)), (.int (0 : Int32)), (.int (0 : Int32)), (.int (0 : Int32)), (.int (0 : Int32)), (.int (0 : Int32))]) rfl upd_upd) ?_)
  refine Own.lloadN C d1_120 (q := 121) rfl rfl ?_
  refine Own.ldcJ C d1_121 (q := 124) rfl (hw _ (List.mem_of_getElem? (i := 9) rfl)) ?_
  refine Own.land C d1_124 (q := 125) rfl fun z124 e124 => ?_
  refine Own.ldcJ C d1_125 (q := 128) rfl (hw _ (List.mem_of_getElem? (i := 10) rfl)) ?_
  refine Own.lmul C d1_128 (q := 129) rfl fun z128 e128 => ?_
  refine Own.lstoreN C d1_129 (q := 130) rfl (L' := #[.val (.ref a), .val (.int g), .val (.int (0 : Int32)), .val (.long z128), .second]) rfl ?_
  refine Own.aloadN C d1_130 (q := 131) rfl rfl rfl ?_
  refine Own.iloadN C d1_131 (q := 132) rfl rfl ?_
  refine Own.iconst C d1_132 (q := 133) rfl (z := 5) (by decide) ?_
  refine Own.iadd C d1_133 (q := 134) rfl fun z133 e133 => ?_
  obtain rfl : z133 = (5 : Int32) := e133.trans (by decide)
  refine Own.ldcJ C d1_134 (q := 137) rfl (hw _ (List.mem_of_getElem? (i := 8) rfl)) ?_
  refine Own.lloadN C d1_137 (q := 138) rfl rfl ?_
  refine Own.bipush C d1_138 (q := 140) rfl (z := 56) (by decide) ?_
  refine Own.lushr C d1_140 (q := 141) rfl fun z140 e140 => ?_
  refine Own.ladd C d1_141 (q := 142) rfl fun z141 e141 => ?_
  refine Own.l2i C d1_142 (q := 143) rfl fun z142 e142 => ?_
  refine Own.i2b C d1_143 (q := 144) rfl fun z143 e143 => ?_
  refine Own.bastore C d1_144 (q := 145) rfl upd_same (by decide) (Nat.le_of_ble_eq_true rfl) ga (mem (upd_list (vs' := [(.int z18.toInt8.toInt32), (.int z43.toInt8.toInt32), (.int z68.toInt8.toInt32), (.int z93.toInt8.toInt32), (.int z118.toInt8.toInt32), (.int z143.toInt8.toInt32), (.int (0 : Int32)), (.int (0 : Int32)), (.int (0 : Int32)), (.int (0 : Int32)), (.int (0 : Int32)), (.int (0 : Int32))]) rfl upd_upd) ?_)
  refine Own.lloadN C d1_145 (q := 146) rfl rfl ?_
  refine Own.ldcJ C d1_146 (q := 149) rfl (hw _ (List.mem_of_getElem? (i := 9) rfl)) ?_
  refine Own.land C d1_149 (q := 150) rfl fun z149 e149 => ?_
  refine Own.ldcJ C d1_150 (q := 153) rfl (hw _ (List.mem_of_getElem? (i := 10) rfl)) ?_
  refine Own.lmul C d1_153 (q := 154) rfl fun z153 e153 => ?_
  refine Own.lstoreN C d1_154 (q := 155) rfl (L' := #[.val (.ref a), .val (.int g), .val (.int (0 : Int32)), .val (.long z153), .second]) rfl ?_
  refine Own.aloadN C d1_155 (q := 156) rfl rfl rfl ?_
  refine Own.iloadN C d1_156 (q := 157) rfl rfl ?_
  refine Own.bipush C d1_157 (q := 159) rfl (z := 6) (by decide) ?_
  refine Own.iadd C d1_159 (q := 160) rfl fun z159 e159 => ?_
  obtain rfl : z159 = (6 : Int32) := e159.trans (by decide)
  refine Own.ldcJ C d1_160 (q := 163) rfl (hw _ (List.mem_of_getElem? (i := 8) rfl)) ?_
  refine Own.lloadN C d1_163 (q := 164) rfl rfl ?_
  refine Own.bipush C d1_164 (q := 166) rfl (z := 56) (by decide) ?_
  refine Own.lushr C d1_166 (q := 167) rfl fun z166 e166 => ?_
  refine Own.ladd C d1_167 (q := 168) rfl fun z167 e167 => ?_
  refine Own.l2i C d1_168 (q := 169) rfl fun z168 e168 => ?_
  refine Own.i2b C d1_169 (q := 170) rfl fun z169 e169 => ?_
  refine Own.bastore C d1_170 (q := 171) rfl upd_same (by decide) (Nat.le_of_ble_eq_true rfl) ga (mem (upd_list (vs' := [(.int z18.toInt8.toInt32), (.int z43.toInt8.toInt32), (.int z68.toInt8.toInt32), (.int z93.toInt8.toInt32), (.int z118.toInt8.toInt32), (.int z143.toInt8.toInt32), (.int z169.toInt8.toInt32), (.int (0 : Int32)), (.int (0 : Int32)), (.int (0 : Int32)), (.int (0 : Int32)), (.int (0 : Int32))]) rfl upd_upd) ?_)
  refine Own.lloadN C d1_171 (q := 172) rfl rfl ?_
  refine Own.ldcJ C d1_172 (q := 175) rfl (hw _ (List.mem_of_getElem? (i := 9) rfl)) ?_
  refine Own.land C d1_175 (q := 176) rfl fun z175 e175 => ?_
  refine Own.ldcJ C d1_176 (q := 179) rfl (hw _ (List.mem_of_getElem? (i := 10) rfl)) ?_
  refine Own.lmul C d1_179 (q := 180) rfl fun z179 e179 => ?_
  refine Own.lstoreN C d1_180 (q := 181) rfl (L' := #[.val (.ref a), .val (.int g), .val (.int (0 : Int32)), .val (.long z179), .second]) rfl ?_
  refine Own.aloadN C d1_181 (q := 182) rfl rfl rfl ?_
  refine Own.iloadN C d1_182 (q := 183) rfl rfl ?_
  refine Own.bipush C d1_183 (q := 185) rfl (z := 7) (by decide) ?_
  refine Own.iadd C d1_185 (q := 186) rfl fun z185 e185 => ?_
  obtain rfl : z185 = (7 : Int32) := e185.trans (by decide)
  refine Own.ldcJ C d1_186 (q := 189) rfl (hw _ (List.mem_of_getElem? (i := 8) rfl)) ?_
  refine Own.lloadN C d1_189 (q := 190) rfl rfl ?_
  refine Own.bipush C d1_190 (q := 192) rfl (z := 56) (by decide) ?_
  refine Own.lushr C d1_192 (q := 193) rfl fun z192 e192 => ?_
  refine Own.ladd C d1_193 (q := 194) rfl fun z193 e193 => ?_
  refine Own.l2i C d1_194 (q := 195) rfl fun z194 e194 => ?_
  refine Own.i2b C d1_195 (q := 196) rfl fun z195 e195 => ?_
  refine Own.bastore C d1_196 (q := 197) rfl upd_same (by decide) (Nat.le_of_ble_eq_true rfl) ga (mem (upd_list (vs' := [(.int z18.toInt8.toInt32), (.int z43.toInt8.toInt32), (.int z68.toInt8.toInt32), (.int z93.toInt8.toInt32), (.int z118.toInt8.toInt32), (.int z143.toInt8.toInt32), (.int z169.toInt8.toInt32), (.int z195.toInt8.toInt32), (.int (0 : Int32)), (.int (0 : Int32)), (.int (0 : Int32)), (.int (0 : Int32))]) rfl upd_upd) ?_)
  refine Own.vreturn C d1_197 (by decide) (by decide) ?_
  have w0 := w_first e1 e5 hg
  have w1 := w_next e24 e28
  have w2 := w_next e49 e53
  have w3 := w_next e74 e78
  have w4 := w_next e99 e103
  have w5 := w_next e124 e128
  have w6 := w_next e149 e153
  have w7 := w_next e175 e179
  obtain ⟨⟨u0, v0⟩, ⟨u1, v1⟩, ⟨u2, v2⟩, ⟨u3, v3⟩, ⟨u4, v4⟩, ⟨u5, v5⟩, ⟨u6, v6⟩, ⟨u7, v7⟩⟩ := digs g.toInt hg z5.toInt z28.toInt z53.toInt z78.toInt z103.toInt z128.toInt z153.toInt z179.toInt w0 w1 w2 w3 w4 w5 w6 w7
  exact ⟨rfl, _, _, _, _, _, _, _, _, rfl, (w_byte e15 e16 e17 e18 u0).trans (by rw [v0]), (w_byte e40 e41 e42 e43 u1).trans (by rw [v1]), (w_byte e65 e66 e67 e68 u2).trans (by rw [v2]), (w_byte e90 e91 e92 e93 u3).trans (by rw [v3]), (w_byte e115 e116 e117 e118 u4).trans (by rw [v4]), (w_byte e140 e141 e142 e143 u5).trans (by rw [v5]), (w_byte e166 e167 e168 e169 u6).trans (by rw [v6]), (w_byte e192 e193 e194 e195 u7).trans (by rw [v7])⟩
set_option maxRecDepth 65536 in
set_option maxHeartbeats 4000000 in
theorem c_w8_1 (l : Launch) (Z : State) (a0 : Array Value) (hw : ∀ d ∈ tables_1, d.before a0 Z = true) (n0 : Nat) (μ : Mem) (a : Addr) (g : Int32) (hg : 0 ≤ g.toInt ∧ g.toInt < 100000000) (ha : μ a = some (.inr (.byte, [(.int (0 : Int32)), (.int (0 : Int32)), (.int (0 : Int32)), (.int (0 : Int32)), (.int (0 : Int32)), (.int (0 : Int32)), (.int (0 : Int32)), (.int (0 : Int32)), (.int (0 : Int32)), (.int (0 : Int32)), (.int (0 : Int32)), (.int (0 : Int32))]))) (ga : n0 ≤ a) :
    Con l Z n0 (⟨"com/example/porthcurno/porthcurno/dissect/LineWriter", "writeEightDigits", "([BII)V"⟩ : MethodName) prog_116_method_12_code 5 none [] rm_1 rm_1.cells rm_1.slots #[(.ref a), (.int g), (.int (1 : Int32))] μ (RV fun μ' => ∃ d0 d1 d2 d3 d4 d5 d6 d7 : Int32, μ' = upd μ a (.inr (.byte, [(.int (0 : Int32)), (.int d0), (.int d1), (.int d2), (.int d3), (.int d4), (.int d5), (.int d6), (.int d7), (.int (0 : Int32)), (.int (0 : Int32)), (.int (0 : Int32))])) ∧ d0.toInt = 48 + g.toInt / 10000000 % 10 ∧ d1.toInt = 48 + g.toInt / 1000000 % 10 ∧ d2.toInt = 48 + g.toInt / 100000 % 10 ∧ d3.toInt = 48 + g.toInt / 10000 % 10 ∧ d4.toInt = 48 + g.toInt / 1000 % 10 ∧ d5.toInt = 48 + g.toInt / 100 % 10 ∧ d6.toInt = 48 + g.toInt / 10 % 10 ∧ d7.toInt = 48 + g.toInt / 1 % 10) := by
  refine Con.intro (L0 := #[.val (.ref a), .val (.int g), .val (.int (1 : Int32)), .unset, .unset]) (plainFor_of_name (by first | (simp [plainName, overriddenIn]; done) | decide +kernel)) (fun m => by first | (simp [entryFrame, mkF, argsToLocals, Value.category]; done) | rfl) ?_
  intro p e s m below meth c C
  have C : Ctx p s m meth c Z "com/example/porthcurno/porthcurno/dissect/LineWriter" "writeEightDigits" prog_116_method_12_code 5 none := C
  refine Own.iloadN C d1_0 (q := 1) rfl rfl ?_
  refine Own.i2l C d1_1 (q := 2) rfl fun z1 e1 => ?_
  refine Own.ldcJ C d1_2 (q := 5) rfl (hw _ (List.mem_of_getElem? (i := 7) rfl)) ?_
  refine Own.lmul C d1_5 (q := 6) rfl fun z5 e5 => ?_
  refine Own.lstoreN C d1_6 (q := 7) rfl (L' := #[.val (.ref a), .val (.int g), .val (.int (1 : Int32)), .val (.long z5), .second]) rfl ?_
  refine Own.aloadN C d1_7 (q := 8) rfl rfl rfl ?_
  refine Own.iloadN C d1_8 (q := 9) rfl rfl ?_
  refine Own.ldcJ C d1_9 (q := 12) rfl (hw _ (List.mem_of_getElem? (i := 8) rfl)) ?_
  refine Own.lloadN C d1_12 (q := 13) rfl rfl ?_
  refine Own.bipush C d1_13 (q := 15) rfl (z := 56) (by decide) ?_
  refine Own.lushr C d1_15 (q := 16) rfl fun z15 e15 => ?_
  refine Own.ladd C d1_16 (q := 17) rfl fun z16 e16 => ?_
  refine Own.l2i C d1_17 (q := 18) rfl fun z17 e17 => ?_
  refine Own.i2b C d1_18 (q := 19) rfl fun z18 e18 => ?_
  refine Own.bastore C d1_19 (q := 20) rfl ha (by decide) (Nat.le_of_ble_eq_true rfl) ga (mem (upd_list (vs' := [(.int (0 : Int32)), (.int z18.toInt8.toInt32), (.int (0 : Int32)), (.int (0 : Int32)), (.int (0 : Int32)), (.int (0 : Int32)), (.int (0 : Int32)), (.int (0 : Int32)), (.int (0 : Int32)), (.int (0 : Int32)), (.int (0 : Int32)), (.int (0 : Int32))]) rfl rfl) ?_)
  refine Own.lloadN C d1_20 (q := 21) rfl rfl ?_
  refine Own.ldcJ C d1_21 (q := 24) rfl (hw _ (List.mem_of_getElem? (i := 9) rfl)) ?_
  refine Own.land C d1_24 (q := 25) rfl fun z24 e24 => ?_
  refine Own.ldcJ C d1_25 (q := 28) rfl (hw _ (List.mem_of_getElem? (i := 10) rfl)) ?_
  refine Own.lmul C d1_28 (q := 29) rfl fun z28 e28 => ?_
  refine Own.lstoreN C d1_29 (q := 30) rfl (L' := #[.val (.ref a), .val (.int g), .val (.int (1 : Int32)), .val (.long z28), .second]) rfl ?_
  refine Own.aloadN C d1_30 (q := 31) rfl rfl rfl ?_
  refine Own.iloadN C d1_31 (q := 32) rfl rfl ?_
  refine Own.iconst C d1_32 (q := 33) rfl (z := 1) (by decide) ?_
  refine Own.iadd C d1_33 (q := 34) rfl fun z33 e33 => ?_
  obtain rfl : z33 = (2 : Int32) := e33.trans (by decide)
  refine Own.ldcJ C d1_34 (q := 37) rfl (hw _ (List.mem_of_getElem? (i := 8) rfl)) ?_
  refine Own.lloadN C d1_37 (q := 38) rfl rfl ?_
  refine Own.bipush C d1_38 (q := 40) rfl (z := 56) (by decide) ?_
  refine Own.lushr C d1_40 (q := 41) rfl fun z40 e40 => ?_
  refine Own.ladd C d1_41 (q := 42) rfl fun z41 e41 => ?_
  refine Own.l2i C d1_42 (q := 43) rfl fun z42 e42 => ?_
  refine Own.i2b C d1_43 (q := 44) rfl fun z43 e43 => ?_
  refine Own.bastore C d1_44 (q := 45) rfl upd_same (by decide) (Nat.le_of_ble_eq_true rfl) ga (mem (upd_list (vs' := [(.int (0 : Int32)), (.int z18.toInt8.toInt32), (.int z43.toInt8.toInt32), (.int (0 : Int32)), (.int (0 : Int32)), (.int (0 : Int32)), (.int (0 : Int32)), (.int (0 : Int32)), (.int (0 : Int32)), (.int (0 : Int32)), (.int (0 : Int32)), (.int (0 : Int32))]) rfl upd_upd) ?_)
  refine Own.lloadN C d1_45 (q := 46) rfl rfl ?_
  refine Own.ldcJ C d1_46 (q := 49) rfl (hw _ (List.mem_of_getElem? (i := 9) rfl)) ?_
  refine Own.land C d1_49 (q := 50) rfl fun z49 e49 => ?_
  refine Own.ldcJ C d1_50 (q := 53) rfl (hw _ (List.mem_of_getElem? (i := 10) rfl)) ?_
  refine Own.lmul C d1_53 (q := 54) rfl fun z53 e53 => ?_
  refine Own.lstoreN C d1_54 (q := 55) rfl (L' := #[.val (.ref a), .val (.int g), .val (.int (1 : Int32)), .val (.long z53), .second]) rfl ?_
  refine Own.aloadN C d1_55 (q := 56) rfl rfl rfl ?_
  refine Own.iloadN C d1_56 (q := 57) rfl rfl ?_
  refine Own.iconst C d1_57 (q := 58) rfl (z := 2) (by decide) ?_
  refine Own.iadd C d1_58 (q := 59) rfl fun z58 e58 => ?_
  obtain rfl : z58 = (3 : Int32) := e58.trans (by decide)
  refine Own.ldcJ C d1_59 (q := 62) rfl (hw _ (List.mem_of_getElem? (i := 8) rfl)) ?_
  refine Own.lloadN C d1_62 (q := 63) rfl rfl ?_
  refine Own.bipush C d1_63 (q := 65) rfl (z := 56) (by decide) ?_
  refine Own.lushr C d1_65 (q := 66) rfl fun z65 e65 => ?_
  refine Own.ladd C d1_66 (q := 67) rfl fun z66 e66 => ?_
  refine Own.l2i C d1_67 (q := 68) rfl fun z67 e67 => ?_
  refine Own.i2b C d1_68 (q := 69) rfl fun z68 e68 => ?_
  refine Own.bastore C d1_69 (q := 70) rfl upd_same (by decide) (Nat.le_of_ble_eq_true rfl) ga (mem (upd_list (vs' := [(.int (0 : Int32)), (.int z18.toInt8.toInt32), (.int z43.toInt8.toInt32), (.int z68.toInt8.toInt32), (.int (0 : Int32)), (.int (0 : Int32)), (.int (0 : Int32)), (.int (0 : Int32)), (.int (0 : Int32)), (.int (0 : Int32)), (.int (0 : Int32)), (.int (0 : Int32))]) rfl upd_upd) ?_)
  refine Own.lloadN C d1_70 (q := 71) rfl rfl ?_
  refine Own.ldcJ C d1_71 (q := 74) rfl (hw _ (List.mem_of_getElem? (i := 9) rfl)) ?_
  refine Own.land C d1_74 (q := 75) rfl fun z74 e74 => ?_
  refine Own.ldcJ C d1_75 (q := 78) rfl (hw _ (List.mem_of_getElem? (i := 10) rfl)) ?_
  refine Own.lmul C d1_78 (q := 79) rfl fun z78 e78 => ?_
  refine Own.lstoreN C d1_79 (q := 80) rfl (L' := #[.val (.ref a), .val (.int g), .val (.int (1 : Int32)), .val (.long z78), .second]) rfl ?_
  refine Own.aloadN C d1_80 (q := 81) rfl rfl rfl ?_
  refine Own.iloadN C d1_81 (q := 82) rfl rfl ?_
  refine Own.iconst C d1_82 (q := 83) rfl (z := 3) (by decide) ?_
  refine Own.iadd C d1_83 (q := 84) rfl fun z83 e83 => ?_
  obtain rfl : z83 = (4 : Int32) := e83.trans (by decide)
  refine Own.ldcJ C d1_84 (q := 87) rfl (hw _ (List.mem_of_getElem? (i := 8) rfl)) ?_
  refine Own.lloadN C d1_87 (q := 88) rfl rfl ?_
  refine Own.bipush C d1_88 (q := 90) rfl (z := 56) (by decide) ?_
  refine Own.lushr C d1_90 (q := 91) rfl fun z90 e90 => ?_
  refine Own.ladd C d1_91 (q := 92) rfl fun z91 e91 => ?_
  refine Own.l2i C d1_92 (q := 93) rfl fun z92 e92 => ?_
  refine Own.i2b C d1_93 (q := 94) rfl fun z93 e93 => ?_
  refine Own.bastore C d1_94 (q := 95) rfl upd_same (by decide) (Nat.le_of_ble_eq_true rfl) ga (mem (upd_list (vs' := [(.int (0 : Int32)), (.int z18.toInt8.toInt32), (.int z43.toInt8.toInt32), (.int z68.toInt8.toInt32), (.int z93.toInt8.toInt32), (.int (0 : Int32)), (.int (0 : Int32)), (.int (0 : Int32)), (.int (0 : Int32)), (.int (0 : Int32)), (.int (0 : Int32)), (.int (0 : Int32))]) rfl upd_upd) ?_)
  refine Own.lloadN C d1_95 (q := 96) rfl rfl ?_
  refine Own.ldcJ C d1_96 (q := 99) rfl (hw _ (List.mem_of_getElem? (i := 9) rfl)) ?_
  refine Own.land C d1_99 (q := 100) rfl fun z99 e99 => ?_
  refine Own.ldcJ C d1_100 (q := 103) rfl (hw _ (List.mem_of_getElem? (i := 10) rfl)) ?_
  refine Own.lmul C d1_103 (q := 104) rfl fun z103 e103 => ?_
  refine Own.lstoreN C d1_104 (q := 105) rfl (L' := #[.val (.ref a), .val (.int g), .val (.int (1 : Int32)), .val (.long z103), .second]) rfl ?_
  refine Own.aloadN C d1_105 (q := 106) rfl rfl rfl ?_
  refine Own.iloadN C d1_106 (q := 107) rfl rfl ?_
  refine Own.iconst C d1_107 (q := 108) rfl (z := 4) (by decide) ?_
  refine Own.iadd C d1_108 (q := 109) rfl fun z108 e108 => ?_
  obtain rfl : z108 = (5 : Int32) := e108.trans (by decide)
  refine Own.ldcJ C d1_109 (q := 112) rfl (hw _ (List.mem_of_getElem? (i := 8) rfl)) ?_
  refine Own.lloadN C d1_112 (q := 113) rfl rfl ?_
  refine Own.bipush C d1_113 (q := 115) rfl (z := 56) (by decide) ?_
  refine Own.lushr C d1_115 (q := 116) rfl fun z115 e115 => ?_
  refine Own.ladd C d1_116 (q := 117) rfl fun z116 e116 => ?_
  refine Own.l2i C d1_117 (q := 118) rfl fun z117 e117 => ?_
  refine Own.i2b C d1_118 (q := 119) rfl fun z118 e118 => ?_
  refine Own.bastore C d1_119 (q := 120) rfl upd_same (by decide) (Nat.le_of_ble_eq_true rfl) ga (mem (upd_list (vs' := [(.int (0 : Int32)), (.int z18.toInt8.toInt32), (.int z43.toInt8.toInt32), (.int z68.toInt8.toInt32), (.int z93.toInt8.toInt32), (.int z118.toInt8.toInt32), (.int (0 : Int32)), (.int (0 : Int32)), (.int (0 : Int32)), (.int (0 : Int32)), (.int (0 : Int32)), (.int (0 : Int32))]) rfl upd_upd) ?_)
  refine Own.lloadN C d1_120 (q := 121) rfl rfl ?_
  refine Own.ldcJ C d1_121 (q := 124) rfl (hw _ (List.mem_of_getElem? (i := 9) rfl)) ?_
  refine Own.land C d1_124 (q := 125) rfl fun z124 e124 => ?_
  refine Own.ldcJ C d1_125 (q := 128) rfl (hw _ (List.mem_of_getElem? (i := 10) rfl)) ?_
  refine Own.lmul C d1_128 (q := 129) rfl fun z128 e128 => ?_
  refine Own.lstoreN C d1_129 (q := 130) rfl (L' := #[.val (.ref a), .val (.int g), .val (.int (1 : Int32)), .val (.long z128), .second]) rfl ?_
  refine Own.aloadN C d1_130 (q := 131) rfl rfl rfl ?_
  refine Own.iloadN C d1_131 (q := 132) rfl rfl ?_
  refine Own.iconst C d1_132 (q := 133) rfl (z := 5) (by decide) ?_
  refine Own.iadd C d1_133 (q := 134) rfl fun z133 e133 => ?_
  obtain rfl : z133 = (6 : Int32) := e133.trans (by decide)
  refine Own.ldcJ C d1_134 (q := 137) rfl (hw _ (List.mem_of_getElem? (i := 8) rfl)) ?_
  refine Own.lloadN C d1_137 (q := 138) rfl rfl ?_
  refine Own.bipush C d1_138 (q := 140) rfl (z := 56) (by decide) ?_
  refine Own.lushr C d1_140 (q := 141) rfl fun z140 e140 => ?_
  refine Own.ladd C d1_141 (q := 142) rfl fun z141 e141 => ?_
  refine Own.l2i C d1_142 (q := 143) rfl fun z142 e142 => ?_
  refine Own.i2b C d1_143 (q := 144) rfl fun z143 e143 => ?_
  refine Own.bastore C d1_144 (q := 145) rfl upd_same (by decide) (Nat.le_of_ble_eq_true rfl) ga (mem (upd_list (vs' := [(.int (0 : Int32)), (.int z18.toInt8.toInt32), (.int z43.toInt8.toInt32), (.int z68.toInt8.toInt32), (.int z93.toInt8.toInt32), (.int z118.toInt8.toInt32), (.int z143.toInt8.toInt32), (.int (0 : Int32)), (.int (0 : Int32)), (.int (0 : Int32)), (.int (0 : Int32)), (.int (0 : Int32))]) rfl upd_upd) ?_)
  refine Own.lloadN C d1_145 (q := 146) rfl rfl ?_
  refine Own.ldcJ C d1_146 (q := 149) rfl (hw _ (List.mem_of_getElem? (i := 9) rfl)) ?_
  refine Own.land C d1_149 (q := 150) rfl fun z149 e149 => ?_
  refine Own.ldcJ C d1_150 (q := 153) rfl (hw _ (List.mem_of_getElem? (i := 10) rfl)) ?_
  refine Own.lmul C d1_153 (q := 154) rfl fun z153 e153 => ?_
  refine Own.lstoreN C d1_154 (q := 155) rfl (L' := #[.val (.ref a), .val (.int g), .val (.int (1 : Int32)), .val (.long z153), .second]) rfl ?_
  refine Own.aloadN C d1_155 (q := 156) rfl rfl rfl ?_
  refine Own.iloadN C d1_156 (q := 157) rfl rfl ?_
  refine Own.bipush C d1_157 (q := 159) rfl (z := 6) (by decide) ?_
  refine Own.iadd C d1_159 (q := 160) rfl fun z159 e159 => ?_
  obtain rfl : z159 = (7 : Int32) := e159.trans (by decide)
  refine Own.ldcJ C d1_160 (q := 163) rfl (hw _ (List.mem_of_getElem? (i := 8) rfl)) ?_
  refine Own.lloadN C d1_163 (q := 164) rfl rfl ?_
  refine Own.bipush C d1_164 (q := 166) rfl (z := 56) (by decide) ?_
  refine Own.lushr C d1_166 (q := 167) rfl fun z166 e166 => ?_
  refine Own.ladd C d1_167 (q := 168) rfl fun z167 e167 => ?_
  refine Own.l2i C d1_168 (q := 169) rfl fun z168 e168 => ?_
  refine Own.i2b C d1_169 (q := 170) rfl fun z169 e169 => ?_
  refine Own.bastore C d1_170 (q := 171) rfl upd_same (by decide) (Nat.le_of_ble_eq_true rfl) ga (mem (upd_list (vs' := [(.int (0 : Int32)), (.int z18.toInt8.toInt32), (.int z43.toInt8.toInt32), (.int z68.toInt8.toInt32), (.int z93.toInt8.toInt32), (.int z118.toInt8.toInt32), (.int z143.toInt8.toInt32), (.int z169.toInt8.toInt32), (.int (0 : Int32)), (.int (0 : Int32)), (.int (0 : Int32)), (.int (0 : Int32))]) rfl upd_upd) ?_)
  refine Own.lloadN C d1_171 (q := 172) rfl rfl ?_
  refine Own.ldcJ C d1_172 (q := 175) rfl (hw _ (List.mem_of_getElem? (i := 9) rfl)) ?_
  refine Own.land C d1_175 (q := 176) rfl fun z175 e175 => ?_
  refine Own.ldcJ C d1_176 (q := 179) rfl (hw _ (List.mem_of_getElem? (i := 10) rfl)) ?_
  refine Own.lmul C d1_179 (q := 180) rfl fun z179 e179 => ?_
  refine Own.lstoreN C d1_180 (q := 181) rfl (L' := #[.val (.ref a), .val (.int g), .val (.int (1 : Int32)), .val (.long z179), .second]) rfl ?_
  refine Own.aloadN C d1_181 (q := 182) rfl rfl rfl ?_
  refine Own.iloadN C d1_182 (q := 183) rfl rfl ?_
  refine Own.bipush C d1_183 (q := 185) rfl (z := 7) (by decide) ?_
  refine Own.iadd C d1_185 (q := 186) rfl fun z185 e185 => ?_
  obtain rfl : z185 = (8 : Int32) := e185.trans (by decide)
  refine Own.ldcJ C d1_186 (q := 189) rfl (hw _ (List.mem_of_getElem? (i := 8) rfl)) ?_
  refine Own.lloadN C d1_189 (q := 190) rfl rfl ?_
  refine Own.bipush C d1_190 (q := 192) rfl (z := 56) (by decide) ?_
  refine Own.lushr C d1_192 (q := 193) rfl fun z192 e192 => ?_
  refine Own.ladd C d1_193 (q := 194) rfl fun z193 e193 => ?_
  refine Own.l2i C d1_194 (q := 195) rfl fun z194 e194 => ?_
  refine Own.i2b C d1_195 (q := 196) rfl fun z195 e195 => ?_
  refine Own.bastore C d1_196 (q := 197) rfl upd_same (by decide) (Nat.le_of_ble_eq_true rfl) ga (mem (upd_list (vs' := [(.int (0 : Int32)), (.int z18.toInt8.toInt32), (.int z43.toInt8.toInt32), (.int z68.toInt8.toInt32), (.int z93.toInt8.toInt32), (.int z118.toInt8.toInt32), (.int z143.toInt8.toInt32), (.int z169.toInt8.toInt32), (.int z195.toInt8.toInt32), (.int (0 : Int32)), (.int (0 : Int32)), (.int (0 : Int32))]) rfl upd_upd) ?_)
  refine Own.vreturn C d1_197 (by decide) (by decide) ?_
  have w0 := w_first e1 e5 hg
  have w1 := w_next e24 e28
  have w2 := w_next e49 e53
  have w3 := w_next e74 e78
  have w4 := w_next e99 e103
  have w5 := w_next e124 e128
  have w6 := w_next e149 e153
  have w7 := w_next e175 e179
  obtain ⟨⟨u0, v0⟩, ⟨u1, v1⟩, ⟨u2, v2⟩, ⟨u3, v3⟩, ⟨u4, v4⟩, ⟨u5, v5⟩, ⟨u6, v6⟩, ⟨u7, v7⟩⟩ := digs g.toInt hg z5.toInt z28.toInt z53.toInt z78.toInt z103.toInt z128.toInt z153.toInt z179.toInt w0 w1 w2 w3 w4 w5 w6 w7
  exact ⟨rfl, _, _, _, _, _, _, _, _, rfl, (w_byte e15 e16 e17 e18 u0).trans (by rw [v0]), (w_byte e40 e41 e42 e43 u1).trans (by rw [v1]), (w_byte e65 e66 e67 e68 u2).trans (by rw [v2]), (w_byte e90 e91 e92 e93 u3).trans (by rw [v3]), (w_byte e115 e116 e117 e118 u4).trans (by rw [v4]), (w_byte e140 e141 e142 e143 u5).trans (by rw [v5]), (w_byte e166 e167 e168 e169 u6).trans (by rw [v6]), (w_byte e192 e193 e194 e195 u7).trans (by rw [v7])⟩
set_option maxRecDepth 65536 in
set_option maxHeartbeats 4000000 in
theorem c_w8_2 (l : Launch) (Z : State) (a0 : Array Value) (hw : ∀ d ∈ tables_1, d.before a0 Z = true) (n0 : Nat) (μ : Mem) (a : Addr) (g : Int32) (hg : 0 ≤ g.toInt ∧ g.toInt < 100000000) (ha : μ a = some (.inr (.byte, [(.int (0 : Int32)), (.int (0 : Int32)), (.int (0 : Int32)), (.int (0 : Int32)), (.int (0 : Int32)), (.int (0 : Int32)), (.int (0 : Int32)), (.int (0 : Int32)), (.int (0 : Int32)), (.int (0 : Int32)), (.int (0 : Int32)), (.int (0 : Int32))]))) (ga : n0 ≤ a) :
    Con l Z n0 (⟨"com/example/porthcurno/porthcurno/dissect/LineWriter", "writeEightDigits", "([BII)V"⟩ : MethodName) prog_116_method_12_code 5 none [] rm_1 rm_1.cells rm_1.slots #[(.ref a), (.int g), (.int (2 : Int32))] μ (RV fun μ' => ∃ d0 d1 d2 d3 d4 d5 d6 d7 : Int32, μ' = upd μ a (.inr (.byte, [(.int (0 : Int32)), (.int (0 : Int32)), (.int d0), (.int d1), (.int d2), (.int d3), (.int d4), (.int d5), (.int d6), (.int d7), (.int (0 : Int32)), (.int (0 : Int32))])) ∧ d0.toInt = 48 + g.toInt / 10000000 % 10 ∧ d1.toInt = 48 + g.toInt / 1000000 % 10 ∧ d2.toInt = 48 + g.toInt / 100000 % 10 ∧ d3.toInt = 48 + g.toInt / 10000 % 10 ∧ d4.toInt = 48 + g.toInt / 1000 % 10 ∧ d5.toInt = 48 + g.toInt / 100 % 10 ∧ d6.toInt = 48 + g.toInt / 10 % 10 ∧ d7.toInt = 48 + g.toInt / 1 % 10) := by
  refine Con.intro (L0 := #[.val (.ref a), .val (.int g), .val (.int (2 : Int32)), .unset, .unset]) (plainFor_of_name (by first | (simp [plainName, overriddenIn]; done) | decide +kernel)) (fun m => by first | (simp [entryFrame, mkF, argsToLocals, Value.category]; done) | rfl) ?_
  intro p e s m below meth c C
  have C : Ctx p s m meth c Z "com/example/porthcurno/porthcurno/dissect/LineWriter" "writeEightDigits" prog_116_method_12_code 5 none := C
  refine Own.iloadN C d1_0 (q := 1) rfl rfl ?_
  refine Own.i2l C d1_1 (q := 2) rfl fun z1 e1 => ?_
  refine Own.ldcJ C d1_2 (q := 5) rfl (hw _ (List.mem_of_getElem? (i := 7) rfl)) ?_
  refine Own.lmul C d1_5 (q := 6) rfl fun z5 e5 => ?_
  refine Own.lstoreN C d1_6 (q := 7) rfl (L' := #[.val (.ref a), .val (.int g), .val (.int (2 : Int32)), .val (.long z5), .second]) rfl ?_
  refine Own.aloadN C d1_7 (q := 8) rfl rfl rfl ?_
  refine Own.iloadN C d1_8 (q := 9) rfl rfl ?_
  refine Own.ldcJ C d1_9 (q := 12) rfl (hw _ (List.mem_of_getElem? (i := 8) rfl)) ?_
  refine Own.lloadN C d1_12 (q := 13) rfl rfl ?_
  refine Own.bipush C d1_13 (q := 15) rfl (z := 56) (by decide) ?_
  refine Own.lushr C d1_15 (q := 16) rfl fun z15 e15 => ?_
  refine Own.ladd C d1_16 (q := 17) rfl fun z16 e16 => ?_
  refine Own.l2i C d1_17 (q := 18) rfl fun z17 e17 => ?_
  refine Own.i2b C d1_18 (q := 19) rfl fun z18 e18 => ?_
  refine Own.bastore C d1_19 (q := 20) rfl ha (by decide) (Nat.le_of_ble_eq_true rfl) ga (mem (upd_list (vs' := [(.int (0 : Int32)), (.int (0 : Int32)), (.int z18.toInt8.toInt32), (.int (0 : Int32)), (.int (0 : Int32)), (.int (0 : Int32)), (.int (0 : Int32)), (.int (0 : Int32)), (.int (0 : Int32)), (.int (0 : Int32)), (.int (0 : Int32)), (.int (0 : Int32))]) rfl rfl) ?_)
  refine Own.lloadN C d1_20 (q := 21) rfl rfl ?_
  refine Own.ldcJ C d1_21 (q := 24) rfl (hw _ (List.mem_of_getElem? (i := 9) rfl)) ?_
  refine Own.land C d1_24 (q := 25) rfl fun z24 e24 => ?_
  refine Own.ldcJ C d1_25 (q := 28) rfl (hw _ (List.mem_of_getElem? (i := 10) rfl)) ?_
  refine Own.lmul C d1_28 (q := 29) rfl fun z28 e28 => ?_
  refine Own.lstoreN C d1_29 (q := 30) rfl (L' := #[.val (.ref a), .val (.int g), .val (.int (2 : Int32)), .val (.long z28), .second]) rfl ?_
  refine Own.aloadN C d1_30 (q := 31) rfl rfl rfl ?_
  refine Own.iloadN C d1_31 (q := 32) rfl rfl ?_
  refine Own.iconst C d1_32 (q := 33) rfl (z := 1) (by decide) ?_
  refine Own.iadd C d1_33 (q := 34) rfl fun z33 e33 => ?_
  obtain rfl : z33 = (3 : Int32) := e33.trans (by decide)
  refine Own.ldcJ C d1_34 (q := 37) rfl (hw _ (List.mem_of_getElem? (i := 8) rfl)) ?_
  refine Own.lloadN C d1_37 (q := 38) rfl rfl ?_
  refine Own.bipush C d1_38 (q := 40) rfl (z := 56) (by decide) ?_
  refine Own.lushr C d1_40 (q := 41) rfl fun z40 e40 => ?_
  refine Own.ladd C d1_41 (q := 42) rfl fun z41 e41 => ?_
  refine Own.l2i C d1_42 (q := 43) rfl fun z42 e42 => ?_
  refine Own.i2b C d1_43 (q := 44) rfl fun z43 e43 => ?_
  refine Own.bastore C d1_44 (q := 45) rfl upd_same (by decide) (Nat.le_of_ble_eq_true rfl) ga (mem (upd_list (vs' := [(.int (0 : Int32)), (.int (0 : Int32)), (.int z18.toInt8.toInt32), (.int z43.toInt8.toInt32), (.int (0 : Int32)), (.int (0 : Int32)), (.int (0 : Int32)), (.int (0 : Int32)), (.int (0 : Int32)), (.int (0 : Int32)), (.int (0 : Int32)), (.int (0 : Int32))]) rfl upd_upd) ?_)
  refine Own.lloadN C d1_45 (q := 46) rfl rfl ?_
  refine Own.ldcJ C d1_46 (q := 49) rfl (hw _ (List.mem_of_getElem? (i := 9) rfl)) ?_
  refine Own.land C d1_49 (q := 50) rfl fun z49 e49 => ?_
  refine Own.ldcJ C d1_50 (q := 53) rfl (hw _ (List.mem_of_getElem? (i := 10) rfl)) ?_
  refine Own.lmul C d1_53 (q := 54) rfl fun z53 e53 => ?_
  refine Own.lstoreN C d1_54 (q := 55) rfl (L' := #[.val (.ref a), .val (.int g), .val (.int (2 : Int32)), .val (.long z53), .second]) rfl ?_
  refine Own.aloadN C d1_55 (q := 56) rfl rfl rfl ?_
  refine Own.iloadN C d1_56 (q := 57) rfl rfl ?_
  refine Own.iconst C d1_57 (q := 58) rfl (z := 2) (by decide) ?_
  refine Own.iadd C d1_58 (q := 59) rfl fun z58 e58 => ?_
  obtain rfl : z58 = (4 : Int32) := e58.trans (by decide)
  refine Own.ldcJ C d1_59 (q := 62) rfl (hw _ (List.mem_of_getElem? (i := 8) rfl)) ?_
  refine Own.lloadN C d1_62 (q := 63) rfl rfl ?_
  refine Own.bipush C d1_63 (q := 65) rfl (z := 56) (by decide) ?_
  refine Own.lushr C d1_65 (q := 66) rfl fun z65 e65 => ?_
  refine Own.ladd C d1_66 (q := 67) rfl fun z66 e66 => ?_
  refine Own.l2i C d1_67 (q := 68) rfl fun z67 e67 => ?_
  refine Own.i2b C d1_68 (q := 69) rfl fun z68 e68 => ?_
  refine Own.bastore C d1_69 (q := 70) rfl upd_same (by decide) (Nat.le_of_ble_eq_true rfl) ga (mem (upd_list (vs' := [(.int (0 : Int32)), (.int (0 : Int32)), (.int z18.toInt8.toInt32), (.int z43.toInt8.toInt32), (.int z68.toInt8.toInt32), (.int (0 : Int32)), (.int (0 : Int32)), (.int (0 : Int32)), (.int (0 : Int32)), (.int (0 : Int32)), (.int (0 : Int32)), (.int (0 : Int32))]) rfl upd_upd) ?_)
  refine Own.lloadN C d1_70 (q := 71) rfl rfl ?_
  refine Own.ldcJ C d1_71 (q := 74) rfl (hw _ (List.mem_of_getElem? (i := 9) rfl)) ?_
  refine Own.land C d1_74 (q := 75) rfl fun z74 e74 => ?_
  refine Own.ldcJ C d1_75 (q := 78) rfl (hw _ (List.mem_of_getElem? (i := 10) rfl)) ?_
  refine Own.lmul C d1_78 (q := 79) rfl fun z78 e78 => ?_
  refine Own.lstoreN C d1_79 (q := 80) rfl (L' := #[.val (.ref a), .val (.int g), .val (.int (2 : Int32)), .val (.long z78), .second]) rfl ?_
  refine Own.aloadN C d1_80 (q := 81) rfl rfl rfl ?_
  refine Own.iloadN C d1_81 (q := 82) rfl rfl ?_
  refine Own.iconst C d1_82 (q := 83) rfl (z := 3) (by decide) ?_
  refine Own.iadd C d1_83 (q := 84) rfl fun z83 e83 => ?_
  obtain rfl : z83 = (5 : Int32) := e83.trans (by decide)
  refine Own.ldcJ C d1_84 (q := 87) rfl (hw _ (List.mem_of_getElem? (i := 8) rfl)) ?_
  refine Own.lloadN C d1_87 (q := 88) rfl rfl ?_
  refine Own.bipush C d1_88 (q := 90) rfl (z := 56) (by decide) ?_
  refine Own.lushr C d1_90 (q := 91) rfl fun z90 e90 => ?_
  refine Own.ladd C d1_91 (q := 92) rfl fun z91 e91 => ?_
  refine Own.l2i C d1_92 (q := 93) rfl fun z92 e92 => ?_
  refine Own.i2b C d1_93 (q := 94) rfl fun z93 e93 => ?_
  refine Own.bastore C d1_94 (q := 95) rfl upd_same (by decide) (Nat.le_of_ble_eq_true rfl) ga (mem (upd_list (vs' := [(.int (0 : Int32)), (.int (0 : Int32)), (.int z18.toInt8.toInt32), (.int z43.toInt8.toInt32), (.int z68.toInt8.toInt32), (.int z93.toInt8.toInt32), (.int (0 : Int32)), (.int (0 : Int32)), (.int (0 : Int32)), (.int (0 : Int32)), (.int (0 : Int32)), (.int (0 : Int32))]) rfl upd_upd) ?_)
  refine Own.lloadN C d1_95 (q := 96) rfl rfl ?_
  refine Own.ldcJ C d1_96 (q := 99) rfl (hw _ (List.mem_of_getElem? (i := 9) rfl)) ?_
  refine Own.land C d1_99 (q := 100) rfl fun z99 e99 => ?_
  refine Own.ldcJ C d1_100 (q := 103) rfl (hw _ (List.mem_of_getElem? (i := 10) rfl)) ?_
  refine Own.lmul C d1_103 (q := 104) rfl fun z103 e103 => ?_
  refine Own.lstoreN C d1_104 (q := 105) rfl (L' := #[.val (.ref a), .val (.int g), .val (.int (2 : Int32)), .val (.long z103), .second]) rfl ?_
  refine Own.aloadN C d1_105 (q := 106) rfl rfl rfl ?_
  refine Own.iloadN C d1_106 (q := 107) rfl rfl ?_
  refine Own.iconst C d1_107 (q := 108) rfl (z := 4) (by decide) ?_
  refine Own.iadd C d1_108 (q := 109) rfl fun z108 e108 => ?_
  obtain rfl : z108 = (6 : Int32) := e108.trans (by decide)
  refine Own.ldcJ C d1_109 (q := 112) rfl (hw _ (List.mem_of_getElem? (i := 8) rfl)) ?_
  refine Own.lloadN C d1_112 (q := 113) rfl rfl ?_
  refine Own.bipush C d1_113 (q := 115) rfl (z := 56) (by decide) ?_
  refine Own.lushr C d1_115 (q := 116) rfl fun z115 e115 => ?_
  refine Own.ladd C d1_116 (q := 117) rfl fun z116 e116 => ?_
  refine Own.l2i C d1_117 (q := 118) rfl fun z117 e117 => ?_
  refine Own.i2b C d1_118 (q := 119) rfl fun z118 e118 => ?_
  refine Own.bastore C d1_119 (q := 120) rfl upd_same (by decide) (Nat.le_of_ble_eq_true rfl) ga (mem (upd_list (vs' := [(.int (0 : Int32)), (.int (0 : Int32)), (.int z18.toInt8.toInt32), (.int z43.toInt8.toInt32), (.int z68.toInt8.toInt32), (.int z93.toInt8.toInt32), (.int z118.toInt8.toInt32), (.int (0 : Int32)), (.int (0 : Int32)), (.int (0 : Int32)), (.int (0 : Int32)), (.int (0 : Int32))]) rfl upd_upd) ?_)
  refine Own.lloadN C d1_120 (q := 121) rfl rfl ?_
  refine Own.ldcJ C d1_121 (q := 124) rfl (hw _ (List.mem_of_getElem? (i := 9) rfl)) ?_
  refine Own.land C d1_124 (q := 125) rfl fun z124 e124 => ?_
  refine Own.ldcJ C d1_125 (q := 128) rfl (hw _ (List.mem_of_getElem? (i := 10) rfl)) ?_
  refine Own.lmul C d1_128 (q := 129) rfl fun z128 e128 => ?_
  refine Own.lstoreN C d1_129 (q := 130) rfl (L' := #[.val (.ref a), .val (.int g), .val (.int (2 : Int32)), .val (.long z128), .second]) rfl ?_
  refine Own.aloadN C d1_130 (q := 131) rfl rfl rfl ?_
  refine Own.iloadN C d1_131 (q := 132) rfl rfl ?_
  refine Own.iconst C d1_132 (q := 133) rfl (z := 5) (by decide) ?_
  refine Own.iadd C d1_133 (q := 134) rfl fun z133 e133 => ?_
  obtain rfl : z133 = (7 : Int32) := e133.trans (by decide)
  refine Own.ldcJ C d1_134 (q := 137) rfl (hw _ (List.mem_of_getElem? (i := 8) rfl)) ?_
  refine Own.lloadN C d1_137 (q := 138) rfl rfl ?_
  refine Own.bipush C d1_138 (q := 140) rfl (z := 56) (by decide) ?_
  refine Own.lushr C d1_140 (q := 141) rfl fun z140 e140 => ?_
  refine Own.ladd C d1_141 (q := 142) rfl fun z141 e141 => ?_
  refine Own.l2i C d1_142 (q := 143) rfl fun z142 e142 => ?_
  refine Own.i2b C d1_143 (q := 144) rfl fun z143 e143 => ?_
  refine Own.bastore C d1_144 (q := 145) rfl upd_same (by decide) (Nat.le_of_ble_eq_true rfl) ga (mem (upd_list (vs' := [(.int (0 : Int32)), (.int (0 : Int32)), (.int z18.toInt8.toInt32), (.int z43.toInt8.toInt32), (.int z68.toInt8.toInt32), (.int z93.toInt8.toInt32), (.int z118.toInt8.toInt32), (.int z143.toInt8.toInt32), (.int (0 : Int32)), (.int (0 : Int32)), (.int (0 : Int32)), (.int (0 : Int32))]) rfl upd_upd) ?_)
  refine Own.lloadN C d1_145 (q := 146) rfl rfl ?_
  refine Own.ldcJ C d1_146 (q := 149) rfl (hw _ (List.mem_of_getElem? (i := 9) rfl)) ?_
  refine Own.land C d1_149 (q := 150) rfl fun z149 e149 => ?_
  refine Own.ldcJ C d1_150 (q := 153) rfl (hw _ (List.mem_of_getElem? (i := 10) rfl)) ?_
  refine Own.lmul C d1_153 (q := 154) rfl fun z153 e153 => ?_
  refine Own.lstoreN C d1_154 (q := 155) rfl (L' := #[.val (.ref a), .val (.int g), .val (.int (2 : Int32)), .val (.long z153), .second]) rfl ?_
  refine Own.aloadN C d1_155 (q := 156) rfl rfl rfl ?_
  refine Own.iloadN C d1_156 (q := 157) rfl rfl ?_
  refine Own.bipush C d1_157 (q := 159) rfl (z := 6) (by decide) ?_
  refine Own.iadd C d1_159 (q := 160) rfl fun z159 e159 => ?_
  obtain rfl : z159 = (8 : Int32) := e159.trans (by decide)
  refine Own.ldcJ C d1_160 (q := 163) rfl (hw _ (List.mem_of_getElem? (i := 8) rfl)) ?_
  refine Own.lloadN C d1_163 (q := 164) rfl rfl ?_
  refine Own.bipush C d1_164 (q := 166) rfl (z := 56) (by decide) ?_
  refine Own.lushr C d1_166 (q := 167) rfl fun z166 e166 => ?_
  refine Own.ladd C d1_167 (q := 168) rfl fun z167 e167 => ?_
  refine Own.l2i C d1_168 (q := 169) rfl fun z168 e168 => ?_
  refine Own.i2b C d1_169 (q := 170) rfl fun z169 e169 => ?_
  refine Own.bastore C d1_170 (q := 171) rfl upd_same (by decide) (Nat.le_of_ble_eq_true rfl) ga (mem (upd_list (vs' := [(.int (0 : Int32)), (.int (0 : Int32)), (.int z18.toInt8.toInt32), (.int z43.toInt8.toInt32), (.int z68.toInt8.toInt32), (.int z93.toInt8.toInt32), (.int z118.toInt8.toInt32), (.int z143.toInt8.toInt32), (.int z169.toInt8.toInt32), (.int (0 : Int32)), (.int (0 : Int32)), (.int (0 : Int32))]) rfl upd_upd) ?_)
  refine Own.lloadN C d1_171 (q := 172) rfl rfl ?_
  refine Own.ldcJ C d1_172 (q := 175) rfl (hw _ (List.mem_of_getElem? (i := 9) rfl)) ?_
  refine Own.land C d1_175 (q := 176) rfl fun z175 e175 => ?_
  refine Own.ldcJ C d1_176 (q := 179) rfl (hw _ (List.mem_of_getElem? (i := 10) rfl)) ?_
  refine Own.lmul C d1_179 (q := 180) rfl fun z179 e179 => ?_
  refine Own.lstoreN C d1_180 (q := 181) rfl (L' := #[.val (.ref a), .val (.int g), .val (.int (2 : Int32)), .val (.long z179), .second]) rfl ?_
  refine Own.aloadN C d1_181 (q := 182) rfl rfl rfl ?_
  refine Own.iloadN C d1_182 (q := 183) rfl rfl ?_
  refine Own.bipush C d1_183 (q := 185) rfl (z := 7) (by decide) ?_
  refine Own.iadd C d1_185 (q := 186) rfl fun z185 e185 => ?_
  obtain rfl : z185 = (9 : Int32) := e185.trans (by decide)
  refine Own.ldcJ C d1_186 (q := 189) rfl (hw _ (List.mem_of_getElem? (i := 8) rfl)) ?_
  refine Own.lloadN C d1_189 (q := 190) rfl rfl ?_
  refine Own.bipush C d1_190 (q := 192) rfl (z := 56) (by decide) ?_
  refine Own.lushr C d1_192 (q := 193) rfl fun z192 e192 => ?_
  refine Own.ladd C d1_193 (q := 194) rfl fun z193 e193 => ?_
  refine Own.l2i C d1_194 (q := 195) rfl fun z194 e194 => ?_
  refine Own.i2b C d1_195 (q := 196) rfl fun z195 e195 => ?_
  refine Own.bastore C d1_196 (q := 197) rfl upd_same (by decide) (Nat.le_of_ble_eq_true rfl) ga (mem (upd_list (vs' := [(.int (0 : Int32)), (.int (0 : Int32)), (.int z18.toInt8.toInt32), (.int z43.toInt8.toInt32), (.int z68.toInt8.toInt32), (.int z93.toInt8.toInt32), (.int z118.toInt8.toInt32), (.int z143.toInt8.toInt32), (.int z169.toInt8.toInt32), (.int z195.toInt8.toInt32), (.int (0 : Int32)), (.int (0 : Int32))]) rfl upd_upd) ?_)
  refine Own.vreturn C d1_197 (by decide) (by decide) ?_
  have w0 := w_first e1 e5 hg
  have w1 := w_next e24 e28
  have w2 := w_next e49 e53
  have w3 := w_next e74 e78
  have w4 := w_next e99 e103
  have w5 := w_next e124 e128
  have w6 := w_next e149 e153
  have w7 := w_next e175 e179
  obtain ⟨⟨u0, v0⟩, ⟨u1, v1⟩, ⟨u2, v2⟩, ⟨u3, v3⟩, ⟨u4, v4⟩, ⟨u5, v5⟩, ⟨u6, v6⟩, ⟨u7, v7⟩⟩ := digs g.toInt hg z5.toInt z28.toInt z53.toInt z78.toInt z103.toInt z128.toInt z153.toInt z179.toInt w0 w1 w2 w3 w4 w5 w6 w7
  exact ⟨rfl, _, _, _, _, _, _, _, _, rfl, (w_byte e15 e16 e17 e18 u0).trans (by rw [v0]), (w_byte e40 e41 e42 e43 u1).trans (by rw [v1]), (w_byte e65 e66 e67 e68 u2).trans (by rw [v2]), (w_byte e90 e91 e92 e93 u3).trans (by rw [v3]), (w_byte e115 e116 e117 e118 u4).trans (by rw [v4]), (w_byte e140 e141 e142 e143 u5).trans (by rw [v5]), (w_byte e166 e167 e168 e169 u6).trans (by rw [v6]), (w_byte e192 e193 e194 e195 u7).trans (by rw [v7])⟩
set_option maxRecDepth 65536 in
set_option maxHeartbeats 4000000 in
theorem c_w8_3 (l : Launch) (Z : State) (a0 : Array Value) (hw : ∀ d ∈ tables_1, d.before a0 Z = true) (n0 : Nat) (μ : Mem) (a : Addr) (g : Int32) (hg : 0 ≤ g.toInt ∧ g.toInt < 100000000) (ha : μ a = some (.inr (.byte, [(.int (0 : Int32)), (.int (0 : Int32)), (.int (0 : Int32)), (.int (0 : Int32)), (.int (0 : Int32)), (.int (0 : Int32)), (.int (0 : Int32)), (.int (0 : Int32)), (.int (0 : Int32)), (.int (0 : Int32)), (.int (0 : Int32)), (.int (0 : Int32))]))) (ga : n0 ≤ a) :
    Con l Z n0 (⟨"com/example/porthcurno/porthcurno/dissect/LineWriter", "writeEightDigits", "([BII)V"⟩ : MethodName) prog_116_method_12_code 5 none [] rm_1 rm_1.cells rm_1.slots #[(.ref a), (.int g), (.int (3 : Int32))] μ (RV fun μ' => ∃ d0 d1 d2 d3 d4 d5 d6 d7 : Int32, μ' = upd μ a (.inr (.byte, [(.int (0 : Int32)), (.int (0 : Int32)), (.int (0 : Int32)), (.int d0), (.int d1), (.int d2), (.int d3), (.int d4), (.int d5), (.int d6), (.int d7), (.int (0 : Int32))])) ∧ d0.toInt = 48 + g.toInt / 10000000 % 10 ∧ d1.toInt = 48 + g.toInt / 1000000 % 10 ∧ d2.toInt = 48 + g.toInt / 100000 % 10 ∧ d3.toInt = 48 + g.toInt / 10000 % 10 ∧ d4.toInt = 48 + g.toInt / 1000 % 10 ∧ d5.toInt = 48 + g.toInt / 100 % 10 ∧ d6.toInt = 48 + g.toInt / 10 % 10 ∧ d7.toInt = 48 + g.toInt / 1 % 10) := by
  refine Con.intro (L0 := #[.val (.ref a), .val (.int g), .val (.int (3 : Int32)), .unset, .unset]) (plainFor_of_name (by first | (simp [plainName, overriddenIn]; done) | decide +kernel)) (fun m => by first | (simp [entryFrame, mkF, argsToLocals, Value.category]; done) | rfl) ?_
  intro p e s m below meth c C
  have C : Ctx p s m meth c Z "com/example/porthcurno/porthcurno/dissect/LineWriter" "writeEightDigits" prog_116_method_12_code 5 none := C
  refine Own.iloadN C d1_0 (q := 1) rfl rfl ?_
  refine Own.i2l C d1_1 (q := 2) rfl fun z1 e1 => ?_
  refine Own.ldcJ C d1_2 (q := 5) rfl (hw _ (List.mem_of_getElem? (i := 7) rfl)) ?_
  refine Own.lmul C d1_5 (q := 6) rfl fun z5 e5 => ?_
  refine Own.lstoreN C d1_6 (q := 7) rfl (L' := #[.val (.ref a), .val (.int g), .val (.int (3 : Int32)), .val (.long z5), .second]) rfl ?_
  refine Own.aloadN C d1_7 (q := 8) rfl rfl rfl ?_
  refine Own.iloadN C d1_8 (q := 9) rfl rfl ?_
  refine Own.ldcJ C d1_9 (q := 12) rfl (hw _ (List.mem_of_getElem? (i := 8) rfl)) ?_
  refine Own.lloadN C d1_12 (q := 13) rfl rfl ?_
  refine Own.bipush C d1_13 (q := 15) rfl (z := 56) (by decide) ?_
  refine Own.lushr C d1_15 (q := 16) rfl fun z15 e15 => ?_
  refine Own.ladd C d1_16 (q := 17) rfl fun z16 e16 => ?_
  refine Own.l2i C d1_17 (q := 18) rfl fun z17 e17 => ?_
  refine Own.i2b C d1_18 (q := 19) rfl fun z18 e18 => ?_
  refine Own.bastore C d1_19 (q := 20) rfl ha (by decide) (Nat.le_of_ble_eq_true rfl) ga (mem (upd_list (vs' := [(.int (0 : Int32)), (.int (0 : Int32)), (.int (0 : Int32)), (.int z18.toInt8.toInt32), (.int (0 : Int32)), (.int (0 : Int32)), (.int (0 : Int32)), (.int (0 : Int32)), (.int (0 : Int32)), (.int (0 : Int32)), (.int (0 : Int32)), (.int (0 : Int32))]) rfl rfl) ?_)
  refine Own.lloadN C d1_20 (q := 21) rfl rfl ?_
  refine Own.ldcJ C d1_21 (q := 24) rfl (hw _ (List.mem_of_getElem? (i := 9) rfl)) ?_
  refine Own.land C d1_24 (q := 25) rfl fun z24 e24 => ?_
  refine Own.ldcJ C d1_25 (q := 28) rfl (hw _ (List.mem_of_getElem? (i := 10) rfl)) ?_
  refine Own.lmul C d1_28 (q := 29) rfl fun z28 e28 => ?_
  refine Own.lstoreN C d1_29 (q := 30) rfl (L' := #[.val (.ref a), .val (.int g), .val (.int (3 : Int32)), .val (.long z28), .second]) rfl ?_
  refine Own.aloadN C d1_30 (q := 31) rfl rfl rfl ?_
  refine Own.iloadN C d1_31 (q := 32) rfl rfl ?_
  refine Own.iconst C d1_32 (q := 33) rfl (z := 1) (by decide) ?_
  refine Own.iadd C d1_33 (q := 34) rfl fun z33 e33 => ?_
  obtain rfl : z33 = (4 : Int32) := e33.trans (by decide)
  refine Own.ldcJ C d1_34 (q := 37) rfl (hw _ (List.mem_of_getElem? (i := 8) rfl)) ?_
  refine Own.lloadN C d1_37 (q := 38) rfl rfl ?_
  refine Own.bipush C d1_38 (q := 40) rfl (z := 56) (by decide) ?_
  refine Own.lushr C d1_40 (q := 41) rfl fun z40 e40 => ?_
  refine Own.ladd C d1_41 (q := 42) rfl fun z41 e41 => ?_
  refine Own.l2i C d1_42 (q := 43) rfl fun z42 e42 => ?_
  refine Own.i2b C d1_43 (q := 44) rfl fun z43 e43 => ?_
  refine Own.bastore C d1_44 (q := 45) rfl upd_same (by decide) (Nat.le_of_ble_eq_true rfl) ga (mem (upd_list (vs' := [(.int (0 : Int32)), (.int (0 : Int32)), (.int (0 : Int32)), (.int z18.toInt8.toInt32), (.int z43.toInt8.toInt32), (.int (0 : Int32)), (.int (0 : Int32)), (.int (0 : Int32)), (.int (0 : Int32)), (.int (0 : Int32)), (.int (0 : Int32)), (.int (0 : Int32))]) rfl upd_upd) ?_)
  refine Own.lloadN C d1_45 (q := 46) rfl rfl ?_
  refine Own.ldcJ C d1_46 (q := 49) rfl (hw _ (List.mem_of_getElem? (i := 9) rfl)) ?_
  refine Own.land C d1_49 (q := 50) rfl fun z49 e49 => ?_
  refine Own.ldcJ C d1_50 (q := 53) rfl (hw _ (List.mem_of_getElem? (i := 10) rfl)) ?_
  refine Own.lmul C d1_53 (q := 54) rfl fun z53 e53 => ?_
  refine Own.lstoreN C d1_54 (q := 55) rfl (L' := #[.val (.ref a), .val (.int g), .val (.int (3 : Int32)), .val (.long z53), .second]) rfl ?_
  refine Own.aloadN C d1_55 (q := 56) rfl rfl rfl ?_
  refine Own.iloadN C d1_56 (q := 57) rfl rfl ?_
  refine Own.iconst C d1_57 (q := 58) rfl (z := 2) (by decide) ?_
  refine Own.iadd C d1_58 (q := 59) rfl fun z58 e58 => ?_
  obtain rfl : z58 = (5 : Int32) := e58.trans (by decide)
  refine Own.ldcJ C d1_59 (q := 62) rfl (hw _ (List.mem_of_getElem? (i := 8) rfl)) ?_
  refine Own.lloadN C d1_62 (q := 63) rfl rfl ?_
  refine Own.bipush C d1_63 (q := 65) rfl (z := 56) (by decide) ?_
  refine Own.lushr C d1_65 (q := 66) rfl fun z65 e65 => ?_
  refine Own.ladd C d1_66 (q := 67) rfl fun z66 e66 => ?_
  refine Own.l2i C d1_67 (q := 68) rfl fun z67 e67 => ?_
  refine Own.i2b C d1_68 (q := 69) rfl fun z68 e68 => ?_
  refine Own.bastore C d1_69 (q := 70) rfl upd_same (by decide) (Nat.le_of_ble_eq_true rfl) ga (mem (upd_list (vs' := [(.int (0 : Int32)), (.int (0 : Int32)), (.int (0 : Int32)), (.int z18.toInt8.toInt32), (.int z43.toInt8.toInt32), (.int z68.toInt8.toInt32), (.int (0 : Int32)), (.int (0 : Int32)), (.int (0 : Int32)), (.int (0 : Int32)), (.int (0 : Int32)), (.int (0 : Int32))]) rfl upd_upd) ?_)
  refine Own.lloadN C d1_70 (q := 71) rfl rfl ?_
  refine Own.ldcJ C d1_71 (q := 74) rfl (hw _ (List.mem_of_getElem? (i := 9) rfl)) ?_
  refine Own.land C d1_74 (q := 75) rfl fun z74 e74 => ?_
  refine Own.ldcJ C d1_75 (q := 78) rfl (hw _ (List.mem_of_getElem? (i := 10) rfl)) ?_
  refine Own.lmul C d1_78 (q := 79) rfl fun z78 e78 => ?_
  refine Own.lstoreN C d1_79 (q := 80) rfl (L' := #[.val (.ref a), .val (.int g), .val (.int (3 : Int32)), .val (.long z78), .second]) rfl ?_
  refine Own.aloadN C d1_80 (q := 81) rfl rfl rfl ?_
  refine Own.iloadN C d1_81 (q := 82) rfl rfl ?_
  refine Own.iconst C d1_82 (q := 83) rfl (z := 3) (by decide) ?_
  refine Own.iadd C d1_83 (q := 84) rfl fun z83 e83 => ?_
  obtain rfl : z83 = (6 : Int32) := e83.trans (by decide)
  refine Own.ldcJ C d1_84 (q := 87) rfl (hw _ (List.mem_of_getElem? (i := 8) rfl)) ?_
  refine Own.lloadN C d1_87 (q := 88) rfl rfl ?_
  refine Own.bipush C d1_88 (q := 90) rfl (z := 56) (by decide) ?_
  refine Own.lushr C d1_90 (q := 91) rfl fun z90 e90 => ?_
  refine Own.ladd C d1_91 (q := 92) rfl fun z91 e91 => ?_
  refine Own.l2i C d1_92 (q := 93) rfl fun z92 e92 => ?_
  refine Own.i2b C d1_93 (q := 94) rfl fun z93 e93 => ?_
  refine Own.bastore C d1_94 (q := 95) rfl upd_same (by decide) (Nat.le_of_ble_eq_true rfl) ga (mem (upd_list (vs' := [(.int (0 : Int32)), (.int (0 : Int32)), (.int (0 : Int32)), (.int z18.toInt8.toInt32), (.int z43.toInt8.toInt32), (.int z68.toInt8.toInt32), (.int z93.toInt8.toInt32), (.int (0 : Int32)), (.int (0 : Int32)), (.int (0 : Int32)), (.int (0 : Int32)), (.int (0 : Int32))]) rfl upd_upd) ?_)
  refine Own.lloadN C d1_95 (q := 96) rfl rfl ?_
  refine Own.ldcJ C d1_96 (q := 99) rfl (hw _ (List.mem_of_getElem? (i := 9) rfl)) ?_
  refine Own.land C d1_99 (q := 100) rfl fun z99 e99 => ?_
  refine Own.ldcJ C d1_100 (q := 103) rfl (hw _ (List.mem_of_getElem? (i := 10) rfl)) ?_
  refine Own.lmul C d1_103 (q := 104) rfl fun z103 e103 => ?_
  refine Own.lstoreN C d1_104 (q := 105) rfl (L' := #[.val (.ref a), .val (.int g), .val (.int (3 : Int32)), .val (.long z103), .second]) rfl ?_
  refine Own.aloadN C d1_105 (q := 106) rfl rfl rfl ?_
  refine Own.iloadN C d1_106 (q := 107) rfl rfl ?_
  refine Own.iconst C d1_107 (q := 108) rfl (z := 4) (by decide) ?_
  refine Own.iadd C d1_108 (q := 109) rfl fun z108 e108 => ?_
  obtain rfl : z108 = (7 : Int32) := e108.trans (by decide)
  refine Own.ldcJ C d1_109 (q := 112) rfl (hw _ (List.mem_of_getElem? (i := 8) rfl)) ?_
  refine Own.lloadN C d1_112 (q := 113) rfl rfl ?_
  refine Own.bipush C d1_113 (q := 115) rfl (z := 56) (by decide) ?_
  refine Own.lushr C d1_115 (q := 116) rfl fun z115 e115 => ?_
  refine Own.ladd C d1_116 (q := 117) rfl fun z116 e116 => ?_
  refine Own.l2i C d1_117 (q := 118) rfl fun z117 e117 => ?_
  refine Own.i2b C d1_118 (q := 119) rfl fun z118 e118 => ?_
  refine Own.bastore C d1_119 (q := 120) rfl upd_same (by decide) (Nat.le_of_ble_eq_true rfl) ga (mem (upd_list (vs' := [(.int (0 : Int32)), (.int (0 : Int32)), (.int (0 : Int32)), (.int z18.toInt8.toInt32), (.int z43.toInt8.toInt32), (.int z68.toInt8.toInt32), (.int z93.toInt8.toInt32), (.int z118.toInt8.toInt32), (.int (0 : Int32)), (.int (0 : Int32)), (.int (0 : Int32)), (.int (0 : Int32))]) rfl upd_upd) ?_)
  refine Own.lloadN C d1_120 (q := 121) rfl rfl ?_
  refine Own.ldcJ C d1_121 (q := 124) rfl (hw _ (List.mem_of_getElem? (i := 9) rfl)) ?_
  refine Own.land C d1_124 (q := 125) rfl fun z124 e124 => ?_
  refine Own.ldcJ C d1_125 (q := 128) rfl (hw _ (List.mem_of_getElem? (i := 10) rfl)) ?_
  refine Own.lmul C d1_128 (q := 129) rfl fun z128 e128 => ?_
  refine Own.lstoreN C d1_129 (q := 130) rfl (L' := #[.val (.ref a), .val (.int g), .val (.int (3 : Int32)), .val (.long z128), .second]) rfl ?_
  refine Own.aloadN C d1_130 (q := 131) rfl rfl rfl ?_
  refine Own.iloadN C d1_131 (q := 132) rfl rfl ?_
  refine Own.iconst C d1_132 (q := 133) rfl (z := 5) (by decide) ?_
  refine Own.iadd C d1_133 (q := 134) rfl fun z133 e133 => ?_
  obtain rfl : z133 = (8 : Int32) := e133.trans (by decide)
  refine Own.ldcJ C d1_134 (q := 137) rfl (hw _ (List.mem_of_getElem? (i := 8) rfl)) ?_
  refine Own.lloadN C d1_137 (q := 138) rfl rfl ?_
  refine Own.bipush C d1_138 (q := 140) rfl (z := 56) (by decide) ?_
  refine Own.lushr C d1_140 (q := 141) rfl fun z140 e140 => ?_
  refine Own.ladd C d1_141 (q := 142) rfl fun z141 e141 => ?_
  refine Own.l2i C d1_142 (q := 143) rfl fun z142 e142 => ?_
  refine Own.i2b C d1_143 (q := 144) rfl fun z143 e143 => ?_
  refine Own.bastore C d1_144 (q := 145) rfl upd_same (by decide) (Nat.le_of_ble_eq_true rfl) ga (mem (upd_list (vs' := [(.int (0 : Int32)), (.int (0 : Int32)), (.int (0 : Int32)), (.int z18.toInt8.toInt32), (.int z43.toInt8.toInt32), (.int z68.toInt8.toInt32), (.int z93.toInt8.toInt32), (.int z118.toInt8.toInt32), (.int z143.toInt8.toInt32), (.int (0 : Int32)), (.int (0 : Int32)), (.int (0 : Int32))]) rfl upd_upd) ?_)
  refine Own.lloadN C d1_145 (q := 146) rfl rfl ?_
  refine Own.ldcJ C d1_146 (q := 149) rfl (hw _ (List.mem_of_getElem? (i := 9) rfl)) ?_
  refine Own.land C d1_149 (q := 150) rfl fun z149 e149 => ?_
  refine Own.ldcJ C d1_150 (q := 153) rfl (hw _ (List.mem_of_getElem? (i := 10) rfl)) ?_
  refine Own.lmul C d1_153 (q := 154) rfl fun z153 e153 => ?_
  refine Own.lstoreN C d1_154 (q := 155) rfl (L' := #[.val (.ref a), .val (.int g), .val (.int (3 : Int32)), .val (.long z153), .second]) rfl ?_
  refine Own.aloadN C d1_155 (q := 156) rfl rfl rfl ?_
  refine Own.iloadN C d1_156 (q := 157) rfl rfl ?_
  refine Own.bipush C d1_157 (q := 159) rfl (z := 6) (by decide) ?_
  refine Own.iadd C d1_159 (q := 160) rfl fun z159 e159 => ?_
  obtain rfl : z159 = (9 : Int32) := e159.trans (by decide)
  refine Own.ldcJ C d1_160 (q := 163) rfl (hw _ (List.mem_of_getElem? (i := 8) rfl)) ?_
  refine Own.lloadN C d1_163 (q := 164) rfl rfl ?_
  refine Own.bipush C d1_164 (q := 166) rfl (z := 56) (by decide) ?_
  refine Own.lushr C d1_166 (q := 167) rfl fun z166 e166 => ?_
  refine Own.ladd C d1_167 (q := 168) rfl fun z167 e167 => ?_
  refine Own.l2i C d1_168 (q := 169) rfl fun z168 e168 => ?_
  refine Own.i2b C d1_169 (q := 170) rfl fun z169 e169 => ?_
  refine Own.bastore C d1_170 (q := 171) rfl upd_same (by decide) (Nat.le_of_ble_eq_true rfl) ga (mem (upd_list (vs' := [(.int (0 : Int32)), (.int (0 : Int32)), (.int (0 : Int32)), (.int z18.toInt8.toInt32), (.int z43.toInt8.toInt32), (.int z68.toInt8.toInt32), (.int z93.toInt8.toInt32), (.int z118.toInt8.toInt32), (.int z143.toInt8.toInt32), (.int z169.toInt8.toInt32), (.int (0 : Int32)), (.int (0 : Int32))]) rfl upd_upd) ?_)
  refine Own.lloadN C d1_171 (q := 172) rfl rfl ?_
  refine Own.ldcJ C d1_172 (q := 175) rfl (hw _ (List.mem_of_getElem? (i := 9) rfl)) ?_
  refine Own.land C d1_175 (q := 176) rfl fun z175 e175 => ?_
  refine Own.ldcJ C d1_176 (q := 179) rfl (hw _ (List.mem_of_getElem? (i := 10) rfl)) ?_
  refine Own.lmul C d1_179 (q := 180) rfl fun z179 e179 => ?_
  refine Own.lstoreN C d1_180 (q := 181) rfl (L' := #[.val (.ref a), .val (.int g), .val (.int (3 : Int32)), .val (.long z179), .second]) rfl ?_
  refine Own.aloadN C d1_181 (q := 182) rfl rfl rfl ?_
  refine Own.iloadN C d1_182 (q := 183) rfl rfl ?_
  refine Own.bipush C d1_183 (q := 185) rfl (z := 7) (by decide) ?_
  refine Own.iadd C d1_185 (q := 186) rfl fun z185 e185 => ?_
  obtain rfl : z185 = (10 : Int32) := e185.trans (by decide)
  refine Own.ldcJ C d1_186 (q := 189) rfl (hw _ (List.mem_of_getElem? (i := 8) rfl)) ?_
  refine Own.lloadN C d1_189 (q := 190) rfl rfl ?_
  refine Own.bipush C d1_190 (q := 192) rfl (z := 56) (by decide) ?_
  refine Own.lushr C d1_192 (q := 193) rfl fun z192 e192 => ?_
  refine Own.ladd C d1_193 (q := 194) rfl fun z193 e193 => ?_
  refine Own.l2i C d1_194 (q := 195) rfl fun z194 e194 => ?_
  refine Own.i2b C d1_195 (q := 196) rfl fun z195 e195 => ?_
  refine Own.bastore C d1_196 (q := 197) rfl upd_same (by decide) (Nat.le_of_ble_eq_true rfl) ga (mem (upd_list (vs' := [(.int (0 : Int32)), (.int (0 : Int32)), (.int (0 : Int32)), (.int z18.toInt8.toInt32), (.int z43.toInt8.toInt32), (.int z68.toInt8.toInt32), (.int z93.toInt8.toInt32), (.int z118.toInt8.toInt32), (.int z143.toInt8.toInt32), (.int z169.toInt8.toInt32), (.int z195.toInt8.toInt32), (.int (0 : Int32))]) rfl upd_upd) ?_)
  refine Own.vreturn C d1_197 (by decide) (by decide) ?_
  have w0 := w_first e1 e5 hg
  have w1 := w_next e24 e28
  have w2 := w_next e49 e53
  have w3 := w_next e74 e78
  have w4 := w_next e99 e103
  have w5 := w_next e124 e128
  have w6 := w_next e149 e153
  have w7 := w_next e175 e179
  obtain ⟨⟨u0, v0⟩, ⟨u1, v1⟩, ⟨u2, v2⟩, ⟨u3, v3⟩, ⟨u4, v4⟩, ⟨u5, v5⟩, ⟨u6, v6⟩, ⟨u7, v7⟩⟩ := digs g.toInt hg z5.toInt z28.toInt z53.toInt z78.toInt z103.toInt z128.toInt z153.toInt z179.toInt w0 w1 w2 w3 w4 w5 w6 w7
  exact ⟨rfl, _, _, _, _, _, _, _, _, rfl, (w_byte e15 e16 e17 e18 u0).trans (by rw [v0]), (w_byte e40 e41 e42 e43 u1).trans (by rw [v1]), (w_byte e65 e66 e67 e68 u2).trans (by rw [v2]), (w_byte e90 e91 e92 e93 u3).trans (by rw [v3]), (w_byte e115 e116 e117 e118 u4).trans (by rw [v4]), (w_byte e140 e141 e142 e143 u5).trans (by rw [v5]), (w_byte e166 e167 e168 e169 u6).trans (by rw [v6]), (w_byte e192 e193 e194 e195 u7).trans (by rw [v7])⟩
theorem pd_1 : parseMethodDescriptor "([BII)V" = some ⟨[(.array .byte), .int, .int], none⟩ := by decide +kernel
theorem pd_2 : parseMethodDescriptor "([BIII)Z" = some ⟨[(.array .byte), .int, .int, .int], some .boolean⟩ := by decide +kernel
set_option maxRecDepth 65536 in
set_option maxHeartbeats 40000000 in
theorem c_law (l : Launch) (Z : State) (a0 : Array Value) (hw : ∀ d ∈ tables_1, d.before a0 Z = true) (n0 : Nat) (μ : Mem) (g : Int32) (a : Int32)  :
    Con l Z n0 x code maxLocals ret tables_1 room_1 room_1.cells room_1.slots #[(.int g), (.int a)] μ (fun v _ => v = some (.int 1)) := by
  refine Con.intro (L0 := #[.val (.int g), .val (.int a), .unset, .unset, .unset]) (plainFor_of_name (by first | (simp [plainName, overriddenIn]; done) | decide +kernel)) (fun m => by first | (simp [entryFrame, mkF, argsToLocals, Value.category, maxLocals]; done) | rfl) ?_
  intro p e s m below meth c C
  have C : Ctx p s m meth c Z "com/example/porthcurno/porthcurno/dissect/LineWriterWriteEightDigitsPinLaw" "law" code maxLocals (some .boolean) := C
  refine Own.iloadN C at_0 (q := 1) rfl rfl ?_
  refine Own.ldcI C at_1 (q := 3) rfl (hw _ (List.mem_of_getElem? (i := 0) rfl)) ?_
  refine Own.iand C at_3 (q := 4) rfl fun z3 e3 => ?_
  refine Own.ldcI C at_4 (q := 6) rfl (hw _ (List.mem_of_getElem? (i := 1) rfl)) ?_
  refine Own.irem C at_6 (q := 7) rfl (by decide) fun z6 e6 => ?_
  refine Own.istoreN C at_7 (q := 8) rfl (L' := #[.val (.int g), .val (.int a), .val (.int z6), .unset, .unset]) rfl ?_
  refine Own.iloadN C at_8 (q := 9) rfl rfl ?_
  refine Own.iconst C at_9 (q := 10) rfl (z := 3) (by decide) ?_
  refine Own.iand C at_10 (q := 11) rfl fun z10 e10 => ?_
  have hg : 0 ≤ z6.toInt ∧ z6.toInt < 100000000 := by have o1 := c_mask g 2147483647 31 (by decide) (by decide); rw [← e3] at o1; have o2 := c_irem z3 100000000 100000000 (by decide); rw [← e6] at o2; omega
  have hz4 : z10 = 0 ∨ z10 = 1 ∨ z10 = 2 ∨ z10 = 3 := by have o := c_mask a 3 2 (by decide) (by decide); rw [← e10] at o; simp only [← Int32.toInt_inj, Int32.reduceToInt]; omega
  clear e10
  rcases hz4 with rfl | rfl | rfl | rfl
  · refine Own.istoreN C at_11 (q := 12) rfl (L' := #[.val (.int g), .val (.int a), .val (.int z6), .val (.int (0 : Int32)), .unset]) rfl ?_
    refine Own.bipush C at_12 (q := 14) rfl (z := 12) (by decide) ?_
    refine Own.newArr C at_14 (q := 16) rfl (ty := .byte) rfl (hw _ (List.mem_of_getElem? (i := 2) rfl)) (by decide) (cap := 12) (by decide) (by decide) (vs := [(.int (0 : Int32)), (.int (0 : Int32)), (.int (0 : Int32)), (.int (0 : Int32)), (.int (0 : Int32)), (.int (0 : Int32)), (.int (0 : Int32)), (.int (0 : Int32)), (.int (0 : Int32)), (.int (0 : Int32)), (.int (0 : Int32)), (.int (0 : Int32))]) rfl (by decide) (by decide) fun a14 a14_f a14_g => ?_
    refine Own.astore C at_16 (q := 18) rfl (L' := #[.val (.int g), .val (.int a), .val (.int z6), .val (.int (0 : Int32)), .val (.ref a14)]) rfl rfl ?_
    refine Own.aload C at_18 (q := 20) rfl rfl rfl ?_
    refine Own.iloadN C at_20 (q := 21) rfl rfl ?_
    refine Own.iloadN C at_21 (q := 22) rfl rfl ?_
    refine Own.callS C at_22 (q := 25) rfl (hw _ (List.mem_of_getElem? (i := 3) rfl)) (hw _ (List.mem_of_getElem? (i := 4) rfl)) (hw _ (List.mem_of_getElem? (i := 5) rfl)) (hw _ (List.mem_of_getElem? (i := 6) rfl)) (by decide) (W := 0) (rm := rm_1) (argsL := [(.ref a14), (.int z6), (.int (0 : Int32))]) (st := []) (lenOf pd_1 rfl) rfl rfl (Nat.le_of_eq rfl) (by decide) (by decide) (by decide) (by decide) (c_w8_0 l Z a0 hw n0 _ a14 z6 hg upd_same a14_g) (nxV fun μ22 h22 => ?_)
    obtain ⟨d0, d1, d2, d3, d4, d5, d6, d7, rfl, hd0, hd1, hd2, hd3, hd4, hd5, hd6, hd7⟩ := h22
    refine Own.mem upd_upd ?_
    refine Own.aload C at_25 (q := 27) rfl rfl rfl ?_
    refine Own.iloadN C at_27 (q := 28) rfl rfl ?_
    refine Own.iloadN C at_28 (q := 29) rfl rfl ?_
    refine Own.iconst C at_29 (q := 30) rfl (z := 0) (by decide) ?_
    refine Own.callS C at_30 (q := 33) rfl (hw _ (List.mem_of_getElem? (i := 11) rfl)) (hw _ (List.mem_of_getElem? (i := 12) rfl)) (hw _ (List.mem_of_getElem? (i := 13) rfl)) (hw _ (List.mem_of_getElem? (i := 14) rfl)) (by decide) (W := 0) (rm := rm_2) (argsL := [(.ref a14), (.int z6), (.int (0 : Int32)), (.int (0 : Int32))]) (st := []) (lenOf pd_2 rfl) rfl rfl (Nat.le_of_eq rfl) (by decide) (by decide) (by decide) (by decide) (c_check l Z a0 hw n0 _ a14 z6 (0 : Int32) (0 : Int32) hg (by decide) (by decide) [(.int d0), (.int d1), (.int d2), (.int d3), (.int d4), (.int d5), (.int d6), (.int d7), (.int (0 : Int32)), (.int (0 : Int32)), (.int (0 : Int32)), (.int (0 : Int32))] d0 upd_same rfl (by rw [show (0 : Int32).toInt - (0 : Int32).toInt = 0 from by decide]; exact (hd0.trans (exv_0 _).symm))) (nxI fun z30 μ30 h30 => ?_)
    obtain ⟨rfl, rfl⟩ := h30
    refine Own.if_eq C at_33 (q := 36) rfl (r := 167) (by decide) (fun h33 => ?_) (fun h33 => ?_)
    · exact absurd h33 (by decide)
    · refine Own.aload C at_36 (q := 38) rfl rfl rfl ?_
      refine Own.iloadN C at_38 (q := 39) rfl rfl ?_
      refine Own.iloadN C at_39 (q := 40) rfl rfl ?_
      refine Own.iconst C at_40 (q := 41) rfl (z := 1) (by decide) ?_
      refine Own.callS C at_41 (q := 44) rfl (hw _ (List.mem_of_getElem? (i := 11) rfl)) (hw _ (List.mem_of_getElem? (i := 12) rfl)) (hw _ (List.mem_of_getElem? (i := 13) rfl)) (hw _ (List.mem_of_getElem? (i := 14) rfl)) (by decide) (W := 0) (rm := rm_2) (argsL := [(.ref a14), (.int z6), (.int (0 : Int32)), (.int (1 : Int32))]) (st := []) (lenOf pd_2 rfl) rfl rfl (Nat.le_of_eq rfl) (by decide) (by decide) (by decide) (by decide) (c_check l Z a0 hw n0 _ a14 z6 (0 : Int32) (1 : Int32) hg (by decide) (by decide) [(.int d0), (.int d1), (.int d2), (.int d3), (.int d4), (.int d5), (.int d6), (.int d7), (.int (0 : Int32)), (.int (0 : Int32)), (.int (0 : Int32)), (.int (0 : Int32))] d1 upd_same rfl (by rw [show (1 : Int32).toInt - (0 : Int32).toInt = 1 from by decide]; exact (hd1.trans (exv_1 _).symm))) (nxI fun z41 μ41 h41 => ?_)
      obtain ⟨rfl, rfl⟩ := h41
      refine Own.if_eq C at_44 (q := 47) rfl (r := 167) (by decide) (fun h44 => ?_) (fun h44 => ?_)
      · exact absurd h44 (by decide)
      · refine Own.aload C at_47 (q := 49) rfl rfl rfl ?_
        refine Own.iloadN C at_49 (q := 50) rfl rfl ?_
        refine Own.iloadN C at_50 (q := 51) rfl rfl ?_
        refine Own.iconst C at_51 (q := 52) rfl (z := 2) (by decide) ?_
        refine Own.callS C at_52 (q := 55) rfl (hw _ (List.mem_of_getElem? (i := 11) rfl)) (hw _ (List.mem_of_getElem? (i := 12) rfl)) (hw _ (List.mem_of_getElem? (i := 13) rfl)) (hw _ (List.mem_of_getElem? (i := 14) rfl)) (by decide) (W := 0) (rm := rm_2) (argsL := [(.ref a14), (.int z6), (.int (0 : Int32)), (.int (2 : Int32))]) (st := []) (lenOf pd_2 rfl) rfl rfl (Nat.le_of_eq rfl) (by decide) (by decide) (by decide) (by decide) (c_check l Z a0 hw n0 _ a14 z6 (0 : Int32) (2 : Int32) hg (by decide) (by decide) [(.int d0), (.int d1), (.int d2), (.int d3), (.int d4), (.int d5), (.int d6), (.int d7), (.int (0 : Int32)), (.int (0 : Int32)), (.int (0 : Int32)), (.int (0 : Int32))] d2 upd_same rfl (by rw [show (2 : Int32).toInt - (0 : Int32).toInt = 2 from by decide]; exact (hd2.trans (exv_2 _).symm))) (nxI fun z52 μ52 h52 => ?_)
        obtain ⟨rfl, rfl⟩ := h52
        refine Own.if_eq C at_55 (q := 58) rfl (r := 167) (by decide) (fun h55 => ?_) (fun h55 => ?_)
        · exact absurd h55 (by decide)
        · refine Own.aload C at_58 (q := 60) rfl rfl rfl ?_
          refine Own.iloadN C at_60 (q := 61) rfl rfl ?_
          refine Own.iloadN C at_61 (q := 62) rfl rfl ?_
          refine Own.iconst C at_62 (q := 63) rfl (z := 3) (by decide) ?_
          refine Own.callS C at_63 (q := 66) rfl (hw _ (List.mem_of_getElem? (i := 11) rfl)) (hw _ (List.mem_of_getElem? (i := 12) rfl)) (hw _ (List.mem_of_getElem? (i := 13) rfl)) (hw _ (List.mem_of_getElem? (i := 14) rfl)) (by decide) (W := 0) (rm := rm_2) (argsL := [(.ref a14), (.int z6), (.int (0 : Int32)), (.int (3 : Int32))]) (st := []) (lenOf pd_2 rfl) rfl rfl (Nat.le_of_eq rfl) (by decide) (by decide) (by decide) (by decide) (c_check l Z a0 hw n0 _ a14 z6 (0 : Int32) (3 : Int32) hg (by decide) (by decide) [(.int d0), (.int d1), (.int d2), (.int d3), (.int d4), (.int d5), (.int d6), (.int d7), (.int (0 : Int32)), (.int (0 : Int32)), (.int (0 : Int32)), (.int (0 : Int32))] d3 upd_same rfl (by rw [show (3 : Int32).toInt - (0 : Int32).toInt = 3 from by decide]; exact (hd3.trans (exv_3 _).symm))) (nxI fun z63 μ63 h63 => ?_)
          obtain ⟨rfl, rfl⟩ := h63
          refine Own.if_eq C at_66 (q := 69) rfl (r := 167) (by decide) (fun h66 => ?_) (fun h66 => ?_)
          · exact absurd h66 (by decide)
          · refine Own.aload C at_69 (q := 71) rfl rfl rfl ?_
            refine Own.iloadN C at_71 (q := 72) rfl rfl ?_
            refine Own.iloadN C at_72 (q := 73) rfl rfl ?_
            refine Own.iconst C at_73 (q := 74) rfl (z := 4) (by decide) ?_
            refine Own.callS C at_74 (q := 77) rfl (hw _ (List.mem_of_getElem? (i := 11) rfl)) (hw _ (List.mem_of_getElem? (i := 12) rfl)) (hw _ (List.mem_of_getElem? (i := 13) rfl)) (hw _ (List.mem_of_getElem? (i := 14) rfl)) (by decide) (W := 0) (rm := rm_2) (argsL := [(.ref a14), (.int z6), (.int (0 : Int32)), (.int (4 : Int32))]) (st := []) (lenOf pd_2 rfl) rfl rfl (Nat.le_of_eq rfl) (by decide) (by decide) (by decide) (by decide) (c_check l Z a0 hw n0 _ a14 z6 (0 : Int32) (4 : Int32) hg (by decide) (by decide) [(.int d0), (.int d1), (.int d2), (.int d3), (.int d4), (.int d5), (.int d6), (.int d7), (.int (0 : Int32)), (.int (0 : Int32)), (.int (0 : Int32)), (.int (0 : Int32))] d4 upd_same rfl (by rw [show (4 : Int32).toInt - (0 : Int32).toInt = 4 from by decide]; exact (hd4.trans (exv_4 _).symm))) (nxI fun z74 μ74 h74 => ?_)
            obtain ⟨rfl, rfl⟩ := h74
            refine Own.if_eq C at_77 (q := 80) rfl (r := 167) (by decide) (fun h77 => ?_) (fun h77 => ?_)
            · exact absurd h77 (by decide)
            · refine Own.aload C at_80 (q := 82) rfl rfl rfl ?_
              refine Own.iloadN C at_82 (q := 83) rfl rfl ?_
              refine Own.iloadN C at_83 (q := 84) rfl rfl ?_
              refine Own.iconst C at_84 (q := 85) rfl (z := 5) (by decide) ?_
              refine Own.callS C at_85 (q := 88) rfl (hw _ (List.mem_of_getElem? (i := 11) rfl)) (hw _ (List.mem_of_getElem? (i := 12) rfl)) (hw _ (List.mem_of_getElem? (i := 13) rfl)) (hw _ (List.mem_of_getElem? (i := 14) rfl)) (by decide) (W := 0) (rm := rm_2) (argsL := [(.ref a14), (.int z6), (.int (0 : Int32)), (.int (5 : Int32))]) (st := []) (lenOf pd_2 rfl) rfl rfl (Nat.le_of_eq rfl) (by decide) (by decide) (by decide) (by decide) (c_check l Z a0 hw n0 _ a14 z6 (0 : Int32) (5 : Int32) hg (by decide) (by decide) [(.int d0), (.int d1), (.int d2), (.int d3), (.int d4), (.int d5), (.int d6), (.int d7), (.int (0 : Int32)), (.int (0 : Int32)), (.int (0 : Int32)), (.int (0 : Int32))] d5 upd_same rfl (by rw [show (5 : Int32).toInt - (0 : Int32).toInt = 5 from by decide]; exact (hd5.trans (exv_5 _).symm))) (nxI fun z85 μ85 h85 => ?_)
              obtain ⟨rfl, rfl⟩ := h85
              refine Own.if_eq C at_88 (q := 91) rfl (r := 167) (by decide) (fun h88 => ?_) (fun h88 => ?_)
              · exact absurd h88 (by decide)
              · refine Own.aload C at_91 (q := 93) rfl rfl rfl ?_
                refine Own.iloadN C at_93 (q := 94) rfl rfl ?_
                refine Own.iloadN C at_94 (q := 95) rfl rfl ?_
                refine Own.bipush C at_95 (q := 97) rfl (z := 6) (by decide) ?_
                refine Own.callS C at_97 (q := 100) rfl (hw _ (List.mem_of_getElem? (i := 11) rfl)) (hw _ (List.mem_of_getElem? (i := 12) rfl)) (hw _ (List.mem_of_getElem? (i := 13) rfl)) (hw _ (List.mem_of_getElem? (i := 14) rfl)) (by decide) (W := 0) (rm := rm_2) (argsL := [(.ref a14), (.int z6), (.int (0 : Int32)), (.int (6 : Int32))]) (st := []) (lenOf pd_2 rfl) rfl rfl (Nat.le_of_eq rfl) (by decide) (by decide) (by decide) (by decide) (c_check l Z a0 hw n0 _ a14 z6 (0 : Int32) (6 : Int32) hg (by decide) (by decide) [(.int d0), (.int d1), (.int d2), (.int d3), (.int d4), (.int d5), (.int d6), (.int d7), (.int (0 : Int32)), (.int (0 : Int32)), (.int (0 : Int32)), (.int (0 : Int32))] d6 upd_same rfl (by rw [show (6 : Int32).toInt - (0 : Int32).toInt = 6 from by decide]; exact (hd6.trans (exv_6 _).symm))) (nxI fun z97 μ97 h97 => ?_)
                obtain ⟨rfl, rfl⟩ := h97
                refine Own.if_eq C at_100 (q := 103) rfl (r := 167) (by decide) (fun h100 => ?_) (fun h100 => ?_)
                · exact absurd h100 (by decide)
                · refine Own.aload C at_103 (q := 105) rfl rfl rfl ?_
                  refine Own.iloadN C at_105 (q := 106) rfl rfl ?_
                  refine Own.iloadN C at_106 (q := 107) rfl rfl ?_
                  refine Own.bipush C at_107 (q := 109) rfl (z := 7) (by decide) ?_
                  refine Own.callS C at_109 (q := 112) rfl (hw _ (List.mem_of_getElem? (i := 11) rfl)) (hw _ (List.mem_of_getElem? (i := 12) rfl)) (hw _ (List.mem_of_getElem? (i := 13) rfl)) (hw _ (List.mem_of_getElem? (i := 14) rfl)) (by decide) (W := 0) (rm := rm_2) (argsL := [(.ref a14), (.int z6), (.int (0 : Int32)), (.int (7 : Int32))]) (st := []) (lenOf pd_2 rfl) rfl rfl (Nat.le_of_eq rfl) (by decide) (by decide) (by decide) (by decide) (c_check l Z a0 hw n0 _ a14 z6 (0 : Int32) (7 : Int32) hg (by decide) (by decide) [(.int d0), (.int d1), (.int d2), (.int d3), (.int d4), (.int d5), (.int d6), (.int d7), (.int (0 : Int32)), (.int (0 : Int32)), (.int (0 : Int32)), (.int (0 : Int32))] d7 upd_same rfl (by rw [show (7 : Int32).toInt - (0 : Int32).toInt = 7 from by decide]; exact (hd7.trans (exv_7 _).symm))) (nxI fun z109 μ109 h109 => ?_)
                  obtain ⟨rfl, rfl⟩ := h109
                  refine Own.if_eq C at_112 (q := 115) rfl (r := 167) (by decide) (fun h112 => ?_) (fun h112 => ?_)
                  · exact absurd h112 (by decide)
                  · refine Own.aload C at_115 (q := 117) rfl rfl rfl ?_
                    refine Own.iloadN C at_117 (q := 118) rfl rfl ?_
                    refine Own.iloadN C at_118 (q := 119) rfl rfl ?_
                    refine Own.bipush C at_119 (q := 121) rfl (z := 8) (by decide) ?_
                    refine Own.callS C at_121 (q := 124) rfl (hw _ (List.mem_of_getElem? (i := 11) rfl)) (hw _ (List.mem_of_getElem? (i := 12) rfl)) (hw _ (List.mem_of_getElem? (i := 13) rfl)) (hw _ (List.mem_of_getElem? (i := 14) rfl)) (by decide) (W := 0) (rm := rm_2) (argsL := [(.ref a14), (.int z6), (.int (0 : Int32)), (.int (8 : Int32))]) (st := []) (lenOf pd_2 rfl) rfl rfl (Nat.le_of_eq rfl) (by decide) (by decide) (by decide) (by decide) (c_check l Z a0 hw n0 _ a14 z6 (0 : Int32) (8 : Int32) hg (by decide) (by decide) [(.int d0), (.int d1), (.int d2), (.int d3), (.int d4), (.int d5), (.int d6), (.int d7), (.int (0 : Int32)), (.int (0 : Int32)), (.int (0 : Int32)), (.int (0 : Int32))] (0 : Int32) upd_same rfl (by rw [show (8 : Int32).toInt - (0 : Int32).toInt = 8 from by decide]; exact (exv_out (by decide)).symm)) (nxI fun z121 μ121 h121 => ?_)
                    obtain ⟨rfl, rfl⟩ := h121
                    refine Own.if_eq C at_124 (q := 127) rfl (r := 167) (by decide) (fun h124 => ?_) (fun h124 => ?_)
                    · exact absurd h124 (by decide)
                    · refine Own.aload C at_127 (q := 129) rfl rfl rfl ?_
                      refine Own.iloadN C at_129 (q := 130) rfl rfl ?_
                      refine Own.iloadN C at_130 (q := 131) rfl rfl ?_
                      refine Own.bipush C at_131 (q := 133) rfl (z := 9) (by decide) ?_
                      refine Own.callS C at_133 (q := 136) rfl (hw _ (List.mem_of_getElem? (i := 11) rfl)) (hw _ (List.mem_of_getElem? (i := 12) rfl)) (hw _ (List.mem_of_getElem? (i := 13) rfl)) (hw _ (List.mem_of_getElem? (i := 14) rfl)) (by decide) (W := 0) (rm := rm_2) (argsL := [(.ref a14), (.int z6), (.int (0 : Int32)), (.int (9 : Int32))]) (st := []) (lenOf pd_2 rfl) rfl rfl (Nat.le_of_eq rfl) (by decide) (by decide) (by decide) (by decide) (c_check l Z a0 hw n0 _ a14 z6 (0 : Int32) (9 : Int32) hg (by decide) (by decide) [(.int d0), (.int d1), (.int d2), (.int d3), (.int d4), (.int d5), (.int d6), (.int d7), (.int (0 : Int32)), (.int (0 : Int32)), (.int (0 : Int32)), (.int (0 : Int32))] (0 : Int32) upd_same rfl (by rw [show (9 : Int32).toInt - (0 : Int32).toInt = 9 from by decide]; exact (exv_out (by decide)).symm)) (nxI fun z133 μ133 h133 => ?_)
                      obtain ⟨rfl, rfl⟩ := h133
                      refine Own.if_eq C at_136 (q := 139) rfl (r := 167) (by decide) (fun h136 => ?_) (fun h136 => ?_)
                      · exact absurd h136 (by decide)
                      · refine Own.aload C at_139 (q := 141) rfl rfl rfl ?_
                        refine Own.iloadN C at_141 (q := 142) rfl rfl ?_
                        refine Own.iloadN C at_142 (q := 143) rfl rfl ?_
                        refine Own.bipush C at_143 (q := 145) rfl (z := 10) (by decide) ?_
                        refine Own.callS C at_145 (q := 148) rfl (hw _ (List.mem_of_getElem? (i := 11) rfl)) (hw _ (List.mem_of_getElem? (i := 12) rfl)) (hw _ (List.mem_of_getElem? (i := 13) rfl)) (hw _ (List.mem_of_getElem? (i := 14) rfl)) (by decide) (W := 0) (rm := rm_2) (argsL := [(.ref a14), (.int z6), (.int (0 : Int32)), (.int (10 : Int32))]) (st := []) (lenOf pd_2 rfl) rfl rfl (Nat.le_of_eq rfl) (by decide) (by decide) (by decide) (by decide) (c_check l Z a0 hw n0 _ a14 z6 (0 : Int32) (10 : Int32) hg (by decide) (by decide) [(.int d0), (.int d1), (.int d2), (.int d3), (.int d4), (.int d5), (.int d6), (.int d7), (.int (0 : Int32)), (.int (0 : Int32)), (.int (0 : Int32)), (.int (0 : Int32))] (0 : Int32) upd_same rfl (by rw [show (10 : Int32).toInt - (0 : Int32).toInt = 10 from by decide]; exact (exv_out (by decide)).symm)) (nxI fun z145 μ145 h145 => ?_)
                        obtain ⟨rfl, rfl⟩ := h145
                        refine Own.if_eq C at_148 (q := 151) rfl (r := 167) (by decide) (fun h148 => ?_) (fun h148 => ?_)
                        · exact absurd h148 (by decide)
                        · refine Own.aload C at_151 (q := 153) rfl rfl rfl ?_
                          refine Own.iloadN C at_153 (q := 154) rfl rfl ?_
                          refine Own.iloadN C at_154 (q := 155) rfl rfl ?_
                          refine Own.bipush C at_155 (q := 157) rfl (z := 11) (by decide) ?_
                          refine Own.callS C at_157 (q := 160) rfl (hw _ (List.mem_of_getElem? (i := 11) rfl)) (hw _ (List.mem_of_getElem? (i := 12) rfl)) (hw _ (List.mem_of_getElem? (i := 13) rfl)) (hw _ (List.mem_of_getElem? (i := 14) rfl)) (by decide) (W := 0) (rm := rm_2) (argsL := [(.ref a14), (.int z6), (.int (0 : Int32)), (.int (11 : Int32))]) (st := []) (lenOf pd_2 rfl) rfl rfl (Nat.le_of_eq rfl) (by decide) (by decide) (by decide) (by decide) (c_check l Z a0 hw n0 _ a14 z6 (0 : Int32) (11 : Int32) hg (by decide) (by decide) [(.int d0), (.int d1), (.int d2), (.int d3), (.int d4), (.int d5), (.int d6), (.int d7), (.int (0 : Int32)), (.int (0 : Int32)), (.int (0 : Int32)), (.int (0 : Int32))] (0 : Int32) upd_same rfl (by rw [show (11 : Int32).toInt - (0 : Int32).toInt = 11 from by decide]; exact (exv_out (by decide)).symm)) (nxI fun z157 μ157 h157 => ?_)
                          obtain ⟨rfl, rfl⟩ := h157
                          refine Own.if_eq C at_160 (q := 163) rfl (r := 167) (by decide) (fun h160 => ?_) (fun h160 => ?_)
                          · exact absurd h160 (by decide)
                          · refine Own.iconst C at_163 (q := 164) rfl (z := 1) (by decide) ?_
                            refine Own.goto C at_164 (q := 168) (by decide) ?_
                            refine Own.nreturn C at_168 (by simp) (z' := (1 : Int32)) (by decide) (by decide) (by decide) ?_
                            rfl
  · refine Own.istoreN C at_11 (q := 12) rfl (L' := #[.val (.int g), .val (.int a), .val (.int z6), .val (.int (1 : Int32)), .unset]) rfl ?_
    refine Own.bipush C at_12 (q := 14) rfl (z := 12) (by decide) ?_
    refine Own.newArr C at_14 (q := 16) rfl (ty := .byte) rfl (hw _ (List.mem_of_getElem? (i := 2) rfl)) (by decide) (cap := 12) (by decide) (by decide) (vs := [(.int (0 : Int32)), (.int (0 : Int32)), (.int (0 : Int32)), (.int (0 : Int32)), (.int (0 : Int32)), (.int (0 : Int32)), (.int (0 : Int32)), (.int (0 : Int32)), (.int (0 : Int32)), (.int (0 : Int32)), (.int (0 : Int32)), (.int (0 : Int32))]) rfl (by decide) (by decide) fun a14 a14_f a14_g => ?_
    refine Own.astore C at_16 (q := 18) rfl (L' := #[.val (.int g), .val (.int a), .val (.int z6), .val (.int (1 : Int32)), .val (.ref a14)]) rfl rfl ?_
    refine Own.aload C at_18 (q := 20) rfl rfl rfl ?_
    refine Own.iloadN C at_20 (q := 21) rfl rfl ?_
    refine Own.iloadN C at_21 (q := 22) rfl rfl ?_
    refine Own.callS C at_22 (q := 25) rfl (hw _ (List.mem_of_getElem? (i := 3) rfl)) (hw _ (List.mem_of_getElem? (i := 4) rfl)) (hw _ (List.mem_of_getElem? (i := 5) rfl)) (hw _ (List.mem_of_getElem? (i := 6) rfl)) (by decide) (W := 0) (rm := rm_1) (argsL := [(.ref a14), (.int z6), (.int (1 : Int32))]) (st := []) (lenOf pd_1 rfl) rfl rfl (Nat.le_of_eq rfl) (by decide) (by decide) (by decide) (by decide) (c_w8_1 l Z a0 hw n0 _ a14 z6 hg upd_same a14_g) (nxV fun μ22 h22 => ?_)
    obtain ⟨d0, d1, d2, d3, d4, d5, d6, d7, rfl, hd0, hd1, hd2, hd3, hd4, hd5, hd6, hd7⟩ := h22
    refine Own.mem upd_upd ?_
    refine Own.aload C at_25 (q := 27) rfl rfl rfl ?_
    refine Own.iloadN C at_27 (q := 28) rfl rfl ?_
    refine Own.iloadN C at_28 (q := 29) rfl rfl ?_
    refine Own.iconst C at_29 (q := 30) rfl (z := 0) (by decide) ?_
    refine Own.callS C at_30 (q := 33) rfl (hw _ (List.mem_of_getElem? (i := 11) rfl)) (hw _ (List.mem_of_getElem? (i := 12) rfl)) (hw _ (List.mem_of_getElem? (i := 13) rfl)) (hw _ (List.mem_of_getElem? (i := 14) rfl)) (by decide) (W := 0) (rm := rm_2) (argsL := [(.ref a14), (.int z6), (.int (1 : Int32)), (.int (0 : Int32))]) (st := []) (lenOf pd_2 rfl) rfl rfl (Nat.le_of_eq rfl) (by decide) (by decide) (by decide) (by decide) (c_check l Z a0 hw n0 _ a14 z6 (1 : Int32) (0 : Int32) hg (by decide) (by decide) [(.int (0 : Int32)), (.int d0), (.int d1), (.int d2), (.int d3), (.int d4), (.int d5), (.int d6), (.int d7), (.int (0 : Int32)), (.int (0 : Int32)), (.int (0 : Int32))] (0 : Int32) upd_same rfl (by rw [show (0 : Int32).toInt - (1 : Int32).toInt = -1 from by decide]; exact (exv_out (by decide)).symm)) (nxI fun z30 μ30 h30 => ?_)
    obtain ⟨rfl, rfl⟩ := h30
    refine Own.if_eq C at_33 (q := 36) rfl (r := 167) (by decide) (fun h33 => ?_) (fun h33 => ?_)
    · exact absurd h33 (by decide)
    · refine Own.aload C at_36 (q := 38) rfl rfl rfl ?_
      refine Own.iloadN C at_38 (q := 39) rfl rfl ?_
      refine Own.iloadN C at_39 (q := 40) rfl rfl ?_
      refine Own.iconst C at_40 (q := 41) rfl (z := 1) (by decide) ?_
      refine Own.callS C at_41 (q := 44) rfl (hw _ (List.mem_of_getElem? (i := 11) rfl)) (hw _ (List.mem_of_getElem? (i := 12) rfl)) (hw _ (List.mem_of_getElem? (i := 13) rfl)) (hw _ (List.mem_of_getElem? (i := 14) rfl)) (by decide) (W := 0) (rm := rm_2) (argsL := [(.ref a14), (.int z6), (.int (1 : Int32)), (.int (1 : Int32))]) (st := []) (lenOf pd_2 rfl) rfl rfl (Nat.le_of_eq rfl) (by decide) (by decide) (by decide) (by decide) (c_check l Z a0 hw n0 _ a14 z6 (1 : Int32) (1 : Int32) hg (by decide) (by decide) [(.int (0 : Int32)), (.int d0), (.int d1), (.int d2), (.int d3), (.int d4), (.int d5), (.int d6), (.int d7), (.int (0 : Int32)), (.int (0 : Int32)), (.int (0 : Int32))] d0 upd_same rfl (by rw [show (1 : Int32).toInt - (1 : Int32).toInt = 0 from by decide]; exact (hd0.trans (exv_0 _).symm))) (nxI fun z41 μ41 h41 => ?_)
      obtain ⟨rfl, rfl⟩ := h41
      refine Own.if_eq C at_44 (q := 47) rfl (r := 167) (by decide) (fun h44 => ?_) (fun h44 => ?_)
      · exact absurd h44 (by decide)
      · refine Own.aload C at_47 (q := 49) rfl rfl rfl ?_
        refine Own.iloadN C at_49 (q := 50) rfl rfl ?_
        refine Own.iloadN C at_50 (q := 51) rfl rfl ?_
        refine Own.iconst C at_51 (q := 52) rfl (z := 2) (by decide) ?_
        refine Own.callS C at_52 (q := 55) rfl (hw _ (List.mem_of_getElem? (i := 11) rfl)) (hw _ (List.mem_of_getElem? (i := 12) rfl)) (hw _ (List.mem_of_getElem? (i := 13) rfl)) (hw _ (List.mem_of_getElem? (i := 14) rfl)) (by decide) (W := 0) (rm := rm_2) (argsL := [(.ref a14), (.int z6), (.int (1 : Int32)), (.int (2 : Int32))]) (st := []) (lenOf pd_2 rfl) rfl rfl (Nat.le_of_eq rfl) (by decide) (by decide) (by decide) (by decide) (c_check l Z a0 hw n0 _ a14 z6 (1 : Int32) (2 : Int32) hg (by decide) (by decide) [(.int (0 : Int32)), (.int d0), (.int d1), (.int d2), (.int d3), (.int d4), (.int d5), (.int d6), (.int d7), (.int (0 : Int32)), (.int (0 : Int32)), (.int (0 : Int32))] d1 upd_same rfl (by rw [show (2 : Int32).toInt - (1 : Int32).toInt = 1 from by decide]; exact (hd1.trans (exv_1 _).symm))) (nxI fun z52 μ52 h52 => ?_)
        obtain ⟨rfl, rfl⟩ := h52
        refine Own.if_eq C at_55 (q := 58) rfl (r := 167) (by decide) (fun h55 => ?_) (fun h55 => ?_)
        · exact absurd h55 (by decide)
        · refine Own.aload C at_58 (q := 60) rfl rfl rfl ?_
          refine Own.iloadN C at_60 (q := 61) rfl rfl ?_
          refine Own.iloadN C at_61 (q := 62) rfl rfl ?_
          refine Own.iconst C at_62 (q := 63) rfl (z := 3) (by decide) ?_
          refine Own.callS C at_63 (q := 66) rfl (hw _ (List.mem_of_getElem? (i := 11) rfl)) (hw _ (List.mem_of_getElem? (i := 12) rfl)) (hw _ (List.mem_of_getElem? (i := 13) rfl)) (hw _ (List.mem_of_getElem? (i := 14) rfl)) (by decide) (W := 0) (rm := rm_2) (argsL := [(.ref a14), (.int z6), (.int (1 : Int32)), (.int (3 : Int32))]) (st := []) (lenOf pd_2 rfl) rfl rfl (Nat.le_of_eq rfl) (by decide) (by decide) (by decide) (by decide) (c_check l Z a0 hw n0 _ a14 z6 (1 : Int32) (3 : Int32) hg (by decide) (by decide) [(.int (0 : Int32)), (.int d0), (.int d1), (.int d2), (.int d3), (.int d4), (.int d5), (.int d6), (.int d7), (.int (0 : Int32)), (.int (0 : Int32)), (.int (0 : Int32))] d2 upd_same rfl (by rw [show (3 : Int32).toInt - (1 : Int32).toInt = 2 from by decide]; exact (hd2.trans (exv_2 _).symm))) (nxI fun z63 μ63 h63 => ?_)
          obtain ⟨rfl, rfl⟩ := h63
          refine Own.if_eq C at_66 (q := 69) rfl (r := 167) (by decide) (fun h66 => ?_) (fun h66 => ?_)
          · exact absurd h66 (by decide)
          · refine Own.aload C at_69 (q := 71) rfl rfl rfl ?_
            refine Own.iloadN C at_71 (q := 72) rfl rfl ?_
            refine Own.iloadN C at_72 (q := 73) rfl rfl ?_
            refine Own.iconst C at_73 (q := 74) rfl (z := 4) (by decide) ?_
            refine Own.callS C at_74 (q := 77) rfl (hw _ (List.mem_of_getElem? (i := 11) rfl)) (hw _ (List.mem_of_getElem? (i := 12) rfl)) (hw _ (List.mem_of_getElem? (i := 13) rfl)) (hw _ (List.mem_of_getElem? (i := 14) rfl)) (by decide) (W := 0) (rm := rm_2) (argsL := [(.ref a14), (.int z6), (.int (1 : Int32)), (.int (4 : Int32))]) (st := []) (lenOf pd_2 rfl) rfl rfl (Nat.le_of_eq rfl) (by decide) (by decide) (by decide) (by decide) (c_check l Z a0 hw n0 _ a14 z6 (1 : Int32) (4 : Int32) hg (by decide) (by decide) [(.int (0 : Int32)), (.int d0), (.int d1), (.int d2), (.int d3), (.int d4), (.int d5), (.int d6), (.int d7), (.int (0 : Int32)), (.int (0 : Int32)), (.int (0 : Int32))] d3 upd_same rfl (by rw [show (4 : Int32).toInt - (1 : Int32).toInt = 3 from by decide]; exact (hd3.trans (exv_3 _).symm))) (nxI fun z74 μ74 h74 => ?_)
            obtain ⟨rfl, rfl⟩ := h74
            refine Own.if_eq C at_77 (q := 80) rfl (r := 167) (by decide) (fun h77 => ?_) (fun h77 => ?_)
            · exact absurd h77 (by decide)
            · refine Own.aload C at_80 (q := 82) rfl rfl rfl ?_
              refine Own.iloadN C at_82 (q := 83) rfl rfl ?_
              refine Own.iloadN C at_83 (q := 84) rfl rfl ?_
              refine Own.iconst C at_84 (q := 85) rfl (z := 5) (by decide) ?_
              refine Own.callS C at_85 (q := 88) rfl (hw _ (List.mem_of_getElem? (i := 11) rfl)) (hw _ (List.mem_of_getElem? (i := 12) rfl)) (hw _ (List.mem_of_getElem? (i := 13) rfl)) (hw _ (List.mem_of_getElem? (i := 14) rfl)) (by decide) (W := 0) (rm := rm_2) (argsL := [(.ref a14), (.int z6), (.int (1 : Int32)), (.int (5 : Int32))]) (st := []) (lenOf pd_2 rfl) rfl rfl (Nat.le_of_eq rfl) (by decide) (by decide) (by decide) (by decide) (c_check l Z a0 hw n0 _ a14 z6 (1 : Int32) (5 : Int32) hg (by decide) (by decide) [(.int (0 : Int32)), (.int d0), (.int d1), (.int d2), (.int d3), (.int d4), (.int d5), (.int d6), (.int d7), (.int (0 : Int32)), (.int (0 : Int32)), (.int (0 : Int32))] d4 upd_same rfl (by rw [show (5 : Int32).toInt - (1 : Int32).toInt = 4 from by decide]; exact (hd4.trans (exv_4 _).symm))) (nxI fun z85 μ85 h85 => ?_)
              obtain ⟨rfl, rfl⟩ := h85
              refine Own.if_eq C at_88 (q := 91) rfl (r := 167) (by decide) (fun h88 => ?_) (fun h88 => ?_)
              · exact absurd h88 (by decide)
              · refine Own.aload C at_91 (q := 93) rfl rfl rfl ?_
                refine Own.iloadN C at_93 (q := 94) rfl rfl ?_
                refine Own.iloadN C at_94 (q := 95) rfl rfl ?_
                refine Own.bipush C at_95 (q := 97) rfl (z := 6) (by decide) ?_
                refine Own.callS C at_97 (q := 100) rfl (hw _ (List.mem_of_getElem? (i := 11) rfl)) (hw _ (List.mem_of_getElem? (i := 12) rfl)) (hw _ (List.mem_of_getElem? (i := 13) rfl)) (hw _ (List.mem_of_getElem? (i := 14) rfl)) (by decide) (W := 0) (rm := rm_2) (argsL := [(.ref a14), (.int z6), (.int (1 : Int32)), (.int (6 : Int32))]) (st := []) (lenOf pd_2 rfl) rfl rfl (Nat.le_of_eq rfl) (by decide) (by decide) (by decide) (by decide) (c_check l Z a0 hw n0 _ a14 z6 (1 : Int32) (6 : Int32) hg (by decide) (by decide) [(.int (0 : Int32)), (.int d0), (.int d1), (.int d2), (.int d3), (.int d4), (.int d5), (.int d6), (.int d7), (.int (0 : Int32)), (.int (0 : Int32)), (.int (0 : Int32))] d5 upd_same rfl (by rw [show (6 : Int32).toInt - (1 : Int32).toInt = 5 from by decide]; exact (hd5.trans (exv_5 _).symm))) (nxI fun z97 μ97 h97 => ?_)
                obtain ⟨rfl, rfl⟩ := h97
                refine Own.if_eq C at_100 (q := 103) rfl (r := 167) (by decide) (fun h100 => ?_) (fun h100 => ?_)
                · exact absurd h100 (by decide)
                · refine Own.aload C at_103 (q := 105) rfl rfl rfl ?_
                  refine Own.iloadN C at_105 (q := 106) rfl rfl ?_
                  refine Own.iloadN C at_106 (q := 107) rfl rfl ?_
                  refine Own.bipush C at_107 (q := 109) rfl (z := 7) (by decide) ?_
                  refine Own.callS C at_109 (q := 112) rfl (hw _ (List.mem_of_getElem? (i := 11) rfl)) (hw _ (List.mem_of_getElem? (i := 12) rfl)) (hw _ (List.mem_of_getElem? (i := 13) rfl)) (hw _ (List.mem_of_getElem? (i := 14) rfl)) (by decide) (W := 0) (rm := rm_2) (argsL := [(.ref a14), (.int z6), (.int (1 : Int32)), (.int (7 : Int32))]) (st := []) (lenOf pd_2 rfl) rfl rfl (Nat.le_of_eq rfl) (by decide) (by decide) (by decide) (by decide) (c_check l Z a0 hw n0 _ a14 z6 (1 : Int32) (7 : Int32) hg (by decide) (by decide) [(.int (0 : Int32)), (.int d0), (.int d1), (.int d2), (.int d3), (.int d4), (.int d5), (.int d6), (.int d7), (.int (0 : Int32)), (.int (0 : Int32)), (.int (0 : Int32))] d6 upd_same rfl (by rw [show (7 : Int32).toInt - (1 : Int32).toInt = 6 from by decide]; exact (hd6.trans (exv_6 _).symm))) (nxI fun z109 μ109 h109 => ?_)
                  obtain ⟨rfl, rfl⟩ := h109
                  refine Own.if_eq C at_112 (q := 115) rfl (r := 167) (by decide) (fun h112 => ?_) (fun h112 => ?_)
                  · exact absurd h112 (by decide)
                  · refine Own.aload C at_115 (q := 117) rfl rfl rfl ?_
                    refine Own.iloadN C at_117 (q := 118) rfl rfl ?_
                    refine Own.iloadN C at_118 (q := 119) rfl rfl ?_
                    refine Own.bipush C at_119 (q := 121) rfl (z := 8) (by decide) ?_
                    refine Own.callS C at_121 (q := 124) rfl (hw _ (List.mem_of_getElem? (i := 11) rfl)) (hw _ (List.mem_of_getElem? (i := 12) rfl)) (hw _ (List.mem_of_getElem? (i := 13) rfl)) (hw _ (List.mem_of_getElem? (i := 14) rfl)) (by decide) (W := 0) (rm := rm_2) (argsL := [(.ref a14), (.int z6), (.int (1 : Int32)), (.int (8 : Int32))]) (st := []) (lenOf pd_2 rfl) rfl rfl (Nat.le_of_eq rfl) (by decide) (by decide) (by decide) (by decide) (c_check l Z a0 hw n0 _ a14 z6 (1 : Int32) (8 : Int32) hg (by decide) (by decide) [(.int (0 : Int32)), (.int d0), (.int d1), (.int d2), (.int d3), (.int d4), (.int d5), (.int d6), (.int d7), (.int (0 : Int32)), (.int (0 : Int32)), (.int (0 : Int32))] d7 upd_same rfl (by rw [show (8 : Int32).toInt - (1 : Int32).toInt = 7 from by decide]; exact (hd7.trans (exv_7 _).symm))) (nxI fun z121 μ121 h121 => ?_)
                    obtain ⟨rfl, rfl⟩ := h121
                    refine Own.if_eq C at_124 (q := 127) rfl (r := 167) (by decide) (fun h124 => ?_) (fun h124 => ?_)
                    · exact absurd h124 (by decide)
                    · refine Own.aload C at_127 (q := 129) rfl rfl rfl ?_
                      refine Own.iloadN C at_129 (q := 130) rfl rfl ?_
                      refine Own.iloadN C at_130 (q := 131) rfl rfl ?_
                      refine Own.bipush C at_131 (q := 133) rfl (z := 9) (by decide) ?_
                      refine Own.callS C at_133 (q := 136) rfl (hw _ (List.mem_of_getElem? (i := 11) rfl)) (hw _ (List.mem_of_getElem? (i := 12) rfl)) (hw _ (List.mem_of_getElem? (i := 13) rfl)) (hw _ (List.mem_of_getElem? (i := 14) rfl)) (by decide) (W := 0) (rm := rm_2) (argsL := [(.ref a14), (.int z6), (.int (1 : Int32)), (.int (9 : Int32))]) (st := []) (lenOf pd_2 rfl) rfl rfl (Nat.le_of_eq rfl) (by decide) (by decide) (by decide) (by decide) (c_check l Z a0 hw n0 _ a14 z6 (1 : Int32) (9 : Int32) hg (by decide) (by decide) [(.int (0 : Int32)), (.int d0), (.int d1), (.int d2), (.int d3), (.int d4), (.int d5), (.int d6), (.int d7), (.int (0 : Int32)), (.int (0 : Int32)), (.int (0 : Int32))] (0 : Int32) upd_same rfl (by rw [show (9 : Int32).toInt - (1 : Int32).toInt = 8 from by decide]; exact (exv_out (by decide)).symm)) (nxI fun z133 μ133 h133 => ?_)
                      obtain ⟨rfl, rfl⟩ := h133
                      refine Own.if_eq C at_136 (q := 139) rfl (r := 167) (by decide) (fun h136 => ?_) (fun h136 => ?_)
                      · exact absurd h136 (by decide)
                      · refine Own.aload C at_139 (q := 141) rfl rfl rfl ?_
                        refine Own.iloadN C at_141 (q := 142) rfl rfl ?_
                        refine Own.iloadN C at_142 (q := 143) rfl rfl ?_
                        refine Own.bipush C at_143 (q := 145) rfl (z := 10) (by decide) ?_
                        refine Own.callS C at_145 (q := 148) rfl (hw _ (List.mem_of_getElem? (i := 11) rfl)) (hw _ (List.mem_of_getElem? (i := 12) rfl)) (hw _ (List.mem_of_getElem? (i := 13) rfl)) (hw _ (List.mem_of_getElem? (i := 14) rfl)) (by decide) (W := 0) (rm := rm_2) (argsL := [(.ref a14), (.int z6), (.int (1 : Int32)), (.int (10 : Int32))]) (st := []) (lenOf pd_2 rfl) rfl rfl (Nat.le_of_eq rfl) (by decide) (by decide) (by decide) (by decide) (c_check l Z a0 hw n0 _ a14 z6 (1 : Int32) (10 : Int32) hg (by decide) (by decide) [(.int (0 : Int32)), (.int d0), (.int d1), (.int d2), (.int d3), (.int d4), (.int d5), (.int d6), (.int d7), (.int (0 : Int32)), (.int (0 : Int32)), (.int (0 : Int32))] (0 : Int32) upd_same rfl (by rw [show (10 : Int32).toInt - (1 : Int32).toInt = 9 from by decide]; exact (exv_out (by decide)).symm)) (nxI fun z145 μ145 h145 => ?_)
                        obtain ⟨rfl, rfl⟩ := h145
                        refine Own.if_eq C at_148 (q := 151) rfl (r := 167) (by decide) (fun h148 => ?_) (fun h148 => ?_)
                        · exact absurd h148 (by decide)
                        · refine Own.aload C at_151 (q := 153) rfl rfl rfl ?_
                          refine Own.iloadN C at_153 (q := 154) rfl rfl ?_
                          refine Own.iloadN C at_154 (q := 155) rfl rfl ?_
                          refine Own.bipush C at_155 (q := 157) rfl (z := 11) (by decide) ?_
                          refine Own.callS C at_157 (q := 160) rfl (hw _ (List.mem_of_getElem? (i := 11) rfl)) (hw _ (List.mem_of_getElem? (i := 12) rfl)) (hw _ (List.mem_of_getElem? (i := 13) rfl)) (hw _ (List.mem_of_getElem? (i := 14) rfl)) (by decide) (W := 0) (rm := rm_2) (argsL := [(.ref a14), (.int z6), (.int (1 : Int32)), (.int (11 : Int32))]) (st := []) (lenOf pd_2 rfl) rfl rfl (Nat.le_of_eq rfl) (by decide) (by decide) (by decide) (by decide) (c_check l Z a0 hw n0 _ a14 z6 (1 : Int32) (11 : Int32) hg (by decide) (by decide) [(.int (0 : Int32)), (.int d0), (.int d1), (.int d2), (.int d3), (.int d4), (.int d5), (.int d6), (.int d7), (.int (0 : Int32)), (.int (0 : Int32)), (.int (0 : Int32))] (0 : Int32) upd_same rfl (by rw [show (11 : Int32).toInt - (1 : Int32).toInt = 10 from by decide]; exact (exv_out (by decide)).symm)) (nxI fun z157 μ157 h157 => ?_)
                          obtain ⟨rfl, rfl⟩ := h157
                          refine Own.if_eq C at_160 (q := 163) rfl (r := 167) (by decide) (fun h160 => ?_) (fun h160 => ?_)
                          · exact absurd h160 (by decide)
                          · refine Own.iconst C at_163 (q := 164) rfl (z := 1) (by decide) ?_
                            refine Own.goto C at_164 (q := 168) (by decide) ?_
                            refine Own.nreturn C at_168 (by simp) (z' := (1 : Int32)) (by decide) (by decide) (by decide) ?_
                            rfl
  · refine Own.istoreN C at_11 (q := 12) rfl (L' := #[.val (.int g), .val (.int a), .val (.int z6), .val (.int (2 : Int32)), .unset]) rfl ?_
    refine Own.bipush C at_12 (q := 14) rfl (z := 12) (by decide) ?_
    refine Own.newArr C at_14 (q := 16) rfl (ty := .byte) rfl (hw _ (List.mem_of_getElem? (i := 2) rfl)) (by decide) (cap := 12) (by decide) (by decide) (vs := [(.int (0 : Int32)), (.int (0 : Int32)), (.int (0 : Int32)), (.int (0 : Int32)), (.int (0 : Int32)), (.int (0 : Int32)), (.int (0 : Int32)), (.int (0 : Int32)), (.int (0 : Int32)), (.int (0 : Int32)), (.int (0 : Int32)), (.int (0 : Int32))]) rfl (by decide) (by decide) fun a14 a14_f a14_g => ?_
    refine Own.astore C at_16 (q := 18) rfl (L' := #[.val (.int g), .val (.int a), .val (.int z6), .val (.int (2 : Int32)), .val (.ref a14)]) rfl rfl ?_
    refine Own.aload C at_18 (q := 20) rfl rfl rfl ?_
    refine Own.iloadN C at_20 (q := 21) rfl rfl ?_
    refine Own.iloadN C at_21 (q := 22) rfl rfl ?_
    refine Own.callS C at_22 (q := 25) rfl (hw _ (List.mem_of_getElem? (i := 3) rfl)) (hw _ (List.mem_of_getElem? (i := 4) rfl)) (hw _ (List.mem_of_getElem? (i := 5) rfl)) (hw _ (List.mem_of_getElem? (i := 6) rfl)) (by decide) (W := 0) (rm := rm_1) (argsL := [(.ref a14), (.int z6), (.int (2 : Int32))]) (st := []) (lenOf pd_1 rfl) rfl rfl (Nat.le_of_eq rfl) (by decide) (by decide) (by decide) (by decide) (c_w8_2 l Z a0 hw n0 _ a14 z6 hg upd_same a14_g) (nxV fun μ22 h22 => ?_)
    obtain ⟨d0, d1, d2, d3, d4, d5, d6, d7, rfl, hd0, hd1, hd2, hd3, hd4, hd5, hd6, hd7⟩ := h22
    refine Own.mem upd_upd ?_
    refine Own.aload C at_25 (q := 27) rfl rfl rfl ?_
    refine Own.iloadN C at_27 (q := 28) rfl rfl ?_
    refine Own.iloadN C at_28 (q := 29) rfl rfl ?_
    refine Own.iconst C at_29 (q := 30) rfl (z := 0) (by decide) ?_
    refine Own.callS C at_30 (q := 33) rfl (hw _ (List.mem_of_getElem? (i := 11) rfl)) (hw _ (List.mem_of_getElem? (i := 12) rfl)) (hw _ (List.mem_of_getElem? (i := 13) rfl)) (hw _ (List.mem_of_getElem? (i := 14) rfl)) (by decide) (W := 0) (rm := rm_2) (argsL := [(.ref a14), (.int z6), (.int (2 : Int32)), (.int (0 : Int32))]) (st := []) (lenOf pd_2 rfl) rfl rfl (Nat.le_of_eq rfl) (by decide) (by decide) (by decide) (by decide) (c_check l Z a0 hw n0 _ a14 z6 (2 : Int32) (0 : Int32) hg (by decide) (by decide) [(.int (0 : Int32)), (.int (0 : Int32)), (.int d0), (.int d1), (.int d2), (.int d3), (.int d4), (.int d5), (.int d6), (.int d7), (.int (0 : Int32)), (.int (0 : Int32))] (0 : Int32) upd_same rfl (by rw [show (0 : Int32).toInt - (2 : Int32).toInt = -2 from by decide]; exact (exv_out (by decide)).symm)) (nxI fun z30 μ30 h30 => ?_)
    obtain ⟨rfl, rfl⟩ := h30
    refine Own.if_eq C at_33 (q := 36) rfl (r := 167) (by decide) (fun h33 => ?_) (fun h33 => ?_)
    · exact absurd h33 (by decide)
    · refine Own.aload C at_36 (q := 38) rfl rfl rfl ?_
      refine Own.iloadN C at_38 (q := 39) rfl rfl ?_
      refine Own.iloadN C at_39 (q := 40) rfl rfl ?_
      refine Own.iconst C at_40 (q := 41) rfl (z := 1) (by decide) ?_
      refine Own.callS C at_41 (q := 44) rfl (hw _ (List.mem_of_getElem? (i := 11) rfl)) (hw _ (List.mem_of_getElem? (i := 12) rfl)) (hw _ (List.mem_of_getElem? (i := 13) rfl)) (hw _ (List.mem_of_getElem? (i := 14) rfl)) (by decide) (W := 0) (rm := rm_2) (argsL := [(.ref a14), (.int z6), (.int (2 : Int32)), (.int (1 : Int32))]) (st := []) (lenOf pd_2 rfl) rfl rfl (Nat.le_of_eq rfl) (by decide) (by decide) (by decide) (by decide) (c_check l Z a0 hw n0 _ a14 z6 (2 : Int32) (1 : Int32) hg (by decide) (by decide) [(.int (0 : Int32)), (.int (0 : Int32)), (.int d0), (.int d1), (.int d2), (.int d3), (.int d4), (.int d5), (.int d6), (.int d7), (.int (0 : Int32)), (.int (0 : Int32))] (0 : Int32) upd_same rfl (by rw [show (1 : Int32).toInt - (2 : Int32).toInt = -1 from by decide]; exact (exv_out (by decide)).symm)) (nxI fun z41 μ41 h41 => ?_)
      obtain ⟨rfl, rfl⟩ := h41
      refine Own.if_eq C at_44 (q := 47) rfl (r := 167) (by decide) (fun h44 => ?_) (fun h44 => ?_)
      · exact absurd h44 (by decide)
      · refine Own.aload C at_47 (q := 49) rfl rfl rfl ?_
        refine Own.iloadN C at_49 (q := 50) rfl rfl ?_
        refine Own.iloadN C at_50 (q := 51) rfl rfl ?_
        refine Own.iconst C at_51 (q := 52) rfl (z := 2) (by decide) ?_
        refine Own.callS C at_52 (q := 55) rfl (hw _ (List.mem_of_getElem? (i := 11) rfl)) (hw _ (List.mem_of_getElem? (i := 12) rfl)) (hw _ (List.mem_of_getElem? (i := 13) rfl)) (hw _ (List.mem_of_getElem? (i := 14) rfl)) (by decide) (W := 0) (rm := rm_2) (argsL := [(.ref a14), (.int z6), (.int (2 : Int32)), (.int (2 : Int32))]) (st := []) (lenOf pd_2 rfl) rfl rfl (Nat.le_of_eq rfl) (by decide) (by decide) (by decide) (by decide) (c_check l Z a0 hw n0 _ a14 z6 (2 : Int32) (2 : Int32) hg (by decide) (by decide) [(.int (0 : Int32)), (.int (0 : Int32)), (.int d0), (.int d1), (.int d2), (.int d3), (.int d4), (.int d5), (.int d6), (.int d7), (.int (0 : Int32)), (.int (0 : Int32))] d0 upd_same rfl (by rw [show (2 : Int32).toInt - (2 : Int32).toInt = 0 from by decide]; exact (hd0.trans (exv_0 _).symm))) (nxI fun z52 μ52 h52 => ?_)
        obtain ⟨rfl, rfl⟩ := h52
        refine Own.if_eq C at_55 (q := 58) rfl (r := 167) (by decide) (fun h55 => ?_) (fun h55 => ?_)
        · exact absurd h55 (by decide)
        · refine Own.aload C at_58 (q := 60) rfl rfl rfl ?_
          refine Own.iloadN C at_60 (q := 61) rfl rfl ?_
          refine Own.iloadN C at_61 (q := 62) rfl rfl ?_
          refine Own.iconst C at_62 (q := 63) rfl (z := 3) (by decide) ?_
          refine Own.callS C at_63 (q := 66) rfl (hw _ (List.mem_of_getElem? (i := 11) rfl)) (hw _ (List.mem_of_getElem? (i := 12) rfl)) (hw _ (List.mem_of_getElem? (i := 13) rfl)) (hw _ (List.mem_of_getElem? (i := 14) rfl)) (by decide) (W := 0) (rm := rm_2) (argsL := [(.ref a14), (.int z6), (.int (2 : Int32)), (.int (3 : Int32))]) (st := []) (lenOf pd_2 rfl) rfl rfl (Nat.le_of_eq rfl) (by decide) (by decide) (by decide) (by decide) (c_check l Z a0 hw n0 _ a14 z6 (2 : Int32) (3 : Int32) hg (by decide) (by decide) [(.int (0 : Int32)), (.int (0 : Int32)), (.int d0), (.int d1), (.int d2), (.int d3), (.int d4), (.int d5), (.int d6), (.int d7), (.int (0 : Int32)), (.int (0 : Int32))] d1 upd_same rfl (by rw [show (3 : Int32).toInt - (2 : Int32).toInt = 1 from by decide]; exact (hd1.trans (exv_1 _).symm))) (nxI fun z63 μ63 h63 => ?_)
          obtain ⟨rfl, rfl⟩ := h63
          refine Own.if_eq C at_66 (q := 69) rfl (r := 167) (by decide) (fun h66 => ?_) (fun h66 => ?_)
          · exact absurd h66 (by decide)
          · refine Own.aload C at_69 (q := 71) rfl rfl rfl ?_
            refine Own.iloadN C at_71 (q := 72) rfl rfl ?_
            refine Own.iloadN C at_72 (q := 73) rfl rfl ?_
            refine Own.iconst C at_73 (q := 74) rfl (z := 4) (by decide) ?_
            refine Own.callS C at_74 (q := 77) rfl (hw _ (List.mem_of_getElem? (i := 11) rfl)) (hw _ (List.mem_of_getElem? (i := 12) rfl)) (hw _ (List.mem_of_getElem? (i := 13) rfl)) (hw _ (List.mem_of_getElem? (i := 14) rfl)) (by decide) (W := 0) (rm := rm_2) (argsL := [(.ref a14), (.int z6), (.int (2 : Int32)), (.int (4 : Int32))]) (st := []) (lenOf pd_2 rfl) rfl rfl (Nat.le_of_eq rfl) (by decide) (by decide) (by decide) (by decide) (c_check l Z a0 hw n0 _ a14 z6 (2 : Int32) (4 : Int32) hg (by decide) (by decide) [(.int (0 : Int32)), (.int (0 : Int32)), (.int d0), (.int d1), (.int d2), (.int d3), (.int d4), (.int d5), (.int d6), (.int d7), (.int (0 : Int32)), (.int (0 : Int32))] d2 upd_same rfl (by rw [show (4 : Int32).toInt - (2 : Int32).toInt = 2 from by decide]; exact (hd2.trans (exv_2 _).symm))) (nxI fun z74 μ74 h74 => ?_)
            obtain ⟨rfl, rfl⟩ := h74
            refine Own.if_eq C at_77 (q := 80) rfl (r := 167) (by decide) (fun h77 => ?_) (fun h77 => ?_)
            · exact absurd h77 (by decide)
            · refine Own.aload C at_80 (q := 82) rfl rfl rfl ?_
              refine Own.iloadN C at_82 (q := 83) rfl rfl ?_
              refine Own.iloadN C at_83 (q := 84) rfl rfl ?_
              refine Own.iconst C at_84 (q := 85) rfl (z := 5) (by decide) ?_
              refine Own.callS C at_85 (q := 88) rfl (hw _ (List.mem_of_getElem? (i := 11) rfl)) (hw _ (List.mem_of_getElem? (i := 12) rfl)) (hw _ (List.mem_of_getElem? (i := 13) rfl)) (hw _ (List.mem_of_getElem? (i := 14) rfl)) (by decide) (W := 0) (rm := rm_2) (argsL := [(.ref a14), (.int z6), (.int (2 : Int32)), (.int (5 : Int32))]) (st := []) (lenOf pd_2 rfl) rfl rfl (Nat.le_of_eq rfl) (by decide) (by decide) (by decide) (by decide) (c_check l Z a0 hw n0 _ a14 z6 (2 : Int32) (5 : Int32) hg (by decide) (by decide) [(.int (0 : Int32)), (.int (0 : Int32)), (.int d0), (.int d1), (.int d2), (.int d3), (.int d4), (.int d5), (.int d6), (.int d7), (.int (0 : Int32)), (.int (0 : Int32))] d3 upd_same rfl (by rw [show (5 : Int32).toInt - (2 : Int32).toInt = 3 from by decide]; exact (hd3.trans (exv_3 _).symm))) (nxI fun z85 μ85 h85 => ?_)
              obtain ⟨rfl, rfl⟩ := h85
              refine Own.if_eq C at_88 (q := 91) rfl (r := 167) (by decide) (fun h88 => ?_) (fun h88 => ?_)
              · exact absurd h88 (by decide)
              · refine Own.aload C at_91 (q := 93) rfl rfl rfl ?_
                refine Own.iloadN C at_93 (q := 94) rfl rfl ?_
                refine Own.iloadN C at_94 (q := 95) rfl rfl ?_
                refine Own.bipush C at_95 (q := 97) rfl (z := 6) (by decide) ?_
                refine Own.callS C at_97 (q := 100) rfl (hw _ (List.mem_of_getElem? (i := 11) rfl)) (hw _ (List.mem_of_getElem? (i := 12) rfl)) (hw _ (List.mem_of_getElem? (i := 13) rfl)) (hw _ (List.mem_of_getElem? (i := 14) rfl)) (by decide) (W := 0) (rm := rm_2) (argsL := [(.ref a14), (.int z6), (.int (2 : Int32)), (.int (6 : Int32))]) (st := []) (lenOf pd_2 rfl) rfl rfl (Nat.le_of_eq rfl) (by decide) (by decide) (by decide) (by decide) (c_check l Z a0 hw n0 _ a14 z6 (2 : Int32) (6 : Int32) hg (by decide) (by decide) [(.int (0 : Int32)), (.int (0 : Int32)), (.int d0), (.int d1), (.int d2), (.int d3), (.int d4), (.int d5), (.int d6), (.int d7), (.int (0 : Int32)), (.int (0 : Int32))] d4 upd_same rfl (by rw [show (6 : Int32).toInt - (2 : Int32).toInt = 4 from by decide]; exact (hd4.trans (exv_4 _).symm))) (nxI fun z97 μ97 h97 => ?_)
                obtain ⟨rfl, rfl⟩ := h97
                refine Own.if_eq C at_100 (q := 103) rfl (r := 167) (by decide) (fun h100 => ?_) (fun h100 => ?_)
                · exact absurd h100 (by decide)
                · refine Own.aload C at_103 (q := 105) rfl rfl rfl ?_
                  refine Own.iloadN C at_105 (q := 106) rfl rfl ?_
                  refine Own.iloadN C at_106 (q := 107) rfl rfl ?_
                  refine Own.bipush C at_107 (q := 109) rfl (z := 7) (by decide) ?_
                  refine Own.callS C at_109 (q := 112) rfl (hw _ (List.mem_of_getElem? (i := 11) rfl)) (hw _ (List.mem_of_getElem? (i := 12) rfl)) (hw _ (List.mem_of_getElem? (i := 13) rfl)) (hw _ (List.mem_of_getElem? (i := 14) rfl)) (by decide) (W := 0) (rm := rm_2) (argsL := [(.ref a14), (.int z6), (.int (2 : Int32)), (.int (7 : Int32))]) (st := []) (lenOf pd_2 rfl) rfl rfl (Nat.le_of_eq rfl) (by decide) (by decide) (by decide) (by decide) (c_check l Z a0 hw n0 _ a14 z6 (2 : Int32) (7 : Int32) hg (by decide) (by decide) [(.int (0 : Int32)), (.int (0 : Int32)), (.int d0), (.int d1), (.int d2), (.int d3), (.int d4), (.int d5), (.int d6), (.int d7), (.int (0 : Int32)), (.int (0 : Int32))] d5 upd_same rfl (by rw [show (7 : Int32).toInt - (2 : Int32).toInt = 5 from by decide]; exact (hd5.trans (exv_5 _).symm))) (nxI fun z109 μ109 h109 => ?_)
                  obtain ⟨rfl, rfl⟩ := h109
                  refine Own.if_eq C at_112 (q := 115) rfl (r := 167) (by decide) (fun h112 => ?_) (fun h112 => ?_)
                  · exact absurd h112 (by decide)
                  · refine Own.aload C at_115 (q := 117) rfl rfl rfl ?_
                    refine Own.iloadN C at_117 (q := 118) rfl rfl ?_
                    refine Own.iloadN C at_118 (q := 119) rfl rfl ?_
                    refine Own.bipush C at_119 (q := 121) rfl (z := 8) (by decide) ?_
                    refine Own.callS C at_121 (q := 124) rfl (hw _ (List.mem_of_getElem? (i := 11) rfl)) (hw _ (List.mem_of_getElem? (i := 12) rfl)) (hw _ (List.mem_of_getElem? (i := 13) rfl)) (hw _ (List.mem_of_getElem? (i := 14) rfl)) (by decide) (W := 0) (rm := rm_2) (argsL := [(.ref a14), (.int z6), (.int (2 : Int32)), (.int (8 : Int32))]) (st := []) (lenOf pd_2 rfl) rfl rfl (Nat.le_of_eq rfl) (by decide) (by decide) (by decide) (by decide) (c_check l Z a0 hw n0 _ a14 z6 (2 : Int32) (8 : Int32) hg (by decide) (by decide) [(.int (0 : Int32)), (.int (0 : Int32)), (.int d0), (.int d1), (.int d2), (.int d3), (.int d4), (.int d5), (.int d6), (.int d7), (.int (0 : Int32)), (.int (0 : Int32))] d6 upd_same rfl (by rw [show (8 : Int32).toInt - (2 : Int32).toInt = 6 from by decide]; exact (hd6.trans (exv_6 _).symm))) (nxI fun z121 μ121 h121 => ?_)
                    obtain ⟨rfl, rfl⟩ := h121
                    refine Own.if_eq C at_124 (q := 127) rfl (r := 167) (by decide) (fun h124 => ?_) (fun h124 => ?_)
                    · exact absurd h124 (by decide)
                    · refine Own.aload C at_127 (q := 129) rfl rfl rfl ?_
                      refine Own.iloadN C at_129 (q := 130) rfl rfl ?_
                      refine Own.iloadN C at_130 (q := 131) rfl rfl ?_
                      refine Own.bipush C at_131 (q := 133) rfl (z := 9) (by decide) ?_
                      refine Own.callS C at_133 (q := 136) rfl (hw _ (List.mem_of_getElem? (i := 11) rfl)) (hw _ (List.mem_of_getElem? (i := 12) rfl)) (hw _ (List.mem_of_getElem? (i := 13) rfl)) (hw _ (List.mem_of_getElem? (i := 14) rfl)) (by decide) (W := 0) (rm := rm_2) (argsL := [(.ref a14), (.int z6), (.int (2 : Int32)), (.int (9 : Int32))]) (st := []) (lenOf pd_2 rfl) rfl rfl (Nat.le_of_eq rfl) (by decide) (by decide) (by decide) (by decide) (c_check l Z a0 hw n0 _ a14 z6 (2 : Int32) (9 : Int32) hg (by decide) (by decide) [(.int (0 : Int32)), (.int (0 : Int32)), (.int d0), (.int d1), (.int d2), (.int d3), (.int d4), (.int d5), (.int d6), (.int d7), (.int (0 : Int32)), (.int (0 : Int32))] d7 upd_same rfl (by rw [show (9 : Int32).toInt - (2 : Int32).toInt = 7 from by decide]; exact (hd7.trans (exv_7 _).symm))) (nxI fun z133 μ133 h133 => ?_)
                      obtain ⟨rfl, rfl⟩ := h133
                      refine Own.if_eq C at_136 (q := 139) rfl (r := 167) (by decide) (fun h136 => ?_) (fun h136 => ?_)
                      · exact absurd h136 (by decide)
                      · refine Own.aload C at_139 (q := 141) rfl rfl rfl ?_
                        refine Own.iloadN C at_141 (q := 142) rfl rfl ?_
                        refine Own.iloadN C at_142 (q := 143) rfl rfl ?_
                        refine Own.bipush C at_143 (q := 145) rfl (z := 10) (by decide) ?_
                        refine Own.callS C at_145 (q := 148) rfl (hw _ (List.mem_of_getElem? (i := 11) rfl)) (hw _ (List.mem_of_getElem? (i := 12) rfl)) (hw _ (List.mem_of_getElem? (i := 13) rfl)) (hw _ (List.mem_of_getElem? (i := 14) rfl)) (by decide) (W := 0) (rm := rm_2) (argsL := [(.ref a14), (.int z6), (.int (2 : Int32)), (.int (10 : Int32))]) (st := []) (lenOf pd_2 rfl) rfl rfl (Nat.le_of_eq rfl) (by decide) (by decide) (by decide) (by decide) (c_check l Z a0 hw n0 _ a14 z6 (2 : Int32) (10 : Int32) hg (by decide) (by decide) [(.int (0 : Int32)), (.int (0 : Int32)), (.int d0), (.int d1), (.int d2), (.int d3), (.int d4), (.int d5), (.int d6), (.int d7), (.int (0 : Int32)), (.int (0 : Int32))] (0 : Int32) upd_same rfl (by rw [show (10 : Int32).toInt - (2 : Int32).toInt = 8 from by decide]; exact (exv_out (by decide)).symm)) (nxI fun z145 μ145 h145 => ?_)
                        obtain ⟨rfl, rfl⟩ := h145
                        refine Own.if_eq C at_148 (q := 151) rfl (r := 167) (by decide) (fun h148 => ?_) (fun h148 => ?_)
                        · exact absurd h148 (by decide)
                        · refine Own.aload C at_151 (q := 153) rfl rfl rfl ?_
                          refine Own.iloadN C at_153 (q := 154) rfl rfl ?_
                          refine Own.iloadN C at_154 (q := 155) rfl rfl ?_
                          refine Own.bipush C at_155 (q := 157) rfl (z := 11) (by decide) ?_
                          refine Own.callS C at_157 (q := 160) rfl (hw _ (List.mem_of_getElem? (i := 11) rfl)) (hw _ (List.mem_of_getElem? (i := 12) rfl)) (hw _ (List.mem_of_getElem? (i := 13) rfl)) (hw _ (List.mem_of_getElem? (i := 14) rfl)) (by decide) (W := 0) (rm := rm_2) (argsL := [(.ref a14), (.int z6), (.int (2 : Int32)), (.int (11 : Int32))]) (st := []) (lenOf pd_2 rfl) rfl rfl (Nat.le_of_eq rfl) (by decide) (by decide) (by decide) (by decide) (c_check l Z a0 hw n0 _ a14 z6 (2 : Int32) (11 : Int32) hg (by decide) (by decide) [(.int (0 : Int32)), (.int (0 : Int32)), (.int d0), (.int d1), (.int d2), (.int d3), (.int d4), (.int d5), (.int d6), (.int d7), (.int (0 : Int32)), (.int (0 : Int32))] (0 : Int32) upd_same rfl (by rw [show (11 : Int32).toInt - (2 : Int32).toInt = 9 from by decide]; exact (exv_out (by decide)).symm)) (nxI fun z157 μ157 h157 => ?_)
                          obtain ⟨rfl, rfl⟩ := h157
                          refine Own.if_eq C at_160 (q := 163) rfl (r := 167) (by decide) (fun h160 => ?_) (fun h160 => ?_)
                          · exact absurd h160 (by decide)
                          · refine Own.iconst C at_163 (q := 164) rfl (z := 1) (by decide) ?_
                            refine Own.goto C at_164 (q := 168) (by decide) ?_
                            refine Own.nreturn C at_168 (by simp) (z' := (1 : Int32)) (by decide) (by decide) (by decide) ?_
                            rfl
  · refine Own.istoreN C at_11 (q := 12) rfl (L' := #[.val (.int g), .val (.int a), .val (.int z6), .val (.int (3 : Int32)), .unset]) rfl ?_
    refine Own.bipush C at_12 (q := 14) rfl (z := 12) (by decide) ?_
    refine Own.newArr C at_14 (q := 16) rfl (ty := .byte) rfl (hw _ (List.mem_of_getElem? (i := 2) rfl)) (by decide) (cap := 12) (by decide) (by decide) (vs := [(.int (0 : Int32)), (.int (0 : Int32)), (.int (0 : Int32)), (.int (0 : Int32)), (.int (0 : Int32)), (.int (0 : Int32)), (.int (0 : Int32)), (.int (0 : Int32)), (.int (0 : Int32)), (.int (0 : Int32)), (.int (0 : Int32)), (.int (0 : Int32))]) rfl (by decide) (by decide) fun a14 a14_f a14_g => ?_
    refine Own.astore C at_16 (q := 18) rfl (L' := #[.val (.int g), .val (.int a), .val (.int z6), .val (.int (3 : Int32)), .val (.ref a14)]) rfl rfl ?_
    refine Own.aload C at_18 (q := 20) rfl rfl rfl ?_
    refine Own.iloadN C at_20 (q := 21) rfl rfl ?_
    refine Own.iloadN C at_21 (q := 22) rfl rfl ?_
    refine Own.callS C at_22 (q := 25) rfl (hw _ (List.mem_of_getElem? (i := 3) rfl)) (hw _ (List.mem_of_getElem? (i := 4) rfl)) (hw _ (List.mem_of_getElem? (i := 5) rfl)) (hw _ (List.mem_of_getElem? (i := 6) rfl)) (by decide) (W := 0) (rm := rm_1) (argsL := [(.ref a14), (.int z6), (.int (3 : Int32))]) (st := []) (lenOf pd_1 rfl) rfl rfl (Nat.le_of_eq rfl) (by decide) (by decide) (by decide) (by decide) (c_w8_3 l Z a0 hw n0 _ a14 z6 hg upd_same a14_g) (nxV fun μ22 h22 => ?_)
    obtain ⟨d0, d1, d2, d3, d4, d5, d6, d7, rfl, hd0, hd1, hd2, hd3, hd4, hd5, hd6, hd7⟩ := h22
    refine Own.mem upd_upd ?_
    refine Own.aload C at_25 (q := 27) rfl rfl rfl ?_
    refine Own.iloadN C at_27 (q := 28) rfl rfl ?_
    refine Own.iloadN C at_28 (q := 29) rfl rfl ?_
    refine Own.iconst C at_29 (q := 30) rfl (z := 0) (by decide) ?_
    refine Own.callS C at_30 (q := 33) rfl (hw _ (List.mem_of_getElem? (i := 11) rfl)) (hw _ (List.mem_of_getElem? (i := 12) rfl)) (hw _ (List.mem_of_getElem? (i := 13) rfl)) (hw _ (List.mem_of_getElem? (i := 14) rfl)) (by decide) (W := 0) (rm := rm_2) (argsL := [(.ref a14), (.int z6), (.int (3 : Int32)), (.int (0 : Int32))]) (st := []) (lenOf pd_2 rfl) rfl rfl (Nat.le_of_eq rfl) (by decide) (by decide) (by decide) (by decide) (c_check l Z a0 hw n0 _ a14 z6 (3 : Int32) (0 : Int32) hg (by decide) (by decide) [(.int (0 : Int32)), (.int (0 : Int32)), (.int (0 : Int32)), (.int d0), (.int d1), (.int d2), (.int d3), (.int d4), (.int d5), (.int d6), (.int d7), (.int (0 : Int32))] (0 : Int32) upd_same rfl (by rw [show (0 : Int32).toInt - (3 : Int32).toInt = -3 from by decide]; exact (exv_out (by decide)).symm)) (nxI fun z30 μ30 h30 => ?_)
    obtain ⟨rfl, rfl⟩ := h30
    refine Own.if_eq C at_33 (q := 36) rfl (r := 167) (by decide) (fun h33 => ?_) (fun h33 => ?_)
    · exact absurd h33 (by decide)
    · refine Own.aload C at_36 (q := 38) rfl rfl rfl ?_
      refine Own.iloadN C at_38 (q := 39) rfl rfl ?_
      refine Own.iloadN C at_39 (q := 40) rfl rfl ?_
      refine Own.iconst C at_40 (q := 41) rfl (z := 1) (by decide) ?_
      refine Own.callS C at_41 (q := 44) rfl (hw _ (List.mem_of_getElem? (i := 11) rfl)) (hw _ (List.mem_of_getElem? (i := 12) rfl)) (hw _ (List.mem_of_getElem? (i := 13) rfl)) (hw _ (List.mem_of_getElem? (i := 14) rfl)) (by decide) (W := 0) (rm := rm_2) (argsL := [(.ref a14), (.int z6), (.int (3 : Int32)), (.int (1 : Int32))]) (st := []) (lenOf pd_2 rfl) rfl rfl (Nat.le_of_eq rfl) (by decide) (by decide) (by decide) (by decide) (c_check l Z a0 hw n0 _ a14 z6 (3 : Int32) (1 : Int32) hg (by decide) (by decide) [(.int (0 : Int32)), (.int (0 : Int32)), (.int (0 : Int32)), (.int d0), (.int d1), (.int d2), (.int d3), (.int d4), (.int d5), (.int d6), (.int d7), (.int (0 : Int32))] (0 : Int32) upd_same rfl (by rw [show (1 : Int32).toInt - (3 : Int32).toInt = -2 from by decide]; exact (exv_out (by decide)).symm)) (nxI fun z41 μ41 h41 => ?_)
      obtain ⟨rfl, rfl⟩ := h41
      refine Own.if_eq C at_44 (q := 47) rfl (r := 167) (by decide) (fun h44 => ?_) (fun h44 => ?_)
      · exact absurd h44 (by decide)
      · refine Own.aload C at_47 (q := 49) rfl rfl rfl ?_
        refine Own.iloadN C at_49 (q := 50) rfl rfl ?_
        refine Own.iloadN C at_50 (q := 51) rfl rfl ?_
        refine Own.iconst C at_51 (q := 52) rfl (z := 2) (by decide) ?_
        refine Own.callS C at_52 (q := 55) rfl (hw _ (List.mem_of_getElem? (i := 11) rfl)) (hw _ (List.mem_of_getElem? (i := 12) rfl)) (hw _ (List.mem_of_getElem? (i := 13) rfl)) (hw _ (List.mem_of_getElem? (i := 14) rfl)) (by decide) (W := 0) (rm := rm_2) (argsL := [(.ref a14), (.int z6), (.int (3 : Int32)), (.int (2 : Int32))]) (st := []) (lenOf pd_2 rfl) rfl rfl (Nat.le_of_eq rfl) (by decide) (by decide) (by decide) (by decide) (c_check l Z a0 hw n0 _ a14 z6 (3 : Int32) (2 : Int32) hg (by decide) (by decide) [(.int (0 : Int32)), (.int (0 : Int32)), (.int (0 : Int32)), (.int d0), (.int d1), (.int d2), (.int d3), (.int d4), (.int d5), (.int d6), (.int d7), (.int (0 : Int32))] (0 : Int32) upd_same rfl (by rw [show (2 : Int32).toInt - (3 : Int32).toInt = -1 from by decide]; exact (exv_out (by decide)).symm)) (nxI fun z52 μ52 h52 => ?_)
        obtain ⟨rfl, rfl⟩ := h52
        refine Own.if_eq C at_55 (q := 58) rfl (r := 167) (by decide) (fun h55 => ?_) (fun h55 => ?_)
        · exact absurd h55 (by decide)
        · refine Own.aload C at_58 (q := 60) rfl rfl rfl ?_
          refine Own.iloadN C at_60 (q := 61) rfl rfl ?_
          refine Own.iloadN C at_61 (q := 62) rfl rfl ?_
          refine Own.iconst C at_62 (q := 63) rfl (z := 3) (by decide) ?_
          refine Own.callS C at_63 (q := 66) rfl (hw _ (List.mem_of_getElem? (i := 11) rfl)) (hw _ (List.mem_of_getElem? (i := 12) rfl)) (hw _ (List.mem_of_getElem? (i := 13) rfl)) (hw _ (List.mem_of_getElem? (i := 14) rfl)) (by decide) (W := 0) (rm := rm_2) (argsL := [(.ref a14), (.int z6), (.int (3 : Int32)), (.int (3 : Int32))]) (st := []) (lenOf pd_2 rfl) rfl rfl (Nat.le_of_eq rfl) (by decide) (by decide) (by decide) (by decide) (c_check l Z a0 hw n0 _ a14 z6 (3 : Int32) (3 : Int32) hg (by decide) (by decide) [(.int (0 : Int32)), (.int (0 : Int32)), (.int (0 : Int32)), (.int d0), (.int d1), (.int d2), (.int d3), (.int d4), (.int d5), (.int d6), (.int d7), (.int (0 : Int32))] d0 upd_same rfl (by rw [show (3 : Int32).toInt - (3 : Int32).toInt = 0 from by decide]; exact (hd0.trans (exv_0 _).symm))) (nxI fun z63 μ63 h63 => ?_)
          obtain ⟨rfl, rfl⟩ := h63
          refine Own.if_eq C at_66 (q := 69) rfl (r := 167) (by decide) (fun h66 => ?_) (fun h66 => ?_)
          · exact absurd h66 (by decide)
          · refine Own.aload C at_69 (q := 71) rfl rfl rfl ?_
            refine Own.iloadN C at_71 (q := 72) rfl rfl ?_
            refine Own.iloadN C at_72 (q := 73) rfl rfl ?_
            refine Own.iconst C at_73 (q := 74) rfl (z := 4) (by decide) ?_
            refine Own.callS C at_74 (q := 77) rfl (hw _ (List.mem_of_getElem? (i := 11) rfl)) (hw _ (List.mem_of_getElem? (i := 12) rfl)) (hw _ (List.mem_of_getElem? (i := 13) rfl)) (hw _ (List.mem_of_getElem? (i := 14) rfl)) (by decide) (W := 0) (rm := rm_2) (argsL := [(.ref a14), (.int z6), (.int (3 : Int32)), (.int (4 : Int32))]) (st := []) (lenOf pd_2 rfl) rfl rfl (Nat.le_of_eq rfl) (by decide) (by decide) (by decide) (by decide) (c_check l Z a0 hw n0 _ a14 z6 (3 : Int32) (4 : Int32) hg (by decide) (by decide) [(.int (0 : Int32)), (.int (0 : Int32)), (.int (0 : Int32)), (.int d0), (.int d1), (.int d2), (.int d3), (.int d4), (.int d5), (.int d6), (.int d7), (.int (0 : Int32))] d1 upd_same rfl (by rw [show (4 : Int32).toInt - (3 : Int32).toInt = 1 from by decide]; exact (hd1.trans (exv_1 _).symm))) (nxI fun z74 μ74 h74 => ?_)
            obtain ⟨rfl, rfl⟩ := h74
            refine Own.if_eq C at_77 (q := 80) rfl (r := 167) (by decide) (fun h77 => ?_) (fun h77 => ?_)
            · exact absurd h77 (by decide)
            · refine Own.aload C at_80 (q := 82) rfl rfl rfl ?_
              refine Own.iloadN C at_82 (q := 83) rfl rfl ?_
              refine Own.iloadN C at_83 (q := 84) rfl rfl ?_
              refine Own.iconst C at_84 (q := 85) rfl (z := 5) (by decide) ?_
              refine Own.callS C at_85 (q := 88) rfl (hw _ (List.mem_of_getElem? (i := 11) rfl)) (hw _ (List.mem_of_getElem? (i := 12) rfl)) (hw _ (List.mem_of_getElem? (i := 13) rfl)) (hw _ (List.mem_of_getElem? (i := 14) rfl)) (by decide) (W := 0) (rm := rm_2) (argsL := [(.ref a14), (.int z6), (.int (3 : Int32)), (.int (5 : Int32))]) (st := []) (lenOf pd_2 rfl) rfl rfl (Nat.le_of_eq rfl) (by decide) (by decide) (by decide) (by decide) (c_check l Z a0 hw n0 _ a14 z6 (3 : Int32) (5 : Int32) hg (by decide) (by decide) [(.int (0 : Int32)), (.int (0 : Int32)), (.int (0 : Int32)), (.int d0), (.int d1), (.int d2), (.int d3), (.int d4), (.int d5), (.int d6), (.int d7), (.int (0 : Int32))] d2 upd_same rfl (by rw [show (5 : Int32).toInt - (3 : Int32).toInt = 2 from by decide]; exact (hd2.trans (exv_2 _).symm))) (nxI fun z85 μ85 h85 => ?_)
              obtain ⟨rfl, rfl⟩ := h85
              refine Own.if_eq C at_88 (q := 91) rfl (r := 167) (by decide) (fun h88 => ?_) (fun h88 => ?_)
              · exact absurd h88 (by decide)
              · refine Own.aload C at_91 (q := 93) rfl rfl rfl ?_
                refine Own.iloadN C at_93 (q := 94) rfl rfl ?_
                refine Own.iloadN C at_94 (q := 95) rfl rfl ?_
                refine Own.bipush C at_95 (q := 97) rfl (z := 6) (by decide) ?_
                refine Own.callS C at_97 (q := 100) rfl (hw _ (List.mem_of_getElem? (i := 11) rfl)) (hw _ (List.mem_of_getElem? (i := 12) rfl)) (hw _ (List.mem_of_getElem? (i := 13) rfl)) (hw _ (List.mem_of_getElem? (i := 14) rfl)) (by decide) (W := 0) (rm := rm_2) (argsL := [(.ref a14), (.int z6), (.int (3 : Int32)), (.int (6 : Int32))]) (st := []) (lenOf pd_2 rfl) rfl rfl (Nat.le_of_eq rfl) (by decide) (by decide) (by decide) (by decide) (c_check l Z a0 hw n0 _ a14 z6 (3 : Int32) (6 : Int32) hg (by decide) (by decide) [(.int (0 : Int32)), (.int (0 : Int32)), (.int (0 : Int32)), (.int d0), (.int d1), (.int d2), (.int d3), (.int d4), (.int d5), (.int d6), (.int d7), (.int (0 : Int32))] d3 upd_same rfl (by rw [show (6 : Int32).toInt - (3 : Int32).toInt = 3 from by decide]; exact (hd3.trans (exv_3 _).symm))) (nxI fun z97 μ97 h97 => ?_)
                obtain ⟨rfl, rfl⟩ := h97
                refine Own.if_eq C at_100 (q := 103) rfl (r := 167) (by decide) (fun h100 => ?_) (fun h100 => ?_)
                · exact absurd h100 (by decide)
                · refine Own.aload C at_103 (q := 105) rfl rfl rfl ?_
                  refine Own.iloadN C at_105 (q := 106) rfl rfl ?_
                  refine Own.iloadN C at_106 (q := 107) rfl rfl ?_
                  refine Own.bipush C at_107 (q := 109) rfl (z := 7) (by decide) ?_
                  refine Own.callS C at_109 (q := 112) rfl (hw _ (List.mem_of_getElem? (i := 11) rfl)) (hw _ (List.mem_of_getElem? (i := 12) rfl)) (hw _ (List.mem_of_getElem? (i := 13) rfl)) (hw _ (List.mem_of_getElem? (i := 14) rfl)) (by decide) (W := 0) (rm := rm_2) (argsL := [(.ref a14), (.int z6), (.int (3 : Int32)), (.int (7 : Int32))]) (st := []) (lenOf pd_2 rfl) rfl rfl (Nat.le_of_eq rfl) (by decide) (by decide) (by decide) (by decide) (c_check l Z a0 hw n0 _ a14 z6 (3 : Int32) (7 : Int32) hg (by decide) (by decide) [(.int (0 : Int32)), (.int (0 : Int32)), (.int (0 : Int32)), (.int d0), (.int d1), (.int d2), (.int d3), (.int d4), (.int d5), (.int d6), (.int d7), (.int (0 : Int32))] d4 upd_same rfl (by rw [show (7 : Int32).toInt - (3 : Int32).toInt = 4 from by decide]; exact (hd4.trans (exv_4 _).symm))) (nxI fun z109 μ109 h109 => ?_)
                  obtain ⟨rfl, rfl⟩ := h109
                  refine Own.if_eq C at_112 (q := 115) rfl (r := 167) (by decide) (fun h112 => ?_) (fun h112 => ?_)
                  · exact absurd h112 (by decide)
                  · refine Own.aload C at_115 (q := 117) rfl rfl rfl ?_
                    refine Own.iloadN C at_117 (q := 118) rfl rfl ?_
                    refine Own.iloadN C at_118 (q := 119) rfl rfl ?_
                    refine Own.bipush C at_119 (q := 121) rfl (z := 8) (by decide) ?_
                    refine Own.callS C at_121 (q := 124) rfl (hw _ (List.mem_of_getElem? (i := 11) rfl)) (hw _ (List.mem_of_getElem? (i := 12) rfl)) (hw _ (List.mem_of_getElem? (i := 13) rfl)) (hw _ (List.mem_of_getElem? (i := 14) rfl)) (by decide) (W := 0) (rm := rm_2) (argsL := [(.ref a14), (.int z6), (.int (3 : Int32)), (.int (8 : Int32))]) (st := []) (lenOf pd_2 rfl) rfl rfl (Nat.le_of_eq rfl) (by decide) (by decide) (by decide) (by decide) (c_check l Z a0 hw n0 _ a14 z6 (3 : Int32) (8 : Int32) hg (by decide) (by decide) [(.int (0 : Int32)), (.int (0 : Int32)), (.int (0 : Int32)), (.int d0), (.int d1), (.int d2), (.int d3), (.int d4), (.int d5), (.int d6), (.int d7), (.int (0 : Int32))] d5 upd_same rfl (by rw [show (8 : Int32).toInt - (3 : Int32).toInt = 5 from by decide]; exact (hd5.trans (exv_5 _).symm))) (nxI fun z121 μ121 h121 => ?_)
                    obtain ⟨rfl, rfl⟩ := h121
                    refine Own.if_eq C at_124 (q := 127) rfl (r := 167) (by decide) (fun h124 => ?_) (fun h124 => ?_)
                    · exact absurd h124 (by decide)
                    · refine Own.aload C at_127 (q := 129) rfl rfl rfl ?_
                      refine Own.iloadN C at_129 (q := 130) rfl rfl ?_
                      refine Own.iloadN C at_130 (q := 131) rfl rfl ?_
                      refine Own.bipush C at_131 (q := 133) rfl (z := 9) (by decide) ?_
                      refine Own.callS C at_133 (q := 136) rfl (hw _ (List.mem_of_getElem? (i := 11) rfl)) (hw _ (List.mem_of_getElem? (i := 12) rfl)) (hw _ (List.mem_of_getElem? (i := 13) rfl)) (hw _ (List.mem_of_getElem? (i := 14) rfl)) (by decide) (W := 0) (rm := rm_2) (argsL := [(.ref a14), (.int z6), (.int (3 : Int32)), (.int (9 : Int32))]) (st := []) (lenOf pd_2 rfl) rfl rfl (Nat.le_of_eq rfl) (by decide) (by decide) (by decide) (by decide) (c_check l Z a0 hw n0 _ a14 z6 (3 : Int32) (9 : Int32) hg (by decide) (by decide) [(.int (0 : Int32)), (.int (0 : Int32)), (.int (0 : Int32)), (.int d0), (.int d1), (.int d2), (.int d3), (.int d4), (.int d5), (.int d6), (.int d7), (.int (0 : Int32))] d6 upd_same rfl (by rw [show (9 : Int32).toInt - (3 : Int32).toInt = 6 from by decide]; exact (hd6.trans (exv_6 _).symm))) (nxI fun z133 μ133 h133 => ?_)
                      obtain ⟨rfl, rfl⟩ := h133
                      refine Own.if_eq C at_136 (q := 139) rfl (r := 167) (by decide) (fun h136 => ?_) (fun h136 => ?_)
                      · exact absurd h136 (by decide)
                      · refine Own.aload C at_139 (q := 141) rfl rfl rfl ?_
                        refine Own.iloadN C at_141 (q := 142) rfl rfl ?_
                        refine Own.iloadN C at_142 (q := 143) rfl rfl ?_
                        refine Own.bipush C at_143 (q := 145) rfl (z := 10) (by decide) ?_
                        refine Own.callS C at_145 (q := 148) rfl (hw _ (List.mem_of_getElem? (i := 11) rfl)) (hw _ (List.mem_of_getElem? (i := 12) rfl)) (hw _ (List.mem_of_getElem? (i := 13) rfl)) (hw _ (List.mem_of_getElem? (i := 14) rfl)) (by decide) (W := 0) (rm := rm_2) (argsL := [(.ref a14), (.int z6), (.int (3 : Int32)), (.int (10 : Int32))]) (st := []) (lenOf pd_2 rfl) rfl rfl (Nat.le_of_eq rfl) (by decide) (by decide) (by decide) (by decide) (c_check l Z a0 hw n0 _ a14 z6 (3 : Int32) (10 : Int32) hg (by decide) (by decide) [(.int (0 : Int32)), (.int (0 : Int32)), (.int (0 : Int32)), (.int d0), (.int d1), (.int d2), (.int d3), (.int d4), (.int d5), (.int d6), (.int d7), (.int (0 : Int32))] d7 upd_same rfl (by rw [show (10 : Int32).toInt - (3 : Int32).toInt = 7 from by decide]; exact (hd7.trans (exv_7 _).symm))) (nxI fun z145 μ145 h145 => ?_)
                        obtain ⟨rfl, rfl⟩ := h145
                        refine Own.if_eq C at_148 (q := 151) rfl (r := 167) (by decide) (fun h148 => ?_) (fun h148 => ?_)
                        · exact absurd h148 (by decide)
                        · refine Own.aload C at_151 (q := 153) rfl rfl rfl ?_
                          refine Own.iloadN C at_153 (q := 154) rfl rfl ?_
                          refine Own.iloadN C at_154 (q := 155) rfl rfl ?_
                          refine Own.bipush C at_155 (q := 157) rfl (z := 11) (by decide) ?_
                          refine Own.callS C at_157 (q := 160) rfl (hw _ (List.mem_of_getElem? (i := 11) rfl)) (hw _ (List.mem_of_getElem? (i := 12) rfl)) (hw _ (List.mem_of_getElem? (i := 13) rfl)) (hw _ (List.mem_of_getElem? (i := 14) rfl)) (by decide) (W := 0) (rm := rm_2) (argsL := [(.ref a14), (.int z6), (.int (3 : Int32)), (.int (11 : Int32))]) (st := []) (lenOf pd_2 rfl) rfl rfl (Nat.le_of_eq rfl) (by decide) (by decide) (by decide) (by decide) (c_check l Z a0 hw n0 _ a14 z6 (3 : Int32) (11 : Int32) hg (by decide) (by decide) [(.int (0 : Int32)), (.int (0 : Int32)), (.int (0 : Int32)), (.int d0), (.int d1), (.int d2), (.int d3), (.int d4), (.int d5), (.int d6), (.int d7), (.int (0 : Int32))] (0 : Int32) upd_same rfl (by rw [show (11 : Int32).toInt - (3 : Int32).toInt = 8 from by decide]; exact (exv_out (by decide)).symm)) (nxI fun z157 μ157 h157 => ?_)
                          obtain ⟨rfl, rfl⟩ := h157
                          refine Own.if_eq C at_160 (q := 163) rfl (r := 167) (by decide) (fun h160 => ?_) (fun h160 => ?_)
                          · exact absurd h160 (by decide)
                          · refine Own.iconst C at_163 (q := 164) rfl (z := 1) (by decide) ?_
                            refine Own.goto C at_164 (q := 168) (by decide) ?_
                            refine Own.nreturn C at_168 (by simp) (z' := (1 : Int32)) (by decide) (by decide) (by decide) ?_
                            rfl
set_option maxRecDepth 65536 in
set_option maxHeartbeats 4000000 in
theorem comes_1 {Post : Tables → Env → Array Value → State → Outcome → State → Prop} (hpost : ∀ tb e args s v u, (limb_1_1.after args s (.returned v) u = true ∧ limb_1_2.after args s (.returned v) u = true ∧ True) → FrameEnd s (.returned v) u (Jvm.fieldLocs frame_1_writes args s ++ Jvm.arrayLocs frame_1_arrays args s ++ Jvm.staticLocs frame_1_statics s) 16 128 → Post tb e args s (.returned v) u) :
    ArmFor flags0 classFile x code maxLocals ret World_1 tables_1 room_1 Calls_1 rest_1 Pre_1 Post := by
  intro l hfl _ _ p e ha hc hk s m args below hf hA hF happ hP
  obtain ⟨hcalls, hrest, hpre⟩ := hP
  obtain ⟨-, -, -, hnamed, -, -, -, hat⟩ := (Spec.applies_iff hf).mp happ
  obtain ⟨hg, hn⟩ := and_e (Cond.before_iff.mp (show (Jvm.Cond.and given_1 narrow_1).before args s = true from hpre))
  obtain ⟨g0, hg⟩ := and_e hg
  obtain ⟨g1, hg⟩ := and_e hg
  have g2 := hg
  obtain ⟨w0, w1, rfl⟩ : ∃ w0 w1 : Value, args = #[w0, w1] := by
    have hs : args.size = 2 := by simpa [Cond.value, given_1] using g0
    obtain ⟨L⟩ := args
    match L, hs with
    | [w0, w1], _ => exact ⟨w0, w1, rfl⟩
  have hw := fun d (hd : d ∈ tables_1) => atoms_spec (ws := Jvm.Cond.code x code maxLocals ret :: tables_1) hat d (List.mem_cons_of_mem _ hd)
  have hfit : Fit s := fun {y c} hc i hi => by
    obtain ⟨ha, rfl⟩ := Array.getElem?_eq_some_iff.mp hc
    have q := List.all_eq_true.mp ((Array.all_eq_true_iff_forall_mem.mp hF) _ (Array.getElem_mem ha)) i (List.mem_range.mpr hi)
    simpa [Array.getElem?_eq_getElem hi] using q
  obtain ⟨i0, ei0⟩ := is_v g1
  obtain rfl : w0 = (.int i0) := Option.some.inj ei0
  obtain ⟨i1, ei1⟩ := is_v g2
  obtain rfl : w1 = (.int i1) := Option.some.inj ei1
  obtain ⟨n, o, h1, h2, h3, _, L, rfl, ⟨N, _, -, rfl⟩, hq⟩ := c_law l s _ hw s.heap.size (fun _ => none) i0 i1 s.heap ⟨Old.start s, fun _ _ q => nomatch q⟩ p e ha hc hk s m _ below hf ((Spec.applies_iff_loose hf).mp happ).1 ⟨rfl, State.Warmed39.refl s, rfl⟩ trivial
  refine ⟨n, _, h1, h2, h3, hpost _ _ _ _ _ _ ⟨Cond.after_iff.mpr rfl, Cond.after_iff.mpr (eq_i res_at (Term.int_eval (1)) rfl), trivial⟩ ⟨hq.1, hq.2.1, (hq.2.2.sift fun y hy => Or.inr (N y hy)).mono (by decide) (by decide)⟩⟩
theorem main_1_1 : Claimed_1_1 := comes_1 fun _ _ _ _ _ _ h hF => ⟨h.1, hF⟩
theorem main_1_2 : Claimed_1_2 := comes_1 fun _ _ _ _ _ _ h hF => ⟨h.2.1, hF⟩
end Jvm.Pilot.@@N@@
namespace Jvm.Pilot.@@N@@
open Jvm Jvm.ClassFile Sem Op Lib Jvm.Free Jvm.Stand Jvm.Pilot.@@N@@.Jvm.D
/-! MADE BY PROGRAM (witnessworld.py) out of the Statement's table words and the real class files: 9 classes; the members and pool entries that the words name. The judged class is class 1, her method 1. -/
namespace start1
open Jvm.ClassFile
def u (s : String) : CpInfo := .utf8 (stringToUtf16 s)
/-- a pool by its gaps: so many unusable entries, then the entry; so many at the end -/
def gap : Nat → List CpInfo → List CpInfo
  | 0, r => r
  | n + 1, r => .unusable :: gap n r
def poolList (es : List (Nat × CpInfo)) (last : Nat) : List CpInfo := es.foldr (fun e r => gap e.1 (e.2 :: r)) (gap last [])
def pool (es : List (Nat × CpInfo)) (last : Nat) : Array CpInfo := ⟨poolList es last⟩
def fileOf (pool : Array CpInfo) (this : Nat) (attrs : Array Attribute := #[]) (ms : Array MethodInfo := #[]) (fl : Nat := 33) (sup : Nat := 0) (ifs : Array Nat := #[]) (fds : Array FieldInfo := #[]) : ClassFile where
  minorVersion := 0
  majorVersion := 65
  constantPool := pool
  accessFlags := fl
  thisClass := this
  superClass := sup
  interfaces := ifs
  fields := fds
  methods := ms
  attributes := attrs
def plain (name : String) (sup : Option ClassId) : Class where
  name := name
  kind := .ordinary
  loader := none
  accessFlags := 33
  super := sup
  interfaces := #[]
  cf := none
  fields := #[]
  methods := #[]
  instanceTypes := #[]
  staticTypes := #[]
  resolved := #[]
  callSites := []
  init := .initialized
  statics := none
  mirror := none

def pool0 : Array CpInfo := pool [(5, u "<init>"), (0, u "()V"), (1, .class_ 10), (1, u "java/lang/Object")] 113

def k0m0 : Method := { name := "<init>", desc := "()V", sig := { parameters := [], returnType := none }, accessFlags := 1, code := none }
/-- java/lang/Object -/
def k0 : Class := { plain "java/lang/Object" none with
  accessFlags := 33
  interfaces := #[]
  cf := some (fileOf pool0 8 #[] #[{ accessFlags := 1, nameIndex := 5, descriptorIndex := 6, attributes := #[] }] 33 0 #[] #[])
  fields := #[]
  methods := #[k0m0]
  instanceTypes := #[]
  staticTypes := #[]
  resolved := Array.replicate 124 none
  statics := none }

def pool1 : Array CpInfo := pool [(2, .class_ 4), (1, u "java/lang/Object"), (0, u "<init>"), (0, u "()V"), (0, .integer 2147483647), (0, .integer 100000000), (0, .methodref 10 11), (0, .class_ 12), (0, .nameAndType 13 14), (0, u "com/example/porthcurno/porthcurno/dissect/LineWriter"), (0, u "writeEightDigits"), (0, u "([BII)V"), (0, .methodref 16 17), (0, .class_ 18), (0, .nameAndType 19 20), (0, u "com/example/porthcurno/porthcurno/dissect/LineWriterWriteEightDigitsPinLaw"), (0, u "check"), (0, u "([BIII)Z"), (0, .methodref 16 22), (0, .nameAndType 23 24), (0, u "expected"), (0, u "(III)B"), (0, .integer 10000000), (0, .integer 1000000), (0, .integer 100000), (2, u "law"), (0, u "(II)Z")] 5

def k1m0 : Method := { name := "<init>", desc := "()V", sig := { parameters := [], returnType := none }, accessFlags := 1, code := none }
def k1c1 : Code := { maxStack := 4, maxLocals := 5, code := code, exceptionTable := #[], attributes := #[] }
def k1m1 : Method := { name := "law", desc := "(II)Z", sig := { parameters := [.int, .int], returnType := some .boolean }, accessFlags := 9, code := some k1c1 }
def k1c2 : Code := { maxStack := 4, maxLocals := 4, code := method_3_code, exceptionTable := #[], attributes := #[] }
def k1m2 : Method := { name := "check", desc := "([BIII)Z", sig := { parameters := [(.array .byte), .int, .int, .int], returnType := some .boolean }, accessFlags := 10, code := some k1c2 }
def k1c3 : Code := { maxStack := 3, maxLocals := 5, code := method_4_code, exceptionTable := #[], attributes := #[] }
def k1m3 : Method := { name := "expected", desc := "(III)B", sig := { parameters := [.int, .int, .int], returnType := some .byte }, accessFlags := 10, code := some k1c3 }
/-- com/example/porthcurno/porthcurno/dissect/LineWriterWriteEightDigitsPinLaw -/
def k1 : Class := { plain "com/example/porthcurno/porthcurno/dissect/LineWriterWriteEightDigitsPinLaw" (some 0) with
  accessFlags := 49
  interfaces := #[]
  cf := some (fileOf pool1 16 #[] #[{ accessFlags := 1, nameIndex := 5, descriptorIndex := 6, attributes := #[] }, { accessFlags := 9, nameIndex := 30, descriptorIndex := 31, attributes := #[] }, { accessFlags := 10, nameIndex := 19, descriptorIndex := 20, attributes := #[] }, { accessFlags := 10, nameIndex := 23, descriptorIndex := 24, attributes := #[] }] 49 2 #[] #[])
  fields := #[]
  methods := #[k1m0, k1m1, k1m2, k1m3]
  instanceTypes := #[]
  staticTypes := #[]
  resolved := Array.replicate 37 none
  statics := none }

def pool2 : Array CpInfo := pool [(2, .class_ 4), (1, u "java/lang/Object"), (2, .class_ 8), (0, u "com/example/porthcurno/porthcurno/dissect/LineWriter"), (3, u "buffer"), (0, u "[B"), (2, u "stream"), (0, u "Ljava/io/OutputStream;"), (2, u "name"), (0, u "Ljava/lang/String;"), (2, u "flushesEachLine"), (0, u "Z"), (25, u "size"), (0, u "I"), (49, u "POWERS_OF_TEN"), (0, u "[J"), (16, u "writeEightDigits"), (0, u "([BII)V"), (0, .long 7205759404), (1, .long 48), (1, .long 72057594037927935), (1, .long 10), (14, u "DIGIT_PAIRS"), (13, .class_ 158), (0, u "com/example/porthcurno/porthcurno/dissect/LineWriter$Failure"), (6, u "BUFFER_SIZE"), (1, u "GROUP"), (1, u "MIN_PLAIN_EXPONENT"), (1, u "MAX_PLAIN_EXPONENT"), (1, u "MAX_DECIMAL_LENGTH"), (1, u "DECIMAL_DIGITS"), (1, u "SCALED_BY_TEN_TO_THE_MINUS_SEVEN"), (0, u "J"), (0, u "FRACTION"), (0, u "EIGHT_DIGITS")] 15

def k2c0 : Code := { maxStack := 7, maxLocals := 5, code := prog_116_method_12_code, exceptionTable := #[], attributes := #[] }
def k2m0 : Method := { name := "writeEightDigits", desc := "([BII)V", sig := { parameters := [(.array .byte), .int, .int], returnType := none }, accessFlags := 8, code := some k2c0 }
/-- com/example/porthcurno/porthcurno/dissect/LineWriter -/
def k2 : Class := { plain "com/example/porthcurno/porthcurno/dissect/LineWriter" (some 0) with
  accessFlags := 32
  interfaces := #[]
  cf := some (fileOf pool2 7 #[.nestMembers #[157]] #[{ accessFlags := 8, nameIndex := 120, descriptorIndex := 121, attributes := #[] }] 32 2 #[] #[{ accessFlags := 26, nameIndex := 165, descriptorIndex := 52, attributes := #[] }, { accessFlags := 26, nameIndex := 167, descriptorIndex := 52, attributes := #[] }, { accessFlags := 26, nameIndex := 169, descriptorIndex := 52, attributes := #[] }, { accessFlags := 26, nameIndex := 171, descriptorIndex := 52, attributes := #[] }, { accessFlags := 26, nameIndex := 173, descriptorIndex := 52, attributes := #[] }, { accessFlags := 26, nameIndex := 175, descriptorIndex := 52, attributes := #[] }, { accessFlags := 26, nameIndex := 177, descriptorIndex := 178, attributes := #[] }, { accessFlags := 26, nameIndex := 179, descriptorIndex := 178, attributes := #[] }, { accessFlags := 26, nameIndex := 180, descriptorIndex := 52, attributes := #[] }, { accessFlags := 26, nameIndex := 102, descriptorIndex := 103, attributes := #[] }, { accessFlags := 26, nameIndex := 143, descriptorIndex := 13, attributes := #[] }, { accessFlags := 18, nameIndex := 16, descriptorIndex := 17, attributes := #[] }, { accessFlags := 18, nameIndex := 20, descriptorIndex := 21, attributes := #[] }, { accessFlags := 18, nameIndex := 24, descriptorIndex := 25, attributes := #[] }, { accessFlags := 18, nameIndex := 12, descriptorIndex := 13, attributes := #[] }, { accessFlags := 2, nameIndex := 51, descriptorIndex := 52, attributes := #[] }])
  fields := #[{ name := "BUFFER_SIZE", type := .int, accessFlags := 26, slot := 0, constantValue := 0 }, { name := "GROUP", type := .int, accessFlags := 26, slot := 1, constantValue := 0 }, { name := "MIN_PLAIN_EXPONENT", type := .int, accessFlags := 26, slot := 2, constantValue := 0 }, { name := "MAX_PLAIN_EXPONENT", type := .int, accessFlags := 26, slot := 3, constantValue := 0 }, { name := "MAX_DECIMAL_LENGTH", type := .int, accessFlags := 26, slot := 4, constantValue := 0 }, { name := "DECIMAL_DIGITS", type := .int, accessFlags := 26, slot := 5, constantValue := 0 }, { name := "SCALED_BY_TEN_TO_THE_MINUS_SEVEN", type := .long, accessFlags := 26, slot := 6, constantValue := 0 }, { name := "FRACTION", type := .long, accessFlags := 26, slot := 7, constantValue := 0 }, { name := "EIGHT_DIGITS", type := .int, accessFlags := 26, slot := 8, constantValue := 0 }, { name := "POWERS_OF_TEN", type := (.array .long), accessFlags := 26, slot := 9, constantValue := 0 }, { name := "DIGIT_PAIRS", type := (.array .byte), accessFlags := 26, slot := 10, constantValue := 0 }, { name := "stream", type := (.object "java/io/OutputStream"), accessFlags := 18, slot := 0, constantValue := 0 }, { name := "name", type := (.object "java/lang/String"), accessFlags := 18, slot := 1, constantValue := 0 }, { name := "flushesEachLine", type := .boolean, accessFlags := 18, slot := 2, constantValue := 0 }, { name := "buffer", type := (.array .byte), accessFlags := 18, slot := 3, constantValue := 0 }, { name := "size", type := .int, accessFlags := 2, slot := 4, constantValue := 0 }]
  methods := #[k2m0]
  instanceTypes := #[(.object "java/io/OutputStream"), (.object "java/lang/String"), .boolean, (.array .byte), .int]
  staticTypes := #[.int, .int, .int, .int, .int, .int, .long, .long, .int, (.array .long), (.array .byte)]
  resolved := Array.replicate 196 none
  statics := none }

def pool3 : Array CpInfo := pool [(1, u "java/lang/Cloneable"), (0, .class_ 1), (0, u "java/lang/Object"), (0, .class_ 3)] 3

/-- java/lang/Cloneable -/
def k3 : Class := { plain "java/lang/Cloneable" (some 0) with
  accessFlags := 1537
  interfaces := #[]
  cf := some (fileOf pool3 2 #[] #[] 1537 4 #[] #[])
  fields := #[]
  methods := #[]
  instanceTypes := #[]
  staticTypes := #[]
  resolved := Array.replicate 8 none
  statics := none }

def pool4 : Array CpInfo := pool [(1, u "java/io/Serializable"), (0, .class_ 1), (0, u "java/lang/Object"), (0, .class_ 3)] 3

/-- java/io/Serializable -/
def k4 : Class := { plain "java/io/Serializable" (some 0) with
  accessFlags := 1537
  interfaces := #[]
  cf := some (fileOf pool4 2 #[] #[] 1537 4 #[] #[])
  fields := #[]
  methods := #[]
  instanceTypes := #[]
  staticTypes := #[]
  resolved := Array.replicate 8 none
  statics := none }

/-- the primitive byte -/
def k5 : Class := { plain "byte" none with kind := .primitive 'B', accessFlags := 0x411 }
/-- [B -/
def k6 : Class := { plain "[B" (some 0) with kind := .array 5 .byte, interfaces := #[3, 4], accessFlags := 1041 }

/-- the primitive int -/
def k7 : Class := { plain "int" none with kind := .primitive 'I', accessFlags := 0x411 }
/-- [I -/
def k8 : Class := { plain "[I" (some 0) with kind := .array 7 .int, interfaces := #[3, 4], accessFlags := 1041 }

def heap : Heap := #[]
def classes : Array Class := #[k0, k1, k2, k3, k4, k5, k6, k7, k8]
def interned : List (Array UInt16 × Addr) := []
def slotsUsed : Nat := 0
def theMethod : MethodId := ⟨1, 1⟩
def args0 : Array Value := #[.int 5, .int 6]
def aboutOver (below : List Frame) : State where
  vm := { classes := classes, interned := interned.toArray }
  heap := heap
  slotsUsed := slotsUsed
  threads := #[{ frames := .invoking theMethod args0 :: below }]
def below0 : List Frame := [.native { method := ⟨0, 0⟩, args := #[] }]
def about1 : State := aboutOver below0
def p0 : Program := .bare "" "" ""
def e0 : Env := launch0.env 0 0 0
theorem w_frames : about1.frames = Frame.invoking theMethod args0 :: below0 := rfl
set_option maxRecDepth 65536 in
theorem w_args : argsFit about1.vm theMethod args0 = true := by decide +kernel
set_option maxRecDepth 65536 in
theorem w_heap : heapFits about1 = true := by decide +kernel
set_option maxRecDepth 65536 in
theorem w_runnable : about1.curStatus? = some .runnable := by decide +kernel
set_option maxRecDepth 65536 in
theorem w_alone : about1.alone = true := by decide +kernel
set_option maxRecDepth 65536 in
theorem w_named : about1.methodNamed? x = some theMethod := by decide +kernel
set_option maxRecDepth 65536 in
theorem w_hears : about1.hears theMethod below0 = true := by decide +kernel
set_option maxRecDepth 65536 in
theorem w_ripe : about1.ripe theMethod args0 below0 = true := by decide +kernel
theorem w_running : about1.status = .running := rfl
set_option maxRecDepth 65536 in
theorem w_room : about1.hasRoom e0.platform room_1 = true :=
  launch0.hasRoom_least _ room_1 (by decide +kernel) (by decide +kernel) (by decide +kernel) (by decide +kernel) (by decide +kernel) (by decide +kernel)
theorem allAtoms_all (ts : List Jvm.Cond) (a : Array Jvm.Value) (st : Jvm.State) : (allAtoms ts).before a st = ts.all (fun c => c.before a st) := by
  induction ts with
  | nil => rfl
  | cons c t ih =>
    show (Jvm.Cond.and c (allAtoms t)).before a st = _
    rw [Jvm.Cond.before_and, ih, List.all_cons]
def words1 : List Jvm.Cond := Jvm.Cond.code x code maxLocals ret :: tables_1
/-- a 'code' word, met by the world's own term for the bytes: nothing is compared byte by byte -/
theorem code_word {y : MethodName} {bytes : ByteArray} {mx : Nat} {rt : Option FieldType} {a : Array Value} {s : State} {m : MethodId} {meth : Method} {c : Code} (h1 : s.methodNamed? y = some m) (h2 : s.vm.method? m = some meth) (h3 : meth.code = some c) (h4 : c.code = bytes)
    (h5 : (c.maxLocals == mx && c.exceptionTable.isEmpty && decide (c.maxStack ≤ mostOperands) && decide (meth.sig.returnType = rt) && !meth.locks && decide (parseMethodDescriptor y.desc = some meth.sig)) = true) : (Jvm.Cond.code y bytes mx rt).before a s = true := by
  simp only [Bool.and_eq_true, beq_iff_eq, Bool.not_eq_true', decide_eq_true_eq] at h5
  obtain ⟨⟨⟨⟨⟨g1, g2⟩, g3⟩, g4⟩, g5⟩, g6⟩ := h5
  simp [Cond.before, Cond.holds, Cond.value, h1, h2, h3, h4, g1, g2, g3, g4, g5, g6]
def isCode : Jvm.Cond → Bool
  | .code _ _ _ _ => true
  | _ => false
theorem all_split {L : List Jvm.Cond} {P : Jvm.Cond → Bool} (h1 : L.all (fun c => isCode c || P c) = true) (h2 : ∀ c ∈ L.filter isCode, P c = true) : L.all P = true := by
  refine List.all_eq_true.mpr fun c hc => ?_
  have h := List.all_eq_true.mp h1 c hc
  rcases Bool.eq_false_or_eq_true (isCode c) with hi | hi
  · exact h2 c (List.mem_filter.mpr ⟨hc, hi⟩)
  · simpa [hi] using h
set_option maxRecDepth 65536 in
theorem w_c0 : (Jvm.Cond.code x code maxLocals ret).before args0 about1 = true := code_word (m := ⟨1, 1⟩) (meth := k1m1) (c := k1c1) (by decide +kernel) rfl rfl rfl (by decide +kernel)
set_option maxRecDepth 65536 in
theorem w_c1 : (Jvm.Cond.code ({ cls := "com/example/porthcurno/porthcurno/dissect/LineWriter", name := "writeEightDigits", desc := "([BII)V" } : Jvm.MethodName) prog_116_method_12_code (5 : Nat) (Option.none : Option Jvm.ClassFile.FieldType)).before args0 about1 = true := code_word (m := ⟨2, 0⟩) (meth := k2m0) (c := k2c0) (by decide +kernel) rfl rfl rfl (by decide +kernel)
set_option maxRecDepth 65536 in
theorem w_c2 : (Jvm.Cond.code ({ cls := "com/example/porthcurno/porthcurno/dissect/LineWriterWriteEightDigitsPinLaw", name := "check", desc := "([BIII)Z" } : Jvm.MethodName) method_3_code (4 : Nat) (Option.some Jvm.ClassFile.FieldType.boolean)).before args0 about1 = true := code_word (m := ⟨1, 2⟩) (meth := k1m2) (c := k1c2) (by decide +kernel) rfl rfl rfl (by decide +kernel)
set_option maxRecDepth 65536 in
theorem w_c3 : (Jvm.Cond.code ({ cls := "com/example/porthcurno/porthcurno/dissect/LineWriterWriteEightDigitsPinLaw", name := "expected", desc := "(III)B" } : Jvm.MethodName) method_4_code (5 : Nat) (Option.some Jvm.ClassFile.FieldType.byte)).before args0 about1 = true := code_word (m := ⟨1, 3⟩) (meth := k1m3) (c := k1c3) (by decide +kernel) rfl rfl rfl (by decide +kernel)
def codes1 : List Jvm.Cond := [Jvm.Cond.code x code maxLocals ret, Jvm.Cond.code ({ cls := "com/example/porthcurno/porthcurno/dissect/LineWriter", name := "writeEightDigits", desc := "([BII)V" } : Jvm.MethodName) prog_116_method_12_code (5 : Nat) (Option.none : Option Jvm.ClassFile.FieldType), Jvm.Cond.code ({ cls := "com/example/porthcurno/porthcurno/dissect/LineWriterWriteEightDigitsPinLaw", name := "check", desc := "([BIII)Z" } : Jvm.MethodName) method_3_code (4 : Nat) (Option.some Jvm.ClassFile.FieldType.boolean), Jvm.Cond.code ({ cls := "com/example/porthcurno/porthcurno/dissect/LineWriterWriteEightDigitsPinLaw", name := "expected", desc := "(III)B" } : Jvm.MethodName) method_4_code (5 : Nat) (Option.some Jvm.ClassFile.FieldType.byte)]
set_option maxRecDepth 65536 in
theorem codes_eq : words1.filter isCode = codes1 := rfl
theorem w_codes : ∀ c ∈ words1.filter isCode, c.before args0 about1 = true := by
  rw [codes_eq]
  intro c hc
  simp only [codes1, List.mem_cons, List.not_mem_nil, or_false] at hc
  rcases hc with rfl | rfl | rfl | rfl
  · exact w_c0
  · exact w_c1
  · exact w_c2
  · exact w_c3
set_option maxRecDepth 65536 in
theorem w_t1 : words1.all (fun c => isCode c || c.before args0 about1) = true := by decide +kernel
theorem w_tables : (allAtoms (Jvm.Cond.code x code maxLocals ret :: tables_1)).before args0 about1 = true := by
  rw [allAtoms_all]
  show words1.all (fun c => c.before args0 about1) = true
  refine all_split ?_ w_codes
  rw [w_t1]
set_option maxRecDepth 65536 in
theorem w_case : (Jvm.Cond.and given_1 narrow_1).before args0 about1 = true := by decide +kernel
theorem w_applies : (headSpec (Jvm.Cond.code x code maxLocals ret :: tables_1) room_1).applies x e0.platform about1 = true :=
  (Spec.applies_iff w_frames).mpr ⟨w_running, w_runnable, w_alone, w_named, w_hears, w_ripe, w_room, w_tables⟩
theorem atStart : AtStart classFile x code maxLocals ret World_1 tables_1 room_1 Calls_1 rest_1 Pre_1 launch0 p0 e0 about1 theMethod args0 below0 :=
  ⟨lists_1, trivial, launch0.admits_env _ _ _, launch0.least_env, fairChoices_fair.cas, fairChoices_fair.clock, w_frames, w_args, w_heap, w_applies, trivial, trivial, w_case⟩
end start1
theorem witness_1 : WitnessClaimed_1 := ⟨start1.p0, start1.e0, start1.about1, start1.theMethod, start1.args0, start1.below0, start1.atStart⟩
end Jvm.Pilot.@@N@@
