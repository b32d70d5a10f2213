import JvmDerived
import JvmDerived.Pilot.@@N@@Statement
import JvmDerived.Pilot.@@N@@Code
set_option linter.unusedVariables false
set_option linter.unusedSimpArgs false
namespace Jvm.Own
open Sem ClassFile Op Lib Jvm.Stand Jvm.Free Jvm.LawKit Jvm.RoadKit
/-! A plain store over the heap: what each address that matters holds. -/
abbrev Key : Type := String × String × String
abbrev Obj : Type := Sum (String × List (Key × Value)) (FieldType × List Value)
abbrev Mem : Type := Addr → Option Obj
def upd (μ : Mem) (a : Addr) (o : Obj) : Mem := fun x => if x = a then some o else μ x
section MemFacts
variable {μ : Mem} {a b : Addr} {o o' : Obj}
theorem upd_same : upd μ a o a = some o := by simp [upd]
theorem upd_ne (h : b ≠ a) : upd μ a o b = μ b := by simp [upd, h]
theorem upd_upd : upd (upd μ a o) a o' = upd μ a o' := by funext x; simp only [upd]; split <;> rfl
theorem upd_at (h : b ≠ a) {q : Obj} (hb : μ b = some q) : upd μ a o b = some q := (upd_ne h).trans hb
theorem upd_id (h : μ a = some o) : upd μ a o = μ := by funext x; simp only [upd]; split <;> simp_all
theorem upd_in {ν : Mem} {w : Obj} (h : upd μ a o = ν) (hb : b ≠ a) : upd (upd μ b w) a o = upd ν b w := by
  subst h; funext x; simp only [upd]
  by_cases h1 : x = a
  · subst h1; simp [Ne.symm hb]
  · by_cases h2 : x = b
    · subst h2; simp [h1]
    · simp [h1, h2]
theorem upd2 {ν ρ : Mem} {o' : Obj} (h1 : upd μ a o = ν) (h2 : upd ν b o' = ρ) : upd (upd μ a o) b o' = ρ := by subst h1; exact h2
theorem upd_list {ty : FieldType} {vs vs' : List Value} {ν : Mem} (h : vs = vs') (e : upd μ a (.inr (ty, vs')) = ν) : upd μ a (.inr (ty, vs)) = ν := by subst h; exact e
end MemFacts
def sl (Z : State) (q : Key × Value) : Nat := RoadKit.slotOf Z q.1.1 q.1.2.1 q.1.2.2
def IsO (Z : State) (h : Heap) (a : Addr) (C : String) (fs : List (Key × Value)) : Prop :=
  Exa Z h a C ∧ (∀ q ∈ fs, Fld Z h a q.1.1 q.1.2.1 q.1.2.2 q.2) ∧ fs.Pairwise fun q r => sl Z q ≠ sl Z r
def IsA (Z : State) (n0 : Nat) (h : Heap) (a : Addr) (ty : FieldType) (vs : List Value) : Prop :=
  ∃ c : Cell, Arr Z h a c ty ∧ c.slots.toList = vs ∧ vs.length < 2 ^ 31 ∧ (∀ v ∈ vs, fits ty v = true) ∧ (n0 ≤ a → ∀ C, ty = .object C → Ovr Z c.cls C)
def Is (Z : State) (n0 : Nat) (h : Heap) (a : Addr) : Obj → Prop
  | .inl q => IsO Z h a q.1 q.2
  | .inr q => IsA Z n0 h a q.1 q.2
def Hp (Z : State) (n0 : Nat) (μ : Mem) (h : Heap) : Prop := Old Z n0 h ∧ ∀ a o, μ a = some o → Is Z n0 h a o
section HpFacts
variable {Z : State} {n0 : Nat} {μ : Mem} {h h' : Heap} {a b : Addr} {o : Obj} {sl' : Nat} {v : Value}
theorem Is.lt (H : Is Z n0 h a o) : a < h.size := by
  rcases o with q | q
  · exact H.1.lt
  · obtain ⟨c, A, -⟩ := H; exact A.lt
theorem Is.ext (H : Is Z n0 h a o) (E : Ext h h') : Is Z n0 h' a o := by
  rcases o with q | q
  · exact ⟨H.1.ext E, fun r hr => (H.2.1 r hr).ext E, H.2.2⟩
  · obtain ⟨c, A, r⟩ := H; exact ⟨c, A.ext E, r⟩
theorem Is.other (H : Is Z n0 h b o) (W : Wr h h' a sl' v) (q : b ≠ a) : Is Z n0 h' b o := by
  rcases o with r | r
  · exact ⟨H.1.wr W, fun r hr => (H.2.1 r hr).other W (Or.inl q), H.2.2⟩
  · obtain ⟨c, A, r⟩ := H; exact ⟨c, A.other W q, r⟩
theorem Hp.ext (H : Hp Z n0 μ h) (E : Ext h h') : Hp Z n0 μ h' := ⟨H.1.ext E, fun a o q => (H.2 a o q).ext E⟩
theorem Hp.ge (H : Hp Z n0 μ h) : n0 ≤ h.size := H.1.1 ▸ H.1.2.1
theorem Hp.fresh (H : Hp Z n0 μ h) : ∀ b o, μ b = some o → b ≠ h.size := fun b o q => Nat.ne_of_lt (H.2 b o q).lt
theorem Hp.set (H : Hp Z n0 μ h') (I : Is Z n0 h' a o) : Hp Z n0 (upd μ a o) h' := ⟨H.1, fun b o' q => by
  by_cases e : b = a
  · subst e; rw [upd_same] at q; cases q; exact I
  · rw [upd_ne e] at q; exact H.2 b o' q⟩
theorem Hp.wr (H : Hp Z n0 μ h) (W : Wr h h' a sl' v) (g : n0 ≤ a) (I : Is Z n0 h' a o) : Hp Z n0 (upd μ a o) h' := ⟨H.1.wr W g, fun b o' q => by
  by_cases e : b = a
  · subst e; rw [upd_same] at q; cases q; exact I
  · rw [upd_ne e] at q; exact (H.2 b o' q).other W e⟩
theorem IsO.put {C : String} {fs fs' : List (Key × Value)} {k : Key} {i : Nat} {w : Value} (H : IsO Z h a C fs) (hi : fs[i]? = some (k, w)) (W : Wr h h' a (RoadKit.slotOf Z k.1 k.2.1 k.2.2) v) (e : fs.set i (k, v) = fs') : IsO Z h' a C fs' := by
  subst e
  obtain ⟨hlt, hk⟩ := List.getElem?_eq_some_iff.mp hi
  have F0 := H.2.1 _ (List.mem_of_getElem? hi)
  have hp := List.pairwise_iff_getElem.mp H.2.2
  refine ⟨H.1.wr W, fun q hq => ?_, ?_⟩
  · obtain ⟨j, hj, rfl⟩ := List.mem_iff_getElem.mp hq
    rw [List.length_set] at hj
    by_cases e : i = j
    · subst e; rw [List.getElem_set_self]; exact F0.same W
    · rw [List.getElem_set_ne e]
      refine (H.2.1 _ (List.getElem_mem hj)).other W (Or.inr ?_)
      have e0 : sl Z fs[i] = RoadKit.slotOf Z k.1 k.2.1 k.2.2 := by rw [hk]; rfl
      rcases Nat.lt_or_gt_of_ne e with q | q
      · have := hp i j hlt hj q; rw [e0] at this; exact fun z => this z.symm
      · have := hp j i hj hlt q; rw [e0] at this; exact this
  · rw [List.pairwise_iff_getElem]
    intro x y hx hy hxy
    rw [List.length_set] at hx hy
    have key : ∀ z (hz : z < (fs.set i (k, v)).length) (hz' : z < fs.length), sl Z (fs.set i (k, v))[z] = sl Z fs[z] := fun z hz hz' => by
      by_cases e : i = z
      · subst e; rw [List.getElem_set_self, hk]; rfl
      · rw [List.getElem_set_ne e]
    rw [key x _ hx, key y _ hy]
    exact hp x y hx hy hxy
theorem IsA.put {ty : FieldType} {vs : List Value} {j : Nat} (H : IsA Z n0 h a ty vs) (hv : fits ty v = true) (W : Wr h h' a j v) : IsA Z n0 h' a ty (vs.set j v) := by
  obtain ⟨c, A, rfl, hl, hf, ho⟩ := H
  refine ⟨_, A.same W, by simp [Cell.setSlot], by simpa using hl, fun w hw => ?_, ho⟩
  rcases List.mem_or_eq_of_mem_set hw with q | q
  · exact hf w q
  · subst q; exact hv
end HpFacts
/-- what is left to show from the frame g on -/
def Go (p : Program) (l : Launch) (e : Env) (R : Room) (s : State) (m : MethodId) (args : Array Value) (below : List Frame) (meth : Method) (c : Code) (Z : State) (n0 : Nat) (P : Option Value → Mem → Prop) (kc ks : Nat) (μ : Mem) (k n : Nat) (g : JFrame) : Prop :=
  ∀ T locs, Stand p l e R s m args below meth c T locs k n → Fr n0 locs → Hp Z n0 μ T.heap →
    ∃ s₂ o, Steps p.tables e below (T.setTop g) s₂ ∧ s₂.status = .running ∧ Ended s₂ below o ∧ ∃ v L, o = .returned v ∧ (Fr n0 L ∧ ∃ μ', Hp Z n0 μ' s₂.heap ∧ P v μ') ∧ FrameEnd s o s₂ L kc ks
/-- what stands fast while a body is walked -/
def Ctx (p : Program) (s : State) (m : MethodId) (meth : Method) (c : Code) (Z : State) (own nm : String) (B : ByteArray) (ml : Nat) (rt : Option FieldType) : Prop :=
  p.tables.exec = Jvm.exec ∧ c.code = B ∧ c.maxLocals = ml ∧ Z.Warmed39 s.vm ∧ s.vm.findClass own = some m.cls ∧ meth.sig.returnType = rt ∧ meth.locks = false ∧ meth.name = nm
/-- a body's contract -/
def Con (l : Launch) (Z : State) (n0 : Nat) (y : MethodName) (B : ByteArray) (ml : Nat) (rt : Option FieldType) (ws : List Cond) (rm : Room) (kc ks : Nat) (as : Array Value) (μ : Mem) (P : Option Value → Mem → Prop) : Prop :=
  ∀ h0, Hp Z n0 μ h0 → MetFree l y (head1 (Cond.code y B ml rt :: ws) rm) (fun a U => a = as ∧ Z.Warmed39 U.vm ∧ U.heap = h0) (fun _ _ _ _ _ => True)
    (fun _ U o U' => ∃ v L, o = .returned v ∧ (Fr n0 L ∧ ∃ μ', Hp Z n0 μ' U'.heap ∧ P v μ') ∧ FrameEnd U o U' L kc ks)
section Rules
variable {p : Program} {l : Launch} {e : Env} {R : Room} {s : State} {m : MethodId} {args : Array Value} {below : List Frame} {meth : Method} {c : Code} {Z : State} {a0 : Array Value} {n0 : Nat} {P : Option Value → Mem → Prop} {kc ks : Nat} {μ : Mem} {k n : Nat}
  {own nm : String} {B : ByteArray} {ml : Nat} {rt : Option FieldType} {pc q : Nat} {L L' : Array Slot} {st : List Value} {y : MethodName} {ws : List Cond} {rm : Room} {as : Array Value}
theorem Con.intro {L0 : Array Slot} (hx : plainFor y = true) (hef : ∀ m, entryFrame m as ml = mkF m 0 L0 [])
    (body : ∀ (p : Program) (e : Env) (s : State) (m : MethodId) (below : List Frame) (meth : Method) (c : Code), Ctx p s m meth c Z y.cls y.name B ml rt → Go p l e rm s m as below meth c Z n0 P kc ks μ 0 0 (mkF m 0 L0 [])) : Con l Z n0 y B ml rt ws rm kc ks as μ P := by
  intro h0 H0
  refine MetFree.of_bodySF hx hisR ?_
  intro p e s m args below meth c s₁ Bd hml hP hK
  obtain ⟨rfl, hZ, hh⟩ := hP
  have X0 : Stand p l e rm s m args below meth c s₁ [] 0 0 := Stand.of_body Bd
  have e0 : s₁.heap = h0 := by rw [← hh, Bd.state]; rfl
  obtain ⟨s2, o, g1, g2, g3, g4⟩ := body p e s m below meth c ⟨Bd.exec, Bd.bytes, hml, hZ, findClass_of_methodNamed Bd.named, Bd.returns, Bd.notSynchronized, (name_of_methodNamed Bd.named Bd.method).1⟩ s₁ [] X0 (Fr.nil n0) (by rw [e0]; exact H0)
  exact ⟨s2, o, castTop (hef m) g1, g2, g3, g4⟩
theorem Go.pure {g g' : JFrame} (K : Go p l e R s m args below meth c Z n0 P kc ks μ k n g') (st : ∀ T, At T m c below → ∀ target, Steps p.tables e below (T.setTop g') target → Steps p.tables e below (T.setTop g) target) : Go p l e R s m args below meth c Z n0 P kc ks μ k n g := fun T locs X F H => by
  obtain ⟨s2, o, h1, h2⟩ := K T locs X F H
  exact ⟨s2, o, st T X.here _ h1, h2⟩
theorem Go.stand {g g' : JFrame} (K : Go p l e R s m args below meth c Z n0 P kc ks μ k n g') (st : ∀ T locs, Stand p l e R s m args below meth c T locs k n → Hp Z n0 μ T.heap → ∃ T', Stand p l e R s m args below meth c T' locs k n ∧ T'.heap = T.heap ∧ ∀ target, Steps p.tables e below (T'.setTop g') target → Steps p.tables e below (T.setTop g) target) : Go p l e R s m args below meth c Z n0 P kc ks μ k n g := fun T locs X F H => by
  obtain ⟨T', X', e', h⟩ := st T locs X H
  obtain ⟨s2, o, h1, h2⟩ := K T' locs X' F (by rw [e']; exact H)
  exact ⟨s2, o, h _ h1, h2⟩
theorem iadd (C : Ctx p s m meth c Z own nm B ml rt) {x y : Int32} (hd : decode B pc = .ok (.iadd, 1)) (hq : pc + 1 = q) (k' : ∀ z : Int32, z = x + y → Go p l e R s m args below meth c Z n0 P kc ks μ k n (mkF m q L (.int z :: st))) : Go p l e R s m args below meth c Z n0 P kc ks μ k n (mkF m pc L (.int y :: .int x :: st)) := by
  subst hq
  exact Go.pure (k' _ rfl) fun T h t hr => XS.iadd h C.1 rfl (hb C.2.1 hd) rfl hr
theorem isub (C : Ctx p s m meth c Z own nm B ml rt) {x y : Int32} (hd : decode B pc = .ok (.isub, 1)) (hq : pc + 1 = q) (k' : ∀ z : Int32, z = x - y → Go p l e R s m args below meth c Z n0 P kc ks μ k n (mkF m q L (.int z :: st))) : Go p l e R s m args below meth c Z n0 P kc ks μ k n (mkF m pc L (.int y :: .int x :: st)) := by
  subst hq
  exact Go.pure (k' _ rfl) fun T h t hr => XS.isub h C.1 rfl (hb C.2.1 hd) rfl hr
theorem imul (C : Ctx p s m meth c Z own nm B ml rt) {x y : Int32} (hd : decode B pc = .ok (.imul, 1)) (hq : pc + 1 = q) (k' : ∀ z : Int32, z = x * y → Go p l e R s m args below meth c Z n0 P kc ks μ k n (mkF m q L (.int z :: st))) : Go p l e R s m args below meth c Z n0 P kc ks μ k n (mkF m pc L (.int y :: .int x :: st)) := by
  subst hq
  exact Go.pure (k' _ rfl) fun T h t hr => XS.imul h C.1 rfl (hb C.2.1 hd) rfl hr
theorem iand (C : Ctx p s m meth c Z own nm B ml rt) {x y : Int32} (hd : decode B pc = .ok (.iand, 1)) (hq : pc + 1 = q) (k' : ∀ z : Int32, z = x &&& y → Go p l e R s m args below meth c Z n0 P kc ks μ k n (mkF m q L (.int z :: st))) : Go p l e R s m args below meth c Z n0 P kc ks μ k n (mkF m pc L (.int y :: .int x :: st)) := by
  subst hq
  exact Go.pure (k' _ rfl) fun T h t hr => XS.iand h C.1 rfl (hb C.2.1 hd) rfl hr
theorem ior (C : Ctx p s m meth c Z own nm B ml rt) {x y : Int32} (hd : decode B pc = .ok (.ior, 1)) (hq : pc + 1 = q) (k' : ∀ z : Int32, z = x ||| y → Go p l e R s m args below meth c Z n0 P kc ks μ k n (mkF m q L (.int z :: st))) : Go p l e R s m args below meth c Z n0 P kc ks μ k n (mkF m pc L (.int y :: .int x :: st)) := by
  subst hq
  exact Go.pure (k' _ rfl) fun T h t hr => XS.ior h C.1 rfl (hb C.2.1 hd) rfl hr
theorem ixor (C : Ctx p s m meth c Z own nm B ml rt) {x y : Int32} (hd : decode B pc = .ok (.ixor, 1)) (hq : pc + 1 = q) (k' : ∀ z : Int32, z = x ^^^ y → Go p l e R s m args below meth c Z n0 P kc ks μ k n (mkF m q L (.int z :: st))) : Go p l e R s m args below meth c Z n0 P kc ks μ k n (mkF m pc L (.int y :: .int x :: st)) := by
  subst hq
  exact Go.pure (k' _ rfl) fun T h t hr => XS.ixor h C.1 rfl (hb C.2.1 hd) rfl hr
theorem ladd (C : Ctx p s m meth c Z own nm B ml rt) {x y : Int64} (hd : decode B pc = .ok (.ladd, 1)) (hq : pc + 1 = q) (k' : ∀ z : Int64, z = x + y → Go p l e R s m args below meth c Z n0 P kc ks μ k n (mkF m q L (.long z :: st))) : Go p l e R s m args below meth c Z n0 P kc ks μ k n (mkF m pc L (.long y :: .long x :: st)) := by
  subst hq
  exact Go.pure (k' _ rfl) fun T h t hr => XS.ladd h C.1 rfl (hb C.2.1 hd) rfl hr
theorem lsub (C : Ctx p s m meth c Z own nm B ml rt) {x y : Int64} (hd : decode B pc = .ok (.lsub, 1)) (hq : pc + 1 = q) (k' : ∀ z : Int64, z = x - y → Go p l e R s m args below meth c Z n0 P kc ks μ k n (mkF m q L (.long z :: st))) : Go p l e R s m args below meth c Z n0 P kc ks μ k n (mkF m pc L (.long y :: .long x :: st)) := by
  subst hq
  exact Go.pure (k' _ rfl) fun T h t hr => XS.lsub h C.1 rfl (hb C.2.1 hd) rfl hr
theorem lmul (C : Ctx p s m meth c Z own nm B ml rt) {x y : Int64} (hd : decode B pc = .ok (.lmul, 1)) (hq : pc + 1 = q) (k' : ∀ z : Int64, z = x * y → Go p l e R s m args below meth c Z n0 P kc ks μ k n (mkF m q L (.long z :: st))) : Go p l e R s m args below meth c Z n0 P kc ks μ k n (mkF m pc L (.long y :: .long x :: st)) := by
  subst hq
  exact Go.pure (k' _ rfl) fun T h t hr => XS.lmul h C.1 rfl (hb C.2.1 hd) rfl hr
theorem land (C : Ctx p s m meth c Z own nm B ml rt) {x y : Int64} (hd : decode B pc = .ok (.land, 1)) (hq : pc + 1 = q) (k' : ∀ z : Int64, z = x &&& y → Go p l e R s m args below meth c Z n0 P kc ks μ k n (mkF m q L (.long z :: st))) : Go p l e R s m args below meth c Z n0 P kc ks μ k n (mkF m pc L (.long y :: .long x :: st)) := by
  subst hq
  exact Go.pure (k' _ rfl) fun T h t hr => XS.land h C.1 rfl (hb C.2.1 hd) rfl hr
theorem lor (C : Ctx p s m meth c Z own nm B ml rt) {x y : Int64} (hd : decode B pc = .ok (.lor, 1)) (hq : pc + 1 = q) (k' : ∀ z : Int64, z = x ||| y → Go p l e R s m args below meth c Z n0 P kc ks μ k n (mkF m q L (.long z :: st))) : Go p l e R s m args below meth c Z n0 P kc ks μ k n (mkF m pc L (.long y :: .long x :: st)) := by
  subst hq
  exact Go.pure (k' _ rfl) fun T h t hr => XS.lor h C.1 rfl (hb C.2.1 hd) rfl hr
theorem lxor (C : Ctx p s m meth c Z own nm B ml rt) {x y : Int64} (hd : decode B pc = .ok (.lxor, 1)) (hq : pc + 1 = q) (k' : ∀ z : Int64, z = x ^^^ y → Go p l e R s m args below meth c Z n0 P kc ks μ k n (mkF m q L (.long z :: st))) : Go p l e R s m args below meth c Z n0 P kc ks μ k n (mkF m pc L (.long y :: .long x :: st)) := by
  subst hq
  exact Go.pure (k' _ rfl) fun T h t hr => XS.lxor h C.1 rfl (hb C.2.1 hd) rfl hr
theorem ishl (C : Ctx p s m meth c Z own nm B ml rt) {x y : Int32} (hd : decode B pc = .ok (.ishl, 1)) (hq : pc + 1 = q) (k' : ∀ z : Int32, z = x <<< (y &&& 31) → Go p l e R s m args below meth c Z n0 P kc ks μ k n (mkF m q L (.int z :: st))) : Go p l e R s m args below meth c Z n0 P kc ks μ k n (mkF m pc L (.int y :: .int x :: st)) := by
  subst hq
  exact Go.pure (k' _ rfl) fun T h t hr => XS.ishl h C.1 rfl (hb C.2.1 hd) rfl hr
theorem ishr (C : Ctx p s m meth c Z own nm B ml rt) {x y : Int32} (hd : decode B pc = .ok (.ishr, 1)) (hq : pc + 1 = q) (k' : ∀ z : Int32, z = x >>> (y &&& 31) → Go p l e R s m args below meth c Z n0 P kc ks μ k n (mkF m q L (.int z :: st))) : Go p l e R s m args below meth c Z n0 P kc ks μ k n (mkF m pc L (.int y :: .int x :: st)) := by
  subst hq
  exact Go.pure (k' _ rfl) fun T h t hr => XS.ishr h C.1 rfl (hb C.2.1 hd) rfl hr
theorem iushr (C : Ctx p s m meth c Z own nm B ml rt) {x y : Int32} (hd : decode B pc = .ok (.iushr, 1)) (hq : pc + 1 = q) (k' : ∀ z : Int32, z = (x.toUInt32 >>> (y &&& 31).toUInt32).toInt32 → Go p l e R s m args below meth c Z n0 P kc ks μ k n (mkF m q L (.int z :: st))) : Go p l e R s m args below meth c Z n0 P kc ks μ k n (mkF m pc L (.int y :: .int x :: st)) := by
  subst hq
  exact Go.pure (k' _ rfl) fun T h t hr => XS.iushr h C.1 rfl (hb C.2.1 hd) rfl hr
theorem lshl (C : Ctx p s m meth c Z own nm B ml rt) {x : Int64} {y : Int32} (hd : decode B pc = .ok (.lshl, 1)) (hq : pc + 1 = q) (k' : ∀ z : Int64, z = x <<< (y &&& 0x3f).toInt64 → Go p l e R s m args below meth c Z n0 P kc ks μ k n (mkF m q L (.long z :: st))) : Go p l e R s m args below meth c Z n0 P kc ks μ k n (mkF m pc L (.int y :: .long x :: st)) := by
  subst hq
  exact Go.pure (k' _ rfl) fun T h t hr => XS.lshl h C.1 rfl (hb C.2.1 hd) rfl hr
theorem lshr (C : Ctx p s m meth c Z own nm B ml rt) {x : Int64} {y : Int32} (hd : decode B pc = .ok (.lshr, 1)) (hq : pc + 1 = q) (k' : ∀ z : Int64, z = x >>> (y &&& 0x3f).toInt64 → Go p l e R s m args below meth c Z n0 P kc ks μ k n (mkF m q L (.long z :: st))) : Go p l e R s m args below meth c Z n0 P kc ks μ k n (mkF m pc L (.int y :: .long x :: st)) := by
  subst hq
  exact Go.pure (k' _ rfl) fun T h t hr => XS.lshr h C.1 rfl (hb C.2.1 hd) rfl hr
theorem lushr (C : Ctx p s m meth c Z own nm B ml rt) {x : Int64} {y : Int32} (hd : decode B pc = .ok (.lushr, 1)) (hq : pc + 1 = q) (k' : ∀ z : Int64, z = (x.toUInt64 >>> (y &&& 0x3f).toInt64.toUInt64).toInt64 → Go p l e R s m args below meth c Z n0 P kc ks μ k n (mkF m q L (.long z :: st))) : Go p l e R s m args below meth c Z n0 P kc ks μ k n (mkF m pc L (.int y :: .long x :: st)) := by
  subst hq
  exact Go.pure (k' _ rfl) fun T h t hr => XS.lushr h C.1 rfl (hb C.2.1 hd) rfl hr
theorem idiv (C : Ctx p s m meth c Z own nm B ml rt) {x y : Int32} (hd : decode B pc = .ok (.idiv, 1)) (hq : pc + 1 = q) (hy : y ≠ 0) (k' : ∀ z : Int32, z = x / y → Go p l e R s m args below meth c Z n0 P kc ks μ k n (mkF m q L (.int z :: st))) : Go p l e R s m args below meth c Z n0 P kc ks μ k n (mkF m pc L (.int y :: .int x :: st)) := by
  subst hq
  exact Go.pure (k' _ rfl) fun T h t hr => XS.idiv h C.1 rfl (hb C.2.1 hd) rfl hy hr
theorem irem (C : Ctx p s m meth c Z own nm B ml rt) {x y : Int32} (hd : decode B pc = .ok (.irem, 1)) (hq : pc + 1 = q) (hy : y ≠ 0) (k' : ∀ z : Int32, z = x % y → Go p l e R s m args below meth c Z n0 P kc ks μ k n (mkF m q L (.int z :: st))) : Go p l e R s m args below meth c Z n0 P kc ks μ k n (mkF m pc L (.int y :: .int x :: st)) := by
  subst hq
  exact Go.pure (k' _ rfl) fun T h t hr => XS.irem h C.1 rfl (hb C.2.1 hd) rfl hy (by rw [irem_eq_mod]; exact hr)
theorem ldiv (C : Ctx p s m meth c Z own nm B ml rt) {x y : Int64} (hd : decode B pc = .ok (.ldiv, 1)) (hq : pc + 1 = q) (hy : y ≠ 0) (k' : ∀ z : Int64, z = x / y → Go p l e R s m args below meth c Z n0 P kc ks μ k n (mkF m q L (.long z :: st))) : Go p l e R s m args below meth c Z n0 P kc ks μ k n (mkF m pc L (.long y :: .long x :: st)) := by
  subst hq
  exact Go.pure (k' _ rfl) fun T h t hr => XS.ldiv h C.1 rfl (hb C.2.1 hd) rfl hy hr
theorem lrem (C : Ctx p s m meth c Z own nm B ml rt) {x y : Int64} (hd : decode B pc = .ok (.lrem, 1)) (hq : pc + 1 = q) (hy : y ≠ 0) (k' : ∀ z : Int64, z = x - (x / y) * y → Go p l e R s m args below meth c Z n0 P kc ks μ k n (mkF m q L (.long z :: st))) : Go p l e R s m args below meth c Z n0 P kc ks μ k n (mkF m pc L (.long y :: .long x :: st)) := by
  subst hq
  exact Go.pure (k' _ rfl) fun T h t hr => XS.lrem h C.1 rfl (hb C.2.1 hd) rfl hy hr
theorem ineg (C : Ctx p s m meth c Z own nm B ml rt) {x : Int32} (hd : decode B pc = .ok (.ineg, 1)) (hq : pc + 1 = q) (k' : ∀ z : Int32, z = -x → Go p l e R s m args below meth c Z n0 P kc ks μ k n (mkF m q L (.int z :: st))) : Go p l e R s m args below meth c Z n0 P kc ks μ k n (mkF m pc L (.int x :: st)) := by
  subst hq
  exact Go.pure (k' _ rfl) fun T h t hr => XS.ineg h C.1 rfl (hb C.2.1 hd) rfl hr
theorem lneg (C : Ctx p s m meth c Z own nm B ml rt) {x : Int64} (hd : decode B pc = .ok (.lneg, 1)) (hq : pc + 1 = q) (k' : ∀ z : Int64, z = -x → Go p l e R s m args below meth c Z n0 P kc ks μ k n (mkF m q L (.long z :: st))) : Go p l e R s m args below meth c Z n0 P kc ks μ k n (mkF m pc L (.long x :: st)) := by
  subst hq
  exact Go.pure (k' _ rfl) fun T h t hr => XS.lneg h C.1 rfl (hb C.2.1 hd) rfl hr
theorem i2l (C : Ctx p s m meth c Z own nm B ml rt) {x : Int32} (hd : decode B pc = .ok (.i2l, 1)) (hq : pc + 1 = q) (k' : ∀ z : Int64, z = x.toInt64 → Go p l e R s m args below meth c Z n0 P kc ks μ k n (mkF m q L (.long z :: st))) : Go p l e R s m args below meth c Z n0 P kc ks μ k n (mkF m pc L (.int x :: st)) := by
  subst hq
  exact Go.pure (k' _ rfl) fun T h t hr => XS.i2l h C.1 rfl (hb C.2.1 hd) rfl hr
theorem l2i (C : Ctx p s m meth c Z own nm B ml rt) {x : Int64} (hd : decode B pc = .ok (.l2i, 1)) (hq : pc + 1 = q) (k' : ∀ z : Int32, z = x.toInt32 → Go p l e R s m args below meth c Z n0 P kc ks μ k n (mkF m q L (.int z :: st))) : Go p l e R s m args below meth c Z n0 P kc ks μ k n (mkF m pc L (.long x :: st)) := by
  subst hq
  exact Go.pure (k' _ rfl) fun T h t hr => XS.l2i h C.1 rfl (hb C.2.1 hd) rfl hr
theorem i2b (C : Ctx p s m meth c Z own nm B ml rt) {x : Int32} (hd : decode B pc = .ok (.i2b, 1)) (hq : pc + 1 = q) (k' : ∀ z : Int32, z = x.toInt8.toInt32 → Go p l e R s m args below meth c Z n0 P kc ks μ k n (mkF m q L (.int z :: st))) : Go p l e R s m args below meth c Z n0 P kc ks μ k n (mkF m pc L (.int x :: st)) := by
  subst hq
  exact Go.pure (k' _ rfl) fun T h t hr => XS.i2b h C.1 rfl (hb C.2.1 hd) rfl hr
theorem i2s (C : Ctx p s m meth c Z own nm B ml rt) {x : Int32} (hd : decode B pc = .ok (.i2s, 1)) (hq : pc + 1 = q) (k' : ∀ z : Int32, z = x.toInt16.toInt32 → Go p l e R s m args below meth c Z n0 P kc ks μ k n (mkF m q L (.int z :: st))) : Go p l e R s m args below meth c Z n0 P kc ks μ k n (mkF m pc L (.int x :: st)) := by
  subst hq
  exact Go.pure (k' _ rfl) fun T h t hr => XS.i2s h C.1 rfl (hb C.2.1 hd) rfl hr
theorem i2c (C : Ctx p s m meth c Z own nm B ml rt) {x : Int32} (hd : decode B pc = .ok (.i2c, 1)) (hq : pc + 1 = q) (k' : ∀ z : Int32, z = x.toUInt32.toUInt16.toUInt32.toInt32 → Go p l e R s m args below meth c Z n0 P kc ks μ k n (mkF m q L (.int z :: st))) : Go p l e R s m args below meth c Z n0 P kc ks μ k n (mkF m pc L (.int x :: st)) := by
  subst hq
  exact Go.pure (k' _ rfl) fun T h t hr => XS.i2c h C.1 rfl (hb C.2.1 hd) rfl hr
theorem iloadN (C : Ctx p s m meth c Z own nm B ml rt) {i : Fin 4} {v : Int32} (hd : decode B pc = .ok (.iload_n i, 1)) (hq : pc + 1 = q) (hl : L[i.val]? = some (.val (.int v))) (k' : Go p l e R s m args below meth c Z n0 P kc ks μ k n (mkF m q L (.int v :: st))) : Go p l e R s m args below meth c Z n0 P kc ks μ k n (mkF m pc L st) := by
  subst hq
  exact Go.pure k' fun T h t hr => XS.iloadN h C.1 rfl (hb C.2.1 hd) hl hr
theorem iload (C : Ctx p s m meth c Z own nm B ml rt) {i : Nat} {v : Int32} (hd : decode B pc = .ok (.iload i, 2)) (hq : pc + 2 = q) (hl : L[i]? = some (.val (.int v))) (k' : Go p l e R s m args below meth c Z n0 P kc ks μ k n (mkF m q L (.int v :: st))) : Go p l e R s m args below meth c Z n0 P kc ks μ k n (mkF m pc L st) := by
  subst hq
  exact Go.pure k' fun T h t hr => XS.iload h C.1 rfl (hb C.2.1 hd) hl hr
theorem istoreN (C : Ctx p s m meth c Z own nm B ml rt) {i : Fin 4} {v : Int32} (hd : decode B pc = .ok (.istore_n i, 1)) (hq : pc + 1 = q) (hl : storeLocals L i.val (.int v) = some L') (k' : Go p l e R s m args below meth c Z n0 P kc ks μ k n (mkF m q L' st)) : Go p l e R s m args below meth c Z n0 P kc ks μ k n (mkF m pc L (.int v :: st)) := by
  subst hq
  exact Go.pure k' fun T h t hr => XS.istoreN h C.1 rfl (hb C.2.1 hd) rfl hl hr
theorem istore (C : Ctx p s m meth c Z own nm B ml rt) {i : Nat} {v : Int32} (hd : decode B pc = .ok (.istore i, 2)) (hq : pc + 2 = q) (hl : storeLocals L i (.int v) = some L') (k' : Go p l e R s m args below meth c Z n0 P kc ks μ k n (mkF m q L' st)) : Go p l e R s m args below meth c Z n0 P kc ks μ k n (mkF m pc L (.int v :: st)) := by
  subst hq
  exact Go.pure k' fun T h t hr => XS.istore h C.1 rfl (hb C.2.1 hd) rfl hl hr
theorem lloadN (C : Ctx p s m meth c Z own nm B ml rt) {i : Fin 4} {v : Int64} (hd : decode B pc = .ok (.lload_n i, 1)) (hq : pc + 1 = q) (hl : L[i.val]? = some (.val (.long v))) (k' : Go p l e R s m args below meth c Z n0 P kc ks μ k n (mkF m q L (.long v :: st))) : Go p l e R s m args below meth c Z n0 P kc ks μ k n (mkF m pc L st) := by
  subst hq
  exact Go.pure k' fun T h t hr => XS.lloadN h C.1 rfl (hb C.2.1 hd) hl hr
theorem lload (C : Ctx p s m meth c Z own nm B ml rt) {i : Nat} {v : Int64} (hd : decode B pc = .ok (.lload i, 2)) (hq : pc + 2 = q) (hl : L[i]? = some (.val (.long v))) (k' : Go p l e R s m args below meth c Z n0 P kc ks μ k n (mkF m q L (.long v :: st))) : Go p l e R s m args below meth c Z n0 P kc ks μ k n (mkF m pc L st) := by
  subst hq
  exact Go.pure k' fun T h t hr => XS.lload h C.1 rfl (hb C.2.1 hd) hl hr
theorem lstoreN (C : Ctx p s m meth c Z own nm B ml rt) {i : Fin 4} {v : Int64} (hd : decode B pc = .ok (.lstore_n i, 1)) (hq : pc + 1 = q) (hl : storeLocals L i.val (.long v) = some L') (k' : Go p l e R s m args below meth c Z n0 P kc ks μ k n (mkF m q L' st)) : Go p l e R s m args below meth c Z n0 P kc ks μ k n (mkF m pc L (.long v :: st)) := by
  subst hq
  exact Go.pure k' fun T h t hr => XS.lstoreN h C.1 rfl (hb C.2.1 hd) rfl hl hr
theorem lstore (C : Ctx p s m meth c Z own nm B ml rt) {i : Nat} {v : Int64} (hd : decode B pc = .ok (.lstore i, 2)) (hq : pc + 2 = q) (hl : storeLocals L i (.long v) = some L') (k' : Go p l e R s m args below meth c Z n0 P kc ks μ k n (mkF m q L' st)) : Go p l e R s m args below meth c Z n0 P kc ks μ k n (mkF m pc L (.long v :: st)) := by
  subst hq
  exact Go.pure k' fun T h t hr => XS.lstore h C.1 rfl (hb C.2.1 hd) rfl hl hr
theorem aloadN (C : Ctx p s m meth c Z own nm B ml rt) {i : Fin 4} {v : Value} (hd : decode B pc = .ok (.aload_n i, 1)) (hq : pc + 1 = q) (hl : L[i.val]? = some (.val v)) (hv : v.isRef = true) (k' : Go p l e R s m args below meth c Z n0 P kc ks μ k n (mkF m q L (v :: st))) : Go p l e R s m args below meth c Z n0 P kc ks μ k n (mkF m pc L st) := by
  subst hq
  exact Go.pure k' fun T h t hr => XS.aloadN h C.1 rfl (hb C.2.1 hd) hl hv hr
theorem aload (C : Ctx p s m meth c Z own nm B ml rt) {i : Nat} {v : Value} (hd : decode B pc = .ok (.aload i, 2)) (hq : pc + 2 = q) (hl : L[i]? = some (.val v)) (hv : v.isRef = true) (k' : Go p l e R s m args below meth c Z n0 P kc ks μ k n (mkF m q L (v :: st))) : Go p l e R s m args below meth c Z n0 P kc ks μ k n (mkF m pc L st) := by
  subst hq
  exact Go.pure k' fun T h t hr => XS.aload h C.1 rfl (hb C.2.1 hd) hl hv hr
theorem astoreN (C : Ctx p s m meth c Z own nm B ml rt) {i : Fin 4} {v : Value} (hd : decode B pc = .ok (.astore_n i, 1)) (hq : pc + 1 = q) (hl : storeLocals L i.val v = some L') (hv : v.isRef = true) (k' : Go p l e R s m args below meth c Z n0 P kc ks μ k n (mkF m q L' st)) : Go p l e R s m args below meth c Z n0 P kc ks μ k n (mkF m pc L (v :: st)) := by
  subst hq
  exact Go.pure k' fun T h t hr => XS.astoreN h C.1 rfl (hb C.2.1 hd) rfl hv hl hr
theorem astore (C : Ctx p s m meth c Z own nm B ml rt) {i : Nat} {v : Value} (hd : decode B pc = .ok (.astore i, 2)) (hq : pc + 2 = q) (hl : storeLocals L i v = some L') (hv : v.isRef = true) (k' : Go p l e R s m args below meth c Z n0 P kc ks μ k n (mkF m q L' st)) : Go p l e R s m args below meth c Z n0 P kc ks μ k n (mkF m pc L (v :: st)) := by
  subst hq
  exact Go.pure k' fun T h t hr => XS.astore h C.1 rfl (hb C.2.1 hd) rfl hv hl hr
theorem iconst (C : Ctx p s m meth c Z own nm B ml rt) {i : Int} {z : Int32} (hd : decode B pc = .ok (.iconst i, 1)) (hq : pc + 1 = q) (hz : Int32.ofInt i = z) (k' : Go p l e R s m args below meth c Z n0 P kc ks μ k n (mkF m q L (.int z :: st))) : Go p l e R s m args below meth c Z n0 P kc ks μ k n (mkF m pc L st) := by
  subst hq
  exact Go.pure k' fun T h t hr => XS.iconst h C.1 rfl (hb C.2.1 hd) (by rw [hz]; exact hr)
theorem bipush (C : Ctx p s m meth c Z own nm B ml rt) {i : Int} {z : Int32} (hd : decode B pc = .ok (.bipush i, 2)) (hq : pc + 2 = q) (hz : (Int8.ofInt i).toInt32 = z) (k' : Go p l e R s m args below meth c Z n0 P kc ks μ k n (mkF m q L (.int z :: st))) : Go p l e R s m args below meth c Z n0 P kc ks μ k n (mkF m pc L st) := by
  subst hq
  exact Go.pure k' fun T h t hr => XS.bipush h C.1 rfl (hb C.2.1 hd) (by rw [hz]; exact hr)
theorem sipush (C : Ctx p s m meth c Z own nm B ml rt) {i : Int} {z : Int32} (hd : decode B pc = .ok (.sipush i, 3)) (hq : pc + 3 = q) (hz : (Int16.ofInt i).toInt32 = z) (k' : Go p l e R s m args below meth c Z n0 P kc ks μ k n (mkF m q L (.int z :: st))) : Go p l e R s m args below meth c Z n0 P kc ks μ k n (mkF m pc L st) := by
  subst hq
  exact Go.pure k' fun T h t hr => XS.sipush h C.1 rfl (hb C.2.1 hd) (by rw [hz]; exact hr)
theorem lconst (C : Ctx p s m meth c Z own nm B ml rt) {i : Fin 2} {z : Int64} (hd : decode B pc = .ok (.lconst i, 1)) (hq : pc + 1 = q) (hz : Int64.ofNat i = z) (k' : Go p l e R s m args below meth c Z n0 P kc ks μ k n (mkF m q L (.long z :: st))) : Go p l e R s m args below meth c Z n0 P kc ks μ k n (mkF m pc L st) := by
  subst hq
  exact Go.pure k' fun T h t hr => XS.lconst h C.1 rfl (hb C.2.1 hd) (by rw [hz]; exact hr)
theorem aconstNull (C : Ctx p s m meth c Z own nm B ml rt)  (hd : decode B pc = .ok (.aconst_null, 1)) (hq : pc + 1 = q) (k' : Go p l e R s m args below meth c Z n0 P kc ks μ k n (mkF m q L (.null :: st))) : Go p l e R s m args below meth c Z n0 P kc ks μ k n (mkF m pc L st) := by
  subst hq
  exact Go.pure k' fun T h t hr => XS.aconstNull h C.1 rfl (hb C.2.1 hd) hr
theorem dup (C : Ctx p s m meth c Z own nm B ml rt) {v : Value} (hd : decode B pc = .ok (.dup, 1)) (hq : pc + 1 = q) (hv : v.category = 1) (k' : Go p l e R s m args below meth c Z n0 P kc ks μ k n (mkF m q L (v :: v :: st))) : Go p l e R s m args below meth c Z n0 P kc ks μ k n (mkF m pc L (v :: st)) := by
  subst hq
  exact Go.pure k' fun T h t hr => XS.dup h C.1 rfl (hb C.2.1 hd) rfl hv hr
theorem pop (C : Ctx p s m meth c Z own nm B ml rt) {v : Value} (hd : decode B pc = .ok (.pop, 1)) (hq : pc + 1 = q) (hv : v.category = 1) (k' : Go p l e R s m args below meth c Z n0 P kc ks μ k n (mkF m q L st)) : Go p l e R s m args below meth c Z n0 P kc ks μ k n (mkF m pc L (v :: st)) := by
  subst hq
  exact Go.pure k' fun T h t hr => XS.pop h C.1 rfl (hb C.2.1 hd) rfl hv hr
theorem dupX1 (C : Ctx p s m meth c Z own nm B ml rt) {v w : Value} (hd : decode B pc = .ok (.dup_x1, 1)) (hq : pc + 1 = q) (hv : v.category = 1) (hw : w.category = 1) (k' : Go p l e R s m args below meth c Z n0 P kc ks μ k n (mkF m q L (v :: w :: v :: st))) : Go p l e R s m args below meth c Z n0 P kc ks μ k n (mkF m pc L (v :: w :: st)) := by
  subst hq
  exact Go.pure k' fun T h t hr => XS.dupX1 h C.1 rfl (hb C.2.1 hd) rfl hv hw hr
theorem dup2 (C : Ctx p s m meth c Z own nm B ml rt) {v w : Value} (hd : decode B pc = .ok (.dup2, 1)) (hq : pc + 1 = q) (hv : v.category = 1) (hw : w.category = 1) (k' : Go p l e R s m args below meth c Z n0 P kc ks μ k n (mkF m q L (v :: w :: v :: w :: st))) : Go p l e R s m args below meth c Z n0 P kc ks μ k n (mkF m pc L (v :: w :: st)) := by
  subst hq
  exact Go.pure k' fun T h t hr => XT.dup2 h C.1 rfl (hb C.2.1 hd) rfl hv hw hr
theorem dup2L (C : Ctx p s m meth c Z own nm B ml rt) {x : Int64} (hd : decode B pc = .ok (.dup2, 1)) (hq : pc + 1 = q) (k' : Go p l e R s m args below meth c Z n0 P kc ks μ k n (mkF m q L (.long x :: .long x :: st))) : Go p l e R s m args below meth c Z n0 P kc ks μ k n (mkF m pc L (.long x :: st)) := by
  subst hq
  exact Go.pure k' fun T h t hr => XT.dup2L h C.1 rfl (hb C.2.1 hd) rfl hr
theorem iinc (C : Ctx p s m meth c Z own nm B ml rt) {i : Nat} {d : Int} {x z : Int32} (hd : decode B pc = .ok (.iinc i d, 3)) (hq : pc + 3 = q) (hl : L[i]? = some (.val (.int x))) (hz : x + Int32.ofInt d = z) (hl' : storeLocals L i (.int z) = some L') (k' : Go p l e R s m args below meth c Z n0 P kc ks μ k n (mkF m q L' st)) : Go p l e R s m args below meth c Z n0 P kc ks μ k n (mkF m pc L st) := by
  subst hq
  exact Go.pure k' fun T h t hr => XS.iinc h C.1 rfl (hb C.2.1 hd) hl (by rw [hz]; exact hl') hr
theorem goto (C : Ctx p s m meth c Z own nm B ml rt) {o : Int} (hd : decode B pc = .ok (.goto o, 3)) (hq : 0 ≤ (pc : Int) + o ∧ ((pc : Int) + o).toNat = q) (k' : Go p l e R s m args below meth c Z n0 P kc ks μ k n (mkF m q L st)) : Go p l e R s m args below meth c Z n0 P kc ks μ k n (mkF m pc L st) := Go.pure k' fun T h t hr => XS.goto h C.1 rfl rfl (hb C.2.1 hd) hq.1 hq.2 hr
theorem icmp_eq (C : Ctx p s m meth c Z own nm B ml rt) {x y : Int32} {o : Int} {r : Nat} (hd : decode B pc = .ok (.if_icmp .eq o, 3)) (hq : pc + 3 = q) (hr : 0 ≤ (pc : Int) + o ∧ ((pc : Int) + o).toNat = r) (ky : x = y → Go p l e R s m args below meth c Z n0 P kc ks μ k n (mkF m r L st)) (kn : ¬ x = y → Go p l e R s m args below meth c Z n0 P kc ks μ k n (mkF m q L st)) : Go p l e R s m args below meth c Z n0 P kc ks μ k n (mkF m pc L (.int y :: .int x :: st)) := by
  subst hq
  by_cases hc : x = y
  · exact Go.pure (ky hc) fun T h t k => XS.icmpYes h C.1 rfl rfl (hb C.2.1 hd) rfl (XT.ii_eq_t hc) hr.1 hr.2 k
  · exact Go.pure (kn (by first | exact hc | exact Decidable.of_not_not hc)) fun T h t k => XS.icmpNo h C.1 rfl (hb C.2.1 hd) rfl (XT.ii_eq_f (by first | exact hc | exact Decidable.of_not_not hc)) k
theorem if_eq (C : Ctx p s m meth c Z own nm B ml rt) {x : Int32} {o : Int} {r : Nat} (hd : decode B pc = .ok (.ifCond .eq o, 3)) (hq : pc + 3 = q) (hr : 0 ≤ (pc : Int) + o ∧ ((pc : Int) + o).toNat = r) (ky : x = 0 → Go p l e R s m args below meth c Z n0 P kc ks μ k n (mkF m r L st)) (kn : ¬ x = 0 → Go p l e R s m args below meth c Z n0 P kc ks μ k n (mkF m q L st)) : Go p l e R s m args below meth c Z n0 P kc ks μ k n (mkF m pc L (.int x :: st)) := by
  subst hq
  by_cases hc : x = 0
  · exact Go.pure (ky hc) fun T h t k => XS.ifYes h C.1 rfl rfl (hb C.2.1 hd) rfl (XT.i0_eq_t hc) hr.1 hr.2 k
  · exact Go.pure (kn (by first | exact hc | exact Decidable.of_not_not hc)) fun T h t k => XS.ifNo h C.1 rfl (hb C.2.1 hd) rfl (XT.i0_eq_f (by first | exact hc | exact Decidable.of_not_not hc)) k
theorem lcmp_eq (C : Ctx p s m meth c Z own nm B ml rt) {x y : Int64} {o : Int} {r pc1 : Nat} (hd0 : decode B pc = .ok (.lcmp, 1)) (h1 : pc + 1 = pc1) (hd : decode B pc1 = .ok (.ifCond .eq o, 3)) (hq : pc1 + 3 = q) (hr : 0 ≤ (pc1 : Int) + o ∧ ((pc1 : Int) + o).toNat = r) (ky : x = y → Go p l e R s m args below meth c Z n0 P kc ks μ k n (mkF m r L st)) (kn : ¬ x = y → Go p l e R s m args below meth c Z n0 P kc ks μ k n (mkF m q L st)) : Go p l e R s m args below meth c Z n0 P kc ks μ k n (mkF m pc L (.long y :: .long x :: st)) := by
  subst hq h1
  refine Go.pure (g' := mkF m (pc + 1) L (.int (XT.cmpL x y) :: st)) ?_ fun T h t k => XT.lcmp h C.1 rfl (hb C.2.1 hd0) rfl k
  by_cases hc : x = y
  · exact Go.pure (ky hc) fun T h t k => XS.ifYes h C.1 rfl rfl (hb C.2.1 hd) rfl (XT.ll_eq_t hc) hr.1 hr.2 k
  · exact Go.pure (kn (by first | exact hc | exact Decidable.of_not_not hc)) fun T h t k => XS.ifNo h C.1 rfl (hb C.2.1 hd) rfl (XT.ll_eq_f (by first | exact hc | exact Decidable.of_not_not hc)) k
theorem icmp_ne (C : Ctx p s m meth c Z own nm B ml rt) {x y : Int32} {o : Int} {r : Nat} (hd : decode B pc = .ok (.if_icmp .ne o, 3)) (hq : pc + 3 = q) (hr : 0 ≤ (pc : Int) + o ∧ ((pc : Int) + o).toNat = r) (ky : ¬ x = y → Go p l e R s m args below meth c Z n0 P kc ks μ k n (mkF m r L st)) (kn : x = y → Go p l e R s m args below meth c Z n0 P kc ks μ k n (mkF m q L st)) : Go p l e R s m args below meth c Z n0 P kc ks μ k n (mkF m pc L (.int y :: .int x :: st)) := by
  subst hq
  by_cases hc : ¬ x = y
  · exact Go.pure (ky hc) fun T h t k => XS.icmpYes h C.1 rfl rfl (hb C.2.1 hd) rfl (XT.ii_ne_t hc) hr.1 hr.2 k
  · exact Go.pure (kn (by first | exact hc | exact Decidable.of_not_not hc)) fun T h t k => XS.icmpNo h C.1 rfl (hb C.2.1 hd) rfl (XT.ii_ne_f (by first | exact hc | exact Decidable.of_not_not hc)) k
theorem if_ne (C : Ctx p s m meth c Z own nm B ml rt) {x : Int32} {o : Int} {r : Nat} (hd : decode B pc = .ok (.ifCond .ne o, 3)) (hq : pc + 3 = q) (hr : 0 ≤ (pc : Int) + o ∧ ((pc : Int) + o).toNat = r) (ky : ¬ x = 0 → Go p l e R s m args below meth c Z n0 P kc ks μ k n (mkF m r L st)) (kn : x = 0 → Go p l e R s m args below meth c Z n0 P kc ks μ k n (mkF m q L st)) : Go p l e R s m args below meth c Z n0 P kc ks μ k n (mkF m pc L (.int x :: st)) := by
  subst hq
  by_cases hc : ¬ x = 0
  · exact Go.pure (ky hc) fun T h t k => XS.ifYes h C.1 rfl rfl (hb C.2.1 hd) rfl (XT.i0_ne_t hc) hr.1 hr.2 k
  · exact Go.pure (kn (by first | exact hc | exact Decidable.of_not_not hc)) fun T h t k => XS.ifNo h C.1 rfl (hb C.2.1 hd) rfl (XT.i0_ne_f (by first | exact hc | exact Decidable.of_not_not hc)) k
theorem lcmp_ne (C : Ctx p s m meth c Z own nm B ml rt) {x y : Int64} {o : Int} {r pc1 : Nat} (hd0 : decode B pc = .ok (.lcmp, 1)) (h1 : pc + 1 = pc1) (hd : decode B pc1 = .ok (.ifCond .ne o, 3)) (hq : pc1 + 3 = q) (hr : 0 ≤ (pc1 : Int) + o ∧ ((pc1 : Int) + o).toNat = r) (ky : ¬ x = y → Go p l e R s m args below meth c Z n0 P kc ks μ k n (mkF m r L st)) (kn : x = y → Go p l e R s m args below meth c Z n0 P kc ks μ k n (mkF m q L st)) : Go p l e R s m args below meth c Z n0 P kc ks μ k n (mkF m pc L (.long y :: .long x :: st)) := by
  subst hq h1
  refine Go.pure (g' := mkF m (pc + 1) L (.int (XT.cmpL x y) :: st)) ?_ fun T h t k => XT.lcmp h C.1 rfl (hb C.2.1 hd0) rfl k
  by_cases hc : ¬ x = y
  · exact Go.pure (ky hc) fun T h t k => XS.ifYes h C.1 rfl rfl (hb C.2.1 hd) rfl (XT.ll_ne_t hc) hr.1 hr.2 k
  · exact Go.pure (kn (by first | exact hc | exact Decidable.of_not_not hc)) fun T h t k => XS.ifNo h C.1 rfl (hb C.2.1 hd) rfl (XT.ll_ne_f (by first | exact hc | exact Decidable.of_not_not hc)) k
theorem icmp_lt (C : Ctx p s m meth c Z own nm B ml rt) {x y : Int32} {o : Int} {r : Nat} (hd : decode B pc = .ok (.if_icmp .lt o, 3)) (hq : pc + 3 = q) (hr : 0 ≤ (pc : Int) + o ∧ ((pc : Int) + o).toNat = r) (ky : x < y → Go p l e R s m args below meth c Z n0 P kc ks μ k n (mkF m r L st)) (kn : ¬ x < y → Go p l e R s m args below meth c Z n0 P kc ks μ k n (mkF m q L st)) : Go p l e R s m args below meth c Z n0 P kc ks μ k n (mkF m pc L (.int y :: .int x :: st)) := by
  subst hq
  by_cases hc : x < y
  · exact Go.pure (ky hc) fun T h t k => XS.icmpYes h C.1 rfl rfl (hb C.2.1 hd) rfl (XT.ii_lt_t hc) hr.1 hr.2 k
  · exact Go.pure (kn (by first | exact hc | exact Decidable.of_not_not hc)) fun T h t k => XS.icmpNo h C.1 rfl (hb C.2.1 hd) rfl (XT.ii_lt_f (by first | exact hc | exact Decidable.of_not_not hc)) k
theorem if_lt (C : Ctx p s m meth c Z own nm B ml rt) {x : Int32} {o : Int} {r : Nat} (hd : decode B pc = .ok (.ifCond .lt o, 3)) (hq : pc + 3 = q) (hr : 0 ≤ (pc : Int) + o ∧ ((pc : Int) + o).toNat = r) (ky : x < 0 → Go p l e R s m args below meth c Z n0 P kc ks μ k n (mkF m r L st)) (kn : ¬ x < 0 → Go p l e R s m args below meth c Z n0 P kc ks μ k n (mkF m q L st)) : Go p l e R s m args below meth c Z n0 P kc ks μ k n (mkF m pc L (.int x :: st)) := by
  subst hq
  by_cases hc : x < 0
  · exact Go.pure (ky hc) fun T h t k => XS.ifYes h C.1 rfl rfl (hb C.2.1 hd) rfl (XT.i0_lt_t hc) hr.1 hr.2 k
  · exact Go.pure (kn (by first | exact hc | exact Decidable.of_not_not hc)) fun T h t k => XS.ifNo h C.1 rfl (hb C.2.1 hd) rfl (XT.i0_lt_f (by first | exact hc | exact Decidable.of_not_not hc)) k
theorem lcmp_lt (C : Ctx p s m meth c Z own nm B ml rt) {x y : Int64} {o : Int} {r pc1 : Nat} (hd0 : decode B pc = .ok (.lcmp, 1)) (h1 : pc + 1 = pc1) (hd : decode B pc1 = .ok (.ifCond .lt o, 3)) (hq : pc1 + 3 = q) (hr : 0 ≤ (pc1 : Int) + o ∧ ((pc1 : Int) + o).toNat = r) (ky : x < y → Go p l e R s m args below meth c Z n0 P kc ks μ k n (mkF m r L st)) (kn : ¬ x < y → Go p l e R s m args below meth c Z n0 P kc ks μ k n (mkF m q L st)) : Go p l e R s m args below meth c Z n0 P kc ks μ k n (mkF m pc L (.long y :: .long x :: st)) := by
  subst hq h1
  refine Go.pure (g' := mkF m (pc + 1) L (.int (XT.cmpL x y) :: st)) ?_ fun T h t k => XT.lcmp h C.1 rfl (hb C.2.1 hd0) rfl k
  by_cases hc : x < y
  · exact Go.pure (ky hc) fun T h t k => XS.ifYes h C.1 rfl rfl (hb C.2.1 hd) rfl (XT.ll_lt_t hc) hr.1 hr.2 k
  · exact Go.pure (kn (by first | exact hc | exact Decidable.of_not_not hc)) fun T h t k => XS.ifNo h C.1 rfl (hb C.2.1 hd) rfl (XT.ll_lt_f (by first | exact hc | exact Decidable.of_not_not hc)) k
theorem icmp_ge (C : Ctx p s m meth c Z own nm B ml rt) {x y : Int32} {o : Int} {r : Nat} (hd : decode B pc = .ok (.if_icmp .ge o, 3)) (hq : pc + 3 = q) (hr : 0 ≤ (pc : Int) + o ∧ ((pc : Int) + o).toNat = r) (ky : ¬ x < y → Go p l e R s m args below meth c Z n0 P kc ks μ k n (mkF m r L st)) (kn : x < y → Go p l e R s m args below meth c Z n0 P kc ks μ k n (mkF m q L st)) : Go p l e R s m args below meth c Z n0 P kc ks μ k n (mkF m pc L (.int y :: .int x :: st)) := by
  subst hq
  by_cases hc : ¬ x < y
  · exact Go.pure (ky hc) fun T h t k => XS.icmpYes h C.1 rfl rfl (hb C.2.1 hd) rfl (XT.ii_ge_t hc) hr.1 hr.2 k
  · exact Go.pure (kn (by first | exact hc | exact Decidable.of_not_not hc)) fun T h t k => XS.icmpNo h C.1 rfl (hb C.2.1 hd) rfl (XT.ii_ge_f (by first | exact hc | exact Decidable.of_not_not hc)) k
theorem if_ge (C : Ctx p s m meth c Z own nm B ml rt) {x : Int32} {o : Int} {r : Nat} (hd : decode B pc = .ok (.ifCond .ge o, 3)) (hq : pc + 3 = q) (hr : 0 ≤ (pc : Int) + o ∧ ((pc : Int) + o).toNat = r) (ky : ¬ x < 0 → Go p l e R s m args below meth c Z n0 P kc ks μ k n (mkF m r L st)) (kn : x < 0 → Go p l e R s m args below meth c Z n0 P kc ks μ k n (mkF m q L st)) : Go p l e R s m args below meth c Z n0 P kc ks μ k n (mkF m pc L (.int x :: st)) := by
  subst hq
  by_cases hc : ¬ x < 0
  · exact Go.pure (ky hc) fun T h t k => XS.ifYes h C.1 rfl rfl (hb C.2.1 hd) rfl (XT.i0_ge_t hc) hr.1 hr.2 k
  · exact Go.pure (kn (by first | exact hc | exact Decidable.of_not_not hc)) fun T h t k => XS.ifNo h C.1 rfl (hb C.2.1 hd) rfl (XT.i0_ge_f (by first | exact hc | exact Decidable.of_not_not hc)) k
theorem lcmp_ge (C : Ctx p s m meth c Z own nm B ml rt) {x y : Int64} {o : Int} {r pc1 : Nat} (hd0 : decode B pc = .ok (.lcmp, 1)) (h1 : pc + 1 = pc1) (hd : decode B pc1 = .ok (.ifCond .ge o, 3)) (hq : pc1 + 3 = q) (hr : 0 ≤ (pc1 : Int) + o ∧ ((pc1 : Int) + o).toNat = r) (ky : ¬ x < y → Go p l e R s m args below meth c Z n0 P kc ks μ k n (mkF m r L st)) (kn : x < y → Go p l e R s m args below meth c Z n0 P kc ks μ k n (mkF m q L st)) : Go p l e R s m args below meth c Z n0 P kc ks μ k n (mkF m pc L (.long y :: .long x :: st)) := by
  subst hq h1
  refine Go.pure (g' := mkF m (pc + 1) L (.int (XT.cmpL x y) :: st)) ?_ fun T h t k => XT.lcmp h C.1 rfl (hb C.2.1 hd0) rfl k
  by_cases hc : ¬ x < y
  · exact Go.pure (ky hc) fun T h t k => XS.ifYes h C.1 rfl rfl (hb C.2.1 hd) rfl (XT.ll_ge_t hc) hr.1 hr.2 k
  · exact Go.pure (kn (by first | exact hc | exact Decidable.of_not_not hc)) fun T h t k => XS.ifNo h C.1 rfl (hb C.2.1 hd) rfl (XT.ll_ge_f (by first | exact hc | exact Decidable.of_not_not hc)) k
theorem icmp_gt (C : Ctx p s m meth c Z own nm B ml rt) {x y : Int32} {o : Int} {r : Nat} (hd : decode B pc = .ok (.if_icmp .gt o, 3)) (hq : pc + 3 = q) (hr : 0 ≤ (pc : Int) + o ∧ ((pc : Int) + o).toNat = r) (ky : y < x → Go p l e R s m args below meth c Z n0 P kc ks μ k n (mkF m r L st)) (kn : ¬ y < x → Go p l e R s m args below meth c Z n0 P kc ks μ k n (mkF m q L st)) : Go p l e R s m args below meth c Z n0 P kc ks μ k n (mkF m pc L (.int y :: .int x :: st)) := by
  subst hq
  by_cases hc : y < x
  · exact Go.pure (ky hc) fun T h t k => XS.icmpYes h C.1 rfl rfl (hb C.2.1 hd) rfl (XT.ii_gt_t hc) hr.1 hr.2 k
  · exact Go.pure (kn (by first | exact hc | exact Decidable.of_not_not hc)) fun T h t k => XS.icmpNo h C.1 rfl (hb C.2.1 hd) rfl (XT.ii_gt_f (by first | exact hc | exact Decidable.of_not_not hc)) k
theorem if_gt (C : Ctx p s m meth c Z own nm B ml rt) {x : Int32} {o : Int} {r : Nat} (hd : decode B pc = .ok (.ifCond .gt o, 3)) (hq : pc + 3 = q) (hr : 0 ≤ (pc : Int) + o ∧ ((pc : Int) + o).toNat = r) (ky : 0 < x → Go p l e R s m args below meth c Z n0 P kc ks μ k n (mkF m r L st)) (kn : ¬ 0 < x → Go p l e R s m args below meth c Z n0 P kc ks μ k n (mkF m q L st)) : Go p l e R s m args below meth c Z n0 P kc ks μ k n (mkF m pc L (.int x :: st)) := by
  subst hq
  by_cases hc : 0 < x
  · exact Go.pure (ky hc) fun T h t k => XS.ifYes h C.1 rfl rfl (hb C.2.1 hd) rfl (XT.i0_gt_t hc) hr.1 hr.2 k
  · exact Go.pure (kn (by first | exact hc | exact Decidable.of_not_not hc)) fun T h t k => XS.ifNo h C.1 rfl (hb C.2.1 hd) rfl (XT.i0_gt_f (by first | exact hc | exact Decidable.of_not_not hc)) k
theorem lcmp_gt (C : Ctx p s m meth c Z own nm B ml rt) {x y : Int64} {o : Int} {r pc1 : Nat} (hd0 : decode B pc = .ok (.lcmp, 1)) (h1 : pc + 1 = pc1) (hd : decode B pc1 = .ok (.ifCond .gt o, 3)) (hq : pc1 + 3 = q) (hr : 0 ≤ (pc1 : Int) + o ∧ ((pc1 : Int) + o).toNat = r) (ky : y < x → Go p l e R s m args below meth c Z n0 P kc ks μ k n (mkF m r L st)) (kn : ¬ y < x → Go p l e R s m args below meth c Z n0 P kc ks μ k n (mkF m q L st)) : Go p l e R s m args below meth c Z n0 P kc ks μ k n (mkF m pc L (.long y :: .long x :: st)) := by
  subst hq h1
  refine Go.pure (g' := mkF m (pc + 1) L (.int (XT.cmpL x y) :: st)) ?_ fun T h t k => XT.lcmp h C.1 rfl (hb C.2.1 hd0) rfl k
  by_cases hc : y < x
  · exact Go.pure (ky hc) fun T h t k => XS.ifYes h C.1 rfl rfl (hb C.2.1 hd) rfl (XT.ll_gt_t hc) hr.1 hr.2 k
  · exact Go.pure (kn (by first | exact hc | exact Decidable.of_not_not hc)) fun T h t k => XS.ifNo h C.1 rfl (hb C.2.1 hd) rfl (XT.ll_gt_f (by first | exact hc | exact Decidable.of_not_not hc)) k
theorem icmp_le (C : Ctx p s m meth c Z own nm B ml rt) {x y : Int32} {o : Int} {r : Nat} (hd : decode B pc = .ok (.if_icmp .le o, 3)) (hq : pc + 3 = q) (hr : 0 ≤ (pc : Int) + o ∧ ((pc : Int) + o).toNat = r) (ky : ¬ y < x → Go p l e R s m args below meth c Z n0 P kc ks μ k n (mkF m r L st)) (kn : y < x → Go p l e R s m args below meth c Z n0 P kc ks μ k n (mkF m q L st)) : Go p l e R s m args below meth c Z n0 P kc ks μ k n (mkF m pc L (.int y :: .int x :: st)) := by
  subst hq
  by_cases hc : ¬ y < x
  · exact Go.pure (ky hc) fun T h t k => XS.icmpYes h C.1 rfl rfl (hb C.2.1 hd) rfl (XT.ii_le_t hc) hr.1 hr.2 k
  · exact Go.pure (kn (by first | exact hc | exact Decidable.of_not_not hc)) fun T h t k => XS.icmpNo h C.1 rfl (hb C.2.1 hd) rfl (XT.ii_le_f (by first | exact hc | exact Decidable.of_not_not hc)) k
theorem if_le (C : Ctx p s m meth c Z own nm B ml rt) {x : Int32} {o : Int} {r : Nat} (hd : decode B pc = .ok (.ifCond .le o, 3)) (hq : pc + 3 = q) (hr : 0 ≤ (pc : Int) + o ∧ ((pc : Int) + o).toNat = r) (ky : ¬ 0 < x → Go p l e R s m args below meth c Z n0 P kc ks μ k n (mkF m r L st)) (kn : 0 < x → Go p l e R s m args below meth c Z n0 P kc ks μ k n (mkF m q L st)) : Go p l e R s m args below meth c Z n0 P kc ks μ k n (mkF m pc L (.int x :: st)) := by
  subst hq
  by_cases hc : ¬ 0 < x
  · exact Go.pure (ky hc) fun T h t k => XS.ifYes h C.1 rfl rfl (hb C.2.1 hd) rfl (XT.i0_le_t hc) hr.1 hr.2 k
  · exact Go.pure (kn (by first | exact hc | exact Decidable.of_not_not hc)) fun T h t k => XS.ifNo h C.1 rfl (hb C.2.1 hd) rfl (XT.i0_le_f (by first | exact hc | exact Decidable.of_not_not hc)) k
theorem lcmp_le (C : Ctx p s m meth c Z own nm B ml rt) {x y : Int64} {o : Int} {r pc1 : Nat} (hd0 : decode B pc = .ok (.lcmp, 1)) (h1 : pc + 1 = pc1) (hd : decode B pc1 = .ok (.ifCond .le o, 3)) (hq : pc1 + 3 = q) (hr : 0 ≤ (pc1 : Int) + o ∧ ((pc1 : Int) + o).toNat = r) (ky : ¬ y < x → Go p l e R s m args below meth c Z n0 P kc ks μ k n (mkF m r L st)) (kn : y < x → Go p l e R s m args below meth c Z n0 P kc ks μ k n (mkF m q L st)) : Go p l e R s m args below meth c Z n0 P kc ks μ k n (mkF m pc L (.long y :: .long x :: st)) := by
  subst hq h1
  refine Go.pure (g' := mkF m (pc + 1) L (.int (XT.cmpL x y) :: st)) ?_ fun T h t k => XT.lcmp h C.1 rfl (hb C.2.1 hd0) rfl k
  by_cases hc : ¬ y < x
  · exact Go.pure (ky hc) fun T h t k => XS.ifYes h C.1 rfl rfl (hb C.2.1 hd) rfl (XT.ll_le_t hc) hr.1 hr.2 k
  · exact Go.pure (kn (by first | exact hc | exact Decidable.of_not_not hc)) fun T h t k => XS.ifNo h C.1 rfl (hb C.2.1 hd) rfl (XT.ll_le_f (by first | exact hc | exact Decidable.of_not_not hc)) k
theorem ifnullY (C : Ctx p s m meth c Z own nm B ml rt) {o : Int} {b : Addr} (hd : decode B pc = .ok (.ifnull o, 3)) (hq : 0 ≤ (pc : Int) + o ∧ ((pc : Int) + o).toNat = q) (k' : Go p l e R s m args below meth c Z n0 P kc ks μ k n (mkF m q L st)) : Go p l e R s m args below meth c Z n0 P kc ks μ k n (mkF m pc L (.null :: st)) := Go.pure k' fun T h t hr => XS.ifnullYes h C.1 rfl rfl (hb C.2.1 hd) rfl hq.1 hq.2 hr
theorem ifnullN (C : Ctx p s m meth c Z own nm B ml rt) {o : Int} {b : Addr} (hd : decode B pc = .ok (.ifnull o, 3)) (hq : pc + 3 = q) (k' : Go p l e R s m args below meth c Z n0 P kc ks μ k n (mkF m q L st)) : Go p l e R s m args below meth c Z n0 P kc ks μ k n (mkF m pc L ((.ref b) :: st)) := by
  subst hq
  exact Go.pure k' fun T h t hr => XS.ifnullNo h C.1 rfl (hb C.2.1 hd) rfl hr
theorem ifnonnullY (C : Ctx p s m meth c Z own nm B ml rt) {o : Int} {b : Addr} (hd : decode B pc = .ok (.ifnonnull o, 3)) (hq : 0 ≤ (pc : Int) + o ∧ ((pc : Int) + o).toNat = q) (k' : Go p l e R s m args below meth c Z n0 P kc ks μ k n (mkF m q L st)) : Go p l e R s m args below meth c Z n0 P kc ks μ k n (mkF m pc L ((.ref b) :: st)) := Go.pure k' fun T h t hr => XT.ifnonnullYes h C.1 rfl rfl (hb C.2.1 hd) rfl hq.1 hq.2 hr
theorem ifnonnullN (C : Ctx p s m meth c Z own nm B ml rt) {o : Int} {b : Addr} (hd : decode B pc = .ok (.ifnonnull o, 3)) (hq : pc + 3 = q) (k' : Go p l e R s m args below meth c Z n0 P kc ks μ k n (mkF m q L st)) : Go p l e R s m args below meth c Z n0 P kc ks μ k n (mkF m pc L (.null :: st)) := by
  subst hq
  exact Go.pure k' fun T h t hr => XT.ifnonnullNo h C.1 rfl (hb C.2.1 hd) rfl hr
theorem acmp_eq (C : Ctx p s m meth c Z own nm B ml rt) {x y : Value} {o : Int} {r : Nat} (hd : decode B pc = .ok (.if_acmp .eq o, 3)) (hq : pc + 3 = q) (hr : 0 ≤ (pc : Int) + o ∧ ((pc : Int) + o).toNat = r) (h1 : x.isRef = true) (h2 : y.isRef = true) (ky : x = y → Go p l e R s m args below meth c Z n0 P kc ks μ k n (mkF m r L st)) (kn : ¬ x = y → Go p l e R s m args below meth c Z n0 P kc ks μ k n (mkF m q L st)) : Go p l e R s m args below meth c Z n0 P kc ks μ k n (mkF m pc L (y :: x :: st)) := by
  subst hq
  by_cases hc : x = y
  · exact Go.pure (ky hc) fun T h t k => XT.acmpYes h C.1 rfl rfl (hb C.2.1 hd) rfl h1 h2 (XT.aa_eq_t hc) hr.1 hr.2 k
  · exact Go.pure (kn (by first | exact hc | exact Decidable.of_not_not hc)) fun T h t k => XT.acmpNo h C.1 rfl (hb C.2.1 hd) rfl h1 h2 (XT.aa_eq_f (by first | exact hc | exact Decidable.of_not_not hc)) k
theorem acmp_ne (C : Ctx p s m meth c Z own nm B ml rt) {x y : Value} {o : Int} {r : Nat} (hd : decode B pc = .ok (.if_acmp .ne o, 3)) (hq : pc + 3 = q) (hr : 0 ≤ (pc : Int) + o ∧ ((pc : Int) + o).toNat = r) (h1 : x.isRef = true) (h2 : y.isRef = true) (ky : ¬ x = y → Go p l e R s m args below meth c Z n0 P kc ks μ k n (mkF m r L st)) (kn : x = y → Go p l e R s m args below meth c Z n0 P kc ks μ k n (mkF m q L st)) : Go p l e R s m args below meth c Z n0 P kc ks μ k n (mkF m pc L (y :: x :: st)) := by
  subst hq
  by_cases hc : ¬ x = y
  · exact Go.pure (ky hc) fun T h t k => XT.acmpYes h C.1 rfl rfl (hb C.2.1 hd) rfl h1 h2 (XT.aa_ne_t hc) hr.1 hr.2 k
  · exact Go.pure (kn (by first | exact hc | exact Decidable.of_not_not hc)) fun T h t k => XT.acmpNo h C.1 rfl (hb C.2.1 hd) rfl h1 h2 (XT.aa_ne_f (by first | exact hc | exact Decidable.of_not_not hc)) k
theorem mem {μ' : Mem} {g : JFrame} (h : μ = μ') (k' : Go p l e R s m args below meth c Z n0 P kc ks μ' k n g) : Go p l e R s m args below meth c Z n0 P kc ks μ k n g := by subst h; exact k'
/-! constants of the pool -/
theorem ldcI (C : Ctx p s m meth c Z own nm B ml rt) {i : Nat} {v : Int32} (hd : decode B pc = .ok (.ldc i, 2)) (hq : pc + 2 = q) (w : (Cond.constant own i v).before a0 Z = true) (k' : Go p l e R s m args below meth c Z n0 P kc ks μ k n (mkF m q L (.int v :: st))) : Go p l e R s m args below meth c Z n0 P kc ks μ k n (mkF m pc L st) := by
  subst hq
  exact Go.stand k' fun T locs X H => ⟨T, X, rfl, X.ldcInt C.1 C.2.2.2.2.1 (mvT C.2.2.2.1 w) (g := mkF m pc L st) rfl (hb C.2.1 hd)⟩
theorem ldcwI (C : Ctx p s m meth c Z own nm B ml rt) {i : Nat} {v : Int32} (hd : decode B pc = .ok (.ldc_w i, 3)) (hq : pc + 3 = q) (w : (Cond.constant own i v).before a0 Z = true) (k' : Go p l e R s m args below meth c Z n0 P kc ks μ k n (mkF m q L (.int v :: st))) : Go p l e R s m args below meth c Z n0 P kc ks μ k n (mkF m pc L st) := by
  subst hq
  exact Go.stand k' fun T locs X H => ⟨T, X, rfl, X.ldcwInt C.1 C.2.2.2.2.1 (mvT C.2.2.2.1 w) (g := mkF m pc L st) rfl (hb C.2.1 hd)⟩
theorem ldcJ (C : Ctx p s m meth c Z own nm B ml rt) {i : Nat} {v : Int64} (hd : decode B pc = .ok (.ldc2_w i, 3)) (hq : pc + 3 = q) (w : (Cond.constantLong own i v).before a0 Z = true) (k' : Go p l e R s m args below meth c Z n0 P kc ks μ k n (mkF m q L (.long v :: st))) : Go p l e R s m args below meth c Z n0 P kc ks μ k n (mkF m pc L st) := by
  subst hq
  exact Go.stand k' fun T locs X H => ⟨T, X, rfl, X.ldc2Long C.1 C.2.2.2.2.1 (mvT C.2.2.2.1 w) (g := mkF m pc L st) rfl (hb C.2.1 hd)⟩
/-! fields -/
theorem getfield (C : Ctx p s m meth c Z own nm B ml rt) {i j : Nat} {R0 O f d host K : String} {fs : List (Key × Value)} {v : Value} {a : Addr} (hd : decode B pc = .ok (.getfield i, 3)) (hq : pc + 3 = q) (w : (Cond.fieldLink own i R0 f d).before a0 Z = true ∨ (Cond.fieldLinkNest own i R0 f d host).before a0 Z = true) (via : Via Z R0 O f d)
    (hμ : μ a = some (.inl (K, fs))) (hj : fs[j]? = some ((O, f, d), v)) (k' : Go p l e R s m args below meth c Z n0 P kc ks μ k n (mkF m q L (v :: st))) : Go p l e R s m args below meth c Z n0 P kc ks μ k n (mkF m pc L (.ref a :: st)) := by
  subst hq
  refine Go.stand k' fun T locs X H => ?_
  have I := H.2 a _ hμ
  exact getF X C.1 C.2.2.2.1 C.2.2.2.2.1 w via rfl (I.2.1 _ (List.mem_of_getElem? hj)) (g := mkF m pc L (.ref a :: st)) rfl rfl (hb C.2.1 hd)
theorem putfield (C : Ctx p s m meth c Z own nm B ml rt) {i j kk : Nat} {R0 O f d host K : String} {fs fs' : List (Key × Value)} {v old : Value} {a : Addr} {ty : FieldType} (hd : decode B pc = .ok (.putfield i, 3)) (hq : pc + 3 = q) (w : (Cond.fieldLink own i R0 f d).before a0 Z = true ∨ (Cond.fieldLinkNest own i R0 f d host).before a0 Z = true) (via : Via Z R0 O f d)
    (wl : (Cond.lays K O f d).before a0 Z = true ∨ ((Cond.laysFinal K O f d).before a0 Z = true ∧ own = O ∧ nm = "<init>")) (wi : (Cond.instantiable K kk).before a0 Z = true) (hty : parseFieldDescriptor d = some ty) (hn : narrow ty v = v) (hf : fits ty v = true)
    (hμ : μ a = some (.inl (K, fs))) (hj : fs[j]? = some ((O, f, d), old)) (hfs : fs.set j ((O, f, d), v) = fs') (ha : n0 ≤ a) (k' : Go p l e R s m args below meth c Z n0 P kc ks (upd μ a (.inl (K, fs'))) k n (mkF m q L st)) : Go p l e R s m args below meth c Z n0 P kc ks μ k n (mkF m pc L (v :: .ref a :: st)) := by
  subst hq
  intro T locs X F H
  have I := H.2 a _ hμ
  obtain ⟨T', h', X', e', W, stp⟩ := putF X C.1 C.2.2.2.1 C.2.2.2.2.1 w via rfl (I.2.1 _ (List.mem_of_getElem? hj)) I.1 (wl.imp id fun z => ⟨z.1, z.2.1, C.2.2.2.2.2.2.2.trans z.2.2⟩) wi hty hn hf (g := mkF m pc L (v :: .ref a :: st)) rfl rfl (hb C.2.1 hd)
  obtain ⟨s2, o, h1, h2⟩ := k' T' _ X' (Fr.snoc X' F ha) (by rw [e']; exact H.wr W ha (IsO.put I hj W hfs))
  exact ⟨s2, o, stp _ h1, h2⟩
theorem putfieldN (C : Ctx p s m meth c Z own nm B ml rt) {i j kk : Nat} {R0 O f d K : String} {fs fs' : List (Key × Value)} {v v' old : Value} {a : Addr} {ty : FieldType} (hd : decode B pc = .ok (.putfield i, 3)) (hq : pc + 3 = q) (w : (Cond.fieldLink own i R0 f d).before a0 Z = true) (via : Via Z R0 O f d)
    (wl : (Cond.lays K O f d).before a0 Z = true ∨ ((Cond.laysFinal K O f d).before a0 Z = true ∧ own = O ∧ nm = "<init>")) (wi : (Cond.instantiable K kk).before a0 Z = true) (hty : parseFieldDescriptor d = some ty) (hn : narrow ty v = v') (hf : fits ty v' = true)
    (hμ : μ a = some (.inl (K, fs))) (hj : fs[j]? = some ((O, f, d), old)) (hfs : fs.set j ((O, f, d), v') = fs') (ha : n0 ≤ a) (k' : Go p l e R s m args below meth c Z n0 P kc ks (upd μ a (.inl (K, fs'))) k n (mkF m q L st)) : Go p l e R s m args below meth c Z n0 P kc ks μ k n (mkF m pc L (v :: .ref a :: st)) := by
  subst hq
  intro T locs X F H
  have I := H.2 a _ hμ
  obtain ⟨T', h', X', e', W, stp⟩ := putFN X C.1 C.2.2.2.1 C.2.2.2.2.1 w via rfl (I.2.1 _ (List.mem_of_getElem? hj)) I.1 (wl.imp id fun z => ⟨z.1, z.2.1, C.2.2.2.2.2.2.2.trans z.2.2⟩) wi hty hn hf (g := mkF m pc L (v :: .ref a :: st)) rfl rfl (hb C.2.1 hd)
  obtain ⟨s2, o, h1, h2⟩ := k' T' _ X' (Fr.snoc X' F ha) (by rw [e']; exact H.wr W ha (IsO.put I hj W hfs))
  exact ⟨s2, o, stp _ h1, h2⟩
theorem getstatic (C : Ctx p s m meth c Z own nm B ml rt) {i : Nat} {R0 O f d host : String} {v : Value} (hd : decode B pc = .ok (.getstatic i, 3)) (hq : pc + 3 = q) (w : (Cond.fieldLink own i R0 f d).before a0 Z = true ∨ (Cond.fieldLinkNest own i R0 f d host).before a0 Z = true) (via : Via Z R0 O f d)
    (S : Sta Z Z.heap O f d v) (k' : Go p l e R s m args below meth c Z n0 P kc ks μ k n (mkF m q L (v :: st))) : Go p l e R s m args below meth c Z n0 P kc ks μ k n (mkF m pc L st) := by
  subst hq
  exact Go.stand k' fun T locs X H => getS2 X C.1 C.2.2.2.1 C.2.2.2.2.1 w via rfl (S.ext H.1.2) (g := mkF m pc L st) rfl (hb C.2.1 hd)
/-! new objects -/
def AllLaid (Z : State) (a0 : Array Value) (C : String) : List (Key × Value) → Prop
  | [] => True
  | q :: r => (∃ ty, Laid Z a0 C q.1.1 q.1.2.1 q.1.2.2 ∧ parseFieldDescriptor q.1.2.2 = some ty ∧ q.2 = defaultValue ty) ∧ AllLaid Z a0 C r
theorem AllLaid.mem {K : String} : ∀ {fs : List (Key × Value)}, AllLaid Z a0 K fs → ∀ q ∈ fs, ∃ ty, Laid Z a0 K q.1.1 q.1.2.1 q.1.2.2 ∧ parseFieldDescriptor q.1.2.2 = some ty ∧ q.2 = defaultValue ty
  | [], _, _, h => nomatch h
  | _ :: _, H, q, h => (List.mem_cons.mp h).elim (fun z => z ▸ H.1) (AllLaid.mem H.2 q)
theorem AllLaid.pw {K : String} : ∀ {fs : List (Key × Value)}, AllLaid Z a0 K fs → fs.Pairwise (fun q r => q.1.2.1 ≠ r.1.2.1) → fs.Pairwise fun q r => sl Z q ≠ sl Z r
  | [], _, _ => .nil
  | x :: r, H, N => by
    cases N with
    | cons h1 h2 =>
      refine .cons (fun y hy => ?_) (AllLaid.pw H.2 h2)
      obtain ⟨t1, L1, p1, -⟩ := H.1
      obtain ⟨t2, L2, p2, -⟩ := AllLaid.mem H.2 y hy
      exact RoadKit.slot_ne L1 L2 (h1 y hy) p1 p2
theorem new (C : Ctx p s m meth c Z own nm B ml rt) {i ns : Nat} {K : String} {fs : List (Key × Value)} (hd : decode B pc = .ok (.new i, 3)) (hq : pc + 3 = q) (w1 : (Cond.classLink own i K).before a0 Z = true) (w2 : (Cond.instantiable K ns).before a0 Z = true) (w3 : (Cond.initialized K).before a0 Z = true)
    (hl : AllLaid Z a0 K fs) (hnd : fs.Pairwise (fun q r => q.1.2.1 ≠ r.1.2.1)) (hc : k + 1 ≤ R.cells) (hs : n + ns ≤ R.slots)
    (k' : ∀ a : Addr, (∀ b o, μ b = some o → b ≠ a) → n0 ≤ a → Go p l e R s m args below meth c Z n0 P kc ks (upd μ a (.inl (K, fs))) (k + 1) (n + ns) (mkF m q L (.ref a :: st))) : Go p l e R s m args below meth c Z n0 P kc ks μ k n (mkF m pc L st) := by
  subst hq
  intro T locs X F H
  obtain ⟨T', h', X', e', E, A, D, -, stp⟩ := newO X C.1 C.2.2.2.1 C.2.2.2.2.1 w1 w2 w3 rfl (g := mkF m pc L st) rfl (hb C.2.1 hd) hc hs
  obtain ⟨s2, o, h1, h2⟩ := k' T.heap.size H.fresh H.ge T' _ X' F (by
    rw [e']
    refine Hp.set (H.ext E) ⟨A, fun z hz => ?_, hl.pw hnd⟩
    obtain ⟨ty, l1, l2, l3⟩ := hl.mem z hz
    rw [l3]; exact D l1 l2)
  exact ⟨s2, o, stp _ h1, h2⟩
theorem newArr (C : Ctx p s m meth c Z own nm B ml rt) {aty : ArrayType} {ty : FieldType} {z : Int32} {cap : Nat} {vs : List Value} (hd : decode B pc = .ok (.newarray aty, 2)) (hq : pc + 2 = q) (ht : newarray.typeOf aty = ty) (w : (Cond.arrayClass ty).before a0 Z = true) (hz : ¬ z < 0) (hcap : z.toNatClampNeg ≤ cap) (hbig : cap * 8 ≤ 536870912) (hvs : List.replicate z.toNatClampNeg (defaultValue ty) = vs)
    (hc : k + 1 ≤ R.cells) (hs : n + cap ≤ R.slots)
    (k' : ∀ a : Addr, (∀ b o, μ b = some o → b ≠ a) → n0 ≤ a → Go p l e R s m args below meth c Z n0 P kc ks (upd μ a (.inr (ty, vs))) (k + 1) (n + cap) (mkF m q L (.ref a :: st))) : Go p l e R s m args below meth c Z n0 P kc ks μ k n (mkF m pc L (.int z :: st)) := by
  subst hq hvs ht
  intro T locs X F H
  obtain ⟨T', h', cA, X', e', E, A, stp⟩ := newP X C.1 C.2.2.2.1 w rfl (g := mkF m pc L (.int z :: st)) rfl (hb C.2.1 hd) rfl hz hcap hbig hc hs
  obtain ⟨s2, o, h1, h2⟩ := k' T.heap.size H.fresh H.ge T' _ X' F (by
    rw [e']
    refine Hp.set (H.ext E) ⟨_, A, by simp [newA], by rw [List.length_replicate]; exact (back32 hz).2, fun v hv => ?_, fun _ K hK => ?_⟩
    · rw [(List.mem_replicate.mp hv).2]; cases aty <;> rfl
    · cases aty <;> cases hK)
  exact ⟨s2, o, stp _ h1, h2⟩
theorem newRef (C : Ctx p s m meth c Z own nm B ml rt) {i : Nat} {K : String} {z : Int32} {cap : Nat} {vs : List Value} (hd : decode B pc = .ok (.anewarray i, 3)) (hq : pc + 3 = q) (w1 : (Cond.classLink own i K).before a0 Z = true) (w2 : (Cond.arrayOver (.object K)).before a0 Z = true) (hz : ¬ z < 0) (hcap : z.toNatClampNeg ≤ cap) (hbig : cap * 8 ≤ 536870912) (hvs : List.replicate z.toNatClampNeg Value.null = vs)
    (hc : k + 1 ≤ R.cells) (hs : n + cap ≤ R.slots)
    (k' : ∀ a : Addr, (∀ b o, μ b = some o → b ≠ a) → n0 ≤ a → Go p l e R s m args below meth c Z n0 P kc ks (upd μ a (.inr (.object K, vs))) (k + 1) (n + cap) (mkF m q L (.ref a :: st))) : Go p l e R s m args below meth c Z n0 P kc ks μ k n (mkF m pc L (.int z :: st)) := by
  subst hq hvs
  intro T locs X F H
  obtain ⟨T', h', cA, X', e', E, A, O, stp⟩ := newR X C.1 C.2.2.2.1 C.2.2.2.2.1 w1 w2 rfl (g := mkF m pc L (.int z :: st)) rfl (hb C.2.1 hd) rfl hz hcap hbig hc hs
  obtain ⟨s2, o, h1, h2⟩ := k' T.heap.size H.fresh H.ge T' _ X' F (by
    rw [e']
    refine Hp.set (H.ext E) ⟨_, A, by simp [newA, defaultValue], by rw [List.length_replicate]; exact (back32 hz).2, fun v hv => ?_, fun _ K' hK => ?_⟩
    · rw [(List.mem_replicate.mp hv).2]; rfl
    · cases hK; exact O)
  exact ⟨s2, o, stp _ h1, h2⟩
/-! arrays -/
theorem inb {c : Cell} {vs : List Value} {j : Int32} (e : c.slots.toList = vs) (h0 : ¬ j < 0) (hj : j.toNatClampNeg < vs.length) : ¬ (j < 0 ∨ c.slots.size ≤ j.toNatClampNeg) := by
  subst e; rw [Array.length_toList] at hj; rintro (q | q)
  · exact h0 q
  · omega
theorem atL {c : Cell} {vs : List Value} {j : Nat} {v : Value} (e : c.slots.toList = vs) (hv : vs[j]? = some v) : c.slots[j]? = some v := by
  subst e; rw [Array.getElem?_toList] at hv; exact hv
theorem arraylength (C : Ctx p s m meth c Z own nm B ml rt) {ty : FieldType} {vs : List Value} {a : Addr} (hd : decode B pc = .ok (.arraylength, 1)) (hq : pc + 1 = q) (hμ : μ a = some (.inr (ty, vs))) (k' : ∀ z : Int32, z = Int32.ofNat vs.length → z.toInt = vs.length → Go p l e R s m args below meth c Z n0 P kc ks μ k n (mkF m q L (.int z :: st))) : Go p l e R s m args below meth c Z n0 P kc ks μ k n (mkF m pc L (.ref a :: st)) := by
  subst hq
  intro T locs X F H
  obtain ⟨cl, A, e1, hl, -⟩ := H.2 a _ hμ
  have e2 : cl.slots.size = vs.length := by subst e1; rw [Array.length_toList]
  obtain ⟨s2, o, h1, h2⟩ := k' (Int32.ofNat vs.length) rfl (Int32.toInt_ofNat_small hl) T _ X F H
  exact ⟨s2, o, X.arraylength C.1 A.1 (State.isArrayOf_alike C.2.2.2.1.alike A.2.1) (g := mkF m pc L (.ref a :: st)) rfl rfl (hb C.2.1 hd) _ (by rw [e2]; exact h1), h2⟩
theorem iaload (C : Ctx p s m meth c Z own nm B ml rt) {vs : List Value} {a : Addr} {j : Int32} {v : Value} (hd : decode B pc = .ok (.iaload, 1)) (hq : pc + 1 = q) (hμ : μ a = some (.inr (.int, vs))) (h0 : ¬ j < 0) (hv : vs[j.toNatClampNeg]? = some v) (k' : Go p l e R s m args below meth c Z n0 P kc ks μ k n (mkF m q L (v :: st))) : Go p l e R s m args below meth c Z n0 P kc ks μ k n (mkF m pc L (.int j :: .ref a :: st)) := by
  subst hq
  intro T locs X F H
  obtain ⟨cl, A, e1, -⟩ := H.2 a _ hμ
  obtain ⟨s2, o, h1, h2⟩ := k' T _ X F H
  exact ⟨s2, o, X.iaload C.1 A.1 (State.isArrayOf_alike C.2.2.2.1.alike A.2.1) A.2.2 (inb e1 h0 (List.getElem?_eq_some_iff.mp hv).1) (atL e1 hv) (g := mkF m pc L (.int j :: .ref a :: st)) rfl rfl (hb C.2.1 hd) _ h1, h2⟩
theorem laload (C : Ctx p s m meth c Z own nm B ml rt) {vs : List Value} {a : Addr} {j : Int32} {v : Value} (hd : decode B pc = .ok (.laload, 1)) (hq : pc + 1 = q) (hμ : μ a = some (.inr (.long, vs))) (h0 : ¬ j < 0) (hv : vs[j.toNatClampNeg]? = some v) (k' : Go p l e R s m args below meth c Z n0 P kc ks μ k n (mkF m q L (v :: st))) : Go p l e R s m args below meth c Z n0 P kc ks μ k n (mkF m pc L (.int j :: .ref a :: st)) := by
  subst hq
  intro T locs X F H
  obtain ⟨cl, A, e1, -⟩ := H.2 a _ hμ
  obtain ⟨s2, o, h1, h2⟩ := k' T _ X F H
  exact ⟨s2, o, X.laload C.1 A.1 (State.isArrayOf_alike C.2.2.2.1.alike A.2.1) A.2.2 (inb e1 h0 (List.getElem?_eq_some_iff.mp hv).1) (atL e1 hv) (g := mkF m pc L (.int j :: .ref a :: st)) rfl rfl (hb C.2.1 hd) _ h1, h2⟩
theorem caload (C : Ctx p s m meth c Z own nm B ml rt) {vs : List Value} {a : Addr} {j : Int32} {v : Value} (hd : decode B pc = .ok (.caload, 1)) (hq : pc + 1 = q) (hμ : μ a = some (.inr (.char, vs))) (h0 : ¬ j < 0) (hv : vs[j.toNatClampNeg]? = some v) (k' : Go p l e R s m args below meth c Z n0 P kc ks μ k n (mkF m q L (v :: st))) : Go p l e R s m args below meth c Z n0 P kc ks μ k n (mkF m pc L (.int j :: .ref a :: st)) := by
  subst hq
  intro T locs X F H
  obtain ⟨cl, A, e1, -⟩ := H.2 a _ hμ
  obtain ⟨s2, o, h1, h2⟩ := k' T _ X F H
  exact ⟨s2, o, X.caload C.1 A.1 (State.isArrayOf_alike C.2.2.2.1.alike A.2.1) A.2.2 (inb e1 h0 (List.getElem?_eq_some_iff.mp hv).1) (atL e1 hv) (g := mkF m pc L (.int j :: .ref a :: st)) rfl rfl (hb C.2.1 hd) _ h1, h2⟩
theorem baload (C : Ctx p s m meth c Z own nm B ml rt) {vs : List Value} {a : Addr} {j : Int32} {v : Value} (hd : decode B pc = .ok (.baload, 1)) (hq : pc + 1 = q) (hμ : μ a = some (.inr (.byte, vs))) (h0 : ¬ j < 0) (hv : vs[j.toNatClampNeg]? = some v) (k' : Go p l e R s m args below meth c Z n0 P kc ks μ k n (mkF m q L (v :: st))) : Go p l e R s m args below meth c Z n0 P kc ks μ k n (mkF m pc L (.int j :: .ref a :: st)) := by
  subst hq
  intro T locs X F H
  obtain ⟨cl, A, e1, -⟩ := H.2 a _ hμ
  obtain ⟨s2, o, h1, h2⟩ := k' T _ X F H
  exact ⟨s2, o, X.baloadBytes C.1 A.1 (State.isArrayOf_alike C.2.2.2.1.alike A.2.1) A.2.2 (inb e1 h0 (List.getElem?_eq_some_iff.mp hv).1) (atL e1 hv) (g := mkF m pc L (.int j :: .ref a :: st)) rfl rfl (hb C.2.1 hd) _ h1, h2⟩
theorem zaload (C : Ctx p s m meth c Z own nm B ml rt) {vs : List Value} {a : Addr} {j : Int32} {v : Value} (hd : decode B pc = .ok (.baload, 1)) (hq : pc + 1 = q) (hμ : μ a = some (.inr (.boolean, vs))) (h0 : ¬ j < 0) (hv : vs[j.toNatClampNeg]? = some v) (k' : Go p l e R s m args below meth c Z n0 P kc ks μ k n (mkF m q L (v :: st))) : Go p l e R s m args below meth c Z n0 P kc ks μ k n (mkF m pc L (.int j :: .ref a :: st)) := by
  subst hq
  intro T locs X F H
  obtain ⟨cl, A, e1, -⟩ := H.2 a _ hμ
  obtain ⟨s2, o, h1, h2⟩ := k' T _ X F H
  exact ⟨s2, o, X.baloadBooleans C.1 A.1 (State.isArrayOf_alike C.2.2.2.1.alike A.2.1) A.2.2 (inb e1 h0 (List.getElem?_eq_some_iff.mp hv).1) (atL e1 hv) (g := mkF m pc L (.int j :: .ref a :: st)) rfl rfl (hb C.2.1 hd) _ h1, h2⟩
theorem aaload (C : Ctx p s m meth c Z own nm B ml rt) {ty : FieldType} {vs : List Value} {a : Addr} {j : Int32} {v : Value} (hd : decode B pc = .ok (.aaload, 1)) (hq : pc + 1 = q) (hμ : μ a = some (.inr (ty, vs))) (hr : ty.isReference = true) (h0 : ¬ j < 0) (hv : vs[j.toNatClampNeg]? = some v) (k' : Go p l e R s m args below meth c Z n0 P kc ks μ k n (mkF m q L (v :: st))) : Go p l e R s m args below meth c Z n0 P kc ks μ k n (mkF m pc L (.int j :: .ref a :: st)) := by
  subst hq
  intro T locs X F H
  obtain ⟨cl, A, e1, -⟩ := H.2 a _ hμ
  obtain ⟨s2, o, h1, h2⟩ := k' T _ X F H
  exact ⟨s2, o, X.aaload C.1 A.1 (State.isArrayOf_alike C.2.2.2.1.alike A.2.1) hr A.2.2 (inb e1 h0 (List.getElem?_eq_some_iff.mp hv).1) (atL e1 hv) (g := mkF m pc L (.int j :: .ref a :: st)) rfl rfl (hb C.2.1 hd) _ h1, h2⟩
theorem iastore (C : Ctx p s m meth c Z own nm B ml rt) {vs : List Value} {a : Addr} {j : Int32} {x : Int32} (hd : decode B pc = .ok (.iastore, 1)) (hq : pc + 1 = q) (hμ : μ a = some (.inr (.int, vs))) (h0 : ¬ j < 0) (hj : j.toNatClampNeg < vs.length) (ha : n0 ≤ a) (k' : Go p l e R s m args below meth c Z n0 P kc ks (upd μ a (.inr (.int, vs.set j.toNatClampNeg (.int x)))) k n (mkF m q L st)) : Go p l e R s m args below meth c Z n0 P kc ks μ k n (mkF m pc L ((.int x) :: .int j :: .ref a :: st)) := by
  subst hq
  intro T locs X F H
  have I := H.2 a _ hμ
  obtain ⟨cl, A, e1, -⟩ := id I
  obtain ⟨T', h', X', e', W, stp⟩ := stI X C.1 C.2.2.2.1 rfl A (inb e1 h0 hj) (g := mkF m pc L ((.int x) :: .int j :: .ref a :: st)) rfl rfl (hb C.2.1 hd)
  obtain ⟨s2, o, h1, h2⟩ := k' T' _ X' (Fr.snoc X' F ha) (by rw [e']; exact H.wr W ha (IsA.put I rfl W))
  exact ⟨s2, o, stp _ h1, h2⟩
theorem lastore (C : Ctx p s m meth c Z own nm B ml rt) {vs : List Value} {a : Addr} {j : Int32} {x : Int64} (hd : decode B pc = .ok (.lastore, 1)) (hq : pc + 1 = q) (hμ : μ a = some (.inr (.long, vs))) (h0 : ¬ j < 0) (hj : j.toNatClampNeg < vs.length) (ha : n0 ≤ a) (k' : Go p l e R s m args below meth c Z n0 P kc ks (upd μ a (.inr (.long, vs.set j.toNatClampNeg (.long x)))) k n (mkF m q L st)) : Go p l e R s m args below meth c Z n0 P kc ks μ k n (mkF m pc L ((.long x) :: .int j :: .ref a :: st)) := by
  subst hq
  intro T locs X F H
  have I := H.2 a _ hμ
  obtain ⟨cl, A, e1, -⟩ := id I
  obtain ⟨T', h', X', e', W, stp⟩ := stJ X C.1 C.2.2.2.1 rfl A (inb e1 h0 hj) (g := mkF m pc L ((.long x) :: .int j :: .ref a :: st)) rfl rfl (hb C.2.1 hd)
  obtain ⟨s2, o, h1, h2⟩ := k' T' _ X' (Fr.snoc X' F ha) (by rw [e']; exact H.wr W ha (IsA.put I rfl W))
  exact ⟨s2, o, stp _ h1, h2⟩
theorem castore (C : Ctx p s m meth c Z own nm B ml rt) {vs : List Value} {a : Addr} {j : Int32} {x : Int32} (hd : decode B pc = .ok (.castore, 1)) (hq : pc + 1 = q) (hμ : μ a = some (.inr (.char, vs))) (h0 : ¬ j < 0) (hj : j.toNatClampNeg < vs.length) (ha : n0 ≤ a) (k' : Go p l e R s m args below meth c Z n0 P kc ks (upd μ a (.inr (.char, vs.set j.toNatClampNeg (.int (nar .char x))))) k n (mkF m q L st)) : Go p l e R s m args below meth c Z n0 P kc ks μ k n (mkF m pc L ((.int x) :: .int j :: .ref a :: st)) := by
  subst hq
  intro T locs X F H
  have I := H.2 a _ hμ
  obtain ⟨cl, A, e1, -⟩ := id I
  obtain ⟨T', h', X', e', W, stp⟩ := stC X C.1 C.2.2.2.1 rfl A (inb e1 h0 hj) (g := mkF m pc L ((.int x) :: .int j :: .ref a :: st)) rfl rfl (hb C.2.1 hd)
  obtain ⟨s2, o, h1, h2⟩ := k' T' _ X' (Fr.snoc X' F ha) (by rw [e']; exact H.wr W ha (IsA.put I (fits_nar_char _) W))
  exact ⟨s2, o, stp _ h1, h2⟩
theorem bastore (C : Ctx p s m meth c Z own nm B ml rt) {vs : List Value} {a : Addr} {j : Int32} {x : Int32} (hd : decode B pc = .ok (.bastore, 1)) (hq : pc + 1 = q) (hμ : μ a = some (.inr (.byte, vs))) (h0 : ¬ j < 0) (hj : j.toNatClampNeg < vs.length) (ha : n0 ≤ a) (k' : Go p l e R s m args below meth c Z n0 P kc ks (upd μ a (.inr (.byte, vs.set j.toNatClampNeg (.int x.toInt8.toInt32)))) k n (mkF m q L st)) : Go p l e R s m args below meth c Z n0 P kc ks μ k n (mkF m pc L ((.int x) :: .int j :: .ref a :: st)) := by
  subst hq
  intro T locs X F H
  have I := H.2 a _ hμ
  obtain ⟨cl, A, e1, -⟩ := id I
  obtain ⟨T', h', X', e', W, stp⟩ := stB X C.1 C.2.2.2.1 rfl A (inb e1 h0 hj) (g := mkF m pc L ((.int x) :: .int j :: .ref a :: st)) rfl rfl (hb C.2.1 hd)
  obtain ⟨s2, o, h1, h2⟩ := k' T' _ X' (Fr.snoc X' F ha) (by rw [e']; exact H.wr W ha (IsA.put I (fits_nar_byte _) W))
  exact ⟨s2, o, stp _ h1, h2⟩
theorem zastore (C : Ctx p s m meth c Z own nm B ml rt) {vs : List Value} {a : Addr} {j : Int32} {x : Int32} (hd : decode B pc = .ok (.bastore, 1)) (hq : pc + 1 = q) (hμ : μ a = some (.inr (.boolean, vs))) (h0 : ¬ j < 0) (hj : j.toNatClampNeg < vs.length) (ha : n0 ≤ a) (k' : Go p l e R s m args below meth c Z n0 P kc ks (upd μ a (.inr (.boolean, vs.set j.toNatClampNeg (.int (nar .boolean x))))) k n (mkF m q L st)) : Go p l e R s m args below meth c Z n0 P kc ks μ k n (mkF m pc L ((.int x) :: .int j :: .ref a :: st)) := by
  subst hq
  intro T locs X F H
  have I := H.2 a _ hμ
  obtain ⟨cl, A, e1, -⟩ := id I
  obtain ⟨T', h', X', e', W, stp⟩ := stZ X C.1 C.2.2.2.1 rfl A (inb e1 h0 hj) (g := mkF m pc L ((.int x) :: .int j :: .ref a :: st)) rfl rfl (hb C.2.1 hd)
  obtain ⟨s2, o, h1, h2⟩ := k' T' _ X' (Fr.snoc X' F ha) (by rw [e']; exact H.wr W ha (IsA.put I (fits_nar_bool _) W))
  exact ⟨s2, o, stp _ h1, h2⟩
theorem aastore (C : Ctx p s m meth c Z own nm B ml rt) {K : String} {vs : List Value} {a : Addr} {j : Int32} {v : Value} (hd : decode B pc = .ok (.aastore, 1)) (hq : pc + 1 = q) (hμ : μ a = some (.inr (.object K, vs))) (hv : v = .null ∨ ∃ b, v = .ref b ∧ ∀ h, Hp Z n0 μ h → Ins Z h b K true) (h0 : ¬ j < 0) (hj : j.toNatClampNeg < vs.length) (ha : n0 ≤ a) (k' : Go p l e R s m args below meth c Z n0 P kc ks (upd μ a (.inr (.object K, vs.set j.toNatClampNeg v))) k n (mkF m q L st)) : Go p l e R s m args below meth c Z n0 P kc ks μ k n (mkF m pc L (v :: .int j :: .ref a :: st)) := by
  subst hq
  intro T locs X F H
  have I := H.2 a _ hμ
  obtain ⟨cl, A, e1, -, -, O⟩ := id I
  have S : Sto Z T.heap a v := by
    rcases hv with rfl | ⟨b, rfl, hb⟩
    · exact Or.inl rfl
    · exact Sto.of A (O ha K rfl) (hb _ H)
  have hf : fits (.object K) v = true := by
    rcases hv with rfl | ⟨b, rfl, -⟩ <;> rfl
  obtain ⟨T', h', X', e', W, stp⟩ := stR X C.1 C.2.2.2.1 rfl A (inb e1 h0 hj) rfl S (g := mkF m pc L (v :: .int j :: .ref a :: st)) rfl rfl (hb C.2.1 hd)
  obtain ⟨s2, o, h1, h2⟩ := k' T' _ X' (Fr.snoc X' F ha) (by rw [e']; exact H.wr W ha (IsA.put I hf W))
  exact ⟨s2, o, stp _ h1, h2⟩
/-! returns -/
theorem ireturn (C : Ctx p s m meth c Z own nm B ml (some .int)) {z : Int32} (hd : decode B pc = .ok (.ireturn, 1)) (hk : k ≤ kc) (hn : n ≤ ks) (h : P (some (.int z)) μ) : Go p l e R s m args below meth c Z n0 P kc ks μ k n (mkF m pc L (.int z :: st)) := fun T locs X F H => by
  obtain ⟨fs, hr, hrun, hended, hW, hsame⟩ := X.leave (v := some (.int z)) (fun h => by rw [C.2.2.2.2.2.1] at h; cases h) C.2.2.2.2.2.2.1
  exact ⟨_, _, retOut X C.1 C.2.2.2.2.2.1 rfl (Or.inl ⟨rfl, Or.inl rfl, z, rfl⟩) (hb C.2.1 hd) hr, hrun, hended, _, _, rfl, ⟨F, μ, H, h⟩, ⟨_, rfl⟩, hW, hsame.mono hk hn⟩
theorem nreturn {t : FieldType} (C : Ctx p s m meth c Z own nm B ml (some t)) {z z' : Int32} (hd : decode B pc = .ok (.ireturn, 1)) (ht : t = .boolean ∨ t = .byte ∨ t = .char ∨ t = .short) (hz : nar t z = z') (hk : k ≤ kc) (hn : n ≤ ks) (h : P (some (.int z')) μ) : Go p l e R s m args below meth c Z n0 P kc ks μ k n (mkF m pc L (.int z :: st)) := fun T locs X F H => by
  subst hz
  obtain ⟨fs, hr, hrun, hended, hW, hsame⟩ := X.leave (v := some (.int (nar t z))) (fun h => by rw [C.2.2.2.2.2.1] at h; cases h) C.2.2.2.2.2.2.1
  exact ⟨_, _, retN X C.1 C.2.2.2.2.2.1 ht (hb C.2.1 hd) hr, hrun, hended, _, _, rfl, ⟨F, μ, H, h⟩, ⟨_, rfl⟩, hW, hsame.mono hk hn⟩
theorem lreturn (C : Ctx p s m meth c Z own nm B ml (some .long)) {z : Int64} (hd : decode B pc = .ok (.lreturn, 1)) (hk : k ≤ kc) (hn : n ≤ ks) (h : P (some (.long z)) μ) : Go p l e R s m args below meth c Z n0 P kc ks μ k n (mkF m pc L (.long z :: st)) := fun T locs X F H => by
  obtain ⟨fs, hr, hrun, hended, hW, hsame⟩ := X.leave (v := some (.long z)) (fun h => by rw [C.2.2.2.2.2.1] at h; cases h) C.2.2.2.2.2.2.1
  exact ⟨_, _, retOut X C.1 C.2.2.2.2.2.1 rfl (Or.inr (Or.inl ⟨rfl, rfl, z, rfl⟩)) (hb C.2.1 hd) hr, hrun, hended, _, _, rfl, ⟨F, μ, H, h⟩, ⟨_, rfl⟩, hW, hsame.mono hk hn⟩
theorem nref {t : FieldType} {v : Value} (h1 : t.isReference = true) (h2 : v.isRef = true) : narrow t v = v := by
  cases t <;> first | (cases h1; done) | rfl
theorem areturn {t : FieldType} (C : Ctx p s m meth c Z own nm B ml (some t)) {v : Value} (ht : t.isReference = true) (hv : v.isRef = true) (hd : decode B pc = .ok (.areturn, 1)) (hk : k ≤ kc) (hn : n ≤ ks) (h : P (some v) μ) : Go p l e R s m args below meth c Z n0 P kc ks μ k n (mkF m pc L (v :: st)) := fun T locs X F H => by
  obtain ⟨fs, hr, hrun, hended, hW, hsame⟩ := X.leave (v := some v) (fun h => by rw [C.2.2.2.2.2.1] at h; cases h) C.2.2.2.2.2.2.1
  exact ⟨_, _, retOut X C.1 C.2.2.2.2.2.1 (nref ht hv) (Or.inr (Or.inr (Or.inr (Or.inr ⟨rfl, ht, hv⟩)))) (hb C.2.1 hd) hr, hrun, hended, _, _, rfl, ⟨F, μ, H, h⟩, ⟨_, rfl⟩, hW, hsame.mono hk hn⟩
theorem vreturn (C : Ctx p s m meth c Z own nm B ml none) (hd : decode B pc = .ok (.return_, 1)) (hk : k ≤ kc) (hn : n ≤ ks) (h : P none μ) : Go p l e R s m args below meth c Z n0 P kc ks μ k n (mkF m pc L []) := fun T locs X F H => by
  obtain ⟨fs, hr, hrun, hended, hW, hsame⟩ := X.leave (v := none) (fun _ => rfl) C.2.2.2.2.2.2.1
  exact ⟨_, _, X.returnOut C.1 C.2.2.2.2.2.1 (hb C.2.1 hd) hr, hrun, hended, _, _, rfl, ⟨F, μ, H, h⟩, ⟨_, rfl⟩, hW, hsame.mono hk hn⟩
/-! what a callee leaves, by the kind of its return -/
def RV (Q : Mem → Prop) : Option Value → Mem → Prop := fun v μ => v = none ∧ Q μ
def RI (Q : Int32 → Mem → Prop) : Option Value → Mem → Prop := fun v μ => ∃ z, v = some (.int z) ∧ Q z μ
def RJ (Q : Int64 → Mem → Prop) : Option Value → Mem → Prop := fun v μ => ∃ z, v = some (.long z) ∧ Q z μ
def RR (Q : Value → Mem → Prop) : Option Value → Mem → Prop := fun v μ => ∃ z : Value, v = some z ∧ z.isRef = true ∧ Q z μ
section Nx
variable {k2 n2 : Nat}
theorem nxV {Q : Mem → Prop} (h : ∀ μ', Q μ' → Go p l e R s m args below meth c Z n0 P kc ks μ' k2 n2 (mkF m q L st)) : ∀ v μ', RV Q v μ' → Go p l e R s m args below meth c Z n0 P kc ks μ' k2 n2 (mkF m q L (v.toList ++ st)) := fun v μ' ⟨e1, e2⟩ => by subst e1; exact h μ' e2
theorem nxI {Q : Int32 → Mem → Prop} (h : ∀ z μ', Q z μ' → Go p l e R s m args below meth c Z n0 P kc ks μ' k2 n2 (mkF m q L (.int z :: st))) : ∀ v μ', RI Q v μ' → Go p l e R s m args below meth c Z n0 P kc ks μ' k2 n2 (mkF m q L (v.toList ++ st)) := fun v μ' ⟨z, e1, e2⟩ => by subst e1; exact h z μ' e2
theorem nxJ {Q : Int64 → Mem → Prop} (h : ∀ z μ', Q z μ' → Go p l e R s m args below meth c Z n0 P kc ks μ' k2 n2 (mkF m q L (.long z :: st))) : ∀ v μ', RJ Q v μ' → Go p l e R s m args below meth c Z n0 P kc ks μ' k2 n2 (mkF m q L (v.toList ++ st)) := fun v μ' ⟨z, e1, e2⟩ => by subst e1; exact h z μ' e2
theorem nxR {Q : Value → Mem → Prop} (h : ∀ z μ', z.isRef = true → Q z μ' → Go p l e R s m args below meth c Z n0 P kc ks μ' k2 n2 (mkF m q L (z :: st))) : ∀ v μ', RR Q v μ' → Go p l e R s m args below meth c Z n0 P kc ks μ' k2 n2 (mkF m q L (v.toList ++ st)) := fun v μ' ⟨z, e1, e2, e3⟩ => by subst e1; exact h z μ' e2 e3
end Nx
/-! calls by contract -/
theorem backs {y : MethodName} {B' : ByteArray} {ml' : Nat} {rt' : Option FieldType} {rm : Room} {len W : Nat} {as' : Array Value} {P' : Option Value → Mem → Prop} {h : Heap}
    (con : Con l Z n0 y B' ml' rt' [] rm rm.cells rm.slots as' μ P') (H : Hp Z n0 μ h) (hZ : Z.Warmed39 s.vm) (wc : (Cond.code y B' ml' rt').before a0 Z = true) (wz : (Cond.initialized y.cls).before a0 Z = true) (hf : rm.frames + 1 ≤ R.frames) (hl : W + (ml' + 11) + rm.locals ≤ R.locals) :
    Back l R p e below s args y len W (fun A a => a = as' ∧ A.U.heap = h ∧ A.cells + rm.cells ≤ R.cells ∧ A.slots + rm.slots ≤ R.slots)
      (fun A _ v B => ∃ L, (Fr n0 L ∧ ∃ μ', Hp Z n0 μ' B.U.heap ∧ P' v μ') ∧ B.locs = A.locs ++ L ∧ B.cells = A.cells + rm.cells ∧ B.slots = A.slots + rm.slots) :=
  backOf (Q := fun v h' L => Fr n0 L ∧ ∃ μ', Hp Z n0 μ' h' ∧ P' v μ') (con h H) hZ wc wz hf hl
theorem callS (C : Ctx p s m meth c Z own nm B ml rt) {i : Nat} {y : MethodName} {B' : ByteArray} {ml' : Nat} {rt' : Option FieldType} {rm : Room} {W : Nat} {argsL : List Value} {P' : Option Value → Mem → Prop} {S : List Value} (hd : decode B pc = .ok (.invokestatic i, 3)) (hq : pc + 3 = q)
    (w1 : (Cond.methodLink own i y).before a0 Z = true) (w2 : (Cond.static y).before a0 Z = true) (w3 : (Cond.initialized y.cls).before a0 Z = true) (w4 : (Cond.code y B' ml' rt').before a0 Z = true) (hy : y.cls ≠ "java/lang/invoke/MethodHandle" ∧ y.cls ≠ "java/lang/invoke/VarHandle")
    (hlen : ∀ sig, parseMethodDescriptor y.desc = some sig → argsL.length = sig.parameters.length) (hS : S = argsL.reverse ++ st) (hsz : L.size = ml) (hW : 2 * 0 + (st.map fun v => v.category).sum ≤ W) (hf : rm.frames + 1 ≤ R.frames) (hl : W + (ml' + 11) + rm.locals ≤ R.locals) (hc : k + rm.cells ≤ R.cells) (hs : n + rm.slots ≤ R.slots)
    (con : Con l Z n0 y B' ml' rt' [] rm rm.cells rm.slots argsL.toArray μ P')
    (k' : ∀ v μ', P' v μ' → Go p l e R s m args below meth c Z n0 P kc ks μ' (k + rm.cells) (n + rm.slots) (mkF m q L (v.toList ++ st))) : Go p l e R s m args below meth c Z n0 P kc ks μ k n (mkF m pc L S) := by
  subst hq
  intro T locs X F H
  obtain ⟨v, vm1, ⟨T', L', k2, n2⟩, -, X', ⟨Lc, ⟨N, μ', H', hP⟩, e1, e2, e3⟩, stp⟩ := Jvm.LawKit.callS X C.1 (y := y) C.2.2.2.2.1 (mvT C.2.2.2.1 w1) (mvT C.2.2.2.1 w2) (mvT C.2.2.2.1 w3) (mvT C.2.2.2.1 w4) hy (backs (W := W) con H C.2.2.2.1 w4 w3 hf hl) (g := mkF m pc L S) rfl (hsz.trans C.2.2.1.symm) (argsL := argsL) (rest := st) hlen hS hW (hb C.2.1 hd) (fun _ _ => ⟨rfl, rfl, hc, hs⟩)
  dsimp only [Pt.U, Pt.locs, Pt.cells, Pt.slots] at X' e1 e2 e3 stp H'
  subst e1 e2 e3
  obtain ⟨s2, o, h1, h2⟩ := k' v μ' hP T' _ X' (F.app N) H'
  exact ⟨s2, o, stp _ h1, h2⟩
theorem callI (C : Ctx p s m meth c Z own nm B ml rt) {i : Nat} {y : MethodName} {B' : ByteArray} {ml' : Nat} {rm : Room} {W : Nat} {argsL : List Value} {P' : Option Value → Mem → Prop} {S : List Value} {a : Addr} (hd : decode B pc = .ok (.invokespecial i, 3)) (hq : pc + 3 = q) (hnm : y.name = "<init>")
    (w1 : (Cond.methodLink own i y).before a0 Z = true) (w2 : (Cond.instanceMethod y).before a0 Z = true) (w3 : (Cond.initialized y.cls).before a0 Z = true) (w4 : (Cond.code y B' ml' none).before a0 Z = true) (hy : y.cls ≠ "java/lang/invoke/MethodHandle" ∧ y.cls ≠ "java/lang/invoke/VarHandle")
    (hlen : ∀ sig, parseMethodDescriptor y.desc = some sig → argsL.length = sig.parameters.length) (hS : S = argsL.reverse ++ .ref a :: st) (hsz : L.size = ml) (hW : 2 * 0 + (st.map fun v => v.category).sum ≤ W) (hf : rm.frames + 1 ≤ R.frames) (hl : W + (ml' + 11) + rm.locals ≤ R.locals) (hc : k + rm.cells ≤ R.cells) (hs : n + rm.slots ≤ R.slots)
    (con : Con l Z n0 y B' ml' none [] rm rm.cells rm.slots (.ref a :: argsL).toArray μ P')
    (k' : ∀ v μ', P' v μ' → Go p l e R s m args below meth c Z n0 P kc ks μ' (k + rm.cells) (n + rm.slots) (mkF m q L (v.toList ++ st))) : Go p l e R s m args below meth c Z n0 P kc ks μ k n (mkF m pc L S) := by
  subst hq
  intro T locs X F H
  obtain ⟨v, vm1, ⟨T', L', k2, n2⟩, -, X', ⟨Lc, ⟨N, μ', H', hP⟩, e1, e2, e3⟩, stp⟩ := X.specialBack C.1 (y := y) hnm C.2.2.2.2.1 (mvT C.2.2.2.1 w1) (mvT C.2.2.2.1 w2) (mvT C.2.2.2.1 w4) hy (backs (W := W) con H C.2.2.2.1 w4 w3 hf hl) (g := mkF m pc L S) rfl (hsz.trans C.2.2.1.symm) (Steps.refl _) (a := a) (argsL := argsL) (rest := st) hlen hS hW (hb C.2.1 hd) (fun _ _ => ⟨rfl, rfl, hc, hs⟩)
  dsimp only [Pt.U, Pt.locs, Pt.cells, Pt.slots] at X' e1 e2 e3 stp H'
  subst e1 e2 e3
  obtain ⟨s2, o, h1, h2⟩ := k' v μ' hP T' _ X' (F.app N) H'
  exact ⟨s2, o, stp.trans h1, h2⟩
theorem initObj (C : Ctx p s m meth c Z own nm B ml rt) {i W : Nat} {a : Addr} (hd : decode B pc = .ok (.invokespecial i, 3)) (hq : pc + 3 = q) (w1 : (Cond.methodLink own i Lib.objectInit).before a0 Z = true) (w2 : (Cond.instanceMethod Lib.objectInit).before a0 Z = true) (w3 : (Cond.code Lib.objectInit ⟨#[0xb1]⟩ 1 none).before a0 Z = true)
    (hsz : L.size = ml) (hf : 1 ≤ R.frames) (hW : 2 * 0 + (st.map fun v => v.category).sum ≤ W) (hl : W + 12 ≤ R.locals) (k' : Go p l e R s m args below meth c Z n0 P kc ks μ k n (mkF m q L st)) : Go p l e R s m args below meth c Z n0 P kc ks μ k n (mkF m pc L (.ref a :: st)) := by
  subst hq
  exact Go.stand k' fun T locs X H => initO X C.1 C.2.2.2.1 C.2.2.2.2.1 w1 w2 w3 rfl (g := mkF m pc L (.ref a :: st)) rfl (hsz.trans C.2.2.1.symm) rfl (hb C.2.1 hd) hf hW hl
theorem callV (C : Ctx p s m meth c Z own nm B ml rt) {i : Nat} {y z : MethodName} {K : String} {fs : List (Key × Value)} {B' : ByteArray} {ml' : Nat} {rt' : Option FieldType} {rm : Room} {W : Nat} {argsL : List Value} {P' : Option Value → Mem → Prop} {S : List Value} {a : Addr} (hd : decode B pc = .ok (.invokevirtual i, 3)) (hq : pc + 3 = q)
    (w1 : (Cond.methodLink own i y).before a0 Z = true) (w2 : (Cond.declares y).before a0 Z = true) (hnf : NotFace s y) (w5 : (Cond.selects K y z).before a0 Z = true) (w6 : (Cond.instanceMethod z).before a0 Z = true) (w3 : (Cond.initialized z.cls).before a0 Z = true) (w4 : (Cond.code z B' ml' rt').before a0 Z = true) (hy : y.cls ≠ "java/lang/invoke/MethodHandle" ∧ y.cls ≠ "java/lang/invoke/VarHandle")
    (hlen : ∀ sig, parseMethodDescriptor y.desc = some sig → argsL.length = sig.parameters.length) (hS : S = argsL.reverse ++ .ref a :: st) (hsz : L.size = ml) (hW : 2 * 0 + (st.map fun v => v.category).sum ≤ W) (hf : rm.frames + 1 ≤ R.frames) (hl : W + (ml' + 11) + rm.locals ≤ R.locals) (hc : k + rm.cells ≤ R.cells) (hs : n + rm.slots ≤ R.slots)
    (hμ : μ a = some (.inl (K, fs))) (con : Con l Z n0 z B' ml' rt' [] rm rm.cells rm.slots (.ref a :: argsL).toArray μ P')
    (k' : ∀ v μ', P' v μ' → Go p l e R s m args below meth c Z n0 P kc ks μ' (k + rm.cells) (n + rm.slots) (mkF m q L (v.toList ++ st))) : Go p l e R s m args below meth c Z n0 P kc ks μ k n (mkF m pc L S) := by
  subst hq
  intro T locs X F H
  obtain ⟨cq, kq, qa, qb, qc⟩ := isOf (T := T) C.2.2.2.1 rfl (H.2 a _ hμ).1
  obtain ⟨v, vm1, ⟨T', L', k2, n2⟩, -, X', ⟨Lc, ⟨N, μ', H', hP⟩, e1, e2, e3⟩, stp⟩ := X.virtualBack C.1 (y := y) (z := z) C.2.2.2.2.1 (mvT C.2.2.2.1 w1) (mvT C.2.2.2.1 w2) hnf (mvT C.2.2.2.1 w5) (mvT C.2.2.2.1 w6) hy (backs (W := W) con H C.2.2.2.1 w4 w3 hf hl) qa qc (g := mkF m pc L S) rfl (hsz.trans C.2.2.1.symm) (Steps.refl _) (argsL := argsL) (rest := st) hlen hS hW (hb C.2.1 hd) (fun _ _ => ⟨rfl, rfl, hc, hs⟩)
  dsimp only [Pt.U, Pt.locs, Pt.cells, Pt.slots] at X' e1 e2 e3 stp H'
  subst e1 e2 e3
  obtain ⟨s2, o, h1, h2⟩ := k' v μ' hP T' _ X' (F.app N) H'
  exact ⟨s2, o, stp.trans h1, h2⟩
theorem callP (C : Ctx p s m meth c Z own nm B ml rt) {i : Nat} {y : MethodName} {K : String} {fs : List (Key × Value)} {B' : ByteArray} {ml' : Nat} {rt' : Option FieldType} {rm : Room} {W : Nat} {argsL : List Value} {P' : Option Value → Mem → Prop} {S : List Value} {a : Addr} (hd : decode B pc = .ok (.invokevirtual i, 3)) (hq : pc + 3 = q)
    (w1 : (Cond.methodLink own i y).before a0 Z = true) (w2 : (Cond.privateMethod y).before a0 Z = true) {kk : Nat} (w5 : (Cond.instantiable y.cls kk).before a0 Z = true) (w6 : (Cond.instanceMethod y).before a0 Z = true) (w3 : (Cond.initialized y.cls).before a0 Z = true) (w4 : (Cond.code y B' ml' rt').before a0 Z = true) (hy : y.cls ≠ "java/lang/invoke/MethodHandle" ∧ y.cls ≠ "java/lang/invoke/VarHandle")
    (hlen : ∀ sig, parseMethodDescriptor y.desc = some sig → argsL.length = sig.parameters.length) (hS : S = argsL.reverse ++ .ref a :: st) (hsz : L.size = ml) (hW : 2 * 0 + (st.map fun v => v.category).sum ≤ W) (hf : rm.frames + 1 ≤ R.frames) (hl : W + (ml' + 11) + rm.locals ≤ R.locals) (hc : k + rm.cells ≤ R.cells) (hs : n + rm.slots ≤ R.slots)
    (hμ : μ a = some (.inl (K, fs))) (con : Con l Z n0 y B' ml' rt' [] rm rm.cells rm.slots (.ref a :: argsL).toArray μ P')
    (k' : ∀ v μ', P' v μ' → Go p l e R s m args below meth c Z n0 P kc ks μ' (k + rm.cells) (n + rm.slots) (mkF m q L (v.toList ++ st))) : Go p l e R s m args below meth c Z n0 P kc ks μ k n (mkF m pc L S) := by
  subst hq
  intro T locs X F H
  obtain ⟨cq, q1, q2⟩ := (H.2 a _ hμ).1.cell
  have hp : s.PrivateAt y := Cond.privateMethod_at (mvP C.2.2.2.1 w2 (args := #[]))
  obtain ⟨c2, k2, i1, i2, -, i4, -⟩ := Cond.instantiable_spec (show (Cond.instantiable y.cls kk).before args s = true from mvT C.2.2.2.1 w5)
  have h5 : (Cond.selects y.cls y y).before args s = true := Jvm.Stand.selects_self_of_private i1 i2 (by simp only [Bool.or_eq_false_iff] at i4; exact i4.1) hp (mvT C.2.2.2.1 w6) hy
  obtain ⟨v, vm1, ⟨T', L', k2, n2⟩, -, X', ⟨Lc, ⟨N, μ', H', hP⟩, e1, e2, e3⟩, stp⟩ := X.privateBack C.1 (y := y) C.2.2.2.2.1 (mvT C.2.2.2.1 w1) (mvT C.2.2.2.1 w6) h5 hp (mvT C.2.2.2.1 w4) hy (backs (W := W) con H C.2.2.2.1 w4 w3 hf hl) (g := mkF m pc L S) rfl (hsz.trans C.2.2.1.symm) (Steps.refl _) (a := a) q1 q2 (argsL := argsL) (rest := st) hlen hS hW (hb C.2.1 hd) (fun _ _ => ⟨rfl, rfl, hc, hs⟩)
  dsimp only [Pt.U, Pt.locs, Pt.cells, Pt.slots] at X' e1 e2 e3 stp H'
  subst e1 e2 e3
  obtain ⟨s2, o, h1, h2⟩ := k' v μ' hP T' _ X' (F.app N) H'
  exact ⟨s2, o, stp.trans h1, h2⟩
end Rules
end Jvm.Own
namespace Jvm.Pilot.@@N@@
open Jvm Jvm.ClassFile Sem Op Lib Jvm.Free Jvm.Stand Jvm.LawKit Jvm.RoadKit Bundle Jvm.Own Jvm.Pilot.@@N@@.Jvm.D
theorem bp_0 (v : Int64) (b0 : Int32) (r : -128 ≤ b0.toInt ∧ b0.toInt < 128) (h : (b0.toInt - v.toInt / 72057594037927936) % 256 = 0) : (b0.toInt64 <<< ((56 : Int32) &&& 0x3f).toInt64).toInt = v.toInt / 72057594037927936 * 72057594037927936 := by
  have w := rng64 v; have o1 := c_lshl b0.toInt64 56 56 (by decide); rw [c_i2l] at o1
  have hb : b0.toInt = v.toInt / 72057594037927936 := by omega
  have := rng64 (b0.toInt64 <<< ((56 : Int32) &&& 0x3f).toInt64); omega
theorem bp_1 (v : Int64) (b1 : Int32) (h : (b1.toInt - v.toInt / 281474976710656) % 256 = 0) : (((b1.toInt64 &&& (255 : Int64)) <<< ((48 : Int32) &&& 0x3f).toInt64)).toInt = v.toInt / 281474976710656 % 256 * 281474976710656 := by
  have o1 := c_maskL b1.toInt64 255 8 (by decide) (by decide); rw [c_i2l] at o1
  have o2 := c_lshl (b1.toInt64 &&& 255) 48 48 (by decide); have := rng64 ((b1.toInt64 &&& (255 : Int64)) <<< ((48 : Int32) &&& 0x3f).toInt64)
  generalize v.toInt / 281474976710656 = q at *; omega
theorem bp_2 (v : Int64) (b2 : Int32) (h : (b2.toInt - v.toInt / 1099511627776) % 256 = 0) : (((b2.toInt64 &&& (255 : Int64)) <<< ((40 : Int32) &&& 0x3f).toInt64)).toInt = v.toInt / 1099511627776 % 256 * 1099511627776 := by
  have o1 := c_maskL b2.toInt64 255 8 (by decide) (by decide); rw [c_i2l] at o1
  have o2 := c_lshl (b2.toInt64 &&& 255) 40 40 (by decide); have := rng64 ((b2.toInt64 &&& (255 : Int64)) <<< ((40 : Int32) &&& 0x3f).toInt64)
  generalize v.toInt / 1099511627776 = q at *; omega
theorem bp_3 (v : Int64) (b3 : Int32) (h : (b3.toInt - v.toInt / 4294967296) % 256 = 0) : (((b3.toInt64 &&& (255 : Int64)) <<< ((32 : Int32) &&& 0x3f).toInt64)).toInt = v.toInt / 4294967296 % 256 * 4294967296 := by
  have o1 := c_maskL b3.toInt64 255 8 (by decide) (by decide); rw [c_i2l] at o1
  have o2 := c_lshl (b3.toInt64 &&& 255) 32 32 (by decide); have := rng64 ((b3.toInt64 &&& (255 : Int64)) <<< ((32 : Int32) &&& 0x3f).toInt64)
  generalize v.toInt / 4294967296 = q at *; omega
theorem bp_4 (v : Int64) (b4 : Int32) (h : (b4.toInt - v.toInt / 16777216) % 256 = 0) : (((b4.toInt64 &&& (255 : Int64)) <<< ((24 : Int32) &&& 0x3f).toInt64)).toInt = v.toInt / 16777216 % 256 * 16777216 := by
  have o1 := c_maskL b4.toInt64 255 8 (by decide) (by decide); rw [c_i2l] at o1
  have o2 := c_lshl (b4.toInt64 &&& 255) 24 24 (by decide); have := rng64 ((b4.toInt64 &&& (255 : Int64)) <<< ((24 : Int32) &&& 0x3f).toInt64)
  generalize v.toInt / 16777216 = q at *; omega
theorem bp_5 (v : Int64) (b5 : Int32) (h : (b5.toInt - v.toInt / 65536) % 256 = 0) : (((b5 &&& (255 : Int32)) <<< ((16 : Int32) &&& 31)).toInt64).toInt = v.toInt / 65536 % 256 * 65536 := by
  have o1 := c_mask b5 255 8 (by decide) (by decide)
  have o2 := c_ishl (b5 &&& 255) 16 16 (by decide); have := rng32 ((b5 &&& 255) <<< ((16 : Int32) &&& 31)); rw [c_i2l]
  generalize v.toInt / 65536 = q at *; omega
theorem bp_6 (v : Int64) (b6 : Int32) (h : (b6.toInt - v.toInt / 256) % 256 = 0) : (((b6 &&& (255 : Int32)) <<< ((8 : Int32) &&& 31)).toInt64).toInt = v.toInt / 256 % 256 * 256 := by
  have o1 := c_mask b6 255 8 (by decide) (by decide)
  have o2 := c_ishl (b6 &&& 255) 8 8 (by decide); have := rng32 ((b6 &&& 255) <<< ((8 : Int32) &&& 31)); rw [c_i2l]
  generalize v.toInt / 256 = q at *; omega
theorem bp_7 (v : Int64) (b7 : Int32) (h : (b7.toInt - v.toInt / 1) % 256 = 0) : ((b7 &&& (255 : Int32)).toInt64).toInt = v.toInt / 1 % 256 * 1 := by
  have o1 := c_mask b7 255 8 (by decide) (by decide); rw [c_i2l]; omega
theorem or_1 (a b : Int64) (ha : a.toInt % 72057594037927936 = 0) (h0 : 0 ≤ b.toInt) (h1 : b.toInt < 72057594037927936) : (a ||| b).toInt = a.toInt + b.toInt := by
  have o := c_orL a b 56 (by decide) 72057594037927936 (by decide) ha h0 h1; have := rng64 a; have := rng64 (a ||| b); omega
theorem or_2 (a b : Int64) (ha : a.toInt % 281474976710656 = 0) (h0 : 0 ≤ b.toInt) (h1 : b.toInt < 281474976710656) : (a ||| b).toInt = a.toInt + b.toInt := by
  have o := c_orL a b 48 (by decide) 281474976710656 (by decide) ha h0 h1; have := rng64 a; have := rng64 (a ||| b); omega
theorem or_3 (a b : Int64) (ha : a.toInt % 1099511627776 = 0) (h0 : 0 ≤ b.toInt) (h1 : b.toInt < 1099511627776) : (a ||| b).toInt = a.toInt + b.toInt := by
  have o := c_orL a b 40 (by decide) 1099511627776 (by decide) ha h0 h1; have := rng64 a; have := rng64 (a ||| b); omega
theorem or_4 (a b : Int64) (ha : a.toInt % 4294967296 = 0) (h0 : 0 ≤ b.toInt) (h1 : b.toInt < 4294967296) : (a ||| b).toInt = a.toInt + b.toInt := by
  have o := c_orL a b 32 (by decide) 4294967296 (by decide) ha h0 h1; have := rng64 a; have := rng64 (a ||| b); omega
theorem or_5 (a b : Int64) (ha : a.toInt % 16777216 = 0) (h0 : 0 ≤ b.toInt) (h1 : b.toInt < 16777216) : (a ||| b).toInt = a.toInt + b.toInt := by
  have o := c_orL a b 24 (by decide) 16777216 (by decide) ha h0 h1; have := rng64 a; have := rng64 (a ||| b); omega
theorem or_6 (a b : Int64) (ha : a.toInt % 65536 = 0) (h0 : 0 ≤ b.toInt) (h1 : b.toInt < 65536) : (a ||| b).toInt = a.toInt + b.toInt := by
  have o := c_orL a b 16 (by decide) 65536 (by decide) ha h0 h1; have := rng64 a; have := rng64 (a ||| b); omega
theorem or_7 (a b : Int64) (ha : a.toInt % 256 = 0) (h0 : 0 ≤ b.toInt) (h1 : b.toInt < 256) : (a ||| b).toInt = a.toInt + b.toInt := by
  have o := c_orL a b 8 (by decide) 256 (by decide) ha h0 h1; have := rng64 a; have := rng64 (a ||| b); omega
theorem be_sum (x0 x1 x2 x3 x4 x5 x6 x7 : Int64) (D0 D1 D2 D3 D4 D5 D6 D7 : Int) (t0 : x0.toInt = D0 * 72057594037927936) (t1 : x1.toInt = D1 * 281474976710656) (t2 : x2.toInt = D2 * 1099511627776) (t3 : x3.toInt = D3 * 4294967296) (t4 : x4.toInt = D4 * 16777216) (t5 : x5.toInt = D5 * 65536) (t6 : x6.toInt = D6 * 256) (t7 : x7.toInt = D7 * 1) (h1 : 0 ≤ D1 ∧ D1 ≤ 255) (h2 : 0 ≤ D2 ∧ D2 ≤ 255) (h3 : 0 ≤ D3 ∧ D3 ≤ 255) (h4 : 0 ≤ D4 ∧ D4 ≤ 255) (h5 : 0 ≤ D5 ∧ D5 ≤ 255) (h6 : 0 ≤ D6 ∧ D6 ≤ 255) (h7 : 0 ≤ D7 ∧ D7 ≤ 255) : (x0 ||| x1 ||| x2 ||| x3 ||| x4 ||| x5 ||| x6 ||| x7).toInt = D0 * 72057594037927936 + D1 * 281474976710656 + D2 * 1099511627776 + D3 * 4294967296 + D4 * 16777216 + D5 * 65536 + D6 * 256 + D7 * 1 := by
  have s1 := or_1 x0 x1 (by omega) (by omega) (by omega)
  have s2 := or_2 (x0 ||| x1) x2 (by omega) (by omega) (by omega)
  have s3 := or_3 ((x0 ||| x1) ||| x2) x3 (by omega) (by omega) (by omega)
  have s4 := or_4 (((x0 ||| x1) ||| x2) ||| x3) x4 (by omega) (by omega) (by omega)
  have s5 := or_5 ((((x0 ||| x1) ||| x2) ||| x3) ||| x4) x5 (by omega) (by omega) (by omega)
  have s6 := or_6 (((((x0 ||| x1) ||| x2) ||| x3) ||| x4) ||| x5) x6 (by omega) (by omega) (by omega)
  have s7 := or_7 ((((((x0 ||| x1) ||| x2) ||| x3) ||| x4) ||| x5) ||| x6) x7 (by omega) (by omega) (by omega)
  omega
theorem be_tel (v : Int) : v / 72057594037927936 * 72057594037927936 + v / 281474976710656 % 256 * 281474976710656 + v / 1099511627776 % 256 * 1099511627776 + v / 4294967296 % 256 * 4294967296 + v / 16777216 % 256 * 16777216 + v / 65536 % 256 * 65536 + v / 256 % 256 * 256 + v / 1 % 256 * 1 = v := by
  have q1 : v / 281474976710656 = v / 72057594037927936 * 256 + v / 281474976710656 % 256 := by omega
  have q2 : v / 1099511627776 = v / 281474976710656 * 256 + v / 1099511627776 % 256 := by omega
  have q3 : v / 4294967296 = v / 1099511627776 * 256 + v / 4294967296 % 256 := by omega
  have q4 : v / 16777216 = v / 4294967296 * 256 + v / 16777216 % 256 := by omega
  have q5 : v / 65536 = v / 16777216 * 256 + v / 65536 % 256 := by omega
  have q6 : v / 256 = v / 65536 * 256 + v / 256 % 256 := by omega
  have q7 : v / 1 = v / 256 * 256 + v / 1 % 256 := by omega
  generalize v / 281474976710656 % 256 = D1 at *
  generalize v / 1099511627776 % 256 = D2 at *
  generalize v / 4294967296 % 256 = D3 at *
  generalize v / 16777216 % 256 = D4 at *
  generalize v / 65536 % 256 = D5 at *
  generalize v / 256 % 256 = D6 at *
  generalize v / 1 % 256 = D7 at *
  generalize v / 72057594037927936 = Q0 at *
  generalize v / 281474976710656 = Q1 at *
  generalize v / 1099511627776 = Q2 at *
  generalize v / 4294967296 = Q3 at *
  generalize v / 16777216 = Q4 at *
  generalize v / 65536 = Q5 at *
  generalize v / 256 = Q6 at *
  omega
theorem be_law (v : Int64) (b0 b1 b2 b3 b4 b5 b6 b7 : Int32) (r : -128 ≤ b0.toInt ∧ b0.toInt < 128) (r0 : (b0.toInt - v.toInt / 72057594037927936) % 256 = 0) (r1 : (b1.toInt - v.toInt / 281474976710656) % 256 = 0) (r2 : (b2.toInt - v.toInt / 1099511627776) % 256 = 0) (r3 : (b3.toInt - v.toInt / 4294967296) % 256 = 0) (r4 : (b4.toInt - v.toInt / 16777216) % 256 = 0) (r5 : (b5.toInt - v.toInt / 65536) % 256 = 0) (r6 : (b6.toInt - v.toInt / 256) % 256 = 0) (r7 : (b7.toInt - v.toInt / 1) % 256 = 0) : ((((((((b0.toInt64 <<< ((56 : Int32) &&& 0x3f).toInt64) ||| ((b1.toInt64 &&& (255 : Int64)) <<< ((48 : Int32) &&& 0x3f).toInt64)) ||| ((b2.toInt64 &&& (255 : Int64)) <<< ((40 : Int32) &&& 0x3f).toInt64)) ||| ((b3.toInt64 &&& (255 : Int64)) <<< ((32 : Int32) &&& 0x3f).toInt64)) ||| ((b4.toInt64 &&& (255 : Int64)) <<< ((24 : Int32) &&& 0x3f).toInt64)) ||| ((b5 &&& (255 : Int32)) <<< ((16 : Int32) &&& 31)).toInt64) ||| ((b6 &&& (255 : Int32)) <<< ((8 : Int32) &&& 31)).toInt64) ||| (b7 &&& (255 : Int32)).toInt64) = v := by
  apply Int64.toInt_inj.mp
  have s := be_sum _ _ _ _ _ _ _ _ _ _ _ _ _ _ _ _ (bp_0 v b0 r r0) (bp_1 v b1 r1) (bp_2 v b2 r2) (bp_3 v b3 r3) (bp_4 v b4 r4) (bp_5 v b5 r5) (bp_6 v b6 r6) (bp_7 v b7 r7) ⟨by omega, by omega⟩ ⟨by omega, by omega⟩ ⟨by omega, by omega⟩ ⟨by omega, by omega⟩ ⟨by omega, by omega⟩ ⟨by omega, by omega⟩ ⟨by omega, by omega⟩
  exact s.trans (be_tel v.toInt)
theorem byt_56 (v : Int64) {z1 : Int64} {z2 z3 : Int32} (h1 : z1 = (v.toUInt64 >>> ((56 : Int32) &&& 0x3f).toInt64.toUInt64).toInt64) (h2 : z2 = z1.toInt32) (h3 : z3 = z2.toInt8.toInt32) : (-128 ≤ z3.toInt8.toInt32.toInt ∧ z3.toInt8.toInt32.toInt < 128) ∧ (z3.toInt8.toInt32.toInt - v.toInt / 72057594037927936) % 256 = 0 := by
  have o1 := c_lushr v 56 56 (by decide) (by decide); rw [← h1] at o1
  have o2 := c_l2i z1; rw [← h2] at o2
  have o3 := c_i2b z2; rw [← h3] at o3
  have o4 := c_i2b z3; omega
theorem byt_48 (v : Int64) {z1 : Int64} {z2 z3 : Int32} (h1 : z1 = (v.toUInt64 >>> ((48 : Int32) &&& 0x3f).toInt64.toUInt64).toInt64) (h2 : z2 = z1.toInt32) (h3 : z3 = z2.toInt8.toInt32) : (-128 ≤ z3.toInt8.toInt32.toInt ∧ z3.toInt8.toInt32.toInt < 128) ∧ (z3.toInt8.toInt32.toInt - v.toInt / 281474976710656) % 256 = 0 := by
  have o1 := c_lushr v 48 48 (by decide) (by decide); rw [← h1] at o1
  have o2 := c_l2i z1; rw [← h2] at o2
  have o3 := c_i2b z2; rw [← h3] at o3
  have o4 := c_i2b z3; omega
theorem byt_40 (v : Int64) {z1 : Int64} {z2 z3 : Int32} (h1 : z1 = (v.toUInt64 >>> ((40 : Int32) &&& 0x3f).toInt64.toUInt64).toInt64) (h2 : z2 = z1.toInt32) (h3 : z3 = z2.toInt8.toInt32) : (-128 ≤ z3.toInt8.toInt32.toInt ∧ z3.toInt8.toInt32.toInt < 128) ∧ (z3.toInt8.toInt32.toInt - v.toInt / 1099511627776) % 256 = 0 := by
  have o1 := c_lushr v 40 40 (by decide) (by decide); rw [← h1] at o1
  have o2 := c_l2i z1; rw [← h2] at o2
  have o3 := c_i2b z2; rw [← h3] at o3
  have o4 := c_i2b z3; omega
theorem byt_32 (v : Int64) {z1 : Int64} {z2 z3 : Int32} (h1 : z1 = (v.toUInt64 >>> ((32 : Int32) &&& 0x3f).toInt64.toUInt64).toInt64) (h2 : z2 = z1.toInt32) (h3 : z3 = z2.toInt8.toInt32) : (-128 ≤ z3.toInt8.toInt32.toInt ∧ z3.toInt8.toInt32.toInt < 128) ∧ (z3.toInt8.toInt32.toInt - v.toInt / 4294967296) % 256 = 0 := by
  have o1 := c_lushr v 32 32 (by decide) (by decide); rw [← h1] at o1
  have o2 := c_l2i z1; rw [← h2] at o2
  have o3 := c_i2b z2; rw [← h3] at o3
  have o4 := c_i2b z3; omega
theorem byt_24 (v : Int64) {z1 : Int64} {z2 z3 : Int32} (h1 : z1 = (v.toUInt64 >>> ((24 : Int32) &&& 0x3f).toInt64.toUInt64).toInt64) (h2 : z2 = z1.toInt32) (h3 : z3 = z2.toInt8.toInt32) : (-128 ≤ z3.toInt8.toInt32.toInt ∧ z3.toInt8.toInt32.toInt < 128) ∧ (z3.toInt8.toInt32.toInt - v.toInt / 16777216) % 256 = 0 := by
  have o1 := c_lushr v 24 24 (by decide) (by decide); rw [← h1] at o1
  have o2 := c_l2i z1; rw [← h2] at o2
  have o3 := c_i2b z2; rw [← h3] at o3
  have o4 := c_i2b z3; omega
theorem byt_16 (v : Int64) {z1 : Int64} {z2 z3 : Int32} (h1 : z1 = (v.toUInt64 >>> ((16 : Int32) &&& 0x3f).toInt64.toUInt64).toInt64) (h2 : z2 = z1.toInt32) (h3 : z3 = z2.toInt8.toInt32) : (-128 ≤ z3.toInt8.toInt32.toInt ∧ z3.toInt8.toInt32.toInt < 128) ∧ (z3.toInt8.toInt32.toInt - v.toInt / 65536) % 256 = 0 := by
  have o1 := c_lushr v 16 16 (by decide) (by decide); rw [← h1] at o1
  have o2 := c_l2i z1; rw [← h2] at o2
  have o3 := c_i2b z2; rw [← h3] at o3
  have o4 := c_i2b z3; omega
theorem byt_8 (v : Int64) {z1 : Int64} {z2 z3 : Int32} (h1 : z1 = (v.toUInt64 >>> ((8 : Int32) &&& 0x3f).toInt64.toUInt64).toInt64) (h2 : z2 = z1.toInt32) (h3 : z3 = z2.toInt8.toInt32) : (-128 ≤ z3.toInt8.toInt32.toInt ∧ z3.toInt8.toInt32.toInt < 128) ∧ (z3.toInt8.toInt32.toInt - v.toInt / 256) % 256 = 0 := by
  have o1 := c_lushr v 8 8 (by decide) (by decide); rw [← h1] at o1
  have o2 := c_l2i z1; rw [← h2] at o2
  have o3 := c_i2b z2; rw [← h3] at o3
  have o4 := c_i2b z3; omega
theorem byt_0 (v : Int64) {z2 z3 : Int32} (h2 : z2 = v.toInt32) (h3 : z3 = z2.toInt8.toInt32) : (-128 ≤ z3.toInt8.toInt32.toInt ∧ z3.toInt8.toInt32.toInt < 128) ∧ (z3.toInt8.toInt32.toInt - v.toInt / 1) % 256 = 0 := by
  have o2 := c_l2i v; rw [← h2] at o2
  have o3 := c_i2b z2; rw [← h3] at o3
  have o4 := c_i2b z3; omega
abbrev rm_1 : Room := { frames := 0, cells := 0, slots := 0, locals := 0 }
theorem d1_0 : decode prog_27_method_14_code 0 = .ok (.aload_n 0, 1) := by decide +kernel
theorem d1_1 : decode prog_27_method_14_code 1 = .ok (.iload_n 1, 1) := by decide +kernel
theorem d1_2 : decode prog_27_method_14_code 2 = .ok (.baload, 1) := by decide +kernel
theorem d1_3 : decode prog_27_method_14_code 3 = .ok (.i2l, 1) := by decide +kernel
theorem d1_4 : decode prog_27_method_14_code 4 = .ok (.bipush 56, 2) := by decide +kernel
theorem d1_6 : decode prog_27_method_14_code 6 = .ok (.lshl, 1) := by decide +kernel
theorem d1_7 : decode prog_27_method_14_code 7 = .ok (.aload_n 0, 1) := by decide +kernel
theorem d1_8 : decode prog_27_method_14_code 8 = .ok (.iload_n 1, 1) := by decide +kernel
theorem d1_9 : decode prog_27_method_14_code 9 = .ok (.iconst 1, 1) := by decide +kernel
theorem d1_10 : decode prog_27_method_14_code 10 = .ok (.iadd, 1) := by decide +kernel
theorem d1_11 : decode prog_27_method_14_code 11 = .ok (.baload, 1) := by decide +kernel
theorem d1_12 : decode prog_27_method_14_code 12 = .ok (.i2l, 1) := by decide +kernel
theorem d1_13 : decode prog_27_method_14_code 13 = .ok (.ldc2_w 163, 3) := by decide +kernel
theorem d1_16 : decode prog_27_method_14_code 16 = .ok (.land, 1) := by decide +kernel
theorem d1_17 : decode prog_27_method_14_code 17 = .ok (.bipush 48, 2) := by decide +kernel
theorem d1_19 : decode prog_27_method_14_code 19 = .ok (.lshl, 1) := by decide +kernel
theorem d1_20 : decode prog_27_method_14_code 20 = .ok (.lor, 1) := by decide +kernel
theorem d1_21 : decode prog_27_method_14_code 21 = .ok (.aload_n 0, 1) := by decide +kernel
theorem d1_22 : decode prog_27_method_14_code 22 = .ok (.iload_n 1, 1) := by decide +kernel
theorem d1_23 : decode prog_27_method_14_code 23 = .ok (.iconst 2, 1) := by decide +kernel
theorem d1_24 : decode prog_27_method_14_code 24 = .ok (.iadd, 1) := by decide +kernel
theorem d1_25 : decode prog_27_method_14_code 25 = .ok (.baload, 1) := by decide +kernel
theorem d1_26 : decode prog_27_method_14_code 26 = .ok (.i2l, 1) := by decide +kernel
theorem d1_27 : decode prog_27_method_14_code 27 = .ok (.ldc2_w 163, 3) := by decide +kernel
theorem d1_30 : decode prog_27_method_14_code 30 = .ok (.land, 1) := by decide +kernel
theorem d1_31 : decode prog_27_method_14_code 31 = .ok (.bipush 40, 2) := by decide +kernel
theorem d1_33 : decode prog_27_method_14_code 33 = .ok (.lshl, 1) := by decide +kernel
theorem d1_34 : decode prog_27_method_14_code 34 = .ok (.lor, 1) := by decide +kernel
theorem d1_35 : decode prog_27_method_14_code 35 = .ok (.aload_n 0, 1) := by decide +kernel
theorem d1_36 : decode prog_27_method_14_code 36 = .ok (.iload_n 1, 1) := by decide +kernel
theorem d1_37 : decode prog_27_method_14_code 37 = .ok (.iconst 3, 1) := by decide +kernel
theorem d1_38 : decode prog_27_method_14_code 38 = .ok (.iadd, 1) := by decide +kernel
theorem d1_39 : decode prog_27_method_14_code 39 = .ok (.baload, 1) := by decide +kernel
theorem d1_40 : decode prog_27_method_14_code 40 = .ok (.i2l, 1) := by decide +kernel
theorem d1_41 : decode prog_27_method_14_code 41 = .ok (.ldc2_w 163, 3) := by decide +kernel
theorem d1_44 : decode prog_27_method_14_code 44 = .ok (.land, 1) := by decide +kernel
theorem d1_45 : decode prog_27_method_14_code 45 = .ok (.bipush 32, 2) := by decide +kernel
theorem d1_47 : decode prog_27_method_14_code 47 = .ok (.lshl, 1) := by decide +kernel
theorem d1_48 : decode prog_27_method_14_code 48 = .ok (.lor, 1) := by decide +kernel
theorem d1_49 : decode prog_27_method_14_code 49 = .ok (.aload_n 0, 1) := by decide +kernel
theorem d1_50 : decode prog_27_method_14_code 50 = .ok (.iload_n 1, 1) := by decide +kernel
theorem d1_51 : decode prog_27_method_14_code 51 = .ok (.iconst 4, 1) := by decide +kernel
theorem d1_52 : decode prog_27_method_14_code 52 = .ok (.iadd, 1) := by decide +kernel
theorem d1_53 : decode prog_27_method_14_code 53 = .ok (.baload, 1) := by decide +kernel
theorem d1_54 : decode prog_27_method_14_code 54 = .ok (.i2l, 1) := by decide +kernel
theorem d1_55 : decode prog_27_method_14_code 55 = .ok (.ldc2_w 163, 3) := by decide +kernel
theorem d1_58 : decode prog_27_method_14_code 58 = .ok (.land, 1) := by decide +kernel
theorem d1_59 : decode prog_27_method_14_code 59 = .ok (.bipush 24, 2) := by decide +kernel
theorem d1_61 : decode prog_27_method_14_code 61 = .ok (.lshl, 1) := by decide +kernel
theorem d1_62 : decode prog_27_method_14_code 62 = .ok (.lor, 1) := by decide +kernel
theorem d1_63 : decode prog_27_method_14_code 63 = .ok (.aload_n 0, 1) := by decide +kernel
theorem d1_64 : decode prog_27_method_14_code 64 = .ok (.iload_n 1, 1) := by decide +kernel
theorem d1_65 : decode prog_27_method_14_code 65 = .ok (.iconst 5, 1) := by decide +kernel
theorem d1_66 : decode prog_27_method_14_code 66 = .ok (.iadd, 1) := by decide +kernel
theorem d1_67 : decode prog_27_method_14_code 67 = .ok (.baload, 1) := by decide +kernel
theorem d1_68 : decode prog_27_method_14_code 68 = .ok (.sipush 255, 3) := by decide +kernel
theorem d1_71 : decode prog_27_method_14_code 71 = .ok (.iand, 1) := by decide +kernel
theorem d1_72 : decode prog_27_method_14_code 72 = .ok (.bipush 16, 2) := by decide +kernel
theorem d1_74 : decode prog_27_method_14_code 74 = .ok (.ishl, 1) := by decide +kernel
theorem d1_75 : decode prog_27_method_14_code 75 = .ok (.i2l, 1) := by decide +kernel
theorem d1_76 : decode prog_27_method_14_code 76 = .ok (.lor, 1) := by decide +kernel
theorem d1_77 : decode prog_27_method_14_code 77 = .ok (.aload_n 0, 1) := by decide +kernel
theorem d1_78 : decode prog_27_method_14_code 78 = .ok (.iload_n 1, 1) := by decide +kernel
theorem d1_79 : decode prog_27_method_14_code 79 = .ok (.bipush 6, 2) := by decide +kernel
theorem d1_81 : decode prog_27_method_14_code 81 = .ok (.iadd, 1) := by decide +kernel
theorem d1_82 : decode prog_27_method_14_code 82 = .ok (.baload, 1) := by decide +kernel
theorem d1_83 : decode prog_27_method_14_code 83 = .ok (.sipush 255, 3) := by decide +kernel
theorem d1_86 : decode prog_27_method_14_code 86 = .ok (.iand, 1) := by decide +kernel
theorem d1_87 : decode prog_27_method_14_code 87 = .ok (.bipush 8, 2) := by decide +kernel
theorem d1_89 : decode prog_27_method_14_code 89 = .ok (.ishl, 1) := by decide +kernel
theorem d1_90 : decode prog_27_method_14_code 90 = .ok (.i2l, 1) := by decide +kernel
theorem d1_91 : decode prog_27_method_14_code 91 = .ok (.lor, 1) := by decide +kernel
theorem d1_92 : decode prog_27_method_14_code 92 = .ok (.aload_n 0, 1) := by decide +kernel
theorem d1_93 : decode prog_27_method_14_code 93 = .ok (.iload_n 1, 1) := by decide +kernel
theorem d1_94 : decode prog_27_method_14_code 94 = .ok (.bipush 7, 2) := by decide +kernel
theorem d1_96 : decode prog_27_method_14_code 96 = .ok (.iadd, 1) := by decide +kernel
theorem d1_97 : decode prog_27_method_14_code 97 = .ok (.baload, 1) := by decide +kernel
theorem d1_98 : decode prog_27_method_14_code 98 = .ok (.sipush 255, 3) := by decide +kernel
theorem d1_101 : decode prog_27_method_14_code 101 = .ok (.iand, 1) := by decide +kernel
theorem d1_102 : decode prog_27_method_14_code 102 = .ok (.i2l, 1) := by decide +kernel
theorem d1_103 : decode prog_27_method_14_code 103 = .ok (.lor, 1) := by decide +kernel
theorem d1_104 : decode prog_27_method_14_code 104 = .ok (.lreturn, 1) := by decide +kernel
set_option maxRecDepth 65536 in
set_option maxHeartbeats 4000000 in
theorem c_be (l : Launch) (Z : State) (a0 : Array Value) (hw : ∀ d ∈ tables_1, d.before a0 Z = true) (n0 : Nat) (μ : Mem) (a : Addr) (i : Int32) (vs : List Value) (v : Int64) (b0 b1 b2 b3 b4 b5 b6 b7 : Int32) (ha : μ a = some (.inr (.byte, vs))) (n0' : ¬ i < 0) (n1' : ¬ (i + 1) < 0) (n2' : ¬ (i + 2) < 0) (n3' : ¬ (i + 3) < 0) (n4' : ¬ (i + 4) < 0) (n5' : ¬ (i + 5) < 0) (n6' : ¬ (i + 6) < 0) (n7' : ¬ (i + 7) < 0) (m0 : vs[(i).toNatClampNeg]? = some (.int b0)) (m1 : vs[(i + 1).toNatClampNeg]? = some (.int b1)) (m2 : vs[(i + 2).toNatClampNeg]? = some (.int b2)) (m3 : vs[(i + 3).toNatClampNeg]? = some (.int b3)) (m4 : vs[(i + 4).toNatClampNeg]? = some (.int b4)) (m5 : vs[(i + 5).toNatClampNeg]? = some (.int b5)) (m6 : vs[(i + 6).toNatClampNeg]? = some (.int b6)) (m7 : vs[(i + 7).toNatClampNeg]? = some (.int b7)) (r : -128 ≤ b0.toInt ∧ b0.toInt < 128) (r0 : (b0.toInt - v.toInt / 72057594037927936) % 256 = 0) (r1 : (b1.toInt - v.toInt / 281474976710656) % 256 = 0) (r2 : (b2.toInt - v.toInt / 1099511627776) % 256 = 0) (r3 : (b3.toInt - v.toInt / 4294967296) % 256 = 0) (r4 : (b4.toInt - v.toInt / 16777216) % 256 = 0) (r5 : (b5.toInt - v.toInt / 65536) % 256 = 0) (r6 : (b6.toInt - v.toInt / 256) % 256 = 0) (r7 : (b7.toInt - v.toInt / 1) % 256 = 0) :
    Con l Z n0 (⟨"com/example/porthcurno/porthcurno/AmqpType", "bigEndianLong", "([BI)J"⟩ : MethodName) prog_27_method_14_code 2 (some .long) [] rm_1 rm_1.cells rm_1.slots #[(.ref a), (.int i)] μ (RJ fun z μ' => μ' = μ ∧ z = v) := by
  refine Con.intro (L0 := #[.val (.ref a), .val (.int i)]) (plainFor_of_name (by first | (simp [plainName, overriddenIn]; done) | decide +kernel)) (fun m => by first | (simp [entryFrame, mkF, argsToLocals, Value.category]; done) | rfl) ?_
  intro p e s m below meth c C
  have C : Ctx p s m meth c Z "com/example/porthcurno/porthcurno/AmqpType" "bigEndianLong" prog_27_method_14_code 2 (some .long) := C
  refine Own.aloadN C d1_0 (q := 1) rfl rfl rfl ?_
  refine Own.iloadN C d1_1 (q := 2) rfl rfl ?_
  refine Own.baload C d1_2 (q := 3) rfl ha n0' (v := (.int b0)) m0 ?_
  refine Own.i2l C d1_3 (q := 4) rfl fun z3 e3 => ?_
  refine Own.bipush C d1_4 (q := 6) rfl (z := 56) (by decide) ?_
  refine Own.lshl C d1_6 (q := 7) rfl fun z6 e6 => ?_
  refine Own.aloadN C d1_7 (q := 8) rfl rfl rfl ?_
  refine Own.iloadN C d1_8 (q := 9) rfl rfl ?_
  refine Own.iconst C d1_9 (q := 10) rfl (z := 1) (by decide) ?_
  refine Own.iadd C d1_10 (q := 11) rfl fun z10 e10 => ?_
  refine Own.baload C d1_11 (q := 12) rfl ha (by rw [e10]; exact n1') (v := (.int b1)) (by rw [e10]; exact m1) ?_
  refine Own.i2l C d1_12 (q := 13) rfl fun z12 e12 => ?_
  refine Own.ldcJ C d1_13 (q := 16) rfl (hw _ (List.mem_of_getElem? (i := 5) rfl)) ?_
  refine Own.land C d1_16 (q := 17) rfl fun z16 e16 => ?_
  refine Own.bipush C d1_17 (q := 19) rfl (z := 48) (by decide) ?_
  refine Own.lshl C d1_19 (q := 20) rfl fun z19 e19 => ?_
  refine Own.lor C d1_20 (q := 21) rfl fun z20 e20 => ?_
  refine Own.aloadN C d1_21 (q := 22) rfl rfl rfl ?_
  refine Own.iloadN C d1_22 (q := 23) rfl rfl ?_
  refine Own.iconst C d1_23 (q := 24) rfl (z := 2) (by decide) ?_
  refine Own.iadd C d1_24 (q := 25) rfl fun z24 e24 => ?_
  refine Own.baload C d1_25 (q := 26) rfl ha (by rw [e24]; exact n2') (v := (.int b2)) (by rw [e24]; exact m2) ?_
  refine Own.i2l C d1_26 (q := 27) rfl fun z26 e26 => ?_
  refine Own.ldcJ C d1_27 (q := 30) rfl (hw _ (List.mem_of_getElem? (i := 5) rfl)) ?_
  refine Own.land C d1_30 (q := 31) rfl fun z30 e30 => ?_
  refine Own.bipush C d1_31 (q := 33) rfl (z := 40) (by decide) ?_
  refine Own.lshl C d1_33 (q := 34) rfl fun z33 e33 => ?_
  refine Own.lor C d1_34 (q := 35) rfl fun z34 e34 => ?_
  refine Own.aloadN C d1_35 (q := 36) rfl rfl rfl ?_
  refine Own.iloadN C d1_36 (q := 37) rfl rfl ?_
  refine Own.iconst C d1_37 (q := 38) rfl (z := 3) (by decide) ?_
  refine Own.iadd C d1_38 (q := 39) rfl fun z38 e38 => ?_
  refine Own.baload C d1_39 (q := 40) rfl ha (by rw [e38]; exact n3') (v := (.int b3)) (by rw [e38]; exact m3) ?_
  refine Own.i2l C d1_40 (q := 41) rfl fun z40 e40 => ?_
  refine Own.ldcJ C d1_41 (q := 44) rfl (hw _ (List.mem_of_getElem? (i := 5) rfl)) ?_
  refine Own.land C d1_44 (q := 45) rfl fun z44 e44 => ?_
  refine Own.bipush C d1_45 (q := 47) rfl (z := 32) (by decide) ?_
  refine Own.lshl C d1_47 (q := 48) rfl fun z47 e47 => ?_
  refine Own.lor C d1_48 (q := 49) rfl fun z48 e48 => ?_
  refine Own.aloadN C d1_49 (q := 50) rfl rfl rfl ?_
  refine Own.iloadN C d1_50 (q := 51) rfl rfl ?_
  refine Own.iconst C d1_51 (q := 52) rfl (z := 4) (by decide) ?_
  refine Own.iadd C d1_52 (q := 53) rfl fun z52 e52 => ?_
  refine Own.baload C d1_53 (q := 54) rfl ha (by rw [e52]; exact n4') (v := (.int b4)) (by rw [e52]; exact m4) ?_
  refine Own.i2l C d1_54 (q := 55) rfl fun z54 e54 => ?_
  refine Own.ldcJ C d1_55 (q := 58) rfl (hw _ (List.mem_of_getElem? (i := 5) rfl)) ?_
  refine Own.land C d1_58 (q := 59) rfl fun z58 e58 => ?_
  refine Own.bipush C d1_59 (q := 61) rfl (z := 24) (by decide) ?_
  refine Own.lshl C d1_61 (q := 62) rfl fun z61 e61 => ?_
  refine Own.lor C d1_62 (q := 63) rfl fun z62 e62 => ?_
  refine Own.aloadN C d1_63 (q := 64) rfl rfl rfl ?_
  refine Own.iloadN C d1_64 (q := 65) rfl rfl ?_
  refine Own.iconst C d1_65 (q := 66) rfl (z := 5) (by decide) ?_
  refine Own.iadd C d1_66 (q := 67) rfl fun z66 e66 => ?_
  refine Own.baload C d1_67 (q := 68) rfl ha (by rw [e66]; exact n5') (v := (.int b5)) (by rw [e66]; exact m5) ?_
  refine Own.sipush C d1_68 (q := 71) rfl (z := 255) (by decide) ?_
  refine Own.iand C d1_71 (q := 72) rfl fun z71 e71 => ?_
  refine Own.bipush C d1_72 (q := 74) rfl (z := 16) (by decide) ?_
  refine Own.ishl C d1_74 (q := 75) rfl fun z74 e74 => ?_
  refine Own.i2l C d1_75 (q := 76) rfl fun z75 e75 => ?_
  refine Own.lor C d1_76 (q := 77) rfl fun z76 e76 => ?_
  refine Own.aloadN C d1_77 (q := 78) rfl rfl rfl ?_
  refine Own.iloadN C d1_78 (q := 79) rfl rfl ?_
  refine Own.bipush C d1_79 (q := 81) rfl (z := 6) (by decide) ?_
  refine Own.iadd C d1_81 (q := 82) rfl fun z81 e81 => ?_
  refine Own.baload C d1_82 (q := 83) rfl ha (by rw [e81]; exact n6') (v := (.int b6)) (by rw [e81]; exact m6) ?_
  refine Own.sipush C d1_83 (q := 86) rfl (z := 255) (by decide) ?_
  refine Own.iand C d1_86 (q := 87) rfl fun z86 e86 => ?_
  refine Own.bipush C d1_87 (q := 89) rfl (z := 8) (by decide) ?_
  refine Own.ishl C d1_89 (q := 90) rfl fun z89 e89 => ?_
  refine Own.i2l C d1_90 (q := 91) rfl fun z90 e90 => ?_
  refine Own.lor C d1_91 (q := 92) rfl fun z91 e91 => ?_
  refine Own.aloadN C d1_92 (q := 93) rfl rfl rfl ?_
  refine Own.iloadN C d1_93 (q := 94) rfl rfl ?_
  refine Own.bipush C d1_94 (q := 96) rfl (z := 7) (by decide) ?_
  refine Own.iadd C d1_96 (q := 97) rfl fun z96 e96 => ?_
  refine Own.baload C d1_97 (q := 98) rfl ha (by rw [e96]; exact n7') (v := (.int b7)) (by rw [e96]; exact m7) ?_
  refine Own.sipush C d1_98 (q := 101) rfl (z := 255) (by decide) ?_
  refine Own.iand C d1_101 (q := 102) rfl fun z101 e101 => ?_
  refine Own.i2l C d1_102 (q := 103) rfl fun z102 e102 => ?_
  refine Own.lor C d1_103 (q := 104) rfl fun z103 e103 => ?_
  refine Own.lreturn C d1_104 (by decide) (by decide) ?_
  refine ⟨_, rfl, rfl, ?_⟩
  subst e3 e6 e12 e16 e19 e20 e26 e30 e33 e34 e40 e44 e47 e48 e54 e58 e61 e62 e71 e74 e75 e76 e86 e89 e90 e91 e101 e102 e103
  exact be_law v b0 b1 b2 b3 b4 b5 b6 b7 r r0 r1 r2 r3 r4 r5 r6 r7
theorem pd_0 : parseMethodDescriptor "([BI)J" = some ⟨[(.array .byte), .int], some .long⟩ := by decide +kernel
set_option maxRecDepth 65536 in
set_option maxHeartbeats 40000000 in
theorem c_law (l : Launch) (Z : State) (a0 : Array Value) (hw : ∀ d ∈ tables_1, d.before a0 Z = true) (n0 : Nat) (μ : Mem) (v : Int64) (i : Int32) (g : Int64) (h : Int32)  :
    Con l Z n0 x code maxLocals ret tables_1 room_1 room_1.cells room_1.slots #[(.long v), (.int i), (.long g), (.int h)] μ (fun v _ => v = some (.int 1)) := by
  refine Con.intro (L0 := #[.val (.long v), .second, .val (.int i), .val (.long g), .second, .val (.int h), .unset, .unset]) (plainFor_of_name (by first | (simp [plainName, overriddenIn]; done) | decide +kernel)) (fun m => by first | (simp [entryFrame, mkF, argsToLocals, Value.category, maxLocals]; done) | rfl) ?_
  intro p e s m below meth c C
  have C : Ctx p s m meth c Z "com/example/porthcurno/porthcurno/AmqpTypeBigEndianLongPinLaw" "law" code maxLocals (some .boolean) := C
  refine Own.bipush C at_0 (q := 2) rfl (z := 12) (by decide) ?_
  refine Own.newArr C at_2 (q := 4) rfl (ty := .byte) rfl (hw _ (List.mem_of_getElem? (i := 0) rfl)) (by decide) (cap := 12) (by decide) (by decide) (vs := [(.int (0 : Int32)), (.int (0 : Int32)), (.int (0 : Int32)), (.int (0 : Int32)), (.int (0 : Int32)), (.int (0 : Int32)), (.int (0 : Int32)), (.int (0 : Int32)), (.int (0 : Int32)), (.int (0 : Int32)), (.int (0 : Int32)), (.int (0 : Int32))]) rfl (by decide) (by decide) fun a2 a2_f a2_g => ?_
  refine Own.astore C at_4 (q := 6) rfl (L' := #[.val (.long v), .second, .val (.int i), .val (.long g), .second, .val (.int h), .val (.ref a2), .unset]) rfl rfl ?_
  refine Own.aload C at_6 (q := 8) rfl rfl rfl ?_
  refine Own.iconst C at_8 (q := 9) rfl (z := 0) (by decide) ?_
  refine Own.lloadN C at_9 (q := 10) rfl rfl ?_
  refine Own.l2i C at_10 (q := 11) rfl fun z10 e10 => ?_
  refine Own.i2b C at_11 (q := 12) rfl fun z11 e11 => ?_
  refine Own.bastore C at_12 (q := 13) rfl upd_same (by decide) (Nat.le_of_ble_eq_true rfl) a2_g (mem (upd_list (vs' := [(.int z11.toInt8.toInt32), (.int (0 : Int32)), (.int (0 : Int32)), (.int (0 : Int32)), (.int (0 : Int32)), (.int (0 : Int32)), (.int (0 : Int32)), (.int (0 : Int32)), (.int (0 : Int32)), (.int (0 : Int32)), (.int (0 : Int32)), (.int (0 : Int32))]) rfl upd_upd) ?_)
  refine Own.aload C at_13 (q := 15) rfl rfl rfl ?_
  refine Own.iconst C at_15 (q := 16) rfl (z := 1) (by decide) ?_
  refine Own.lloadN C at_16 (q := 17) rfl rfl ?_
  refine Own.bipush C at_17 (q := 19) rfl (z := 8) (by decide) ?_
  refine Own.lushr C at_19 (q := 20) rfl fun z19 e19 => ?_
  refine Own.l2i C at_20 (q := 21) rfl fun z20 e20 => ?_
  refine Own.i2b C at_21 (q := 22) rfl fun z21 e21 => ?_
  refine Own.bastore C at_22 (q := 23) rfl upd_same (by decide) (Nat.le_of_ble_eq_true rfl) a2_g (mem (upd_list (vs' := [(.int z11.toInt8.toInt32), (.int z21.toInt8.toInt32), (.int (0 : Int32)), (.int (0 : Int32)), (.int (0 : Int32)), (.int (0 : Int32)), (.int (0 : Int32)), (.int (0 : Int32)), (.int (0 : Int32)), (.int (0 : Int32)), (.int (0 : Int32)), (.int (0 : Int32))]) rfl upd_upd) ?_)
  refine Own.aload C at_23 (q := 25) rfl rfl rfl ?_
  refine Own.iconst C at_25 (q := 26) rfl (z := 2) (by decide) ?_
  refine Own.lloadN C at_26 (q := 27) rfl rfl ?_
  refine Own.bipush C at_27 (q := 29) rfl (z := 16) (by decide) ?_
  refine Own.lushr C at_29 (q := 30) rfl fun z29 e29 => ?_
  refine Own.l2i C at_30 (q := 31) rfl fun z30 e30 => ?_
  refine Own.i2b C at_31 (q := 32) rfl fun z31 e31 => ?_
  refine Own.bastore C at_32 (q := 33) rfl upd_same (by decide) (Nat.le_of_ble_eq_true rfl) a2_g (mem (upd_list (vs' := [(.int z11.toInt8.toInt32), (.int z21.toInt8.toInt32), (.int z31.toInt8.toInt32), (.int (0 : Int32)), (.int (0 : Int32)), (.int (0 : Int32)), (.int (0 : Int32)), (.int (0 : Int32)), (.int (0 : Int32)), (.int (0 : Int32)), (.int (0 : Int32)), (.int (0 : Int32))]) rfl upd_upd) ?_)
  refine Own.aload C at_33 (q := 35) rfl rfl rfl ?_
  refine Own.iconst C at_35 (q := 36) rfl (z := 3) (by decide) ?_
  refine Own.lloadN C at_36 (q := 37) rfl rfl ?_
  refine Own.bipush C at_37 (q := 39) rfl (z := 24) (by decide) ?_
  refine Own.lushr C at_39 (q := 40) rfl fun z39 e39 => ?_
  refine Own.l2i C at_40 (q := 41) rfl fun z40 e40 => ?_
  refine Own.i2b C at_41 (q := 42) rfl fun z41 e41 => ?_
  refine Own.bastore C at_42 (q := 43) rfl upd_same (by decide) (Nat.le_of_ble_eq_true rfl) a2_g (mem (upd_list (vs' := [(.int z11.toInt8.toInt32), (.int z21.toInt8.toInt32), (.int z31.toInt8.toInt32), (.int z41.toInt8.toInt32), (.int (0 : Int32)), (.int (0 : Int32)), (.int (0 : Int32)), (.int (0 : Int32)), (.int (0 : Int32)), (.int (0 : Int32)), (.int (0 : Int32)), (.int (0 : Int32))]) rfl upd_upd) ?_)
  refine Own.aload C at_43 (q := 45) rfl rfl rfl ?_
  refine Own.iconst C at_45 (q := 46) rfl (z := 4) (by decide) ?_
  refine Own.lloadN C at_46 (q := 47) rfl rfl ?_
  refine Own.bipush C at_47 (q := 49) rfl (z := 32) (by decide) ?_
  refine Own.lushr C at_49 (q := 50) rfl fun z49 e49 => ?_
  refine Own.l2i C at_50 (q := 51) rfl fun z50 e50 => ?_
  refine Own.i2b C at_51 (q := 52) rfl fun z51 e51 => ?_
  refine Own.bastore C at_52 (q := 53) rfl upd_same (by decide) (Nat.le_of_ble_eq_true rfl) a2_g (mem (upd_list (vs' := [(.int z11.toInt8.toInt32), (.int z21.toInt8.toInt32), (.int z31.toInt8.toInt32), (.int z41.toInt8.toInt32), (.int z51.toInt8.toInt32), (.int (0 : Int32)), (.int (0 : Int32)), (.int (0 : Int32)), (.int (0 : Int32)), (.int (0 : Int32)), (.int (0 : Int32)), (.int (0 : Int32))]) rfl upd_upd) ?_)
  refine Own.aload C at_53 (q := 55) rfl rfl rfl ?_
  refine Own.iconst C at_55 (q := 56) rfl (z := 5) (by decide) ?_
  refine Own.lloadN C at_56 (q := 57) rfl rfl ?_
  refine Own.bipush C at_57 (q := 59) rfl (z := 40) (by decide) ?_
  refine Own.lushr C at_59 (q := 60) rfl fun z59 e59 => ?_
  refine Own.l2i C at_60 (q := 61) rfl fun z60 e60 => ?_
  refine Own.i2b C at_61 (q := 62) rfl fun z61 e61 => ?_
  refine Own.bastore C at_62 (q := 63) rfl upd_same (by decide) (Nat.le_of_ble_eq_true rfl) a2_g (mem (upd_list (vs' := [(.int z11.toInt8.toInt32), (.int z21.toInt8.toInt32), (.int z31.toInt8.toInt32), (.int z41.toInt8.toInt32), (.int z51.toInt8.toInt32), (.int z61.toInt8.toInt32), (.int (0 : Int32)), (.int (0 : Int32)), (.int (0 : Int32)), (.int (0 : Int32)), (.int (0 : Int32)), (.int (0 : Int32))]) rfl upd_upd) ?_)
  refine Own.aload C at_63 (q := 65) rfl rfl rfl ?_
  refine Own.bipush C at_65 (q := 67) rfl (z := 6) (by decide) ?_
  refine Own.lloadN C at_67 (q := 68) rfl rfl ?_
  refine Own.bipush C at_68 (q := 70) rfl (z := 48) (by decide) ?_
  refine Own.lushr C at_70 (q := 71) rfl fun z70 e70 => ?_
  refine Own.l2i C at_71 (q := 72) rfl fun z71 e71 => ?_
  refine Own.i2b C at_72 (q := 73) rfl fun z72 e72 => ?_
  refine Own.bastore C at_73 (q := 74) rfl upd_same (by decide) (Nat.le_of_ble_eq_true rfl) a2_g (mem (upd_list (vs' := [(.int z11.toInt8.toInt32), (.int z21.toInt8.toInt32), (.int z31.toInt8.toInt32), (.int z41.toInt8.toInt32), (.int z51.toInt8.toInt32), (.int z61.toInt8.toInt32), (.int z72.toInt8.toInt32), (.int (0 : Int32)), (.int (0 : Int32)), (.int (0 : Int32)), (.int (0 : Int32)), (.int (0 : Int32))]) rfl upd_upd) ?_)
  refine Own.aload C at_74 (q := 76) rfl rfl rfl ?_
  refine Own.bipush C at_76 (q := 78) rfl (z := 7) (by decide) ?_
  refine Own.lloadN C at_78 (q := 79) rfl rfl ?_
  refine Own.bipush C at_79 (q := 81) rfl (z := 56) (by decide) ?_
  refine Own.lushr C at_81 (q := 82) rfl fun z81 e81 => ?_
  refine Own.l2i C at_82 (q := 83) rfl fun z82 e82 => ?_
  refine Own.i2b C at_83 (q := 84) rfl fun z83 e83 => ?_
  refine Own.bastore C at_84 (q := 85) rfl upd_same (by decide) (Nat.le_of_ble_eq_true rfl) a2_g (mem (upd_list (vs' := [(.int z11.toInt8.toInt32), (.int z21.toInt8.toInt32), (.int z31.toInt8.toInt32), (.int z41.toInt8.toInt32), (.int z51.toInt8.toInt32), (.int z61.toInt8.toInt32), (.int z72.toInt8.toInt32), (.int z83.toInt8.toInt32), (.int (0 : Int32)), (.int (0 : Int32)), (.int (0 : Int32)), (.int (0 : Int32))]) rfl upd_upd) ?_)
  refine Own.aload C at_85 (q := 87) rfl rfl rfl ?_
  refine Own.bipush C at_87 (q := 89) rfl (z := 8) (by decide) ?_
  refine Own.iload C at_89 (q := 91) rfl rfl ?_
  refine Own.i2b C at_91 (q := 92) rfl fun z91 e91 => ?_
  refine Own.bastore C at_92 (q := 93) rfl upd_same (by decide) (Nat.le_of_ble_eq_true rfl) a2_g (mem (upd_list (vs' := [(.int z11.toInt8.toInt32), (.int z21.toInt8.toInt32), (.int z31.toInt8.toInt32), (.int z41.toInt8.toInt32), (.int z51.toInt8.toInt32), (.int z61.toInt8.toInt32), (.int z72.toInt8.toInt32), (.int z83.toInt8.toInt32), (.int z91.toInt8.toInt32), (.int (0 : Int32)), (.int (0 : Int32)), (.int (0 : Int32))]) rfl upd_upd) ?_)
  refine Own.aload C at_93 (q := 95) rfl rfl rfl ?_
  refine Own.bipush C at_95 (q := 97) rfl (z := 9) (by decide) ?_
  refine Own.iload C at_97 (q := 99) rfl rfl ?_
  refine Own.bipush C at_99 (q := 101) rfl (z := 8) (by decide) ?_
  refine Own.iushr C at_101 (q := 102) rfl fun z101 e101 => ?_
  refine Own.i2b C at_102 (q := 103) rfl fun z102 e102 => ?_
  refine Own.bastore C at_103 (q := 104) rfl upd_same (by decide) (Nat.le_of_ble_eq_true rfl) a2_g (mem (upd_list (vs' := [(.int z11.toInt8.toInt32), (.int z21.toInt8.toInt32), (.int z31.toInt8.toInt32), (.int z41.toInt8.toInt32), (.int z51.toInt8.toInt32), (.int z61.toInt8.toInt32), (.int z72.toInt8.toInt32), (.int z83.toInt8.toInt32), (.int z91.toInt8.toInt32), (.int z102.toInt8.toInt32), (.int (0 : Int32)), (.int (0 : Int32))]) rfl upd_upd) ?_)
  refine Own.aload C at_104 (q := 106) rfl rfl rfl ?_
  refine Own.bipush C at_106 (q := 108) rfl (z := 10) (by decide) ?_
  refine Own.iload C at_108 (q := 110) rfl rfl ?_
  refine Own.bipush C at_110 (q := 112) rfl (z := 16) (by decide) ?_
  refine Own.iushr C at_112 (q := 113) rfl fun z112 e112 => ?_
  refine Own.i2b C at_113 (q := 114) rfl fun z113 e113 => ?_
  refine Own.bastore C at_114 (q := 115) rfl upd_same (by decide) (Nat.le_of_ble_eq_true rfl) a2_g (mem (upd_list (vs' := [(.int z11.toInt8.toInt32), (.int z21.toInt8.toInt32), (.int z31.toInt8.toInt32), (.int z41.toInt8.toInt32), (.int z51.toInt8.toInt32), (.int z61.toInt8.toInt32), (.int z72.toInt8.toInt32), (.int z83.toInt8.toInt32), (.int z91.toInt8.toInt32), (.int z102.toInt8.toInt32), (.int z113.toInt8.toInt32), (.int (0 : Int32))]) rfl upd_upd) ?_)
  refine Own.aload C at_115 (q := 117) rfl rfl rfl ?_
  refine Own.bipush C at_117 (q := 119) rfl (z := 11) (by decide) ?_
  refine Own.iload C at_119 (q := 121) rfl rfl ?_
  refine Own.bipush C at_121 (q := 123) rfl (z := 24) (by decide) ?_
  refine Own.iushr C at_123 (q := 124) rfl fun z123 e123 => ?_
  refine Own.i2b C at_124 (q := 125) rfl fun z124 e124 => ?_
  refine Own.bastore C at_125 (q := 126) rfl upd_same (by decide) (Nat.le_of_ble_eq_true rfl) a2_g (mem (upd_list (vs' := [(.int z11.toInt8.toInt32), (.int z21.toInt8.toInt32), (.int z31.toInt8.toInt32), (.int z41.toInt8.toInt32), (.int z51.toInt8.toInt32), (.int z61.toInt8.toInt32), (.int z72.toInt8.toInt32), (.int z83.toInt8.toInt32), (.int z91.toInt8.toInt32), (.int z102.toInt8.toInt32), (.int z113.toInt8.toInt32), (.int z124.toInt8.toInt32)]) rfl upd_upd) ?_)
  refine Own.iloadN C at_126 (q := 127) rfl rfl ?_
  refine Own.iconst C at_127 (q := 128) rfl (z := 3) (by decide) ?_
  refine Own.iand C at_128 (q := 129) rfl fun z128 e128 => ?_
  obtain ⟨hz, hz'⟩ : 0 ≤ z128.toInt ∧ z128.toInt ≤ 3 := by have o := c_mask i 3 2 (by decide) (by decide); rw [← e128] at o; omega
  have hz4 : z128 = 0 ∨ z128 = 1 ∨ z128 = 2 ∨ z128 = 3 := by simp only [← Int32.toInt_inj, Int32.reduceToInt]; omega
  clear hz hz' e128
  rcases hz4 with rfl | rfl | rfl | rfl
  · refine Own.istore C at_129 (q := 131) rfl (L' := #[.val (.long v), .second, .val (.int i), .val (.long g), .second, .val (.int h), .val (.ref a2), .val (.int (0 : Int32))]) rfl ?_
    refine Own.aload C at_131 (q := 133) rfl rfl rfl ?_
    refine Own.iload C at_133 (q := 135) rfl rfl ?_
    refine Own.lloadN C at_135 (q := 136) rfl rfl ?_
    refine Own.bipush C at_136 (q := 138) rfl (z := 56) (by decide) ?_
    refine Own.lushr C at_138 (q := 139) rfl fun z138 e138 => ?_
    refine Own.l2i C at_139 (q := 140) rfl fun z139 e139 => ?_
    refine Own.i2b C at_140 (q := 141) rfl fun z140 e140 => ?_
    refine Own.bastore C at_141 (q := 142) rfl upd_same (by decide) (Nat.le_of_ble_eq_true rfl) a2_g (mem (upd_list (vs' := [(.int z140.toInt8.toInt32), (.int z21.toInt8.toInt32), (.int z31.toInt8.toInt32), (.int z41.toInt8.toInt32), (.int z51.toInt8.toInt32), (.int z61.toInt8.toInt32), (.int z72.toInt8.toInt32), (.int z83.toInt8.toInt32), (.int z91.toInt8.toInt32), (.int z102.toInt8.toInt32), (.int z113.toInt8.toInt32), (.int z124.toInt8.toInt32)]) rfl upd_upd) ?_)
    refine Own.aload C at_142 (q := 144) rfl rfl rfl ?_
    refine Own.iload C at_144 (q := 146) rfl rfl ?_
    refine Own.iconst C at_146 (q := 147) rfl (z := 1) (by decide) ?_
    refine Own.iadd C at_147 (q := 148) rfl fun z147 e147 => ?_
    obtain rfl : z147 = (1 : Int32) := e147.trans (by decide)
    refine Own.lloadN C at_148 (q := 149) rfl rfl ?_
    refine Own.bipush C at_149 (q := 151) rfl (z := 48) (by decide) ?_
    refine Own.lushr C at_151 (q := 152) rfl fun z151 e151 => ?_
    refine Own.l2i C at_152 (q := 153) rfl fun z152 e152 => ?_
    refine Own.i2b C at_153 (q := 154) rfl fun z153 e153 => ?_
    refine Own.bastore C at_154 (q := 155) rfl upd_same (by decide) (Nat.le_of_ble_eq_true rfl) a2_g (mem (upd_list (vs' := [(.int z140.toInt8.toInt32), (.int z153.toInt8.toInt32), (.int z31.toInt8.toInt32), (.int z41.toInt8.toInt32), (.int z51.toInt8.toInt32), (.int z61.toInt8.toInt32), (.int z72.toInt8.toInt32), (.int z83.toInt8.toInt32), (.int z91.toInt8.toInt32), (.int z102.toInt8.toInt32), (.int z113.toInt8.toInt32), (.int z124.toInt8.toInt32)]) rfl upd_upd) ?_)
    refine Own.aload C at_155 (q := 157) rfl rfl rfl ?_
    refine Own.iload C at_157 (q := 159) rfl rfl ?_
    refine Own.iconst C at_159 (q := 160) rfl (z := 2) (by decide) ?_
    refine Own.iadd C at_160 (q := 161) rfl fun z160 e160 => ?_
    obtain rfl : z160 = (2 : Int32) := e160.trans (by decide)
    refine Own.lloadN C at_161 (q := 162) rfl rfl ?_
    refine Own.bipush C at_162 (q := 164) rfl (z := 40) (by decide) ?_
    refine Own.lushr C at_164 (q := 165) rfl fun z164 e164 => ?_
    refine Own.l2i C at_165 (q := 166) rfl fun z165 e165 => ?_
    refine Own.i2b C at_166 (q := 167) rfl fun z166 e166 => ?_
    refine Own.bastore C at_167 (q := 168) rfl upd_same (by decide) (Nat.le_of_ble_eq_true rfl) a2_g (mem (upd_list (vs' := [(.int z140.toInt8.toInt32), (.int z153.toInt8.toInt32), (.int z166.toInt8.toInt32), (.int z41.toInt8.toInt32), (.int z51.toInt8.toInt32), (.int z61.toInt8.toInt32), (.int z72.toInt8.toInt32), (.int z83.toInt8.toInt32), (.int z91.toInt8.toInt32), (.int z102.toInt8.toInt32), (.int z113.toInt8.toInt32), (.int z124.toInt8.toInt32)]) rfl upd_upd) ?_)
    refine Own.aload C at_168 (q := 170) rfl rfl rfl ?_
    refine Own.iload C at_170 (q := 172) rfl rfl ?_
    refine Own.iconst C at_172 (q := 173) rfl (z := 3) (by decide) ?_
    refine Own.iadd C at_173 (q := 174) rfl fun z173 e173 => ?_
    obtain rfl : z173 = (3 : Int32) := e173.trans (by decide)
    refine Own.lloadN C at_174 (q := 175) rfl rfl ?_
    refine Own.bipush C at_175 (q := 177) rfl (z := 32) (by decide) ?_
    refine Own.lushr C at_177 (q := 178) rfl fun z177 e177 => ?_
    refine Own.l2i C at_178 (q := 179) rfl fun z178 e178 => ?_
    refine Own.i2b C at_179 (q := 180) rfl fun z179 e179 => ?_
    refine Own.bastore C at_180 (q := 181) rfl upd_same (by decide) (Nat.le_of_ble_eq_true rfl) a2_g (mem (upd_list (vs' := [(.int z140.toInt8.toInt32), (.int z153.toInt8.toInt32), (.int z166.toInt8.toInt32), (.int z179.toInt8.toInt32), (.int z51.toInt8.toInt32), (.int z61.toInt8.toInt32), (.int z72.toInt8.toInt32), (.int z83.toInt8.toInt32), (.int z91.toInt8.toInt32), (.int z102.toInt8.toInt32), (.int z113.toInt8.toInt32), (.int z124.toInt8.toInt32)]) rfl upd_upd) ?_)
    refine Own.aload C at_181 (q := 183) rfl rfl rfl ?_
    refine Own.iload C at_183 (q := 185) rfl rfl ?_
    refine Own.iconst C at_185 (q := 186) rfl (z := 4) (by decide) ?_
    refine Own.iadd C at_186 (q := 187) rfl fun z186 e186 => ?_
    obtain rfl : z186 = (4 : Int32) := e186.trans (by decide)
    refine Own.lloadN C at_187 (q := 188) rfl rfl ?_
    refine Own.bipush C at_188 (q := 190) rfl (z := 24) (by decide) ?_
    refine Own.lushr C at_190 (q := 191) rfl fun z190 e190 => ?_
    refine Own.l2i C at_191 (q := 192) rfl fun z191 e191 => ?_
    refine Own.i2b C at_192 (q := 193) rfl fun z192 e192 => ?_
    refine Own.bastore C at_193 (q := 194) rfl upd_same (by decide) (Nat.le_of_ble_eq_true rfl) a2_g (mem (upd_list (vs' := [(.int z140.toInt8.toInt32), (.int z153.toInt8.toInt32), (.int z166.toInt8.toInt32), (.int z179.toInt8.toInt32), (.int z192.toInt8.toInt32), (.int z61.toInt8.toInt32), (.int z72.toInt8.toInt32), (.int z83.toInt8.toInt32), (.int z91.toInt8.toInt32), (.int z102.toInt8.toInt32), (.int z113.toInt8.toInt32), (.int z124.toInt8.toInt32)]) rfl upd_upd) ?_)
    refine Own.aload C at_194 (q := 196) rfl rfl rfl ?_
    refine Own.iload C at_196 (q := 198) rfl rfl ?_
    refine Own.iconst C at_198 (q := 199) rfl (z := 5) (by decide) ?_
    refine Own.iadd C at_199 (q := 200) rfl fun z199 e199 => ?_
    obtain rfl : z199 = (5 : Int32) := e199.trans (by decide)
    refine Own.lloadN C at_200 (q := 201) rfl rfl ?_
    refine Own.bipush C at_201 (q := 203) rfl (z := 16) (by decide) ?_
    refine Own.lushr C at_203 (q := 204) rfl fun z203 e203 => ?_
    refine Own.l2i C at_204 (q := 205) rfl fun z204 e204 => ?_
    refine Own.i2b C at_205 (q := 206) rfl fun z205 e205 => ?_
    refine Own.bastore C at_206 (q := 207) rfl upd_same (by decide) (Nat.le_of_ble_eq_true rfl) a2_g (mem (upd_list (vs' := [(.int z140.toInt8.toInt32), (.int z153.toInt8.toInt32), (.int z166.toInt8.toInt32), (.int z179.toInt8.toInt32), (.int z192.toInt8.toInt32), (.int z205.toInt8.toInt32), (.int z72.toInt8.toInt32), (.int z83.toInt8.toInt32), (.int z91.toInt8.toInt32), (.int z102.toInt8.toInt32), (.int z113.toInt8.toInt32), (.int z124.toInt8.toInt32)]) rfl upd_upd) ?_)
    refine Own.aload C at_207 (q := 209) rfl rfl rfl ?_
    refine Own.iload C at_209 (q := 211) rfl rfl ?_
    refine Own.bipush C at_211 (q := 213) rfl (z := 6) (by decide) ?_
    refine Own.iadd C at_213 (q := 214) rfl fun z213 e213 => ?_
    obtain rfl : z213 = (6 : Int32) := e213.trans (by decide)
    refine Own.lloadN C at_214 (q := 215) rfl rfl ?_
    refine Own.bipush C at_215 (q := 217) rfl (z := 8) (by decide) ?_
    refine Own.lushr C at_217 (q := 218) rfl fun z217 e217 => ?_
    refine Own.l2i C at_218 (q := 219) rfl fun z218 e218 => ?_
    refine Own.i2b C at_219 (q := 220) rfl fun z219 e219 => ?_
    refine Own.bastore C at_220 (q := 221) rfl upd_same (by decide) (Nat.le_of_ble_eq_true rfl) a2_g (mem (upd_list (vs' := [(.int z140.toInt8.toInt32), (.int z153.toInt8.toInt32), (.int z166.toInt8.toInt32), (.int z179.toInt8.toInt32), (.int z192.toInt8.toInt32), (.int z205.toInt8.toInt32), (.int z219.toInt8.toInt32), (.int z83.toInt8.toInt32), (.int z91.toInt8.toInt32), (.int z102.toInt8.toInt32), (.int z113.toInt8.toInt32), (.int z124.toInt8.toInt32)]) rfl upd_upd) ?_)
    refine Own.aload C at_221 (q := 223) rfl rfl rfl ?_
    refine Own.iload C at_223 (q := 225) rfl rfl ?_
    refine Own.bipush C at_225 (q := 227) rfl (z := 7) (by decide) ?_
    refine Own.iadd C at_227 (q := 228) rfl fun z227 e227 => ?_
    obtain rfl : z227 = (7 : Int32) := e227.trans (by decide)
    refine Own.lloadN C at_228 (q := 229) rfl rfl ?_
    refine Own.l2i C at_229 (q := 230) rfl fun z229 e229 => ?_
    refine Own.i2b C at_230 (q := 231) rfl fun z230 e230 => ?_
    refine Own.bastore C at_231 (q := 232) rfl upd_same (by decide) (Nat.le_of_ble_eq_true rfl) a2_g (mem (upd_list (vs' := [(.int z140.toInt8.toInt32), (.int z153.toInt8.toInt32), (.int z166.toInt8.toInt32), (.int z179.toInt8.toInt32), (.int z192.toInt8.toInt32), (.int z205.toInt8.toInt32), (.int z219.toInt8.toInt32), (.int z230.toInt8.toInt32), (.int z91.toInt8.toInt32), (.int z102.toInt8.toInt32), (.int z113.toInt8.toInt32), (.int z124.toInt8.toInt32)]) rfl upd_upd) ?_)
    refine Own.aload C at_232 (q := 234) rfl rfl rfl ?_
    refine Own.iload C at_234 (q := 236) rfl rfl ?_
    refine Own.callS C at_236 (q := 239) rfl (hw _ (List.mem_of_getElem? (i := 1) rfl)) (hw _ (List.mem_of_getElem? (i := 2) rfl)) (hw _ (List.mem_of_getElem? (i := 3) rfl)) (hw _ (List.mem_of_getElem? (i := 4) rfl)) (by decide) (W := 0) (rm := rm_1) (argsL := [(.ref a2), (.int (0 : Int32))]) (st := []) (lenOf pd_0 rfl) rfl rfl (Nat.le_of_eq rfl) (by decide) (by decide) (by decide) (by decide) (c_be l Z a0 hw n0 _ a2 (0 : Int32) [(.int z140.toInt8.toInt32), (.int z153.toInt8.toInt32), (.int z166.toInt8.toInt32), (.int z179.toInt8.toInt32), (.int z192.toInt8.toInt32), (.int z205.toInt8.toInt32), (.int z219.toInt8.toInt32), (.int z230.toInt8.toInt32), (.int z91.toInt8.toInt32), (.int z102.toInt8.toInt32), (.int z113.toInt8.toInt32), (.int z124.toInt8.toInt32)] v (z140.toInt8.toInt32) (z153.toInt8.toInt32) (z166.toInt8.toInt32) (z179.toInt8.toInt32) (z192.toInt8.toInt32) (z205.toInt8.toInt32) (z219.toInt8.toInt32) (z230.toInt8.toInt32) upd_same (by decide) (by decide) (by decide) (by decide) (by decide) (by decide) (by decide) (by decide) rfl rfl rfl rfl rfl rfl rfl rfl (byt_56 v e138 e139 e140).1 (byt_56 v e138 e139 e140).2 (byt_48 v e151 e152 e153).2 (byt_40 v e164 e165 e166).2 (byt_32 v e177 e178 e179).2 (byt_24 v e190 e191 e192).2 (byt_16 v e203 e204 e205).2 (byt_8 v e217 e218 e219).2 (byt_0 v e229 e230).2) (nxJ fun z236 μ236 h236 => ?_)
    obtain ⟨rfl, h236⟩ := h236
    refine Own.lloadN C at_239 (q := 240) rfl rfl ?_
    refine Own.lcmp_ne C at_240 (pc1 := 241) rfl at_241 (q := 244) rfl (r := 248) (by decide) (fun h240 => ?_) (fun h240 => ?_)
    · exact absurd h236 h240
    · refine Own.iconst C at_244 (q := 245) rfl (z := 1) (by decide) ?_
      refine Own.goto C at_245 (q := 249) (by decide) ?_
      refine Own.nreturn C at_249 (by simp) (z' := (1 : Int32)) (by decide) (by decide) (by decide) ?_
      rfl
  · refine Own.istore C at_129 (q := 131) rfl (L' := #[.val (.long v), .second, .val (.int i), .val (.long g), .second, .val (.int h), .val (.ref a2), .val (.int (1 : Int32))]) rfl ?_
    refine Own.aload C at_131 (q := 133) rfl rfl rfl ?_
    refine Own.iload C at_133 (q := 135) rfl rfl ?_
    refine Own.lloadN C at_135 (q := 136) rfl rfl ?_
    refine Own.bipush C at_136 (q := 138) rfl (z := 56) (by decide) ?_
    refine Own.lushr C at_138 (q := 139) rfl fun z138 e138 => ?_
    refine Own.l2i C at_139 (q := 140) rfl fun z139 e139 => ?_
    refine Own.i2b C at_140 (q := 141) rfl fun z140 e140 => ?_
    refine Own.bastore C at_141 (q := 142) rfl upd_same (by decide) (Nat.le_of_ble_eq_true rfl) a2_g (mem (upd_list (vs' := [(.int z11.toInt8.toInt32), (.int z140.toInt8.toInt32), (.int z31.toInt8.toInt32), (.int z41.toInt8.toInt32), (.int z51.toInt8.toInt32), (.int z61.toInt8.toInt32), (.int z72.toInt8.toInt32), (.int z83.toInt8.toInt32), (.int z91.toInt8.toInt32), (.int z102.toInt8.toInt32), (.int z113.toInt8.toInt32), (.int z124.toInt8.toInt32)]) rfl upd_upd) ?_)
    refine Own.aload C at_142 (q := 144) rfl rfl rfl ?_
    refine Own.iload C at_144 (q := 146) rfl rfl ?_
    refine Own.iconst C at_146 (q := 147) rfl (z := 1) (by decide) ?_
    refine Own.iadd C at_147 (q := 148) rfl fun z147 e147 => ?_
    obtain rfl : z147 = (2 : Int32) := e147.trans (by decide)
    refine Own.lloadN C at_148 (q := 149) rfl rfl ?_
    refine Own.bipush C at_149 (q := 151) rfl (z := 48) (by decide) ?_
    refine Own.lushr C at_151 (q := 152) rfl fun z151 e151 => ?_
    refine Own.l2i C at_152 (q := 153) rfl fun z152 e152 => ?_
    refine Own.i2b C at_153 (q := 154) rfl fun z153 e153 => ?_
    refine Own.bastore C at_154 (q := 155) rfl upd_same (by decide) (Nat.le_of_ble_eq_true rfl) a2_g (mem (upd_list (vs' := [(.int z11.toInt8.toInt32), (.int z140.toInt8.toInt32), (.int z153.toInt8.toInt32), (.int z41.toInt8.toInt32), (.int z51.toInt8.toInt32), (.int z61.toInt8.toInt32), (.int z72.toInt8.toInt32), (.int z83.toInt8.toInt32), (.int z91.toInt8.toInt32), (.int z102.toInt8.toInt32), (.int z113.toInt8.toInt32), (.int z124.toInt8.toInt32)]) rfl upd_upd) ?_)
    refine Own.aload C at_155 (q := 157) rfl rfl rfl ?_
    refine Own.iload C at_157 (q := 159) rfl rfl ?_
    refine Own.iconst C at_159 (q := 160) rfl (z := 2) (by decide) ?_
    refine Own.iadd C at_160 (q := 161) rfl fun z160 e160 => ?_
    obtain rfl : z160 = (3 : Int32) := e160.trans (by decide)
    refine Own.lloadN C at_161 (q := 162) rfl rfl ?_
    refine Own.bipush C at_162 (q := 164) rfl (z := 40) (by decide) ?_
    refine Own.lushr C at_164 (q := 165) rfl fun z164 e164 => ?_
    refine Own.l2i C at_165 (q := 166) rfl fun z165 e165 => ?_
    refine Own.i2b C at_166 (q := 167) rfl fun z166 e166 => ?_
    refine Own.bastore C at_167 (q := 168) rfl upd_same (by decide) (Nat.le_of_ble_eq_true rfl) a2_g (mem (upd_list (vs' := [(.int z11.toInt8.toInt32), (.int z140.toInt8.toInt32), (.int z153.toInt8.toInt32), (.int z166.toInt8.toInt32), (.int z51.toInt8.toInt32), (.int z61.toInt8.toInt32), (.int z72.toInt8.toInt32), (.int z83.toInt8.toInt32), (.int z91.toInt8.toInt32), (.int z102.toInt8.toInt32), (.int z113.toInt8.toInt32), (.int z124.toInt8.toInt32)]) rfl upd_upd) ?_)
    refine Own.aload C at_168 (q := 170) rfl rfl rfl ?_
    refine Own.iload C at_170 (q := 172) rfl rfl ?_
    refine Own.iconst C at_172 (q := 173) rfl (z := 3) (by decide) ?_
    refine Own.iadd C at_173 (q := 174) rfl fun z173 e173 => ?_
    obtain rfl : z173 = (4 : Int32) := e173.trans (by decide)
    refine Own.lloadN C at_174 (q := 175) rfl rfl ?_
    refine Own.bipush C at_175 (q := 177) rfl (z := 32) (by decide) ?_
    refine Own.lushr C at_177 (q := 178) rfl fun z177 e177 => ?_
    refine Own.l2i C at_178 (q := 179) rfl fun z178 e178 => ?_
    refine Own.i2b C at_179 (q := 180) rfl fun z179 e179 => ?_
    refine Own.bastore C at_180 (q := 181) rfl upd_same (by decide) (Nat.le_of_ble_eq_true rfl) a2_g (mem (upd_list (vs' := [(.int z11.toInt8.toInt32), (.int z140.toInt8.toInt32), (.int z153.toInt8.toInt32), (.int z166.toInt8.toInt32), (.int z179.toInt8.toInt32), (.int z61.toInt8.toInt32), (.int z72.toInt8.toInt32), (.int z83.toInt8.toInt32), (.int z91.toInt8.toInt32), (.int z102.toInt8.toInt32), (.int z113.toInt8.toInt32), (.int z124.toInt8.toInt32)]) rfl upd_upd) ?_)
    refine Own.aload C at_181 (q := 183) rfl rfl rfl ?_
    refine Own.iload C at_183 (q := 185) rfl rfl ?_
    refine Own.iconst C at_185 (q := 186) rfl (z := 4) (by decide) ?_
    refine Own.iadd C at_186 (q := 187) rfl fun z186 e186 => ?_
    obtain rfl : z186 = (5 : Int32) := e186.trans (by decide)
    refine Own.lloadN C at_187 (q := 188) rfl rfl ?_
    refine Own.bipush C at_188 (q := 190) rfl (z := 24) (by decide) ?_
    refine Own.lushr C at_190 (q := 191) rfl fun z190 e190 => ?_
    refine Own.l2i C at_191 (q := 192) rfl fun z191 e191 => ?_
    refine Own.i2b C at_192 (q := 193) rfl fun z192 e192 => ?_
    refine Own.bastore C at_193 (q := 194) rfl upd_same (by decide) (Nat.le_of_ble_eq_true rfl) a2_g (mem (upd_list (vs' := [(.int z11.toInt8.toInt32), (.int z140.toInt8.toInt32), (.int z153.toInt8.toInt32), (.int z166.toInt8.toInt32), (.int z179.toInt8.toInt32), (.int z192.toInt8.toInt32), (.int z72.toInt8.toInt32), (.int z83.toInt8.toInt32), (.int z91.toInt8.toInt32), (.int z102.toInt8.toInt32), (.int z113.toInt8.toInt32), (.int z124.toInt8.toInt32)]) rfl upd_upd) ?_)
    refine Own.aload C at_194 (q := 196) rfl rfl rfl ?_
    refine Own.iload C at_196 (q := 198) rfl rfl ?_
    refine Own.iconst C at_198 (q := 199) rfl (z := 5) (by decide) ?_
    refine Own.iadd C at_199 (q := 200) rfl fun z199 e199 => ?_
    obtain rfl : z199 = (6 : Int32) := e199.trans (by decide)
    refine Own.lloadN C at_200 (q := 201) rfl rfl ?_
    refine Own.bipush C at_201 (q := 203) rfl (z := 16) (by decide) ?_
    refine Own.lushr C at_203 (q := 204) rfl fun z203 e203 => ?_
    refine Own.l2i C at_204 (q := 205) rfl fun z204 e204 => ?_
    refine Own.i2b C at_205 (q := 206) rfl fun z205 e205 => ?_
    refine Own.bastore C at_206 (q := 207) rfl upd_same (by decide) (Nat.le_of_ble_eq_true rfl) a2_g (mem (upd_list (vs' := [(.int z11.toInt8.toInt32), (.int z140.toInt8.toInt32), (.int z153.toInt8.toInt32), (.int z166.toInt8.toInt32), (.int z179.toInt8.toInt32), (.int z192.toInt8.toInt32), (.int z205.toInt8.toInt32), (.int z83.toInt8.toInt32), (.int z91.toInt8.toInt32), (.int z102.toInt8.toInt32), (.int z113.toInt8.toInt32), (.int z124.toInt8.toInt32)]) rfl upd_upd) ?_)
    refine Own.aload C at_207 (q := 209) rfl rfl rfl ?_
    refine Own.iload C at_209 (q := 211) rfl rfl ?_
    refine Own.bipush C at_211 (q := 213) rfl (z := 6) (by decide) ?_
    refine Own.iadd C at_213 (q := 214) rfl fun z213 e213 => ?_
    obtain rfl : z213 = (7 : Int32) := e213.trans (by decide)
    refine Own.lloadN C at_214 (q := 215) rfl rfl ?_
    refine Own.bipush C at_215 (q := 217) rfl (z := 8) (by decide) ?_
    refine Own.lushr C at_217 (q := 218) rfl fun z217 e217 => ?_
    refine Own.l2i C at_218 (q := 219) rfl fun z218 e218 => ?_
    refine Own.i2b C at_219 (q := 220) rfl fun z219 e219 => ?_
    refine Own.bastore C at_220 (q := 221) rfl upd_same (by decide) (Nat.le_of_ble_eq_true rfl) a2_g (mem (upd_list (vs' := [(.int z11.toInt8.toInt32), (.int z140.toInt8.toInt32), (.int z153.toInt8.toInt32), (.int z166.toInt8.toInt32), (.int z179.toInt8.toInt32), (.int z192.toInt8.toInt32), (.int z205.toInt8.toInt32), (.int z219.toInt8.toInt32), (.int z91.toInt8.toInt32), (.int z102.toInt8.toInt32), (.int z113.toInt8.toInt32), (.int z124.toInt8.toInt32)]) rfl upd_upd) ?_)
    refine Own.aload C at_221 (q := 223) rfl rfl rfl ?_
    refine Own.iload C at_223 (q := 225) rfl rfl ?_
    refine Own.bipush C at_225 (q := 227) rfl (z := 7) (by decide) ?_
    refine Own.iadd C at_227 (q := 228) rfl fun z227 e227 => ?_
    obtain rfl : z227 = (8 : Int32) := e227.trans (by decide)
    refine Own.lloadN C at_228 (q := 229) rfl rfl ?_
    refine Own.l2i C at_229 (q := 230) rfl fun z229 e229 => ?_
    refine Own.i2b C at_230 (q := 231) rfl fun z230 e230 => ?_
    refine Own.bastore C at_231 (q := 232) rfl upd_same (by decide) (Nat.le_of_ble_eq_true rfl) a2_g (mem (upd_list (vs' := [(.int z11.toInt8.toInt32), (.int z140.toInt8.toInt32), (.int z153.toInt8.toInt32), (.int z166.toInt8.toInt32), (.int z179.toInt8.toInt32), (.int z192.toInt8.toInt32), (.int z205.toInt8.toInt32), (.int z219.toInt8.toInt32), (.int z230.toInt8.toInt32), (.int z102.toInt8.toInt32), (.int z113.toInt8.toInt32), (.int z124.toInt8.toInt32)]) rfl upd_upd) ?_)
    refine Own.aload C at_232 (q := 234) rfl rfl rfl ?_
    refine Own.iload C at_234 (q := 236) rfl rfl ?_
    refine Own.callS C at_236 (q := 239) rfl (hw _ (List.mem_of_getElem? (i := 1) rfl)) (hw _ (List.mem_of_getElem? (i := 2) rfl)) (hw _ (List.mem_of_getElem? (i := 3) rfl)) (hw _ (List.mem_of_getElem? (i := 4) rfl)) (by decide) (W := 0) (rm := rm_1) (argsL := [(.ref a2), (.int (1 : Int32))]) (st := []) (lenOf pd_0 rfl) rfl rfl (Nat.le_of_eq rfl) (by decide) (by decide) (by decide) (by decide) (c_be l Z a0 hw n0 _ a2 (1 : Int32) [(.int z11.toInt8.toInt32), (.int z140.toInt8.toInt32), (.int z153.toInt8.toInt32), (.int z166.toInt8.toInt32), (.int z179.toInt8.toInt32), (.int z192.toInt8.toInt32), (.int z205.toInt8.toInt32), (.int z219.toInt8.toInt32), (.int z230.toInt8.toInt32), (.int z102.toInt8.toInt32), (.int z113.toInt8.toInt32), (.int z124.toInt8.toInt32)] v (z140.toInt8.toInt32) (z153.toInt8.toInt32) (z166.toInt8.toInt32) (z179.toInt8.toInt32) (z192.toInt8.toInt32) (z205.toInt8.toInt32) (z219.toInt8.toInt32) (z230.toInt8.toInt32) upd_same (by decide) (by decide) (by decide) (by decide) (by decide) (by decide) (by decide) (by decide) rfl rfl rfl rfl rfl rfl rfl rfl (byt_56 v e138 e139 e140).1 (byt_56 v e138 e139 e140).2 (byt_48 v e151 e152 e153).2 (byt_40 v e164 e165 e166).2 (byt_32 v e177 e178 e179).2 (byt_24 v e190 e191 e192).2 (byt_16 v e203 e204 e205).2 (byt_8 v e217 e218 e219).2 (byt_0 v e229 e230).2) (nxJ fun z236 μ236 h236 => ?_)
    obtain ⟨rfl, h236⟩ := h236
    refine Own.lloadN C at_239 (q := 240) rfl rfl ?_
    refine Own.lcmp_ne C at_240 (pc1 := 241) rfl at_241 (q := 244) rfl (r := 248) (by decide) (fun h240 => ?_) (fun h240 => ?_)
    · exact absurd h236 h240
    · refine Own.iconst C at_244 (q := 245) rfl (z := 1) (by decide) ?_
      refine Own.goto C at_245 (q := 249) (by decide) ?_
      refine Own.nreturn C at_249 (by simp) (z' := (1 : Int32)) (by decide) (by decide) (by decide) ?_
      rfl
  · refine Own.istore C at_129 (q := 131) rfl (L' := #[.val (.long v), .second, .val (.int i), .val (.long g), .second, .val (.int h), .val (.ref a2), .val (.int (2 : Int32))]) rfl ?_
    refine Own.aload C at_131 (q := 133) rfl rfl rfl ?_
    refine Own.iload C at_133 (q := 135) rfl rfl ?_
    refine Own.lloadN C at_135 (q := 136) rfl rfl ?_
    refine Own.bipush C at_136 (q := 138) rfl (z := 56) (by decide) ?_
    refine Own.lushr C at_138 (q := 139) rfl fun z138 e138 => ?_
    refine Own.l2i C at_139 (q := 140) rfl fun z139 e139 => ?_
    refine Own.i2b C at_140 (q := 141) rfl fun z140 e140 => ?_
    refine Own.bastore C at_141 (q := 142) rfl upd_same (by decide) (Nat.le_of_ble_eq_true rfl) a2_g (mem (upd_list (vs' := [(.int z11.toInt8.toInt32), (.int z21.toInt8.toInt32), (.int z140.toInt8.toInt32), (.int z41.toInt8.toInt32), (.int z51.toInt8.toInt32), (.int z61.toInt8.toInt32), (.int z72.toInt8.toInt32), (.int z83.toInt8.toInt32), (.int z91.toInt8.toInt32), (.int z102.toInt8.toInt32), (.int z113.toInt8.toInt32), (.int z124.toInt8.toInt32)]) rfl upd_upd) ?_)
    refine Own.aload C at_142 (q := 144) rfl rfl rfl ?_
    refine Own.iload C at_144 (q := 146) rfl rfl ?_
    refine Own.iconst C at_146 (q := 147) rfl (z := 1) (by decide) ?_
    refine Own.iadd C at_147 (q := 148) rfl fun z147 e147 => ?_
    obtain rfl : z147 = (3 : Int32) := e147.trans (by decide)
    refine Own.lloadN C at_148 (q := 149) rfl rfl ?_
    refine Own.bipush C at_149 (q := 151) rfl (z := 48) (by decide) ?_
    refine Own.lushr C at_151 (q := 152) rfl fun z151 e151 => ?_
    refine Own.l2i C at_152 (q := 153) rfl fun z152 e152 => ?_
    refine Own.i2b C at_153 (q := 154) rfl fun z153 e153 => ?_
    refine Own.bastore C at_154 (q := 155) rfl upd_same (by decide) (Nat.le_of_ble_eq_true rfl) a2_g (mem (upd_list (vs' := [(.int z11.toInt8.toInt32), (.int z21.toInt8.toInt32), (.int z140.toInt8.toInt32), (.int z153.toInt8.toInt32), (.int z51.toInt8.toInt32), (.int z61.toInt8.toInt32), (.int z72.toInt8.toInt32), (.int z83.toInt8.toInt32), (.int z91.toInt8.toInt32), (.int z102.toInt8.toInt32), (.int z113.toInt8.toInt32), (.int z124.toInt8.toInt32)]) rfl upd_upd) ?_)
    refine Own.aload C at_155 (q := 157) rfl rfl rfl ?_
    refine Own.iload C at_157 (q := 159) rfl rfl ?_
    refine Own.iconst C at_159 (q := 160) rfl (z := 2) (by decide) ?_
    refine Own.iadd C at_160 (q := 161) rfl fun z160 e160 => ?_
    obtain rfl : z160 = (4 : Int32) := e160.trans (by decide)
    refine Own.lloadN C at_161 (q := 162) rfl rfl ?_
    refine Own.bipush C at_162 (q := 164) rfl (z := 40) (by decide) ?_
    refine Own.lushr C at_164 (q := 165) rfl fun z164 e164 => ?_
    refine Own.l2i C at_165 (q := 166) rfl fun z165 e165 => ?_
    refine Own.i2b C at_166 (q := 167) rfl fun z166 e166 => ?_
    refine Own.bastore C at_167 (q := 168) rfl upd_same (by decide) (Nat.le_of_ble_eq_true rfl) a2_g (mem (upd_list (vs' := [(.int z11.toInt8.toInt32), (.int z21.toInt8.toInt32), (.int z140.toInt8.toInt32), (.int z153.toInt8.toInt32), (.int z166.toInt8.toInt32), (.int z61.toInt8.toInt32), (.int z72.toInt8.toInt32), (.int z83.toInt8.toInt32), (.int z91.toInt8.toInt32), (.int z102.toInt8.toInt32), (.int z113.toInt8.toInt32), (.int z124.toInt8.toInt32)]) rfl upd_upd) ?_)
    refine Own.aload C at_168 (q := 170) rfl rfl rfl ?_
    refine Own.iload C at_170 (q := 172) rfl rfl ?_
    refine Own.iconst C at_172 (q := 173) rfl (z := 3) (by decide) ?_
    refine Own.iadd C at_173 (q := 174) rfl fun z173 e173 => ?_
    obtain rfl : z173 = (5 : Int32) := e173.trans (by decide)
    refine Own.lloadN C at_174 (q := 175) rfl rfl ?_
    refine Own.bipush C at_175 (q := 177) rfl (z := 32) (by decide) ?_
    refine Own.lushr C at_177 (q := 178) rfl fun z177 e177 => ?_
    refine Own.l2i C at_178 (q := 179) rfl fun z178 e178 => ?_
    refine Own.i2b C at_179 (q := 180) rfl fun z179 e179 => ?_
    refine Own.bastore C at_180 (q := 181) rfl upd_same (by decide) (Nat.le_of_ble_eq_true rfl) a2_g (mem (upd_list (vs' := [(.int z11.toInt8.toInt32), (.int z21.toInt8.toInt32), (.int z140.toInt8.toInt32), (.int z153.toInt8.toInt32), (.int z166.toInt8.toInt32), (.int z179.toInt8.toInt32), (.int z72.toInt8.toInt32), (.int z83.toInt8.toInt32), (.int z91.toInt8.toInt32), (.int z102.toInt8.toInt32), (.int z113.toInt8.toInt32), (.int z124.toInt8.toInt32)]) rfl upd_upd) ?_)
    refine Own.aload C at_181 (q := 183) rfl rfl rfl ?_
    refine Own.iload C at_183 (q := 185) rfl rfl ?_
    refine Own.iconst C at_185 (q := 186) rfl (z := 4) (by decide) ?_
    refine Own.iadd C at_186 (q := 187) rfl fun z186 e186 => ?_
    obtain rfl : z186 = (6 : Int32) := e186.trans (by decide)
    refine Own.lloadN C at_187 (q := 188) rfl rfl ?_
    refine Own.bipush C at_188 (q := 190) rfl (z := 24) (by decide) ?_
    refine Own.lushr C at_190 (q := 191) rfl fun z190 e190 => ?_
    refine Own.l2i C at_191 (q := 192) rfl fun z191 e191 => ?_
    refine Own.i2b C at_192 (q := 193) rfl fun z192 e192 => ?_
    refine Own.bastore C at_193 (q := 194) rfl upd_same (by decide) (Nat.le_of_ble_eq_true rfl) a2_g (mem (upd_list (vs' := [(.int z11.toInt8.toInt32), (.int z21.toInt8.toInt32), (.int z140.toInt8.toInt32), (.int z153.toInt8.toInt32), (.int z166.toInt8.toInt32), (.int z179.toInt8.toInt32), (.int z192.toInt8.toInt32), (.int z83.toInt8.toInt32), (.int z91.toInt8.toInt32), (.int z102.toInt8.toInt32), (.int z113.toInt8.toInt32), (.int z124.toInt8.toInt32)]) rfl upd_upd) ?_)
    refine Own.aload C at_194 (q := 196) rfl rfl rfl ?_
    refine Own.iload C at_196 (q := 198) rfl rfl ?_
    refine Own.iconst C at_198 (q := 199) rfl (z := 5) (by decide) ?_
    refine Own.iadd C at_199 (q := 200) rfl fun z199 e199 => ?_
    obtain rfl : z199 = (7 : Int32) := e199.trans (by decide)
    refine Own.lloadN C at_200 (q := 201) rfl rfl ?_
    refine Own.bipush C at_201 (q := 203) rfl (z := 16) (by decide) ?_
    refine Own.lushr C at_203 (q := 204) rfl fun z203 e203 => ?_
    refine Own.l2i C at_204 (q := 205) rfl fun z204 e204 => ?_
    refine Own.i2b C at_205 (q := 206) rfl fun z205 e205 => ?_
    refine Own.bastore C at_206 (q := 207) rfl upd_same (by decide) (Nat.le_of_ble_eq_true rfl) a2_g (mem (upd_list (vs' := [(.int z11.toInt8.toInt32), (.int z21.toInt8.toInt32), (.int z140.toInt8.toInt32), (.int z153.toInt8.toInt32), (.int z166.toInt8.toInt32), (.int z179.toInt8.toInt32), (.int z192.toInt8.toInt32), (.int z205.toInt8.toInt32), (.int z91.toInt8.toInt32), (.int z102.toInt8.toInt32), (.int z113.toInt8.toInt32), (.int z124.toInt8.toInt32)]) rfl upd_upd) ?_)
    refine Own.aload C at_207 (q := 209) rfl rfl rfl ?_
    refine Own.iload C at_209 (q := 211) rfl rfl ?_
    refine Own.bipush C at_211 (q := 213) rfl (z := 6) (by decide) ?_
    refine Own.iadd C at_213 (q := 214) rfl fun z213 e213 => ?_
    obtain rfl : z213 = (8 : Int32) := e213.trans (by decide)
    refine Own.lloadN C at_214 (q := 215) rfl rfl ?_
    refine Own.bipush C at_215 (q := 217) rfl (z := 8) (by decide) ?_
    refine Own.lushr C at_217 (q := 218) rfl fun z217 e217 => ?_
    refine Own.l2i C at_218 (q := 219) rfl fun z218 e218 => ?_
    refine Own.i2b C at_219 (q := 220) rfl fun z219 e219 => ?_
    refine Own.bastore C at_220 (q := 221) rfl upd_same (by decide) (Nat.le_of_ble_eq_true rfl) a2_g (mem (upd_list (vs' := [(.int z11.toInt8.toInt32), (.int z21.toInt8.toInt32), (.int z140.toInt8.toInt32), (.int z153.toInt8.toInt32), (.int z166.toInt8.toInt32), (.int z179.toInt8.toInt32), (.int z192.toInt8.toInt32), (.int z205.toInt8.toInt32), (.int z219.toInt8.toInt32), (.int z102.toInt8.toInt32), (.int z113.toInt8.toInt32), (.int z124.toInt8.toInt32)]) rfl upd_upd) ?_)
    refine Own.aload C at_221 (q := 223) rfl rfl rfl ?_
    refine Own.iload C at_223 (q := 225) rfl rfl ?_
    refine Own.bipush C at_225 (q := 227) rfl (z := 7) (by decide) ?_
    refine Own.iadd C at_227 (q := 228) rfl fun z227 e227 => ?_
    obtain rfl : z227 = (9 : Int32) := e227.trans (by decide)
    refine Own.lloadN C at_228 (q := 229) rfl rfl ?_
    refine Own.l2i C at_229 (q := 230) rfl fun z229 e229 => ?_
    refine Own.i2b C at_230 (q := 231) rfl fun z230 e230 => ?_
    refine Own.bastore C at_231 (q := 232) rfl upd_same (by decide) (Nat.le_of_ble_eq_true rfl) a2_g (mem (upd_list (vs' := [(.int z11.toInt8.toInt32), (.int z21.toInt8.toInt32), (.int z140.toInt8.toInt32), (.int z153.toInt8.toInt32), (.int z166.toInt8.toInt32), (.int z179.toInt8.toInt32), (.int z192.toInt8.toInt32), (.int z205.toInt8.toInt32), (.int z219.toInt8.toInt32), (.int z230.toInt8.toInt32), (.int z113.toInt8.toInt32), (.int z124.toInt8.toInt32)]) rfl upd_upd) ?_)
    refine Own.aload C at_232 (q := 234) rfl rfl rfl ?_
    refine Own.iload C at_234 (q := 236) rfl rfl ?_
    refine Own.callS C at_236 (q := 239) rfl (hw _ (List.mem_of_getElem? (i := 1) rfl)) (hw _ (List.mem_of_getElem? (i := 2) rfl)) (hw _ (List.mem_of_getElem? (i := 3) rfl)) (hw _ (List.mem_of_getElem? (i := 4) rfl)) (by decide) (W := 0) (rm := rm_1) (argsL := [(.ref a2), (.int (2 : Int32))]) (st := []) (lenOf pd_0 rfl) rfl rfl (Nat.le_of_eq rfl) (by decide) (by decide) (by decide) (by decide) (c_be l Z a0 hw n0 _ a2 (2 : Int32) [(.int z11.toInt8.toInt32), (.int z21.toInt8.toInt32), (.int z140.toInt8.toInt32), (.int z153.toInt8.toInt32), (.int z166.toInt8.toInt32), (.int z179.toInt8.toInt32), (.int z192.toInt8.toInt32), (.int z205.toInt8.toInt32), (.int z219.toInt8.toInt32), (.int z230.toInt8.toInt32), (.int z113.toInt8.toInt32), (.int z124.toInt8.toInt32)] v (z140.toInt8.toInt32) (z153.toInt8.toInt32) (z166.toInt8.toInt32) (z179.toInt8.toInt32) (z192.toInt8.toInt32) (z205.toInt8.toInt32) (z219.toInt8.toInt32) (z230.toInt8.toInt32) upd_same (by decide) (by decide) (by decide) (by decide) (by decide) (by decide) (by decide) (by decide) rfl rfl rfl rfl rfl rfl rfl rfl (byt_56 v e138 e139 e140).1 (byt_56 v e138 e139 e140).2 (byt_48 v e151 e152 e153).2 (byt_40 v e164 e165 e166).2 (byt_32 v e177 e178 e179).2 (byt_24 v e190 e191 e192).2 (byt_16 v e203 e204 e205).2 (byt_8 v e217 e218 e219).2 (byt_0 v e229 e230).2) (nxJ fun z236 μ236 h236 => ?_)
    obtain ⟨rfl, h236⟩ := h236
    refine Own.lloadN C at_239 (q := 240) rfl rfl ?_
    refine Own.lcmp_ne C at_240 (pc1 := 241) rfl at_241 (q := 244) rfl (r := 248) (by decide) (fun h240 => ?_) (fun h240 => ?_)
    · exact absurd h236 h240
    · refine Own.iconst C at_244 (q := 245) rfl (z := 1) (by decide) ?_
      refine Own.goto C at_245 (q := 249) (by decide) ?_
      refine Own.nreturn C at_249 (by simp) (z' := (1 : Int32)) (by decide) (by decide) (by decide) ?_
      rfl
  · refine Own.istore C at_129 (q := 131) rfl (L' := #[.val (.long v), .second, .val (.int i), .val (.long g), .second, .val (.int h), .val (.ref a2), .val (.int (3 : Int32))]) rfl ?_
    refine Own.aload C at_131 (q := 133) rfl rfl rfl ?_
    refine Own.iload C at_133 (q := 135) rfl rfl ?_
    refine Own.lloadN C at_135 (q := 136) rfl rfl ?_
    refine Own.bipush C at_136 (q := 138) rfl (z := 56) (by decide) ?_
    refine Own.lushr C at_138 (q := 139) rfl fun z138 e138 => ?_
    refine Own.l2i C at_139 (q := 140) rfl fun z139 e139 => ?_
    refine Own.i2b C at_140 (q := 141) rfl fun z140 e140 => ?_
    refine Own.bastore C at_141 (q := 142) rfl upd_same (by decide) (Nat.le_of_ble_eq_true rfl) a2_g (mem (upd_list (vs' := [(.int z11.toInt8.toInt32), (.int z21.toInt8.toInt32), (.int z31.toInt8.toInt32), (.int z140.toInt8.toInt32), (.int z51.toInt8.toInt32), (.int z61.toInt8.toInt32), (.int z72.toInt8.toInt32), (.int z83.toInt8.toInt32), (.int z91.toInt8.toInt32), (.int z102.toInt8.toInt32), (.int z113.toInt8.toInt32), (.int z124.toInt8.toInt32)]) rfl upd_upd) ?_)
    refine Own.aload C at_142 (q := 144) rfl rfl rfl ?_
    refine Own.iload C at_144 (q := 146) rfl rfl ?_
    refine Own.iconst C at_146 (q := 147) rfl (z := 1) (by decide) ?_
    refine Own.iadd C at_147 (q := 148) rfl fun z147 e147 => ?_
    obtain rfl : z147 = (4 : Int32) := e147.trans (by decide)
    refine Own.lloadN C at_148 (q := 149) rfl rfl ?_
    refine Own.bipush C at_149 (q := 151) rfl (z := 48) (by decide) ?_
    refine Own.lushr C at_151 (q := 152) rfl fun z151 e151 => ?_
    refine Own.l2i C at_152 (q := 153) rfl fun z152 e152 => ?_
    refine Own.i2b C at_153 (q := 154) rfl fun z153 e153 => ?_
    refine Own.bastore C at_154 (q := 155) rfl upd_same (by decide) (Nat.le_of_ble_eq_true rfl) a2_g (mem (upd_list (vs' := [(.int z11.toInt8.toInt32), (.int z21.toInt8.toInt32), (.int z31.toInt8.toInt32), (.int z140.toInt8.toInt32), (.int z153.toInt8.toInt32), (.int z61.toInt8.toInt32), (.int z72.toInt8.toInt32), (.int z83.toInt8.toInt32), (.int z91.toInt8.toInt32), (.int z102.toInt8.toInt32), (.int z113.toInt8.toInt32), (.int z124.toInt8.toInt32)]) rfl upd_upd) ?_)
    refine Own.aload C at_155 (q := 157) rfl rfl rfl ?_
    refine Own.iload C at_157 (q := 159) rfl rfl ?_
    refine Own.iconst C at_159 (q := 160) rfl (z := 2) (by decide) ?_
    refine Own.iadd C at_160 (q := 161) rfl fun z160 e160 => ?_
    obtain rfl : z160 = (5 : Int32) := e160.trans (by decide)
    refine Own.lloadN C at_161 (q := 162) rfl rfl ?_
    refine Own.bipush C at_162 (q := 164) rfl (z := 40) (by decide) ?_
    refine Own.lushr C at_164 (q := 165) rfl fun z164 e164 => ?_
    refine Own.l2i C at_165 (q := 166) rfl fun z165 e165 => ?_
    refine Own.i2b C at_166 (q := 167) rfl fun z166 e166 => ?_
    refine Own.bastore C at_167 (q := 168) rfl upd_same (by decide) (Nat.le_of_ble_eq_true rfl) a2_g (mem (upd_list (vs' := [(.int z11.toInt8.toInt32), (.int z21.toInt8.toInt32), (.int z31.toInt8.toInt32), (.int z140.toInt8.toInt32), (.int z153.toInt8.toInt32), (.int z166.toInt8.toInt32), (.int z72.toInt8.toInt32), (.int z83.toInt8.toInt32), (.int z91.toInt8.toInt32), (.int z102.toInt8.toInt32), (.int z113.toInt8.toInt32), (.int z124.toInt8.toInt32)]) rfl upd_upd) ?_)
    refine Own.aload C at_168 (q := 170) rfl rfl rfl ?_
    refine Own.iload C at_170 (q := 172) rfl rfl ?_
    refine Own.iconst C at_172 (q := 173) rfl (z := 3) (by decide) ?_
    refine Own.iadd C at_173 (q := 174) rfl fun z173 e173 => ?_
    obtain rfl : z173 = (6 : Int32) := e173.trans (by decide)
    refine Own.lloadN C at_174 (q := 175) rfl rfl ?_
    refine Own.bipush C at_175 (q := 177) rfl (z := 32) (by decide) ?_
    refine Own.lushr C at_177 (q := 178) rfl fun z177 e177 => ?_
    refine Own.l2i C at_178 (q := 179) rfl fun z178 e178 => ?_
    refine Own.i2b C at_179 (q := 180) rfl fun z179 e179 => ?_
    refine Own.bastore C at_180 (q := 181) rfl upd_same (by decide) (Nat.le_of_ble_eq_true rfl) a2_g (mem (upd_list (vs' := [(.int z11.toInt8.toInt32), (.int z21.toInt8.toInt32), (.int z31.toInt8.toInt32), (.int z140.toInt8.toInt32), (.int z153.toInt8.toInt32), (.int z166.toInt8.toInt32), (.int z179.toInt8.toInt32), (.int z83.toInt8.toInt32), (.int z91.toInt8.toInt32), (.int z102.toInt8.toInt32), (.int z113.toInt8.toInt32), (.int z124.toInt8.toInt32)]) rfl upd_upd) ?_)
    refine Own.aload C at_181 (q := 183) rfl rfl rfl ?_
    refine Own.iload C at_183 (q := 185) rfl rfl ?_
    refine Own.iconst C at_185 (q := 186) rfl (z := 4) (by decide) ?_
    refine Own.iadd C at_186 (q := 187) rfl fun z186 e186 => ?_
    obtain rfl : z186 = (7 : Int32) := e186.trans (by decide)
    refine Own.lloadN C at_187 (q := 188) rfl rfl ?_
    refine Own.bipush C at_188 (q := 190) rfl (z := 24) (by decide) ?_
    refine Own.lushr C at_190 (q := 191) rfl fun z190 e190 => ?_
    refine Own.l2i C at_191 (q := 192) rfl fun z191 e191 => ?_
    refine Own.i2b C at_192 (q := 193) rfl fun z192 e192 => ?_
    refine Own.bastore C at_193 (q := 194) rfl upd_same (by decide) (Nat.le_of_ble_eq_true rfl) a2_g (mem (upd_list (vs' := [(.int z11.toInt8.toInt32), (.int z21.toInt8.toInt32), (.int z31.toInt8.toInt32), (.int z140.toInt8.toInt32), (.int z153.toInt8.toInt32), (.int z166.toInt8.toInt32), (.int z179.toInt8.toInt32), (.int z192.toInt8.toInt32), (.int z91.toInt8.toInt32), (.int z102.toInt8.toInt32), (.int z113.toInt8.toInt32), (.int z124.toInt8.toInt32)]) rfl upd_upd) ?_)
    refine Own.aload C at_194 (q := 196) rfl rfl rfl ?_
    refine Own.iload C at_196 (q := 198) rfl rfl ?_
    refine Own.iconst C at_198 (q := 199) rfl (z := 5) (by decide) ?_
    refine Own.iadd C at_199 (q := 200) rfl fun z199 e199 => ?_
    obtain rfl : z199 = (8 : Int32) := e199.trans (by decide)
    refine Own.lloadN C at_200 (q := 201) rfl rfl ?_
    refine Own.bipush C at_201 (q := 203) rfl (z := 16) (by decide) ?_
    refine Own.lushr C at_203 (q := 204) rfl fun z203 e203 => ?_
    refine Own.l2i C at_204 (q := 205) rfl fun z204 e204 => ?_
    refine Own.i2b C at_205 (q := 206) rfl fun z205 e205 => ?_
    refine Own.bastore C at_206 (q := 207) rfl upd_same (by decide) (Nat.le_of_ble_eq_true rfl) a2_g (mem (upd_list (vs' := [(.int z11.toInt8.toInt32), (.int z21.toInt8.toInt32), (.int z31.toInt8.toInt32), (.int z140.toInt8.toInt32), (.int z153.toInt8.toInt32), (.int z166.toInt8.toInt32), (.int z179.toInt8.toInt32), (.int z192.toInt8.toInt32), (.int z205.toInt8.toInt32), (.int z102.toInt8.toInt32), (.int z113.toInt8.toInt32), (.int z124.toInt8.toInt32)]) rfl upd_upd) ?_)
    refine Own.aload C at_207 (q := 209) rfl rfl rfl ?_
    refine Own.iload C at_209 (q := 211) rfl rfl ?_
    refine Own.bipush C at_211 (q := 213) rfl (z := 6) (by decide) ?_
    refine Own.iadd C at_213 (q := 214) rfl fun z213 e213 => ?_
    obtain rfl : z213 = (9 : Int32) := e213.trans (by decide)
    refine Own.lloadN C at_214 (q := 215) rfl rfl ?_
    refine Own.bipush C at_215 (q := 217) rfl (z := 8) (by decide) ?_
    refine Own.lushr C at_217 (q := 218) rfl fun z217 e217 => ?_
    refine Own.l2i C at_218 (q := 219) rfl fun z218 e218 => ?_
    refine Own.i2b C at_219 (q := 220) rfl fun z219 e219 => ?_
    refine Own.bastore C at_220 (q := 221) rfl upd_same (by decide) (Nat.le_of_ble_eq_true rfl) a2_g (mem (upd_list (vs' := [(.int z11.toInt8.toInt32), (.int z21.toInt8.toInt32), (.int z31.toInt8.toInt32), (.int z140.toInt8.toInt32), (.int z153.toInt8.toInt32), (.int z166.toInt8.toInt32), (.int z179.toInt8.toInt32), (.int z192.toInt8.toInt32), (.int z205.toInt8.toInt32), (.int z219.toInt8.toInt32), (.int z113.toInt8.toInt32), (.int z124.toInt8.toInt32)]) rfl upd_upd) ?_)
    refine Own.aload C at_221 (q := 223) rfl rfl rfl ?_
    refine Own.iload C at_223 (q := 225) rfl rfl ?_
    refine Own.bipush C at_225 (q := 227) rfl (z := 7) (by decide) ?_
    refine Own.iadd C at_227 (q := 228) rfl fun z227 e227 => ?_
    obtain rfl : z227 = (10 : Int32) := e227.trans (by decide)
    refine Own.lloadN C at_228 (q := 229) rfl rfl ?_
    refine Own.l2i C at_229 (q := 230) rfl fun z229 e229 => ?_
    refine Own.i2b C at_230 (q := 231) rfl fun z230 e230 => ?_
    refine Own.bastore C at_231 (q := 232) rfl upd_same (by decide) (Nat.le_of_ble_eq_true rfl) a2_g (mem (upd_list (vs' := [(.int z11.toInt8.toInt32), (.int z21.toInt8.toInt32), (.int z31.toInt8.toInt32), (.int z140.toInt8.toInt32), (.int z153.toInt8.toInt32), (.int z166.toInt8.toInt32), (.int z179.toInt8.toInt32), (.int z192.toInt8.toInt32), (.int z205.toInt8.toInt32), (.int z219.toInt8.toInt32), (.int z230.toInt8.toInt32), (.int z124.toInt8.toInt32)]) rfl upd_upd) ?_)
    refine Own.aload C at_232 (q := 234) rfl rfl rfl ?_
    refine Own.iload C at_234 (q := 236) rfl rfl ?_
    refine Own.callS C at_236 (q := 239) rfl (hw _ (List.mem_of_getElem? (i := 1) rfl)) (hw _ (List.mem_of_getElem? (i := 2) rfl)) (hw _ (List.mem_of_getElem? (i := 3) rfl)) (hw _ (List.mem_of_getElem? (i := 4) rfl)) (by decide) (W := 0) (rm := rm_1) (argsL := [(.ref a2), (.int (3 : Int32))]) (st := []) (lenOf pd_0 rfl) rfl rfl (Nat.le_of_eq rfl) (by decide) (by decide) (by decide) (by decide) (c_be l Z a0 hw n0 _ a2 (3 : Int32) [(.int z11.toInt8.toInt32), (.int z21.toInt8.toInt32), (.int z31.toInt8.toInt32), (.int z140.toInt8.toInt32), (.int z153.toInt8.toInt32), (.int z166.toInt8.toInt32), (.int z179.toInt8.toInt32), (.int z192.toInt8.toInt32), (.int z205.toInt8.toInt32), (.int z219.toInt8.toInt32), (.int z230.toInt8.toInt32), (.int z124.toInt8.toInt32)] v (z140.toInt8.toInt32) (z153.toInt8.toInt32) (z166.toInt8.toInt32) (z179.toInt8.toInt32) (z192.toInt8.toInt32) (z205.toInt8.toInt32) (z219.toInt8.toInt32) (z230.toInt8.toInt32) upd_same (by decide) (by decide) (by decide) (by decide) (by decide) (by decide) (by decide) (by decide) rfl rfl rfl rfl rfl rfl rfl rfl (byt_56 v e138 e139 e140).1 (byt_56 v e138 e139 e140).2 (byt_48 v e151 e152 e153).2 (byt_40 v e164 e165 e166).2 (byt_32 v e177 e178 e179).2 (byt_24 v e190 e191 e192).2 (byt_16 v e203 e204 e205).2 (byt_8 v e217 e218 e219).2 (byt_0 v e229 e230).2) (nxJ fun z236 μ236 h236 => ?_)
    obtain ⟨rfl, h236⟩ := h236
    refine Own.lloadN C at_239 (q := 240) rfl rfl ?_
    refine Own.lcmp_ne C at_240 (pc1 := 241) rfl at_241 (q := 244) rfl (r := 248) (by decide) (fun h240 => ?_) (fun h240 => ?_)
    · exact absurd h236 h240
    · refine Own.iconst C at_244 (q := 245) rfl (z := 1) (by decide) ?_
      refine Own.goto C at_245 (q := 249) (by decide) ?_
      refine Own.nreturn C at_249 (by simp) (z' := (1 : Int32)) (by decide) (by decide) (by decide) ?_
      rfl
set_option maxRecDepth 65536 in
set_option maxHeartbeats 4000000 in
theorem comes_1 {Post : Tables → Env → Array Value → State → Outcome → State → Prop} (hpost : ∀ tb e args s v u, (limb_1_1.after args s (.returned v) u = true ∧ limb_1_2.after args s (.returned v) u = true ∧ True) → FrameEnd s (.returned v) u (Jvm.fieldLocs frame_1_writes args s ++ Jvm.arrayLocs frame_1_arrays args s ++ Jvm.staticLocs frame_1_statics s) 16 128 → Post tb e args s (.returned v) u) :
    ArmFor flags0 classFile x code maxLocals ret World_1 tables_1 room_1 Calls_1 rest_1 Pre_1 Post := by
  intro l hfl _ _ p e ha hc hk s m args below hf hA hF happ hP
  obtain ⟨hcalls, hrest, hpre⟩ := hP
  obtain ⟨-, -, -, hnamed, -, -, -, hat⟩ := (Spec.applies_iff hf).mp happ
  obtain ⟨hg, hn⟩ := and_e (Cond.before_iff.mp (show (Jvm.Cond.and given_1 narrow_1).before args s = true from hpre))
  obtain ⟨g0, hg⟩ := and_e hg
  obtain ⟨g1, hg⟩ := and_e hg
  obtain ⟨g2, hg⟩ := and_e hg
  obtain ⟨g3, hg⟩ := and_e hg
  have g4 := hg
  obtain ⟨w0, w1, w2, w3, rfl⟩ : ∃ w0 w1 w2 w3 : Value, args = #[w0, w1, w2, w3] := by
    have hs : args.size = 4 := by simpa [Cond.value, given_1] using g0
    obtain ⟨L⟩ := args
    match L, hs with
    | [w0, w1, w2, w3], _ => exact ⟨w0, w1, w2, w3, rfl⟩
  have hw := fun d (hd : d ∈ tables_1) => atoms_spec (ws := Jvm.Cond.code x code maxLocals ret :: tables_1) hat d (List.mem_cons_of_mem _ hd)
  have hfit : Fit s := fun {y c} hc i hi => by
    obtain ⟨ha, rfl⟩ := Array.getElem?_eq_some_iff.mp hc
    have q := List.all_eq_true.mp ((Array.all_eq_true_iff_forall_mem.mp hF) _ (Array.getElem_mem ha)) i (List.mem_range.mpr hi)
    simpa [Array.getElem?_eq_getElem hi] using q
  obtain ⟨i0, ei0⟩ := isL_v g1
  obtain rfl : w0 = (.long i0) := Option.some.inj ei0
  obtain ⟨i1, ei1⟩ := is_v g2
  obtain rfl : w1 = (.int i1) := Option.some.inj ei1
  obtain ⟨i2, ei2⟩ := isL_v g3
  obtain rfl : w2 = (.long i2) := Option.some.inj ei2
  obtain ⟨i3, ei3⟩ := is_v g4
  obtain rfl : w3 = (.int i3) := Option.some.inj ei3
  obtain ⟨n, o, h1, h2, h3, _, L, rfl, ⟨N, _, -, rfl⟩, hq⟩ := c_law l s _ hw s.heap.size (fun _ => none) i0 i1 i2 i3 s.heap ⟨Old.start s, fun _ _ q => nomatch q⟩ p e ha hc hk s m _ below hf ((Spec.applies_iff_loose hf).mp happ).1 ⟨rfl, State.Warmed39.refl s, rfl⟩ trivial
  refine ⟨n, _, h1, h2, h3, hpost _ _ _ _ _ _ ⟨Cond.after_iff.mpr rfl, Cond.after_iff.mpr (eq_i res_at (Term.int_eval (1)) rfl), trivial⟩ ⟨hq.1, hq.2.1, (hq.2.2.sift fun y hy => Or.inr (N y hy)).mono (by decide) (by decide)⟩⟩
theorem main_1_1 : Claimed_1_1 := comes_1 fun _ _ _ _ _ _ h hF => ⟨h.1, hF⟩
theorem main_1_2 : Claimed_1_2 := comes_1 fun _ _ _ _ _ _ h hF => ⟨h.2.1, hF⟩
end Jvm.Pilot.@@N@@
namespace Jvm.Pilot.@@N@@
open Jvm Jvm.ClassFile Sem Op Lib Jvm.Free Jvm.Stand Jvm.Pilot.@@N@@.Jvm.D
/-! MADE BY PROGRAM (witnessworld.py) out of the Statement's table words and the real class files: 12 classes; the members and pool entries that the words name. The judged class is class 1, her method 1. -/
namespace start1
open Jvm.ClassFile
def u (s : String) : CpInfo := .utf8 (stringToUtf16 s)
/-- a pool by its gaps: so many unusable entries, then the entry; so many at the end -/
def gap : Nat → List CpInfo → List CpInfo
  | 0, r => r
  | n + 1, r => .unusable :: gap n r
def poolList (es : List (Nat × CpInfo)) (last : Nat) : List CpInfo := es.foldr (fun e r => gap e.1 (e.2 :: r)) (gap last [])
def pool (es : List (Nat × CpInfo)) (last : Nat) : Array CpInfo := ⟨poolList es last⟩
def fileOf (pool : Array CpInfo) (this : Nat) (attrs : Array Attribute := #[]) (ms : Array MethodInfo := #[]) (fl : Nat := 33) (sup : Nat := 0) (ifs : Array Nat := #[]) (fds : Array FieldInfo := #[]) : ClassFile where
  minorVersion := 0
  majorVersion := 65
  constantPool := pool
  accessFlags := fl
  thisClass := this
  superClass := sup
  interfaces := ifs
  fields := fds
  methods := ms
  attributes := attrs
def plain (name : String) (sup : Option ClassId) : Class where
  name := name
  kind := .ordinary
  loader := none
  accessFlags := 33
  super := sup
  interfaces := #[]
  cf := none
  fields := #[]
  methods := #[]
  instanceTypes := #[]
  staticTypes := #[]
  resolved := #[]
  callSites := []
  init := .initialized
  statics := none
  mirror := none

def pool0 : Array CpInfo := pool [(5, u "<init>"), (0, u "()V"), (1, .class_ 10), (1, u "java/lang/Object")] 113

def k0m0 : Method := { name := "<init>", desc := "()V", sig := { parameters := [], returnType := none }, accessFlags := 1, code := none }
/-- java/lang/Object -/
def k0 : Class := { plain "java/lang/Object" none with
  accessFlags := 33
  interfaces := #[]
  cf := some (fileOf pool0 8 #[] #[{ accessFlags := 1, nameIndex := 5, descriptorIndex := 6, attributes := #[] }] 33 0 #[] #[])
  fields := #[]
  methods := #[k0m0]
  instanceTypes := #[]
  staticTypes := #[]
  resolved := Array.replicate 124 none
  statics := none }

def pool1 : Array CpInfo := pool [(2, .class_ 4), (1, u "java/lang/Object"), (0, u "<init>"), (0, u "()V"), (0, .methodref 8 9), (0, .class_ 10), (0, .nameAndType 11 12), (0, u "com/example/porthcurno/porthcurno/AmqpType"), (0, u "bigEndianLong"), (0, u "([BI)J"), (0, .class_ 14), (0, u "com/example/porthcurno/porthcurno/AmqpTypeBigEndianLongPinLaw"), (2, u "law"), (0, u "(JIJI)Z")] 5

def k1m0 : Method := { name := "<init>", desc := "()V", sig := { parameters := [], returnType := none }, accessFlags := 2, code := none }
def k1c1 : Code := { maxStack := 5, maxLocals := 8, code := code, exceptionTable := #[], attributes := #[] }
def k1m1 : Method := { name := "law", desc := "(JIJI)Z", sig := { parameters := [.long, .int, .long, .int], returnType := some .boolean }, accessFlags := 9, code := some k1c1 }
/-- com/example/porthcurno/porthcurno/AmqpTypeBigEndianLongPinLaw -/
def k1 : Class := { plain "com/example/porthcurno/porthcurno/AmqpTypeBigEndianLongPinLaw" (some 0) with
  accessFlags := 49
  interfaces := #[]
  cf := some (fileOf pool1 13 #[] #[{ accessFlags := 2, nameIndex := 5, descriptorIndex := 6, attributes := #[] }, { accessFlags := 9, nameIndex := 17, descriptorIndex := 18, attributes := #[] }] 49 2 #[] #[])
  fields := #[]
  methods := #[k1m0, k1m1]
  instanceTypes := #[]
  staticTypes := #[]
  resolved := Array.replicate 24 none
  statics := none }

def pool2 : Array CpInfo := pool [(1, .class_ 2), (0, u "java/lang/constant/Constable"), (0, .class_ 4), (0, u "java/lang/Object")] 6

/-- java/lang/constant/Constable -/
def k2 : Class := { plain "java/lang/constant/Constable" (some 0) with
  accessFlags := 1537
  interfaces := #[]
  cf := some (fileOf pool2 1 #[] #[] 1537 3 #[] #[])
  fields := #[]
  methods := #[]
  instanceTypes := #[]
  staticTypes := #[]
  resolved := Array.replicate 11 none
  statics := none }

def pool3 : Array CpInfo := pool [(1, .class_ 2), (0, u "java/lang/Comparable"), (0, .class_ 4), (0, u "java/lang/Object")] 7

/-- java/lang/Comparable -/
def k3 : Class := { plain "java/lang/Comparable" (some 0) with
  accessFlags := 1537
  interfaces := #[]
  cf := some (fileOf pool3 1 #[] #[] 1537 3 #[] #[])
  fields := #[]
  methods := #[]
  instanceTypes := #[]
  staticTypes := #[]
  resolved := Array.replicate 12 none
  statics := none }

def pool4 : Array CpInfo := pool [(1, .class_ 2), (0, u "java/io/Serializable"), (0, .class_ 4), (0, u "java/lang/Object")] 2

/-- java/io/Serializable -/
def k4 : Class := { plain "java/io/Serializable" (some 0) with
  accessFlags := 1537
  interfaces := #[]
  cf := some (fileOf pool4 1 #[] #[] 1537 3 #[] #[])
  fields := #[]
  methods := #[]
  instanceTypes := #[]
  staticTypes := #[]
  resolved := Array.replicate 7 none
  statics := none }

def pool5 : Array CpInfo := pool [(2, .class_ 4), (1, u "java/lang/Enum"), (0, u "name"), (0, u "Ljava/lang/String;"), (2, u "ordinal"), (0, u "I"), (1, .class_ 14), (1, u "java/lang/Object"), (4, u "hash"), (86, .class_ 108), (1, u "java/lang/Enum$EnumDesc"), (2, .class_ 112), (0, u "java/lang/constant/Constable"), (0, .class_ 114), (0, u "java/lang/Comparable"), (0, .class_ 116), (0, u "java/io/Serializable")] 87

/-- java/lang/Enum -/
def k5 : Class := { plain "java/lang/Enum" (some 0) with
  accessFlags := 1057
  interfaces := #[2, 3, 4]
  cf := some (fileOf pool5 2 #[.nestMembers #[106]] #[] 1057 12 #[111, 113, 115] #[{ accessFlags := 18, nameIndex := 5, descriptorIndex := 6, attributes := #[] }, { accessFlags := 18, nameIndex := 9, descriptorIndex := 10, attributes := #[] }, { accessFlags := 2, nameIndex := 19, descriptorIndex := 10, attributes := #[] }])
  fields := #[{ name := "name", type := (.object "java/lang/String"), accessFlags := 18, slot := 0, constantValue := 0 }, { name := "ordinal", type := .int, accessFlags := 18, slot := 1, constantValue := 0 }, { name := "hash", type := .int, accessFlags := 2, slot := 2, constantValue := 0 }]
  methods := #[]
  instanceTypes := #[(.object "java/lang/String"), .int, .int]
  staticTypes := #[]
  resolved := Array.replicate 204 none
  statics := none }

def pool6 : Array CpInfo := pool [(1, .class_ 2), (0, u "com/example/porthcurno/porthcurno/AmqpType"), (2, u "BOOLEAN"), (0, u "Lcom/example/porthcurno/porthcurno/AmqpType;"), (2, u "SIGNED_8"), (2, u "UNSIGNED_8"), (2, u "SIGNED_16"), (2, u "UNSIGNED_16"), (2, u "SIGNED_32"), (2, u "UNSIGNED_32"), (2, u "SIGNED_64"), (2, u "FLOAT"), (2, u "DOUBLE"), (2, u "DECIMAL"), (2, u "LONG_STRING"), (2, u "ARRAY"), (2, u "TIMESTAMP"), (2, u "TABLE"), (2, u "VOID"), (2, u "BYTES"), (2, u "SHORT_STRING"), (2, u "BIT"), (2, u "UNSIGNED_64"), (2, u "$VALUES"), (0, u "[Lcom/example/porthcurno/porthcurno/AmqpType;"), (6, .class_ 76), (1, u "java/lang/Enum"), (8, u "octet"), (0, u "C"), (2, u "javaType"), (0, u "Ljava/lang/Class;"), (2, u "fixedLength"), (0, u "I"), (2, u "countLength"), (2, u "BY_OCTET"), (48, u "bigEndianLong"), (0, u "([BI)J"), (12, .long 255), (121, u "UNTAGGED"), (2, u "MAX_SHORT_STRING"), (1, u "MAX_DEPTH"), (1, u "TOO_DEEP"), (0, u "Ljava/lang/String;")] 51

def k6c0 : Code := { maxStack := 6, maxLocals := 2, code := prog_27_method_14_code, exceptionTable := #[], attributes := #[] }
def k6m0 : Method := { name := "bigEndianLong", desc := "([BI)J", sig := { parameters := [(.array .byte), .int], returnType := some .long }, accessFlags := 9, code := some k6c0 }
/-- com/example/porthcurno/porthcurno/AmqpType -/
def k6 : Class := { plain "com/example/porthcurno/porthcurno/AmqpType" (some 5) with
  accessFlags := 16433
  interfaces := #[]
  cf := some (fileOf pool6 1 #[] #[{ accessFlags := 9, nameIndex := 149, descriptorIndex := 150, attributes := #[] }] 16433 74 #[] #[{ accessFlags := 16409, nameIndex := 5, descriptorIndex := 6, attributes := #[] }, { accessFlags := 16409, nameIndex := 9, descriptorIndex := 6, attributes := #[] }, { accessFlags := 16409, nameIndex := 12, descriptorIndex := 6, attributes := #[] }, { accessFlags := 16409, nameIndex := 15, descriptorIndex := 6, attributes := #[] }, { accessFlags := 16409, nameIndex := 18, descriptorIndex := 6, attributes := #[] }, { accessFlags := 16409, nameIndex := 21, descriptorIndex := 6, attributes := #[] }, { accessFlags := 16409, nameIndex := 24, descriptorIndex := 6, attributes := #[] }, { accessFlags := 16409, nameIndex := 27, descriptorIndex := 6, attributes := #[] }, { accessFlags := 16409, nameIndex := 30, descriptorIndex := 6, attributes := #[] }, { accessFlags := 16409, nameIndex := 33, descriptorIndex := 6, attributes := #[] }, { accessFlags := 16409, nameIndex := 36, descriptorIndex := 6, attributes := #[] }, { accessFlags := 16409, nameIndex := 39, descriptorIndex := 6, attributes := #[] }, { accessFlags := 16409, nameIndex := 42, descriptorIndex := 6, attributes := #[] }, { accessFlags := 16409, nameIndex := 45, descriptorIndex := 6, attributes := #[] }, { accessFlags := 16409, nameIndex := 48, descriptorIndex := 6, attributes := #[] }, { accessFlags := 16409, nameIndex := 51, descriptorIndex := 6, attributes := #[] }, { accessFlags := 16409, nameIndex := 54, descriptorIndex := 6, attributes := #[] }, { accessFlags := 16409, nameIndex := 57, descriptorIndex := 6, attributes := #[] }, { accessFlags := 16409, nameIndex := 60, descriptorIndex := 6, attributes := #[] }, { accessFlags := 16409, nameIndex := 63, descriptorIndex := 6, attributes := #[] }, { accessFlags := 26, nameIndex := 285, descriptorIndex := 86, attributes := #[] }, { accessFlags := 24, nameIndex := 288, descriptorIndex := 94, attributes := #[] }, { accessFlags := 24, nameIndex := 290, descriptorIndex := 94, attributes := #[] }, { accessFlags := 24, nameIndex := 292, descriptorIndex := 293, attributes := #[] }, { accessFlags := 26, nameIndex := 100, descriptorIndex := 67, attributes := #[] }, { accessFlags := 18, nameIndex := 85, descriptorIndex := 86, attributes := #[] }, { accessFlags := 18, nameIndex := 89, descriptorIndex := 90, attributes := #[] }, { accessFlags := 18, nameIndex := 93, descriptorIndex := 94, attributes := #[] }, { accessFlags := 18, nameIndex := 97, descriptorIndex := 94, attributes := #[] }, { accessFlags := 4122, nameIndex := 66, descriptorIndex := 67, attributes := #[] }])
  fields := #[{ name := "BOOLEAN", type := (.object "com/example/porthcurno/porthcurno/AmqpType"), accessFlags := 16409, slot := 0, constantValue := 0 }, { name := "SIGNED_8", type := (.object "com/example/porthcurno/porthcurno/AmqpType"), accessFlags := 16409, slot := 1, constantValue := 0 }, { name := "UNSIGNED_8", type := (.object "com/example/porthcurno/porthcurno/AmqpType"), accessFlags := 16409, slot := 2, constantValue := 0 }, { name := "SIGNED_16", type := (.object "com/example/porthcurno/porthcurno/AmqpType"), accessFlags := 16409, slot := 3, constantValue := 0 }, { name := "UNSIGNED_16", type := (.object "com/example/porthcurno/porthcurno/AmqpType"), accessFlags := 16409, slot := 4, constantValue := 0 }, { name := "SIGNED_32", type := (.object "com/example/porthcurno/porthcurno/AmqpType"), accessFlags := 16409, slot := 5, constantValue := 0 }, { name := "UNSIGNED_32", type := (.object "com/example/porthcurno/porthcurno/AmqpType"), accessFlags := 16409, slot := 6, constantValue := 0 }, { name := "SIGNED_64", type := (.object "com/example/porthcurno/porthcurno/AmqpType"), accessFlags := 16409, slot := 7, constantValue := 0 }, { name := "FLOAT", type := (.object "com/example/porthcurno/porthcurno/AmqpType"), accessFlags := 16409, slot := 8, constantValue := 0 }, { name := "DOUBLE", type := (.object "com/example/porthcurno/porthcurno/AmqpType"), accessFlags := 16409, slot := 9, constantValue := 0 }, { name := "DECIMAL", type := (.object "com/example/porthcurno/porthcurno/AmqpType"), accessFlags := 16409, slot := 10, constantValue := 0 }, { name := "LONG_STRING", type := (.object "com/example/porthcurno/porthcurno/AmqpType"), accessFlags := 16409, slot := 11, constantValue := 0 }, { name := "ARRAY", type := (.object "com/example/porthcurno/porthcurno/AmqpType"), accessFlags := 16409, slot := 12, constantValue := 0 }, { name := "TIMESTAMP", type := (.object "com/example/porthcurno/porthcurno/AmqpType"), accessFlags := 16409, slot := 13, constantValue := 0 }, { name := "TABLE", type := (.object "com/example/porthcurno/porthcurno/AmqpType"), accessFlags := 16409, slot := 14, constantValue := 0 }, { name := "VOID", type := (.object "com/example/porthcurno/porthcurno/AmqpType"), accessFlags := 16409, slot := 15, constantValue := 0 }, { name := "BYTES", type := (.object "com/example/porthcurno/porthcurno/AmqpType"), accessFlags := 16409, slot := 16, constantValue := 0 }, { name := "SHORT_STRING", type := (.object "com/example/porthcurno/porthcurno/AmqpType"), accessFlags := 16409, slot := 17, constantValue := 0 }, { name := "BIT", type := (.object "com/example/porthcurno/porthcurno/AmqpType"), accessFlags := 16409, slot := 18, constantValue := 0 }, { name := "UNSIGNED_64", type := (.object "com/example/porthcurno/porthcurno/AmqpType"), accessFlags := 16409, slot := 19, constantValue := 0 }, { name := "UNTAGGED", type := .char, accessFlags := 26, slot := 20, constantValue := 0 }, { name := "MAX_SHORT_STRING", type := .int, accessFlags := 24, slot := 21, constantValue := 0 }, { name := "MAX_DEPTH", type := .int, accessFlags := 24, slot := 22, constantValue := 0 }, { name := "TOO_DEEP", type := (.object "java/lang/String"), accessFlags := 24, slot := 23, constantValue := 0 }, { name := "BY_OCTET", type := (.array (.object "com/example/porthcurno/porthcurno/AmqpType")), accessFlags := 26, slot := 24, constantValue := 0 }, { name := "octet", type := .char, accessFlags := 18, slot := 3, constantValue := 0 }, { name := "javaType", type := (.object "java/lang/Class"), accessFlags := 18, slot := 4, constantValue := 0 }, { name := "fixedLength", type := .int, accessFlags := 18, slot := 5, constantValue := 0 }, { name := "countLength", type := .int, accessFlags := 18, slot := 6, constantValue := 0 }, { name := "$VALUES", type := (.array (.object "com/example/porthcurno/porthcurno/AmqpType")), accessFlags := 4122, slot := 25, constantValue := 0 }]
  methods := #[k6m0]
  instanceTypes := #[(.object "java/lang/String"), .int, .int, .char, (.object "java/lang/Class"), .int, .int]
  staticTypes := #[(.object "com/example/porthcurno/porthcurno/AmqpType"), (.object "com/example/porthcurno/porthcurno/AmqpType"), (.object "com/example/porthcurno/porthcurno/AmqpType"), (.object "com/example/porthcurno/porthcurno/AmqpType"), (.object "com/example/porthcurno/porthcurno/AmqpType"), (.object "com/example/porthcurno/porthcurno/AmqpType"), (.object "com/example/porthcurno/porthcurno/AmqpType"), (.object "com/example/porthcurno/porthcurno/AmqpType"), (.object "com/example/porthcurno/porthcurno/AmqpType"), (.object "com/example/porthcurno/porthcurno/AmqpType"), (.object "com/example/porthcurno/porthcurno/AmqpType"), (.object "com/example/porthcurno/porthcurno/AmqpType"), (.object "com/example/porthcurno/porthcurno/AmqpType"), (.object "com/example/porthcurno/porthcurno/AmqpType"), (.object "com/example/porthcurno/porthcurno/AmqpType"), (.object "com/example/porthcurno/porthcurno/AmqpType"), (.object "com/example/porthcurno/porthcurno/AmqpType"), (.object "com/example/porthcurno/porthcurno/AmqpType"), (.object "com/example/porthcurno/porthcurno/AmqpType"), (.object "com/example/porthcurno/porthcurno/AmqpType"), .char, .int, .int, (.object "java/lang/String"), (.array (.object "com/example/porthcurno/porthcurno/AmqpType")), (.array (.object "com/example/porthcurno/porthcurno/AmqpType"))]
  resolved := Array.replicate 345 none
  statics := none }

def pool7 : Array CpInfo := pool [(1, u "java/lang/Cloneable"), (0, .class_ 1), (0, u "java/lang/Object"), (0, .class_ 3)] 3

/-- java/lang/Cloneable -/
def k7 : Class := { plain "java/lang/Cloneable" (some 0) with
  accessFlags := 1537
  interfaces := #[]
  cf := some (fileOf pool7 2 #[] #[] 1537 4 #[] #[])
  fields := #[]
  methods := #[]
  instanceTypes := #[]
  staticTypes := #[]
  resolved := Array.replicate 8 none
  statics := none }

/-- the primitive byte -/
def k8 : Class := { plain "byte" none with kind := .primitive 'B', accessFlags := 0x411 }
/-- [B -/
def k9 : Class := { plain "[B" (some 0) with kind := .array 8 .byte, interfaces := #[7, 4], accessFlags := 1041 }

/-- the primitive int -/
def k10 : Class := { plain "int" none with kind := .primitive 'I', accessFlags := 0x411 }
/-- [I -/
def k11 : Class := { plain "[I" (some 0) with kind := .array 10 .int, interfaces := #[7, 4], accessFlags := 1041 }

def heap : Heap := #[]
def classes : Array Class := #[k0, k1, k2, k3, k4, k5, k6, k7, k8, k9, k10, k11]
def interned : List (Array UInt16 × Addr) := []
def slotsUsed : Nat := 0
def theMethod : MethodId := ⟨1, 1⟩
def args0 : Array Value := #[.long 5, .int 6, .long 7, .int 8]
def aboutOver (below : List Frame) : State where
  vm := { classes := classes, interned := interned.toArray }
  heap := heap
  slotsUsed := slotsUsed
  threads := #[{ frames := .invoking theMethod args0 :: below }]
def below0 : List Frame := [.native { method := ⟨0, 0⟩, args := #[] }]
def about1 : State := aboutOver below0
def p0 : Program := .bare "" "" ""
def e0 : Env := launch0.env 0 0 0
theorem w_frames : about1.frames = Frame.invoking theMethod args0 :: below0 := rfl
set_option maxRecDepth 65536 in
theorem w_args : argsFit about1.vm theMethod args0 = true := by decide +kernel
set_option maxRecDepth 65536 in
theorem w_heap : heapFits about1 = true := by decide +kernel
set_option maxRecDepth 65536 in
theorem w_runnable : about1.curStatus? = some .runnable := by decide +kernel
set_option maxRecDepth 65536 in
theorem w_alone : about1.alone = true := by decide +kernel
set_option maxRecDepth 65536 in
theorem w_named : about1.methodNamed? x = some theMethod := by decide +kernel
set_option maxRecDepth 65536 in
theorem w_hears : about1.hears theMethod below0 = true := by decide +kernel
set_option maxRecDepth 65536 in
theorem w_ripe : about1.ripe theMethod args0 below0 = true := by decide +kernel
theorem w_running : about1.status = .running := rfl
set_option maxRecDepth 65536 in
theorem w_room : about1.hasRoom e0.platform room_1 = true :=
  launch0.hasRoom_least _ room_1 (by decide +kernel) (by decide +kernel) (by decide +kernel) (by decide +kernel) (by decide +kernel) (by decide +kernel)
theorem allAtoms_all (ts : List Jvm.Cond) (a : Array Jvm.Value) (st : Jvm.State) : (allAtoms ts).before a st = ts.all (fun c => c.before a st) := by
  induction ts with
  | nil => rfl
  | cons c t ih =>
    show (Jvm.Cond.and c (allAtoms t)).before a st = _
    rw [Jvm.Cond.before_and, ih, List.all_cons]
def words1 : List Jvm.Cond := Jvm.Cond.code x code maxLocals ret :: tables_1
/-- a 'code' word, met by the world's own term for the bytes: nothing is compared byte by byte -/
theorem code_word {y : MethodName} {bytes : ByteArray} {mx : Nat} {rt : Option FieldType} {a : Array Value} {s : State} {m : MethodId} {meth : Method} {c : Code} (h1 : s.methodNamed? y = some m) (h2 : s.vm.method? m = some meth) (h3 : meth.code = some c) (h4 : c.code = bytes)
    (h5 : (c.maxLocals == mx && c.exceptionTable.isEmpty && decide (c.maxStack ≤ mostOperands) && decide (meth.sig.returnType = rt) && !meth.locks && decide (parseMethodDescriptor y.desc = some meth.sig)) = true) : (Jvm.Cond.code y bytes mx rt).before a s = true := by
  simp only [Bool.and_eq_true, beq_iff_eq, Bool.not_eq_true', decide_eq_true_eq] at h5
  obtain ⟨⟨⟨⟨⟨g1, g2⟩, g3⟩, g4⟩, g5⟩, g6⟩ := h5
  simp [Cond.before, Cond.holds, Cond.value, h1, h2, h3, h4, g1, g2, g3, g4, g5, g6]
def isCode : Jvm.Cond → Bool
  | .code _ _ _ _ => true
  | _ => false
theorem all_split {L : List Jvm.Cond} {P : Jvm.Cond → Bool} (h1 : L.all (fun c => isCode c || P c) = true) (h2 : ∀ c ∈ L.filter isCode, P c = true) : L.all P = true := by
  refine List.all_eq_true.mpr fun c hc => ?_
  have h := List.all_eq_true.mp h1 c hc
  rcases Bool.eq_false_or_eq_true (isCode c) with hi | hi
  · exact h2 c (List.mem_filter.mpr ⟨hc, hi⟩)
  · simpa [hi] using h
set_option maxRecDepth 65536 in
theorem w_c0 : (Jvm.Cond.code x code maxLocals ret).before args0 about1 = true := code_word (m := ⟨1, 1⟩) (meth := k1m1) (c := k1c1) (by decide +kernel) rfl rfl rfl (by decide +kernel)
set_option maxRecDepth 65536 in
theorem w_c1 : (Jvm.Cond.code ({ cls := "com/example/porthcurno/porthcurno/AmqpType", name := "bigEndianLong", desc := "([BI)J" } : Jvm.MethodName) prog_27_method_14_code (2 : Nat) (Option.some Jvm.ClassFile.FieldType.long)).before args0 about1 = true := code_word (m := ⟨6, 0⟩) (meth := k6m0) (c := k6c0) (by decide +kernel) rfl rfl rfl (by decide +kernel)
def codes1 : List Jvm.Cond := [Jvm.Cond.code x code maxLocals ret, Jvm.Cond.code ({ cls := "com/example/porthcurno/porthcurno/AmqpType", name := "bigEndianLong", desc := "([BI)J" } : Jvm.MethodName) prog_27_method_14_code (2 : Nat) (Option.some Jvm.ClassFile.FieldType.long)]
set_option maxRecDepth 65536 in
theorem codes_eq : words1.filter isCode = codes1 := rfl
theorem w_codes : ∀ c ∈ words1.filter isCode, c.before args0 about1 = true := by
  rw [codes_eq]
  intro c hc
  simp only [codes1, List.mem_cons, List.not_mem_nil, or_false] at hc
  rcases hc with rfl | rfl
  · exact w_c0
  · exact w_c1
set_option maxRecDepth 65536 in
theorem w_t1 : words1.all (fun c => isCode c || c.before args0 about1) = true := by decide +kernel
theorem w_tables : (allAtoms (Jvm.Cond.code x code maxLocals ret :: tables_1)).before args0 about1 = true := by
  rw [allAtoms_all]
  show words1.all (fun c => c.before args0 about1) = true
  refine all_split ?_ w_codes
  rw [w_t1]
set_option maxRecDepth 65536 in
theorem w_case : (Jvm.Cond.and given_1 narrow_1).before args0 about1 = true := by decide +kernel
theorem w_applies : (headSpec (Jvm.Cond.code x code maxLocals ret :: tables_1) room_1).applies x e0.platform about1 = true :=
  (Spec.applies_iff w_frames).mpr ⟨w_running, w_runnable, w_alone, w_named, w_hears, w_ripe, w_room, w_tables⟩
theorem atStart : AtStart classFile x code maxLocals ret World_1 tables_1 room_1 Calls_1 rest_1 Pre_1 launch0 p0 e0 about1 theMethod args0 below0 :=
  ⟨lists_1, trivial, launch0.admits_env _ _ _, launch0.least_env, fairChoices_fair.cas, fairChoices_fair.clock, w_frames, w_args, w_heap, w_applies, trivial, trivial, w_case⟩
end start1
theorem witness_1 : WitnessClaimed_1 := ⟨start1.p0, start1.e0, start1.about1, start1.theMethod, start1.args0, start1.below0, start1.atStart⟩
end Jvm.Pilot.@@N@@
