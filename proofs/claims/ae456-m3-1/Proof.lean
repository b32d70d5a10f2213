import JvmDerived
import JvmDerived.Pilot.@@N@@Statement
import JvmDerived.Pilot.@@N@@Code
set_option linter.unusedVariables false
set_option linter.unusedSimpArgs false
namespace Jvm.Own
open Sem ClassFile Op Lib Jvm.Stand Jvm.Free Jvm.LawKit Jvm.RoadKit
/-! A plain store over the heap: what each address that matters holds. -/
abbrev Key : Type := String × String × String
abbrev Obj : Type := Sum (String × List (Key × Value)) (FieldType × List Value)
abbrev Mem : Type := Addr → Option Obj
def upd (μ : Mem) (a : Addr) (o : Obj) : Mem := fun x => if x = a then some o else μ x
section MemFacts
variable {μ : Mem} {a b : Addr} {o o' : Obj}
theorem upd_same : upd μ a o a = some o := by simp [upd]
theorem upd_ne (h : b ≠ a) : upd μ a o b = μ b := by simp [upd, h]
theorem upd_upd : upd (upd μ a o) a o' = upd μ a o' := by funext x; simp only [upd]; split <;> rfl
theorem upd_at (h : b ≠ a) {q : Obj} (hb : μ b = some q) : upd μ a o b = some q := (upd_ne h).trans hb
theorem upd_id (h : μ a = some o) : upd μ a o = μ := by funext x; simp only [upd]; split <;> simp_all
theorem upd_in {ν : Mem} {w : Obj} (h : upd μ a o = ν) (hb : b ≠ a) : upd (upd μ b w) a o = upd ν b w := by
  subst h; funext x; simp only [upd]
  by_cases h1 : x = a
  · subst h1; simp [Ne.symm hb]
  · by_cases h2 : x = b
    · subst h2; simp [h1]
    · simp [h1, h2]
theorem upd2 {ν ρ : Mem} {o' : Obj} (h1 : upd μ a o = ν) (h2 : upd ν b o' = ρ) : upd (upd μ a o) b o' = ρ := by subst h1; exact h2
theorem upd_list {ty : FieldType} {vs vs' : List Value} {ν : Mem} (h : vs = vs') (e : upd μ a (.inr (ty, vs')) = ν) : upd μ a (.inr (ty, vs)) = ν := by subst h; exact e
end MemFacts
def sl (Z : State) (q : Key × Value) : Nat := RoadKit.slotOf Z q.1.1 q.1.2.1 q.1.2.2
def IsO (Z : State) (h : Heap) (a : Addr) (C : String) (fs : List (Key × Value)) : Prop :=
  Exa Z h a C ∧ (∀ q ∈ fs, Fld Z h a q.1.1 q.1.2.1 q.1.2.2 q.2) ∧ fs.Pairwise fun q r => sl Z q ≠ sl Z r
def IsA (Z : State) (n0 : Nat) (h : Heap) (a : Addr) (ty : FieldType) (vs : List Value) : Prop :=
  ∃ c : Cell, Arr Z h a c ty ∧ c.slots.toList = vs ∧ vs.length < 2 ^ 31 ∧ (∀ v ∈ vs, fits ty v = true) ∧ (n0 ≤ a → ∀ C, ty = .object C → Ovr Z c.cls C)
def Is (Z : State) (n0 : Nat) (h : Heap) (a : Addr) : Obj → Prop
  | .inl q => IsO Z h a q.1 q.2
  | .inr q => IsA Z n0 h a q.1 q.2
def Hp (Z : State) (n0 : Nat) (μ : Mem) (h : Heap) : Prop := Old Z n0 h ∧ ∀ a o, μ a = some o → Is Z n0 h a o
section HpFacts
variable {Z : State} {n0 : Nat} {μ : Mem} {h h' : Heap} {a b : Addr} {o : Obj} {sl' : Nat} {v : Value}
theorem Is.lt (H : Is Z n0 h a o) : a < h.size := by
  rcases o with q | q
  · exact H.1.lt
  · obtain ⟨c, A, -⟩ := H; exact A.lt
theorem Is.ext (H : Is Z n0 h a o) (E : Ext h h') : Is Z n0 h' a o := by
  rcases o with q | q
  · exact ⟨H.1.ext E, fun r hr => (H.2.1 r hr).ext E, H.2.2⟩
  · obtain ⟨c, A, r⟩ := H; exact ⟨c, A.ext E, r⟩
theorem Is.other (H : Is Z n0 h b o) (W : Wr h h' a sl' v) (q : b ≠ a) : Is Z n0 h' b o := by
  rcases o with r | r
  · exact ⟨H.1.wr W, fun r hr => (H.2.1 r hr).other W (Or.inl q), H.2.2⟩
  · obtain ⟨c, A, r⟩ := H; exact ⟨c, A.other W q, r⟩
theorem Hp.ext (H : Hp Z n0 μ h) (E : Ext h h') : Hp Z n0 μ h' := ⟨H.1.ext E, fun a o q => (H.2 a o q).ext E⟩
theorem Hp.ge (H : Hp Z n0 μ h) : n0 ≤ h.size := H.1.1 ▸ H.1.2.1
theorem Hp.fresh (H : Hp Z n0 μ h) : ∀ b o, μ b = some o → b ≠ h.size := fun b o q => Nat.ne_of_lt (H.2 b o q).lt
theorem Hp.set (H : Hp Z n0 μ h') (I : Is Z n0 h' a o) : Hp Z n0 (upd μ a o) h' := ⟨H.1, fun b o' q => by
  by_cases e : b = a
  · subst e; rw [upd_same] at q; cases q; exact I
  · rw [upd_ne e] at q; exact H.2 b o' q⟩
theorem Hp.wr (H : Hp Z n0 μ h) (W : Wr h h' a sl' v) (g : n0 ≤ a) (I : Is Z n0 h' a o) : Hp Z n0 (upd μ a o) h' := ⟨H.1.wr W g, fun b o' q => by
  by_cases e : b = a
  · subst e; rw [upd_same] at q; cases q; exact I
  · rw [upd_ne e] at q; exact (H.2 b o' q).other W e⟩
theorem IsO.put {C : String} {fs fs' : List (Key × Value)} {k : Key} {i : Nat} {w : Value} (H : IsO Z h a C fs) (hi : fs[i]? = some (k, w)) (W : Wr h h' a (RoadKit.slotOf Z k.1 k.2.1 k.2.2) v) (e : fs.set i (k, v) = fs') : IsO Z h' a C fs' := by
  subst e
  obtain ⟨hlt, hk⟩ := List.getElem?_eq_some_iff.mp hi
  have F0 := H.2.1 _ (List.mem_of_getElem? hi)
  have hp := List.pairwise_iff_getElem.mp H.2.2
  refine ⟨H.1.wr W, fun q hq => ?_, ?_⟩
  · obtain ⟨j, hj, rfl⟩ := List.mem_iff_getElem.mp hq
    rw [List.length_set] at hj
    by_cases e : i = j
    · subst e; rw [List.getElem_set_self]; exact F0.same W
    · rw [List.getElem_set_ne e]
      refine (H.2.1 _ (List.getElem_mem hj)).other W (Or.inr ?_)
      have e0 : sl Z fs[i] = RoadKit.slotOf Z k.1 k.2.1 k.2.2 := by rw [hk]; rfl
      rcases Nat.lt_or_gt_of_ne e with q | q
      · have := hp i j hlt hj q; rw [e0] at this; exact fun z => this z.symm
      · have := hp j i hj hlt q; rw [e0] at this; exact this
  · rw [List.pairwise_iff_getElem]
    intro x y hx hy hxy
    rw [List.length_set] at hx hy
    have key : ∀ z (hz : z < (fs.set i (k, v)).length) (hz' : z < fs.length), sl Z (fs.set i (k, v))[z] = sl Z fs[z] := fun z hz hz' => by
      by_cases e : i = z
      · subst e; rw [List.getElem_set_self, hk]; rfl
      · rw [List.getElem_set_ne e]
    rw [key x _ hx, key y _ hy]
    exact hp x y hx hy hxy
theorem IsA.put {ty : FieldType} {vs : List Value} {j : Nat} (H : IsA Z n0 h a ty vs) (hv : fits ty v = true) (W : Wr h h' a j v) : IsA Z n0 h' a ty (vs.set j v) := by
  obtain ⟨c, A, rfl, hl, hf, ho⟩ := H
  refine ⟨_, A.same W, by simp [Cell.setSlot], by simpa using hl, fun w hw => ?_, ho⟩
  rcases List.mem_or_eq_of_mem_set hw with q | q
  · exact hf w q
  · subst q; exact hv
end HpFacts
/-- what is left to show from the frame g on -/
def Go (p : Program) (l : Launch) (e : Env) (R : Room) (s : State) (m : MethodId) (args : Array Value) (below : List Frame) (meth : Method) (c : Code) (Z : State) (n0 : Nat) (P : Option Value → Mem → Prop) (kc ks : Nat) (μ : Mem) (k n : Nat) (g : JFrame) : Prop :=
  ∀ T locs, Stand p l e R s m args below meth c T locs k n → Fr n0 locs → Hp Z n0 μ T.heap →
    ∃ s₂ o, Steps p.tables e below (T.setTop g) s₂ ∧ s₂.status = .running ∧ Ended s₂ below o ∧ ∃ v L, o = .returned v ∧ (Fr n0 L ∧ ∃ μ', Hp Z n0 μ' s₂.heap ∧ P v μ') ∧ FrameEnd s o s₂ L kc ks
/-- what stands fast while a body is walked -/
def Ctx (p : Program) (s : State) (m : MethodId) (meth : Method) (c : Code) (Z : State) (own nm : String) (B : ByteArray) (ml : Nat) (rt : Option FieldType) : Prop :=
  p.tables.exec = Jvm.exec ∧ c.code = B ∧ c.maxLocals = ml ∧ Z.Warmed39 s.vm ∧ s.vm.findClass own = some m.cls ∧ meth.sig.returnType = rt ∧ meth.locks = false ∧ meth.name = nm
/-- a body's contract -/
def Con (l : Launch) (Z : State) (n0 : Nat) (y : MethodName) (B : ByteArray) (ml : Nat) (rt : Option FieldType) (ws : List Cond) (rm : Room) (kc ks : Nat) (as : Array Value) (μ : Mem) (P : Option Value → Mem → Prop) : Prop :=
  ∀ h0, Hp Z n0 μ h0 → MetFree l y (head1 (Cond.code y B ml rt :: ws) rm) (fun a U => a = as ∧ Z.Warmed39 U.vm ∧ U.heap = h0) (fun _ _ _ _ _ => True)
    (fun _ U o U' => ∃ v L, o = .returned v ∧ (Fr n0 L ∧ ∃ μ', Hp Z n0 μ' U'.heap ∧ P v μ') ∧ FrameEnd U o U' L kc ks)
section Rules
variable {p : Program} {l : Launch} {e : Env} {R : Room} {s : State} {m : MethodId} {args : Array Value} {below : List Frame} {meth : Method} {c : Code} {Z : State} {a0 : Array Value} {n0 : Nat} {P : Option Value → Mem → Prop} {kc ks : Nat} {μ : Mem} {k n : Nat}
  {own nm : String} {B : ByteArray} {ml : Nat} {rt : Option FieldType} {pc q : Nat} {L L' : Array Slot} {st : List Value} {y : MethodName} {ws : List Cond} {rm : Room} {as : Array Value}
theorem Con.intro {L0 : Array Slot} (hx : plainFor y = true) (hef : ∀ m, entryFrame m as ml = mkF m 0 L0 [])
    (body : ∀ (p : Program) (e : Env) (s : State) (m : MethodId) (below : List Frame) (meth : Method) (c : Code), Ctx p s m meth c Z y.cls y.name B ml rt → Go p l e rm s m as below meth c Z n0 P kc ks μ 0 0 (mkF m 0 L0 [])) : Con l Z n0 y B ml rt ws rm kc ks as μ P := by
  intro h0 H0
  refine MetFree.of_bodySF hx hisR ?_
  intro p e s m args below meth c s₁ Bd hml hP hK
  obtain ⟨rfl, hZ, hh⟩ := hP
  have X0 : Stand p l e rm s m args below meth c s₁ [] 0 0 := Stand.of_body Bd
  have e0 : s₁.heap = h0 := by rw [← hh, Bd.state]; rfl
  obtain ⟨s2, o, g1, g2, g3, g4⟩ := body p e s m below meth c ⟨Bd.exec, Bd.bytes, hml, hZ, findClass_of_methodNamed Bd.named, Bd.returns, Bd.notSynchronized, (name_of_methodNamed Bd.named Bd.method).1⟩ s₁ [] X0 (Fr.nil n0) (by rw [e0]; exact H0)
  exact ⟨s2, o, castTop (hef m) g1, g2, g3, g4⟩
theorem Go.pure {g g' : JFrame} (K : Go p l e R s m args below meth c Z n0 P kc ks μ k n g') (st : ∀ T, At T m c below → ∀ target, Steps p.tables e below (T.setTop g') target → Steps p.tables e below (T.setTop g) target) : Go p l e R s m args below meth c Z n0 P kc ks μ k n g := fun T locs X F H => by
  obtain ⟨s2, o, h1, h2⟩ := K T locs X F H
  exact ⟨s2, o, st T X.here _ h1, h2⟩
theorem Go.stand {g g' : JFrame} (K : Go p l e R s m args below meth c Z n0 P kc ks μ k n g') (st : ∀ T locs, Stand p l e R s m args below meth c T locs k n → Hp Z n0 μ T.heap → ∃ T', Stand p l e R s m args below meth c T' locs k n ∧ T'.heap = T.heap ∧ ∀ target, Steps p.tables e below (T'.setTop g') target → Steps p.tables e below (T.setTop g) target) : Go p l e R s m args below meth c Z n0 P kc ks μ k n g := fun T locs X F H => by
  obtain ⟨T', X', e', h⟩ := st T locs X H
  obtain ⟨s2, o, h1, h2⟩ := K T' locs X' F (by rw [e']; exact H)
  exact ⟨s2, o, h _ h1, h2⟩
theorem iadd (C : Ctx p s m meth c Z own nm B ml rt) {x y : Int32} (hd : decode B pc = .ok (.iadd, 1)) (hq : pc + 1 = q) (k' : ∀ z : Int32, z = x + y → Go p l e R s m args below meth c Z n0 P kc ks μ k n (mkF m q L (.int z :: st))) : Go p l e R s m args below meth c Z n0 P kc ks μ k n (mkF m pc L (.int y :: .int x :: st)) := by
  subst hq
  exact Go.pure (k' _ rfl) fun T h t hr => XS.iadd h C.1 rfl (hb C.2.1 hd) rfl hr
theorem isub (C : Ctx p s m meth c Z own nm B ml rt) {x y : Int32} (hd : decode B pc = .ok (.isub, 1)) (hq : pc + 1 = q) (k' : ∀ z : Int32, z = x - y → Go p l e R s m args below meth c Z n0 P kc ks μ k n (mkF m q L (.int z :: st))) : Go p l e R s m args below meth c Z n0 P kc ks μ k n (mkF m pc L (.int y :: .int x :: st)) := by
  subst hq
  exact Go.pure (k' _ rfl) fun T h t hr => XS.isub h C.1 rfl (hb C.2.1 hd) rfl hr
theorem imul (C : Ctx p s m meth c Z own nm B ml rt) {x y : Int32} (hd : decode B pc = .ok (.imul, 1)) (hq : pc + 1 = q) (k' : ∀ z : Int32, z = x * y → Go p l e R s m args below meth c Z n0 P kc ks μ k n (mkF m q L (.int z :: st))) : Go p l e R s m args below meth c Z n0 P kc ks μ k n (mkF m pc L (.int y :: .int x :: st)) := by
  subst hq
  exact Go.pure (k' _ rfl) fun T h t hr => XS.imul h C.1 rfl (hb C.2.1 hd) rfl hr
theorem iand (C : Ctx p s m meth c Z own nm B ml rt) {x y : Int32} (hd : decode B pc = .ok (.iand, 1)) (hq : pc + 1 = q) (k' : ∀ z : Int32, z = x &&& y → Go p l e R s m args below meth c Z n0 P kc ks μ k n (mkF m q L (.int z :: st))) : Go p l e R s m args below meth c Z n0 P kc ks μ k n (mkF m pc L (.int y :: .int x :: st)) := by
  subst hq
  exact Go.pure (k' _ rfl) fun T h t hr => XS.iand h C.1 rfl (hb C.2.1 hd) rfl hr
theorem ior (C : Ctx p s m meth c Z own nm B ml rt) {x y : Int32} (hd : decode B pc = .ok (.ior, 1)) (hq : pc + 1 = q) (k' : ∀ z : Int32, z = x ||| y → Go p l e R s m args below meth c Z n0 P kc ks μ k n (mkF m q L (.int z :: st))) : Go p l e R s m args below meth c Z n0 P kc ks μ k n (mkF m pc L (.int y :: .int x :: st)) := by
  subst hq
  exact Go.pure (k' _ rfl) fun T h t hr => XS.ior h C.1 rfl (hb C.2.1 hd) rfl hr
theorem ixor (C : Ctx p s m meth c Z own nm B ml rt) {x y : Int32} (hd : decode B pc = .ok (.ixor, 1)) (hq : pc + 1 = q) (k' : ∀ z : Int32, z = x ^^^ y → Go p l e R s m args below meth c Z n0 P kc ks μ k n (mkF m q L (.int z :: st))) : Go p l e R s m args below meth c Z n0 P kc ks μ k n (mkF m pc L (.int y :: .int x :: st)) := by
  subst hq
  exact Go.pure (k' _ rfl) fun T h t hr => XS.ixor h C.1 rfl (hb C.2.1 hd) rfl hr
theorem ladd (C : Ctx p s m meth c Z own nm B ml rt) {x y : Int64} (hd : decode B pc = .ok (.ladd, 1)) (hq : pc + 1 = q) (k' : ∀ z : Int64, z = x + y → Go p l e R s m args below meth c Z n0 P kc ks μ k n (mkF m q L (.long z :: st))) : Go p l e R s m args below meth c Z n0 P kc ks μ k n (mkF m pc L (.long y :: .long x :: st)) := by
  subst hq
  exact Go.pure (k' _ rfl) fun T h t hr => XS.ladd h C.1 rfl (hb C.2.1 hd) rfl hr
theorem lsub (C : Ctx p s m meth c Z own nm B ml rt) {x y : Int64} (hd : decode B pc = .ok (.lsub, 1)) (hq : pc + 1 = q) (k' : ∀ z : Int64, z = x - y → Go p l e R s m args below meth c Z n0 P kc ks μ k n (mkF m q L (.long z :: st))) : Go p l e R s m args below meth c Z n0 P kc ks μ k n (mkF m pc L (.long y :: .long x :: st)) := by
  subst hq
  exact Go.pure (k' _ rfl) fun T h t hr => XS.lsub h C.1 rfl (hb C.2.1 hd) rfl hr
theorem lmul (C : Ctx p s m meth c Z own nm B ml rt) {x y : Int64} (hd : decode B pc = .ok (.lmul, 1)) (hq : pc + 1 = q) (k' : ∀ z : Int64, z = x * y → Go p l e R s m args below meth c Z n0 P kc ks μ k n (mkF m q L (.long z :: st))) : Go p l e R s m args below meth c Z n0 P kc ks μ k n (mkF m pc L (.long y :: .long x :: st)) := by
  subst hq
  exact Go.pure (k' _ rfl) fun T h t hr => XS.lmul h C.1 rfl (hb C.2.1 hd) rfl hr
theorem land (C : Ctx p s m meth c Z own nm B ml rt) {x y : Int64} (hd : decode B pc = .ok (.land, 1)) (hq : pc + 1 = q) (k' : ∀ z : Int64, z = x &&& y → Go p l e R s m args below meth c Z n0 P kc ks μ k n (mkF m q L (.long z :: st))) : Go p l e R s m args below meth c Z n0 P kc ks μ k n (mkF m pc L (.long y :: .long x :: st)) := by
  subst hq
  exact Go.pure (k' _ rfl) fun T h t hr => XS.land h C.1 rfl (hb C.2.1 hd) rfl hr
theorem lor (C : Ctx p s m meth c Z own nm B ml rt) {x y : Int64} (hd : decode B pc = .ok (.lor, 1)) (hq : pc + 1 = q) (k' : ∀ z : Int64, z = x ||| y → Go p l e R s m args below meth c Z n0 P kc ks μ k n (mkF m q L (.long z :: st))) : Go p l e R s m args below meth c Z n0 P kc ks μ k n (mkF m pc L (.long y :: .long x :: st)) := by
  subst hq
  exact Go.pure (k' _ rfl) fun T h t hr => XS.lor h C.1 rfl (hb C.2.1 hd) rfl hr
theorem lxor (C : Ctx p s m meth c Z own nm B ml rt) {x y : Int64} (hd : decode B pc = .ok (.lxor, 1)) (hq : pc + 1 = q) (k' : ∀ z : Int64, z = x ^^^ y → Go p l e R s m args below meth c Z n0 P kc ks μ k n (mkF m q L (.long z :: st))) : Go p l e R s m args below meth c Z n0 P kc ks μ k n (mkF m pc L (.long y :: .long x :: st)) := by
  subst hq
  exact Go.pure (k' _ rfl) fun T h t hr => XS.lxor h C.1 rfl (hb C.2.1 hd) rfl hr
theorem ishl (C : Ctx p s m meth c Z own nm B ml rt) {x y : Int32} (hd : decode B pc = .ok (.ishl, 1)) (hq : pc + 1 = q) (k' : ∀ z : Int32, z = x <<< (y &&& 31) → Go p l e R s m args below meth c Z n0 P kc ks μ k n (mkF m q L (.int z :: st))) : Go p l e R s m args below meth c Z n0 P kc ks μ k n (mkF m pc L (.int y :: .int x :: st)) := by
  subst hq
  exact Go.pure (k' _ rfl) fun T h t hr => XS.ishl h C.1 rfl (hb C.2.1 hd) rfl hr
theorem ishr (C : Ctx p s m meth c Z own nm B ml rt) {x y : Int32} (hd : decode B pc = .ok (.ishr, 1)) (hq : pc + 1 = q) (k' : ∀ z : Int32, z = x >>> (y &&& 31) → Go p l e R s m args below meth c Z n0 P kc ks μ k n (mkF m q L (.int z :: st))) : Go p l e R s m args below meth c Z n0 P kc ks μ k n (mkF m pc L (.int y :: .int x :: st)) := by
  subst hq
  exact Go.pure (k' _ rfl) fun T h t hr => XS.ishr h C.1 rfl (hb C.2.1 hd) rfl hr
theorem iushr (C : Ctx p s m meth c Z own nm B ml rt) {x y : Int32} (hd : decode B pc = .ok (.iushr, 1)) (hq : pc + 1 = q) (k' : ∀ z : Int32, z = (x.toUInt32 >>> (y &&& 31).toUInt32).toInt32 → Go p l e R s m args below meth c Z n0 P kc ks μ k n (mkF m q L (.int z :: st))) : Go p l e R s m args below meth c Z n0 P kc ks μ k n (mkF m pc L (.int y :: .int x :: st)) := by
  subst hq
  exact Go.pure (k' _ rfl) fun T h t hr => XS.iushr h C.1 rfl (hb C.2.1 hd) rfl hr
theorem lshl (C : Ctx p s m meth c Z own nm B ml rt) {x : Int64} {y : Int32} (hd : decode B pc = .ok (.lshl, 1)) (hq : pc + 1 = q) (k' : ∀ z : Int64, z = x <<< (y &&& 0x3f).toInt64 → Go p l e R s m args below meth c Z n0 P kc ks μ k n (mkF m q L (.long z :: st))) : Go p l e R s m args below meth c Z n0 P kc ks μ k n (mkF m pc L (.int y :: .long x :: st)) := by
  subst hq
  exact Go.pure (k' _ rfl) fun T h t hr => XS.lshl h C.1 rfl (hb C.2.1 hd) rfl hr
theorem lshr (C : Ctx p s m meth c Z own nm B ml rt) {x : Int64} {y : Int32} (hd : decode B pc = .ok (.lshr, 1)) (hq : pc + 1 = q) (k' : ∀ z : Int64, z = x >>> (y &&& 0x3f).toInt64 → Go p l e R s m args below meth c Z n0 P kc ks μ k n (mkF m q L (.long z :: st))) : Go p l e R s m args below meth c Z n0 P kc ks μ k n (mkF m pc L (.int y :: .long x :: st)) := by
  subst hq
  exact Go.pure (k' _ rfl) fun T h t hr => XS.lshr h C.1 rfl (hb C.2.1 hd) rfl hr
theorem lushr (C : Ctx p s m meth c Z own nm B ml rt) {x : Int64} {y : Int32} (hd : decode B pc = .ok (.lushr, 1)) (hq : pc + 1 = q) (k' : ∀ z : Int64, z = (x.toUInt64 >>> (y &&& 0x3f).toInt64.toUInt64).toInt64 → Go p l e R s m args below meth c Z n0 P kc ks μ k n (mkF m q L (.long z :: st))) : Go p l e R s m args below meth c Z n0 P kc ks μ k n (mkF m pc L (.int y :: .long x :: st)) := by
  subst hq
  exact Go.pure (k' _ rfl) fun T h t hr => XS.lushr h C.1 rfl (hb C.2.1 hd) rfl hr
theorem idiv (C : Ctx p s m meth c Z own nm B ml rt) {x y : Int32} (hd : decode B pc = .ok (.idiv, 1)) (hq : pc + 1 = q) (hy : y ≠ 0) (k' : ∀ z : Int32, z = x / y → Go p l e R s m args below meth c Z n0 P kc ks μ k n (mkF m q L (.int z :: st))) : Go p l e R s m args below meth c Z n0 P kc ks μ k n (mkF m pc L (.int y :: .int x :: st)) := by
  subst hq
  exact Go.pure (k' _ rfl) fun T h t hr => XS.idiv h C.1 rfl (hb C.2.1 hd) rfl hy hr
theorem irem (C : Ctx p s m meth c Z own nm B ml rt) {x y : Int32} (hd : decode B pc = .ok (.irem, 1)) (hq : pc + 1 = q) (hy : y ≠ 0) (k' : ∀ z : Int32, z = x % y → Go p l e R s m args below meth c Z n0 P kc ks μ k n (mkF m q L (.int z :: st))) : Go p l e R s m args below meth c Z n0 P kc ks μ k n (mkF m pc L (.int y :: .int x :: st)) := by
  subst hq
  exact Go.pure (k' _ rfl) fun T h t hr => XS.irem h C.1 rfl (hb C.2.1 hd) rfl hy (by rw [irem_eq_mod]; exact hr)
theorem ldiv (C : Ctx p s m meth c Z own nm B ml rt) {x y : Int64} (hd : decode B pc = .ok (.ldiv, 1)) (hq : pc + 1 = q) (hy : y ≠ 0) (k' : ∀ z : Int64, z = x / y → Go p l e R s m args below meth c Z n0 P kc ks μ k n (mkF m q L (.long z :: st))) : Go p l e R s m args below meth c Z n0 P kc ks μ k n (mkF m pc L (.long y :: .long x :: st)) := by
  subst hq
  exact Go.pure (k' _ rfl) fun T h t hr => XS.ldiv h C.1 rfl (hb C.2.1 hd) rfl hy hr
theorem lrem (C : Ctx p s m meth c Z own nm B ml rt) {x y : Int64} (hd : decode B pc = .ok (.lrem, 1)) (hq : pc + 1 = q) (hy : y ≠ 0) (k' : ∀ z : Int64, z = x - (x / y) * y → Go p l e R s m args below meth c Z n0 P kc ks μ k n (mkF m q L (.long z :: st))) : Go p l e R s m args below meth c Z n0 P kc ks μ k n (mkF m pc L (.long y :: .long x :: st)) := by
  subst hq
  exact Go.pure (k' _ rfl) fun T h t hr => XS.lrem h C.1 rfl (hb C.2.1 hd) rfl hy hr
theorem ineg (C : Ctx p s m meth c Z own nm B ml rt) {x : Int32} (hd : decode B pc = .ok (.ineg, 1)) (hq : pc + 1 = q) (k' : ∀ z : Int32, z = -x → Go p l e R s m args below meth c Z n0 P kc ks μ k n (mkF m q L (.int z :: st))) : Go p l e R s m args below meth c Z n0 P kc ks μ k n (mkF m pc L (.int x :: st)) := by
  subst hq
  exact Go.pure (k' _ rfl) fun T h t hr => XS.ineg h C.1 rfl (hb C.2.1 hd) rfl hr
theorem lneg (C : Ctx p s m meth c Z own nm B ml rt) {x : Int64} (hd : decode B pc = .ok (.lneg, 1)) (hq : pc + 1 = q) (k' : ∀ z : Int64, z = -x → Go p l e R s m args below meth c Z n0 P kc ks μ k n (mkF m q L (.long z :: st))) : Go p l e R s m args below meth c Z n0 P kc ks μ k n (mkF m pc L (.long x :: st)) := by
  subst hq
  exact Go.pure (k' _ rfl) fun T h t hr => XS.lneg h C.1 rfl (hb C.2.1 hd) rfl hr
theorem i2l (C : Ctx p s m meth c Z own nm B ml rt) {x : Int32} (hd : decode B pc = .ok (.i2l, 1)) (hq : pc + 1 = q) (k' : ∀ z : Int64, z = x.toInt64 → Go p l e R s m args below meth c Z n0 P kc ks μ k n (mkF m q L (.long z :: st))) : Go p l e R s m args below meth c Z n0 P kc ks μ k n (mkF m pc L (.int x :: st)) := by
  subst hq
  exact Go.pure (k' _ rfl) fun T h t hr => XS.i2l h C.1 rfl (hb C.2.1 hd) rfl hr
theorem l2i (C : Ctx p s m meth c Z own nm B ml rt) {x : Int64} (hd : decode B pc = .ok (.l2i, 1)) (hq : pc + 1 = q) (k' : ∀ z : Int32, z = x.toInt32 → Go p l e R s m args below meth c Z n0 P kc ks μ k n (mkF m q L (.int z :: st))) : Go p l e R s m args below meth c Z n0 P kc ks μ k n (mkF m pc L (.long x :: st)) := by
  subst hq
  exact Go.pure (k' _ rfl) fun T h t hr => XS.l2i h C.1 rfl (hb C.2.1 hd) rfl hr
theorem i2b (C : Ctx p s m meth c Z own nm B ml rt) {x : Int32} (hd : decode B pc = .ok (.i2b, 1)) (hq : pc + 1 = q) (k' : ∀ z : Int32, z = x.toInt8.toInt32 → Go p l e R s m args below meth c Z n0 P kc ks μ k n (mkF m q L (.int z :: st))) : Go p l e R s m args below meth c Z n0 P kc ks μ k n (mkF m pc L (.int x :: st)) := by
  subst hq
  exact Go.pure (k' _ rfl) fun T h t hr => XS.i2b h C.1 rfl (hb C.2.1 hd) rfl hr
theorem i2s (C : Ctx p s m meth c Z own nm B ml rt) {x : Int32} (hd : decode B pc = .ok (.i2s, 1)) (hq : pc + 1 = q) (k' : ∀ z : Int32, z = x.toInt16.toInt32 → Go p l e R s m args below meth c Z n0 P kc ks μ k n (mkF m q L (.int z :: st))) : Go p l e R s m args below meth c Z n0 P kc ks μ k n (mkF m pc L (.int x :: st)) := by
  subst hq
  exact Go.pure (k' _ rfl) fun T h t hr => XS.i2s h C.1 rfl (hb C.2.1 hd) rfl hr
theorem i2c (C : Ctx p s m meth c Z own nm B ml rt) {x : Int32} (hd : decode B pc = .ok (.i2c, 1)) (hq : pc + 1 = q) (k' : ∀ z : Int32, z = x.toUInt32.toUInt16.toUInt32.toInt32 → Go p l e R s m args below meth c Z n0 P kc ks μ k n (mkF m q L (.int z :: st))) : Go p l e R s m args below meth c Z n0 P kc ks μ k n (mkF m pc L (.int x :: st)) := by
  subst hq
  exact Go.pure (k' _ rfl) fun T h t hr => XS.i2c h C.1 rfl (hb C.2.1 hd) rfl hr
theorem iloadN (C : Ctx p s m meth c Z own nm B ml rt) {i : Fin 4} {v : Int32} (hd : decode B pc = .ok (.iload_n i, 1)) (hq : pc + 1 = q) (hl : L[i.val]? = some (.val (.int v))) (k' : Go p l e R s m args below meth c Z n0 P kc ks μ k n (mkF m q L (.int v :: st))) : Go p l e R s m args below meth c Z n0 P kc ks μ k n (mkF m pc L st) := by
  subst hq
  exact Go.pure k' fun T h t hr => XS.iloadN h C.1 rfl (hb C.2.1 hd) hl hr
theorem iload (C : Ctx p s m meth c Z own nm B ml rt) {i : Nat} {v : Int32} (hd : decode B pc = .ok (.iload i, 2)) (hq : pc + 2 = q) (hl : L[i]? = some (.val (.int v))) (k' : Go p l e R s m args below meth c Z n0 P kc ks μ k n (mkF m q L (.int v :: st))) : Go p l e R s m args below meth c Z n0 P kc ks μ k n (mkF m pc L st) := by
  subst hq
  exact Go.pure k' fun T h t hr => XS.iload h C.1 rfl (hb C.2.1 hd) hl hr
theorem istoreN (C : Ctx p s m meth c Z own nm B ml rt) {i : Fin 4} {v : Int32} (hd : decode B pc = .ok (.istore_n i, 1)) (hq : pc + 1 = q) (hl : storeLocals L i.val (.int v) = some L') (k' : Go p l e R s m args below meth c Z n0 P kc ks μ k n (mkF m q L' st)) : Go p l e R s m args below meth c Z n0 P kc ks μ k n (mkF m pc L (.int v :: st)) := by
  subst hq
  exact Go.pure k' fun T h t hr => XS.istoreN h C.1 rfl (hb C.2.1 hd) rfl hl hr
theorem istore (C : Ctx p s m meth c Z own nm B ml rt) {i : Nat} {v : Int32} (hd : decode B pc = .ok (.istore i, 2)) (hq : pc + 2 = q) (hl : storeLocals L i (.int v) = some L') (k' : Go p l e R s m args below meth c Z n0 P kc ks μ k n (mkF m q L' st)) : Go p l e R s m args below meth c Z n0 P kc ks μ k n (mkF m pc L (.int v :: st)) := by
  subst hq
  exact Go.pure k' fun T h t hr => XS.istore h C.1 rfl (hb C.2.1 hd) rfl hl hr
theorem lloadN (C : Ctx p s m meth c Z own nm B ml rt) {i : Fin 4} {v : Int64} (hd : decode B pc = .ok (.lload_n i, 1)) (hq : pc + 1 = q) (hl : L[i.val]? = some (.val (.long v))) (k' : Go p l e R s m args below meth c Z n0 P kc ks μ k n (mkF m q L (.long v :: st))) : Go p l e R s m args below meth c Z n0 P kc ks μ k n (mkF m pc L st) := by
  subst hq
  exact Go.pure k' fun T h t hr => XS.lloadN h C.1 rfl (hb C.2.1 hd) hl hr
theorem lload (C : Ctx p s m meth c Z own nm B ml rt) {i : Nat} {v : Int64} (hd : decode B pc = .ok (.lload i, 2)) (hq : pc + 2 = q) (hl : L[i]? = some (.val (.long v))) (k' : Go p l e R s m args below meth c Z n0 P kc ks μ k n (mkF m q L (.long v :: st))) : Go p l e R s m args below meth c Z n0 P kc ks μ k n (mkF m pc L st) := by
  subst hq
  exact Go.pure k' fun T h t hr => XS.lload h C.1 rfl (hb C.2.1 hd) hl hr
theorem lstoreN (C : Ctx p s m meth c Z own nm B ml rt) {i : Fin 4} {v : Int64} (hd : decode B pc = .ok (.lstore_n i, 1)) (hq : pc + 1 = q) (hl : storeLocals L i.val (.long v) = some L') (k' : Go p l e R s m args below meth c Z n0 P kc ks μ k n (mkF m q L' st)) : Go p l e R s m args below meth c Z n0 P kc ks μ k n (mkF m pc L (.long v :: st)) := by
  subst hq
  exact Go.pure k' fun T h t hr => XS.lstoreN h C.1 rfl (hb C.2.1 hd) rfl hl hr
theorem lstore (C : Ctx p s m meth c Z own nm B ml rt) {i : Nat} {v : Int64} (hd : decode B pc = .ok (.lstore i, 2)) (hq : pc + 2 = q) (hl : storeLocals L i (.long v) = some L') (k' : Go p l e R s m args below meth c Z n0 P kc ks μ k n (mkF m q L' st)) : Go p l e R s m args below meth c Z n0 P kc ks μ k n (mkF m pc L (.long v :: st)) := by
  subst hq
  exact Go.pure k' fun T h t hr => XS.lstore h C.1 rfl (hb C.2.1 hd) rfl hl hr
theorem aloadN (C : Ctx p s m meth c Z own nm B ml rt) {i : Fin 4} {v : Value} (hd : decode B pc = .ok (.aload_n i, 1)) (hq : pc + 1 = q) (hl : L[i.val]? = some (.val v)) (hv : v.isRef = true) (k' : Go p l e R s m args below meth c Z n0 P kc ks μ k n (mkF m q L (v :: st))) : Go p l e R s m args below meth c Z n0 P kc ks μ k n (mkF m pc L st) := by
  subst hq
  exact Go.pure k' fun T h t hr => XS.aloadN h C.1 rfl (hb C.2.1 hd) hl hv hr
theorem aload (C : Ctx p s m meth c Z own nm B ml rt) {i : Nat} {v : Value} (hd : decode B pc = .ok (.aload i, 2)) (hq : pc + 2 = q) (hl : L[i]? = some (.val v)) (hv : v.isRef = true) (k' : Go p l e R s m args below meth c Z n0 P kc ks μ k n (mkF m q L (v :: st))) : Go p l e R s m args below meth c Z n0 P kc ks μ k n (mkF m pc L st) := by
  subst hq
  exact Go.pure k' fun T h t hr => XS.aload h C.1 rfl (hb C.2.1 hd) hl hv hr
theorem astoreN (C : Ctx p s m meth c Z own nm B ml rt) {i : Fin 4} {v : Value} (hd : decode B pc = .ok (.astore_n i, 1)) (hq : pc + 1 = q) (hl : storeLocals L i.val v = some L') (hv : v.isRef = true) (k' : Go p l e R s m args below meth c Z n0 P kc ks μ k n (mkF m q L' st)) : Go p l e R s m args below meth c Z n0 P kc ks μ k n (mkF m pc L (v :: st)) := by
  subst hq
  exact Go.pure k' fun T h t hr => XS.astoreN h C.1 rfl (hb C.2.1 hd) rfl hv hl hr
theorem astore (C : Ctx p s m meth c Z own nm B ml rt) {i : Nat} {v : Value} (hd : decode B pc = .ok (.astore i, 2)) (hq : pc + 2 = q) (hl : storeLocals L i v = some L') (hv : v.isRef = true) (k' : Go p l e R s m args below meth c Z n0 P kc ks μ k n (mkF m q L' st)) : Go p l e R s m args below meth c Z n0 P kc ks μ k n (mkF m pc L (v :: st)) := by
  subst hq
  exact Go.pure k' fun T h t hr => XS.astore h C.1 rfl (hb C.2.1 hd) rfl hv hl hr
theorem iconst (C : Ctx p s m meth c Z own nm B ml rt) {i : Int} {z : Int32} (hd : decode B pc = .ok (.iconst i, 1)) (hq : pc + 1 = q) (hz : Int32.ofInt i = z) (k' : Go p l e R s m args below meth c Z n0 P kc ks μ k n (mkF m q L (.int z :: st))) : Go p l e R s m args below meth c Z n0 P kc ks μ k n (mkF m pc L st) := by
  subst hq
  exact Go.pure k' fun T h t hr => XS.iconst h C.1 rfl (hb C.2.1 hd) (by rw [hz]; exact hr)
theorem bipush (C : Ctx p s m meth c Z own nm B ml rt) {i : Int} {z : Int32} (hd : decode B pc = .ok (.bipush i, 2)) (hq : pc + 2 = q) (hz : (Int8.ofInt i).toInt32 = z) (k' : Go p l e R s m args below meth c Z n0 P kc ks μ k n (mkF m q L (.int z :: st))) : Go p l e R s m args below meth c Z n0 P kc ks μ k n (mkF m pc L st) := by
  subst hq
  exact Go.pure k' fun T h t hr => XS.bipush h C.1 rfl (hb C.2.1 hd) (by rw [hz]; exact hr)
theorem sipush (C : Ctx p s m meth c Z own nm B ml rt) {i : Int} {z : Int32} (hd : decode B pc = .ok (.sipush i, 3)) (hq : pc + 3 = q) (hz : (Int16.ofInt i).toInt32 = z) (k' : Go p l e R s m args below meth c Z n0 P kc ks μ k n (mkF m q L (.int z :: st))) : Go p l e R s m args below meth c Z n0 P kc ks μ k n (mkF m pc L st) := by
  subst hq
  exact Go.pure k' fun T h t hr => XS.sipush h C.1 rfl (hb C.2.1 hd) (by rw [hz]; exact hr)
theorem lconst (C : Ctx p s m meth c Z own nm B ml rt) {i : Fin 2} {z : Int64} (hd : decode B pc = .ok (.lconst i, 1)) (hq : pc + 1 = q) (hz : Int64.ofNat i = z) (k' : Go p l e R s m args below meth c Z n0 P kc ks μ k n (mkF m q L (.long z :: st))) : Go p l e R s m args below meth c Z n0 P kc ks μ k n (mkF m pc L st) := by
  subst hq
  exact Go.pure k' fun T h t hr => XS.lconst h C.1 rfl (hb C.2.1 hd) (by rw [hz]; exact hr)
theorem aconstNull (C : Ctx p s m meth c Z own nm B ml rt)  (hd : decode B pc = .ok (.aconst_null, 1)) (hq : pc + 1 = q) (k' : Go p l e R s m args below meth c Z n0 P kc ks μ k n (mkF m q L (.null :: st))) : Go p l e R s m args below meth c Z n0 P kc ks μ k n (mkF m pc L st) := by
  subst hq
  exact Go.pure k' fun T h t hr => XS.aconstNull h C.1 rfl (hb C.2.1 hd) hr
theorem dup (C : Ctx p s m meth c Z own nm B ml rt) {v : Value} (hd : decode B pc = .ok (.dup, 1)) (hq : pc + 1 = q) (hv : v.category = 1) (k' : Go p l e R s m args below meth c Z n0 P kc ks μ k n (mkF m q L (v :: v :: st))) : Go p l e R s m args below meth c Z n0 P kc ks μ k n (mkF m pc L (v :: st)) := by
  subst hq
  exact Go.pure k' fun T h t hr => XS.dup h C.1 rfl (hb C.2.1 hd) rfl hv hr
theorem pop (C : Ctx p s m meth c Z own nm B ml rt) {v : Value} (hd : decode B pc = .ok (.pop, 1)) (hq : pc + 1 = q) (hv : v.category = 1) (k' : Go p l e R s m args below meth c Z n0 P kc ks μ k n (mkF m q L st)) : Go p l e R s m args below meth c Z n0 P kc ks μ k n (mkF m pc L (v :: st)) := by
  subst hq
  exact Go.pure k' fun T h t hr => XS.pop h C.1 rfl (hb C.2.1 hd) rfl hv hr
theorem dupX1 (C : Ctx p s m meth c Z own nm B ml rt) {v w : Value} (hd : decode B pc = .ok (.dup_x1, 1)) (hq : pc + 1 = q) (hv : v.category = 1) (hw : w.category = 1) (k' : Go p l e R s m args below meth c Z n0 P kc ks μ k n (mkF m q L (v :: w :: v :: st))) : Go p l e R s m args below meth c Z n0 P kc ks μ k n (mkF m pc L (v :: w :: st)) := by
  subst hq
  exact Go.pure k' fun T h t hr => XS.dupX1 h C.1 rfl (hb C.2.1 hd) rfl hv hw hr
theorem dup2 (C : Ctx p s m meth c Z own nm B ml rt) {v w : Value} (hd : decode B pc = .ok (.dup2, 1)) (hq : pc + 1 = q) (hv : v.category = 1) (hw : w.category = 1) (k' : Go p l e R s m args below meth c Z n0 P kc ks μ k n (mkF m q L (v :: w :: v :: w :: st))) : Go p l e R s m args below meth c Z n0 P kc ks μ k n (mkF m pc L (v :: w :: st)) := by
  subst hq
  exact Go.pure k' fun T h t hr => XT.dup2 h C.1 rfl (hb C.2.1 hd) rfl hv hw hr
theorem dup2L (C : Ctx p s m meth c Z own nm B ml rt) {x : Int64} (hd : decode B pc = .ok (.dup2, 1)) (hq : pc + 1 = q) (k' : Go p l e R s m args below meth c Z n0 P kc ks μ k n (mkF m q L (.long x :: .long x :: st))) : Go p l e R s m args below meth c Z n0 P kc ks μ k n (mkF m pc L (.long x :: st)) := by
  subst hq
  exact Go.pure k' fun T h t hr => XT.dup2L h C.1 rfl (hb C.2.1 hd) rfl hr
theorem iinc (C : Ctx p s m meth c Z own nm B ml rt) {i : Nat} {d : Int} {x z : Int32} (hd : decode B pc = .ok (.iinc i d, 3)) (hq : pc + 3 = q) (hl : L[i]? = some (.val (.int x))) (hz : x + Int32.ofInt d = z) (hl' : storeLocals L i (.int z) = some L') (k' : Go p l e R s m args below meth c Z n0 P kc ks μ k n (mkF m q L' st)) : Go p l e R s m args below meth c Z n0 P kc ks μ k n (mkF m pc L st) := by
  subst hq
  exact Go.pure k' fun T h t hr => XS.iinc h C.1 rfl (hb C.2.1 hd) hl (by rw [hz]; exact hl') hr
theorem goto (C : Ctx p s m meth c Z own nm B ml rt) {o : Int} (hd : decode B pc = .ok (.goto o, 3)) (hq : 0 ≤ (pc : Int) + o ∧ ((pc : Int) + o).toNat = q) (k' : Go p l e R s m args below meth c Z n0 P kc ks μ k n (mkF m q L st)) : Go p l e R s m args below meth c Z n0 P kc ks μ k n (mkF m pc L st) := Go.pure k' fun T h t hr => XS.goto h C.1 rfl rfl (hb C.2.1 hd) hq.1 hq.2 hr
theorem icmp_eq (C : Ctx p s m meth c Z own nm B ml rt) {x y : Int32} {o : Int} {r : Nat} (hd : decode B pc = .ok (.if_icmp .eq o, 3)) (hq : pc + 3 = q) (hr : 0 ≤ (pc : Int) + o ∧ ((pc : Int) + o).toNat = r) (ky : x = y → Go p l e R s m args below meth c Z n0 P kc ks μ k n (mkF m r L st)) (kn : ¬ x = y → Go p l e R s m args below meth c Z n0 P kc ks μ k n (mkF m q L st)) : Go p l e R s m args below meth c Z n0 P kc ks μ k n (mkF m pc L (.int y :: .int x :: st)) := by
  subst hq
  by_cases hc : x = y
  · exact Go.pure (ky hc) fun T h t k => XS.icmpYes h C.1 rfl rfl (hb C.2.1 hd) rfl (XT.ii_eq_t hc) hr.1 hr.2 k
  · exact Go.pure (kn (by first | exact hc | exact Decidable.of_not_not hc)) fun T h t k => XS.icmpNo h C.1 rfl (hb C.2.1 hd) rfl (XT.ii_eq_f (by first | exact hc | exact Decidable.of_not_not hc)) k
theorem if_eq (C : Ctx p s m meth c Z own nm B ml rt) {x : Int32} {o : Int} {r : Nat} (hd : decode B pc = .ok (.ifCond .eq o, 3)) (hq : pc + 3 = q) (hr : 0 ≤ (pc : Int) + o ∧ ((pc : Int) + o).toNat = r) (ky : x = 0 → Go p l e R s m args below meth c Z n0 P kc ks μ k n (mkF m r L st)) (kn : ¬ x = 0 → Go p l e R s m args below meth c Z n0 P kc ks μ k n (mkF m q L st)) : Go p l e R s m args below meth c Z n0 P kc ks μ k n (mkF m pc L (.int x :: st)) := by
  subst hq
  by_cases hc : x = 0
  · exact Go.pure (ky hc) fun T h t k => XS.ifYes h C.1 rfl rfl (hb C.2.1 hd) rfl (XT.i0_eq_t hc) hr.1 hr.2 k
  · exact Go.pure (kn (by first | exact hc | exact Decidable.of_not_not hc)) fun T h t k => XS.ifNo h C.1 rfl (hb C.2.1 hd) rfl (XT.i0_eq_f (by first | exact hc | exact Decidable.of_not_not hc)) k
theorem lcmp_eq (C : Ctx p s m meth c Z own nm B ml rt) {x y : Int64} {o : Int} {r pc1 : Nat} (hd0 : decode B pc = .ok (.lcmp, 1)) (h1 : pc + 1 = pc1) (hd : decode B pc1 = .ok (.ifCond .eq o, 3)) (hq : pc1 + 3 = q) (hr : 0 ≤ (pc1 : Int) + o ∧ ((pc1 : Int) + o).toNat = r) (ky : x = y → Go p l e R s m args below meth c Z n0 P kc ks μ k n (mkF m r L st)) (kn : ¬ x = y → Go p l e R s m args below meth c Z n0 P kc ks μ k n (mkF m q L st)) : Go p l e R s m args below meth c Z n0 P kc ks μ k n (mkF m pc L (.long y :: .long x :: st)) := by
  subst hq h1
  refine Go.pure (g' := mkF m (pc + 1) L (.int (XT.cmpL x y) :: st)) ?_ fun T h t k => XT.lcmp h C.1 rfl (hb C.2.1 hd0) rfl k
  by_cases hc : x = y
  · exact Go.pure (ky hc) fun T h t k => XS.ifYes h C.1 rfl rfl (hb C.2.1 hd) rfl (XT.ll_eq_t hc) hr.1 hr.2 k
  · exact Go.pure (kn (by first | exact hc | exact Decidable.of_not_not hc)) fun T h t k => XS.ifNo h C.1 rfl (hb C.2.1 hd) rfl (XT.ll_eq_f (by first | exact hc | exact Decidable.of_not_not hc)) k
theorem icmp_ne (C : Ctx p s m meth c Z own nm B ml rt) {x y : Int32} {o : Int} {r : Nat} (hd : decode B pc = .ok (.if_icmp .ne o, 3)) (hq : pc + 3 = q) (hr : 0 ≤ (pc : Int) + o ∧ ((pc : Int) + o).toNat = r) (ky : ¬ x = y → Go p l e R s m args below meth c Z n0 P kc ks μ k n (mkF m r L st)) (kn : x = y → Go p l e R s m args below meth c Z n0 P kc ks μ k n (mkF m q L st)) : Go p l e R s m args below meth c Z n0 P kc ks μ k n (mkF m pc L (.int y :: .int x :: st)) := by
  subst hq
  by_cases hc : ¬ x = y
  · exact Go.pure (ky hc) fun T h t k => XS.icmpYes h C.1 rfl rfl (hb C.2.1 hd) rfl (XT.ii_ne_t hc) hr.1 hr.2 k
  · exact Go.pure (kn (by first | exact hc | exact Decidable.of_not_not hc)) fun T h t k => XS.icmpNo h C.1 rfl (hb C.2.1 hd) rfl (XT.ii_ne_f (by first | exact hc | exact Decidable.of_not_not hc)) k
theorem if_ne (C : Ctx p s m meth c Z own nm B ml rt) {x : Int32} {o : Int} {r : Nat} (hd : decode B pc = .ok (.ifCond .ne o, 3)) (hq : pc + 3 = q) (hr : 0 ≤ (pc : Int) + o ∧ ((pc : Int) + o).toNat = r) (ky : ¬ x = 0 → Go p l e R s m args below meth c Z n0 P kc ks μ k n (mkF m r L st)) (kn : x = 0 → Go p l e R s m args below meth c Z n0 P kc ks μ k n (mkF m q L st)) : Go p l e R s m args below meth c Z n0 P kc ks μ k n (mkF m pc L (.int x :: st)) := by
  subst hq
  by_cases hc : ¬ x = 0
  · exact Go.pure (ky hc) fun T h t k => XS.ifYes h C.1 rfl rfl (hb C.2.1 hd) rfl (XT.i0_ne_t hc) hr.1 hr.2 k
  · exact Go.pure (kn (by first | exact hc | exact Decidable.of_not_not hc)) fun T h t k => XS.ifNo h C.1 rfl (hb C.2.1 hd) rfl (XT.i0_ne_f (by first | exact hc | exact Decidable.of_not_not hc)) k
theorem lcmp_ne (C : Ctx p s m meth c Z own nm B ml rt) {x y : Int64} {o : Int} {r pc1 : Nat} (hd0 : decode B pc = .ok (.lcmp, 1)) (h1 : pc + 1 = pc1) (hd : decode B pc1 = .ok (.ifCond .ne o, 3)) (hq : pc1 + 3 = q) (hr : 0 ≤ (pc1 : Int) + o ∧ ((pc1 : Int) + o).toNat = r) (ky : ¬ x = y → Go p l e R s m args below meth c Z n0 P kc ks μ k n (mkF m r L st)) (kn : x = y → Go p l e R s m args below meth c Z n0 P kc ks μ k n (mkF m q L st)) : Go p l e R s m args below meth c Z n0 P kc ks μ k n (mkF m pc L (.long y :: .long x :: st)) := by
  subst hq h1
  refine Go.pure (g' := mkF m (pc + 1) L (.int (XT.cmpL x y) :: st)) ?_ fun T h t k => XT.lcmp h C.1 rfl (hb C.2.1 hd0) rfl k
  by_cases hc : ¬ x = y
  · exact Go.pure (ky hc) fun T h t k => XS.ifYes h C.1 rfl rfl (hb C.2.1 hd) rfl (XT.ll_ne_t hc) hr.1 hr.2 k
  · exact Go.pure (kn (by first | exact hc | exact Decidable.of_not_not hc)) fun T h t k => XS.ifNo h C.1 rfl (hb C.2.1 hd) rfl (XT.ll_ne_f (by first | exact hc | exact Decidable.of_not_not hc)) k
theorem icmp_lt (C : Ctx p s m meth c Z own nm B ml rt) {x y : Int32} {o : Int} {r : Nat} (hd : decode B pc = .ok (.if_icmp .lt o, 3)) (hq : pc + 3 = q) (hr : 0 ≤ (pc : Int) + o ∧ ((pc : Int) + o).toNat = r) (ky : x < y → Go p l e R s m args below meth c Z n0 P kc ks μ k n (mkF m r L st)) (kn : ¬ x < y → Go p l e R s m args below meth c Z n0 P kc ks μ k n (mkF m q L st)) : Go p l e R s m args below meth c Z n0 P kc ks μ k n (mkF m pc L (.int y :: .int x :: st)) := by
  subst hq
  by_cases hc : x < y
  · exact Go.pure (ky hc) fun T h t k => XS.icmpYes h C.1 rfl rfl (hb C.2.1 hd) rfl (XT.ii_lt_t hc) hr.1 hr.2 k
  · exact Go.pure (kn (by first | exact hc | exact Decidable.of_not_not hc)) fun T h t k => XS.icmpNo h C.1 rfl (hb C.2.1 hd) rfl (XT.ii_lt_f (by first | exact hc | exact Decidable.of_not_not hc)) k
theorem if_lt (C : Ctx p s m meth c Z own nm B ml rt) {x : Int32} {o : Int} {r : Nat} (hd : decode B pc = .ok (.ifCond .lt o, 3)) (hq : pc + 3 = q) (hr : 0 ≤ (pc : Int) + o ∧ ((pc : Int) + o).toNat = r) (ky : x < 0 → Go p l e R s m args below meth c Z n0 P kc ks μ k n (mkF m r L st)) (kn : ¬ x < 0 → Go p l e R s m args below meth c Z n0 P kc ks μ k n (mkF m q L st)) : Go p l e R s m args below meth c Z n0 P kc ks μ k n (mkF m pc L (.int x :: st)) := by
  subst hq
  by_cases hc : x < 0
  · exact Go.pure (ky hc) fun T h t k => XS.ifYes h C.1 rfl rfl (hb C.2.1 hd) rfl (XT.i0_lt_t hc) hr.1 hr.2 k
  · exact Go.pure (kn (by first | exact hc | exact Decidable.of_not_not hc)) fun T h t k => XS.ifNo h C.1 rfl (hb C.2.1 hd) rfl (XT.i0_lt_f (by first | exact hc | exact Decidable.of_not_not hc)) k
theorem lcmp_lt (C : Ctx p s m meth c Z own nm B ml rt) {x y : Int64} {o : Int} {r pc1 : Nat} (hd0 : decode B pc = .ok (.lcmp, 1)) (h1 : pc + 1 = pc1) (hd : decode B pc1 = .ok (.ifCond .lt o, 3)) (hq : pc1 + 3 = q) (hr : 0 ≤ (pc1 : Int) + o ∧ ((pc1 : Int) + o).toNat = r) (ky : x < y → Go p l e R s m args below meth c Z n0 P kc ks μ k n (mkF m r L st)) (kn : ¬ x < y → Go p l e R s m args below meth c Z n0 P kc ks μ k n (mkF m q L st)) : Go p l e R s m args below meth c Z n0 P kc ks μ k n (mkF m pc L (.long y :: .long x :: st)) := by
  subst hq h1
  refine Go.pure (g' := mkF m (pc + 1) L (.int (XT.cmpL x y) :: st)) ?_ fun T h t k => XT.lcmp h C.1 rfl (hb C.2.1 hd0) rfl k
  by_cases hc : x < y
  · exact Go.pure (ky hc) fun T h t k => XS.ifYes h C.1 rfl rfl (hb C.2.1 hd) rfl (XT.ll_lt_t hc) hr.1 hr.2 k
  · exact Go.pure (kn (by first | exact hc | exact Decidable.of_not_not hc)) fun T h t k => XS.ifNo h C.1 rfl (hb C.2.1 hd) rfl (XT.ll_lt_f (by first | exact hc | exact Decidable.of_not_not hc)) k
theorem icmp_ge (C : Ctx p s m meth c Z own nm B ml rt) {x y : Int32} {o : Int} {r : Nat} (hd : decode B pc = .ok (.if_icmp .ge o, 3)) (hq : pc + 3 = q) (hr : 0 ≤ (pc : Int) + o ∧ ((pc : Int) + o).toNat = r) (ky : ¬ x < y → Go p l e R s m args below meth c Z n0 P kc ks μ k n (mkF m r L st)) (kn : x < y → Go p l e R s m args below meth c Z n0 P kc ks μ k n (mkF m q L st)) : Go p l e R s m args below meth c Z n0 P kc ks μ k n (mkF m pc L (.int y :: .int x :: st)) := by
  subst hq
  by_cases hc : ¬ x < y
  · exact Go.pure (ky hc) fun T h t k => XS.icmpYes h C.1 rfl rfl (hb C.2.1 hd) rfl (XT.ii_ge_t hc) hr.1 hr.2 k
  · exact Go.pure (kn (by first | exact hc | exact Decidable.of_not_not hc)) fun T h t k => XS.icmpNo h C.1 rfl (hb C.2.1 hd) rfl (XT.ii_ge_f (by first | exact hc | exact Decidable.of_not_not hc)) k
theorem if_ge (C : Ctx p s m meth c Z own nm B ml rt) {x : Int32} {o : Int} {r : Nat} (hd : decode B pc = .ok (.ifCond .ge o, 3)) (hq : pc + 3 = q) (hr : 0 ≤ (pc : Int) + o ∧ ((pc : Int) + o).toNat = r) (ky : ¬ x < 0 → Go p l e R s m args below meth c Z n0 P kc ks μ k n (mkF m r L st)) (kn : x < 0 → Go p l e R s m args below meth c Z n0 P kc ks μ k n (mkF m q L st)) : Go p l e R s m args below meth c Z n0 P kc ks μ k n (mkF m pc L (.int x :: st)) := by
  subst hq
  by_cases hc : ¬ x < 0
  · exact Go.pure (ky hc) fun T h t k => XS.ifYes h C.1 rfl rfl (hb C.2.1 hd) rfl (XT.i0_ge_t hc) hr.1 hr.2 k
  · exact Go.pure (kn (by first | exact hc | exact Decidable.of_not_not hc)) fun T h t k => XS.ifNo h C.1 rfl (hb C.2.1 hd) rfl (XT.i0_ge_f (by first | exact hc | exact Decidable.of_not_not hc)) k
theorem lcmp_ge (C : Ctx p s m meth c Z own nm B ml rt) {x y : Int64} {o : Int} {r pc1 : Nat} (hd0 : decode B pc = .ok (.lcmp, 1)) (h1 : pc + 1 = pc1) (hd : decode B pc1 = .ok (.ifCond .ge o, 3)) (hq : pc1 + 3 = q) (hr : 0 ≤ (pc1 : Int) + o ∧ ((pc1 : Int) + o).toNat = r) (ky : ¬ x < y → Go p l e R s m args below meth c Z n0 P kc ks μ k n (mkF m r L st)) (kn : x < y → Go p l e R s m args below meth c Z n0 P kc ks μ k n (mkF m q L st)) : Go p l e R s m args below meth c Z n0 P kc ks μ k n (mkF m pc L (.long y :: .long x :: st)) := by
  subst hq h1
  refine Go.pure (g' := mkF m (pc + 1) L (.int (XT.cmpL x y) :: st)) ?_ fun T h t k => XT.lcmp h C.1 rfl (hb C.2.1 hd0) rfl k
  by_cases hc : ¬ x < y
  · exact Go.pure (ky hc) fun T h t k => XS.ifYes h C.1 rfl rfl (hb C.2.1 hd) rfl (XT.ll_ge_t hc) hr.1 hr.2 k
  · exact Go.pure (kn (by first | exact hc | exact Decidable.of_not_not hc)) fun T h t k => XS.ifNo h C.1 rfl (hb C.2.1 hd) rfl (XT.ll_ge_f (by first | exact hc | exact Decidable.of_not_not hc)) k
theorem icmp_gt (C : Ctx p s m meth c Z own nm B ml rt) {x y : Int32} {o : Int} {r : Nat} (hd : decode B pc = .ok (.if_icmp .gt o, 3)) (hq : pc + 3 = q) (hr : 0 ≤ (pc : Int) + o ∧ ((pc : Int) + o).toNat = r) (ky : y < x → Go p l e R s m args below meth c Z n0 P kc ks μ k n (mkF m r L st)) (kn : ¬ y < x → Go p l e R s m args below meth c Z n0 P kc ks μ k n (mkF m q L st)) : Go p l e R s m args below meth c Z n0 P kc ks μ k n (mkF m pc L (.int y :: .int x :: st)) := by
  subst hq
  by_cases hc : y < x
  · exact Go.pure (ky hc) fun T h t k => XS.icmpYes h C.1 rfl rfl (hb C.2.1 hd) rfl (XT.ii_gt_t hc) hr.1 hr.2 k
  · exact Go.pure (kn (by first | exact hc | exact Decidable.of_not_not hc)) fun T h t k => XS.icmpNo h C.1 rfl (hb C.2.1 hd) rfl (XT.ii_gt_f (by first | exact hc | exact Decidable.of_not_not hc)) k
theorem if_gt (C : Ctx p s m meth c Z own nm B ml rt) {x : Int32} {o : Int} {r : Nat} (hd : decode B pc = .ok (.ifCond .gt o, 3)) (hq : pc + 3 = q) (hr : 0 ≤ (pc : Int) + o ∧ ((pc : Int) + o).toNat = r) (ky : 0 < x → Go p l e R s m args below meth c Z n0 P kc ks μ k n (mkF m r L st)) (kn : ¬ 0 < x → Go p l e R s m args below meth c Z n0 P kc ks μ k n (mkF m q L st)) : Go p l e R s m args below meth c Z n0 P kc ks μ k n (mkF m pc L (.int x :: st)) := by
  subst hq
  by_cases hc : 0 < x
  · exact Go.pure (ky hc) fun T h t k => XS.ifYes h C.1 rfl rfl (hb C.2.1 hd) rfl (XT.i0_gt_t hc) hr.1 hr.2 k
  · exact Go.pure (kn (by first | exact hc | exact Decidable.of_not_not hc)) fun T h t k => XS.ifNo h C.1 rfl (hb C.2.1 hd) rfl (XT.i0_gt_f (by first | exact hc | exact Decidable.of_not_not hc)) k
theorem lcmp_gt (C : Ctx p s m meth c Z own nm B ml rt) {x y : Int64} {o : Int} {r pc1 : Nat} (hd0 : decode B pc = .ok (.lcmp, 1)) (h1 : pc + 1 = pc1) (hd : decode B pc1 = .ok (.ifCond .gt o, 3)) (hq : pc1 + 3 = q) (hr : 0 ≤ (pc1 : Int) + o ∧ ((pc1 : Int) + o).toNat = r) (ky : y < x → Go p l e R s m args below meth c Z n0 P kc ks μ k n (mkF m r L st)) (kn : ¬ y < x → Go p l e R s m args below meth c Z n0 P kc ks μ k n (mkF m q L st)) : Go p l e R s m args below meth c Z n0 P kc ks μ k n (mkF m pc L (.long y :: .long x :: st)) := by
  subst hq h1
  refine Go.pure (g' := mkF m (pc + 1) L (.int (XT.cmpL x y) :: st)) ?_ fun T h t k => XT.lcmp h C.1 rfl (hb C.2.1 hd0) rfl k
  by_cases hc : y < x
  · exact Go.pure (ky hc) fun T h t k => XS.ifYes h C.1 rfl rfl (hb C.2.1 hd) rfl (XT.ll_gt_t hc) hr.1 hr.2 k
  · exact Go.pure (kn (by first | exact hc | exact Decidable.of_not_not hc)) fun T h t k => XS.ifNo h C.1 rfl (hb C.2.1 hd) rfl (XT.ll_gt_f (by first | exact hc | exact Decidable.of_not_not hc)) k
theorem icmp_le (C : Ctx p s m meth c Z own nm B ml rt) {x y : Int32} {o : Int} {r : Nat} (hd : decode B pc = .ok (.if_icmp .le o, 3)) (hq : pc + 3 = q) (hr : 0 ≤ (pc : Int) + o ∧ ((pc : Int) + o).toNat = r) (ky : ¬ y < x → Go p l e R s m args below meth c Z n0 P kc ks μ k n (mkF m r L st)) (kn : y < x → Go p l e R s m args below meth c Z n0 P kc ks μ k n (mkF m q L st)) : Go p l e R s m args below meth c Z n0 P kc ks μ k n (mkF m pc L (.int y :: .int x :: st)) := by
  subst hq
  by_cases hc : ¬ y < x
  · exact Go.pure (ky hc) fun T h t k => XS.icmpYes h C.1 rfl rfl (hb C.2.1 hd) rfl (XT.ii_le_t hc) hr.1 hr.2 k
  · exact Go.pure (kn (by first | exact hc | exact Decidable.of_not_not hc)) fun T h t k => XS.icmpNo h C.1 rfl (hb C.2.1 hd) rfl (XT.ii_le_f (by first | exact hc | exact Decidable.of_not_not hc)) k
theorem if_le (C : Ctx p s m meth c Z own nm B ml rt) {x : Int32} {o : Int} {r : Nat} (hd : decode B pc = .ok (.ifCond .le o, 3)) (hq : pc + 3 = q) (hr : 0 ≤ (pc : Int) + o ∧ ((pc : Int) + o).toNat = r) (ky : ¬ 0 < x → Go p l e R s m args below meth c Z n0 P kc ks μ k n (mkF m r L st)) (kn : 0 < x → Go p l e R s m args below meth c Z n0 P kc ks μ k n (mkF m q L st)) : Go p l e R s m args below meth c Z n0 P kc ks μ k n (mkF m pc L (.int x :: st)) := by
  subst hq
  by_cases hc : ¬ 0 < x
  · exact Go.pure (ky hc) fun T h t k => XS.ifYes h C.1 rfl rfl (hb C.2.1 hd) rfl (XT.i0_le_t hc) hr.1 hr.2 k
  · exact Go.pure (kn (by first | exact hc | exact Decidable.of_not_not hc)) fun T h t k => XS.ifNo h C.1 rfl (hb C.2.1 hd) rfl (XT.i0_le_f (by first | exact hc | exact Decidable.of_not_not hc)) k
theorem lcmp_le (C : Ctx p s m meth c Z own nm B ml rt) {x y : Int64} {o : Int} {r pc1 : Nat} (hd0 : decode B pc = .ok (.lcmp, 1)) (h1 : pc + 1 = pc1) (hd : decode B pc1 = .ok (.ifCond .le o, 3)) (hq : pc1 + 3 = q) (hr : 0 ≤ (pc1 : Int) + o ∧ ((pc1 : Int) + o).toNat = r) (ky : ¬ y < x → Go p l e R s m args below meth c Z n0 P kc ks μ k n (mkF m r L st)) (kn : y < x → Go p l e R s m args below meth c Z n0 P kc ks μ k n (mkF m q L st)) : Go p l e R s m args below meth c Z n0 P kc ks μ k n (mkF m pc L (.long y :: .long x :: st)) := by
  subst hq h1
  refine Go.pure (g' := mkF m (pc + 1) L (.int (XT.cmpL x y) :: st)) ?_ fun T h t k => XT.lcmp h C.1 rfl (hb C.2.1 hd0) rfl k
  by_cases hc : ¬ y < x
  · exact Go.pure (ky hc) fun T h t k => XS.ifYes h C.1 rfl rfl (hb C.2.1 hd) rfl (XT.ll_le_t hc) hr.1 hr.2 k
  · exact Go.pure (kn (by first | exact hc | exact Decidable.of_not_not hc)) fun T h t k => XS.ifNo h C.1 rfl (hb C.2.1 hd) rfl (XT.ll_le_f (by first | exact hc | exact Decidable.of_not_not hc)) k
theorem ifnullY (C : Ctx p s m meth c Z own nm B ml rt) {o : Int} {b : Addr} (hd : decode B pc = .ok (.ifnull o, 3)) (hq : 0 ≤ (pc : Int) + o ∧ ((pc : Int) + o).toNat = q) (k' : Go p l e R s m args below meth c Z n0 P kc ks μ k n (mkF m q L st)) : Go p l e R s m args below meth c Z n0 P kc ks μ k n (mkF m pc L (.null :: st)) := Go.pure k' fun T h t hr => XS.ifnullYes h C.1 rfl rfl (hb C.2.1 hd) rfl hq.1 hq.2 hr
theorem ifnullN (C : Ctx p s m meth c Z own nm B ml rt) {o : Int} {b : Addr} (hd : decode B pc = .ok (.ifnull o, 3)) (hq : pc + 3 = q) (k' : Go p l e R s m args below meth c Z n0 P kc ks μ k n (mkF m q L st)) : Go p l e R s m args below meth c Z n0 P kc ks μ k n (mkF m pc L ((.ref b) :: st)) := by
  subst hq
  exact Go.pure k' fun T h t hr => XS.ifnullNo h C.1 rfl (hb C.2.1 hd) rfl hr
theorem ifnonnullY (C : Ctx p s m meth c Z own nm B ml rt) {o : Int} {b : Addr} (hd : decode B pc = .ok (.ifnonnull o, 3)) (hq : 0 ≤ (pc : Int) + o ∧ ((pc : Int) + o).toNat = q) (k' : Go p l e R s m args below meth c Z n0 P kc ks μ k n (mkF m q L st)) : Go p l e R s m args below meth c Z n0 P kc ks μ k n (mkF m pc L ((.ref b) :: st)) := Go.pure k' fun T h t hr => XT.ifnonnullYes h C.1 rfl rfl (hb C.2.1 hd) rfl hq.1 hq.2 hr
theorem ifnonnullN (C : Ctx p s m meth c Z own nm B ml rt) {o : Int} {b : Addr} (hd : decode B pc = .ok (.ifnonnull o, 3)) (hq : pc + 3 = q) (k' : Go p l e R s m args below meth c Z n0 P kc ks μ k n (mkF m q L st)) : Go p l e R s m args below meth c Z n0 P kc ks μ k n (mkF m pc L (.null :: st)) := by
  subst hq
  exact Go.pure k' fun T h t hr => XT.ifnonnullNo h C.1 rfl (hb C.2.1 hd) rfl hr
theorem acmp_eq (C : Ctx p s m meth c Z own nm B ml rt) {x y : Value} {o : Int} {r : Nat} (hd : decode B pc = .ok (.if_acmp .eq o, 3)) (hq : pc + 3 = q) (hr : 0 ≤ (pc : Int) + o ∧ ((pc : Int) + o).toNat = r) (h1 : x.isRef = true) (h2 : y.isRef = true) (ky : x = y → Go p l e R s m args below meth c Z n0 P kc ks μ k n (mkF m r L st)) (kn : ¬ x = y → Go p l e R s m args below meth c Z n0 P kc ks μ k n (mkF m q L st)) : Go p l e R s m args below meth c Z n0 P kc ks μ k n (mkF m pc L (y :: x :: st)) := by
  subst hq
  by_cases hc : x = y
  · exact Go.pure (ky hc) fun T h t k => XT.acmpYes h C.1 rfl rfl (hb C.2.1 hd) rfl h1 h2 (XT.aa_eq_t hc) hr.1 hr.2 k
  · exact Go.pure (kn (by first | exact hc | exact Decidable.of_not_not hc)) fun T h t k => XT.acmpNo h C.1 rfl (hb C.2.1 hd) rfl h1 h2 (XT.aa_eq_f (by first | exact hc | exact Decidable.of_not_not hc)) k
theorem acmp_ne (C : Ctx p s m meth c Z own nm B ml rt) {x y : Value} {o : Int} {r : Nat} (hd : decode B pc = .ok (.if_acmp .ne o, 3)) (hq : pc + 3 = q) (hr : 0 ≤ (pc : Int) + o ∧ ((pc : Int) + o).toNat = r) (h1 : x.isRef = true) (h2 : y.isRef = true) (ky : ¬ x = y → Go p l e R s m args below meth c Z n0 P kc ks μ k n (mkF m r L st)) (kn : x = y → Go p l e R s m args below meth c Z n0 P kc ks μ k n (mkF m q L st)) : Go p l e R s m args below meth c Z n0 P kc ks μ k n (mkF m pc L (y :: x :: st)) := by
  subst hq
  by_cases hc : ¬ x = y
  · exact Go.pure (ky hc) fun T h t k => XT.acmpYes h C.1 rfl rfl (hb C.2.1 hd) rfl h1 h2 (XT.aa_ne_t hc) hr.1 hr.2 k
  · exact Go.pure (kn (by first | exact hc | exact Decidable.of_not_not hc)) fun T h t k => XT.acmpNo h C.1 rfl (hb C.2.1 hd) rfl h1 h2 (XT.aa_ne_f (by first | exact hc | exact Decidable.of_not_not hc)) k
theorem mem {μ' : Mem} {g : JFrame} (h : μ = μ') (k' : Go p l e R s m args below meth c Z n0 P kc ks μ' k n g) : Go p l e R s m args below meth c Z n0 P kc ks μ k n g := by subst h; exact k'
/-! constants of the pool -/
theorem ldcI (C : Ctx p s m meth c Z own nm B ml rt) {i : Nat} {v : Int32} (hd : decode B pc = .ok (.ldc i, 2)) (hq : pc + 2 = q) (w : (Cond.constant own i v).before a0 Z = true) (k' : Go p l e R s m args below meth c Z n0 P kc ks μ k n (mkF m q L (.int v :: st))) : Go p l e R s m args below meth c Z n0 P kc ks μ k n (mkF m pc L st) := by
  subst hq
  exact Go.stand k' fun T locs X H => ⟨T, X, rfl, X.ldcInt C.1 C.2.2.2.2.1 (mvT C.2.2.2.1 w) (g := mkF m pc L st) rfl (hb C.2.1 hd)⟩
theorem ldcwI (C : Ctx p s m meth c Z own nm B ml rt) {i : Nat} {v : Int32} (hd : decode B pc = .ok (.ldc_w i, 3)) (hq : pc + 3 = q) (w : (Cond.constant own i v).before a0 Z = true) (k' : Go p l e R s m args below meth c Z n0 P kc ks μ k n (mkF m q L (.int v :: st))) : Go p l e R s m args below meth c Z n0 P kc ks μ k n (mkF m pc L st) := by
  subst hq
  exact Go.stand k' fun T locs X H => ⟨T, X, rfl, X.ldcwInt C.1 C.2.2.2.2.1 (mvT C.2.2.2.1 w) (g := mkF m pc L st) rfl (hb C.2.1 hd)⟩
theorem ldcJ (C : Ctx p s m meth c Z own nm B ml rt) {i : Nat} {v : Int64} (hd : decode B pc = .ok (.ldc2_w i, 3)) (hq : pc + 3 = q) (w : (Cond.constantLong own i v).before a0 Z = true) (k' : Go p l e R s m args below meth c Z n0 P kc ks μ k n (mkF m q L (.long v :: st))) : Go p l e R s m args below meth c Z n0 P kc ks μ k n (mkF m pc L st) := by
  subst hq
  exact Go.stand k' fun T locs X H => ⟨T, X, rfl, X.ldc2Long C.1 C.2.2.2.2.1 (mvT C.2.2.2.1 w) (g := mkF m pc L st) rfl (hb C.2.1 hd)⟩
/-! fields -/
theorem getfield (C : Ctx p s m meth c Z own nm B ml rt) {i j : Nat} {R0 O f d host K : String} {fs : List (Key × Value)} {v : Value} {a : Addr} (hd : decode B pc = .ok (.getfield i, 3)) (hq : pc + 3 = q) (w : (Cond.fieldLink own i R0 f d).before a0 Z = true ∨ (Cond.fieldLinkNest own i R0 f d host).before a0 Z = true) (via : Via Z R0 O f d)
    (hμ : μ a = some (.inl (K, fs))) (hj : fs[j]? = some ((O, f, d), v)) (k' : Go p l e R s m args below meth c Z n0 P kc ks μ k n (mkF m q L (v :: st))) : Go p l e R s m args below meth c Z n0 P kc ks μ k n (mkF m pc L (.ref a :: st)) := by
  subst hq
  refine Go.stand k' fun T locs X H => ?_
  have I := H.2 a _ hμ
  exact getF X C.1 C.2.2.2.1 C.2.2.2.2.1 w via rfl (I.2.1 _ (List.mem_of_getElem? hj)) (g := mkF m pc L (.ref a :: st)) rfl rfl (hb C.2.1 hd)
theorem putfield (C : Ctx p s m meth c Z own nm B ml rt) {i j kk : Nat} {R0 O f d host K : String} {fs fs' : List (Key × Value)} {v old : Value} {a : Addr} {ty : FieldType} (hd : decode B pc = .ok (.putfield i, 3)) (hq : pc + 3 = q) (w : (Cond.fieldLink own i R0 f d).before a0 Z = true ∨ (Cond.fieldLinkNest own i R0 f d host).before a0 Z = true) (via : Via Z R0 O f d)
    (wl : (Cond.lays K O f d).before a0 Z = true ∨ ((Cond.laysFinal K O f d).before a0 Z = true ∧ own = O ∧ nm = "<init>")) (wi : (Cond.instantiable K kk).before a0 Z = true) (hty : parseFieldDescriptor d = some ty) (hn : narrow ty v = v) (hf : fits ty v = true)
    (hμ : μ a = some (.inl (K, fs))) (hj : fs[j]? = some ((O, f, d), old)) (hfs : fs.set j ((O, f, d), v) = fs') (ha : n0 ≤ a) (k' : Go p l e R s m args below meth c Z n0 P kc ks (upd μ a (.inl (K, fs'))) k n (mkF m q L st)) : Go p l e R s m args below meth c Z n0 P kc ks μ k n (mkF m pc L (v :: .ref a :: st)) := by
  subst hq
  intro T locs X F H
  have I := H.2 a _ hμ
  obtain ⟨T', h', X', e', W, stp⟩ := putF X C.1 C.2.2.2.1 C.2.2.2.2.1 w via rfl (I.2.1 _ (List.mem_of_getElem? hj)) I.1 (wl.imp id fun z => ⟨z.1, z.2.1, C.2.2.2.2.2.2.2.trans z.2.2⟩) wi hty hn hf (g := mkF m pc L (v :: .ref a :: st)) rfl rfl (hb C.2.1 hd)
  obtain ⟨s2, o, h1, h2⟩ := k' T' _ X' (Fr.snoc X' F ha) (by rw [e']; exact H.wr W ha (IsO.put I hj W hfs))
  exact ⟨s2, o, stp _ h1, h2⟩
theorem putfieldN (C : Ctx p s m meth c Z own nm B ml rt) {i j kk : Nat} {R0 O f d K : String} {fs fs' : List (Key × Value)} {v v' old : Value} {a : Addr} {ty : FieldType} (hd : decode B pc = .ok (.putfield i, 3)) (hq : pc + 3 = q) (w : (Cond.fieldLink own i R0 f d).before a0 Z = true) (via : Via Z R0 O f d)
    (wl : (Cond.lays K O f d).before a0 Z = true ∨ ((Cond.laysFinal K O f d).before a0 Z = true ∧ own = O ∧ nm = "<init>")) (wi : (Cond.instantiable K kk).before a0 Z = true) (hty : parseFieldDescriptor d = some ty) (hn : narrow ty v = v') (hf : fits ty v' = true)
    (hμ : μ a = some (.inl (K, fs))) (hj : fs[j]? = some ((O, f, d), old)) (hfs : fs.set j ((O, f, d), v') = fs') (ha : n0 ≤ a) (k' : Go p l e R s m args below meth c Z n0 P kc ks (upd μ a (.inl (K, fs'))) k n (mkF m q L st)) : Go p l e R s m args below meth c Z n0 P kc ks μ k n (mkF m pc L (v :: .ref a :: st)) := by
  subst hq
  intro T locs X F H
  have I := H.2 a _ hμ
  obtain ⟨T', h', X', e', W, stp⟩ := putFN X C.1 C.2.2.2.1 C.2.2.2.2.1 w via rfl (I.2.1 _ (List.mem_of_getElem? hj)) I.1 (wl.imp id fun z => ⟨z.1, z.2.1, C.2.2.2.2.2.2.2.trans z.2.2⟩) wi hty hn hf (g := mkF m pc L (v :: .ref a :: st)) rfl rfl (hb C.2.1 hd)
  obtain ⟨s2, o, h1, h2⟩ := k' T' _ X' (Fr.snoc X' F ha) (by rw [e']; exact H.wr W ha (IsO.put I hj W hfs))
  exact ⟨s2, o, stp _ h1, h2⟩
theorem getstatic (C : Ctx p s m meth c Z own nm B ml rt) {i : Nat} {R0 O f d host : String} {v : Value} (hd : decode B pc = .ok (.getstatic i, 3)) (hq : pc + 3 = q) (w : (Cond.fieldLink own i R0 f d).before a0 Z = true ∨ (Cond.fieldLinkNest own i R0 f d host).before a0 Z = true) (via : Via Z R0 O f d)
    (S : Sta Z Z.heap O f d v) (k' : Go p l e R s m args below meth c Z n0 P kc ks μ k n (mkF m q L (v :: st))) : Go p l e R s m args below meth c Z n0 P kc ks μ k n (mkF m pc L st) := by
  subst hq
  exact Go.stand k' fun T locs X H => getS2 X C.1 C.2.2.2.1 C.2.2.2.2.1 w via rfl (S.ext H.1.2) (g := mkF m pc L st) rfl (hb C.2.1 hd)
/-! new objects -/
def AllLaid (Z : State) (a0 : Array Value) (C : String) : List (Key × Value) → Prop
  | [] => True
  | q :: r => (∃ ty, Laid Z a0 C q.1.1 q.1.2.1 q.1.2.2 ∧ parseFieldDescriptor q.1.2.2 = some ty ∧ q.2 = defaultValue ty) ∧ AllLaid Z a0 C r
theorem AllLaid.mem {K : String} : ∀ {fs : List (Key × Value)}, AllLaid Z a0 K fs → ∀ q ∈ fs, ∃ ty, Laid Z a0 K q.1.1 q.1.2.1 q.1.2.2 ∧ parseFieldDescriptor q.1.2.2 = some ty ∧ q.2 = defaultValue ty
  | [], _, _, h => nomatch h
  | _ :: _, H, q, h => (List.mem_cons.mp h).elim (fun z => z ▸ H.1) (AllLaid.mem H.2 q)
theorem AllLaid.pw {K : String} : ∀ {fs : List (Key × Value)}, AllLaid Z a0 K fs → fs.Pairwise (fun q r => q.1.2.1 ≠ r.1.2.1) → fs.Pairwise fun q r => sl Z q ≠ sl Z r
  | [], _, _ => .nil
  | x :: r, H, N => by
    cases N with
    | cons h1 h2 =>
      refine .cons (fun y hy => ?_) (AllLaid.pw H.2 h2)
      obtain ⟨t1, L1, p1, -⟩ := H.1
      obtain ⟨t2, L2, p2, -⟩ := AllLaid.mem H.2 y hy
      exact RoadKit.slot_ne L1 L2 (h1 y hy) p1 p2
theorem new (C : Ctx p s m meth c Z own nm B ml rt) {i ns : Nat} {K : String} {fs : List (Key × Value)} (hd : decode B pc = .ok (.new i, 3)) (hq : pc + 3 = q) (w1 : (Cond.classLink own i K).before a0 Z = true) (w2 : (Cond.instantiable K ns).before a0 Z = true) (w3 : (Cond.initialized K).before a0 Z = true)
    (hl : AllLaid Z a0 K fs) (hnd : fs.Pairwise (fun q r => q.1.2.1 ≠ r.1.2.1)) (hc : k + 1 ≤ R.cells) (hs : n + ns ≤ R.slots)
    (k' : ∀ a : Addr, (∀ b o, μ b = some o → b ≠ a) → n0 ≤ a → Go p l e R s m args below meth c Z n0 P kc ks (upd μ a (.inl (K, fs))) (k + 1) (n + ns) (mkF m q L (.ref a :: st))) : Go p l e R s m args below meth c Z n0 P kc ks μ k n (mkF m pc L st) := by
  subst hq
  intro T locs X F H
  obtain ⟨T', h', X', e', E, A, D, -, stp⟩ := newO X C.1 C.2.2.2.1 C.2.2.2.2.1 w1 w2 w3 rfl (g := mkF m pc L st) rfl (hb C.2.1 hd) hc hs
  obtain ⟨s2, o, h1, h2⟩ := k' T.heap.size H.fresh H.ge T' _ X' F (by
    rw [e']
    refine Hp.set (H.ext E) ⟨A, fun z hz => ?_, hl.pw hnd⟩
    obtain ⟨ty, l1, l2, l3⟩ := hl.mem z hz
    rw [l3]; exact D l1 l2)
  exact ⟨s2, o, stp _ h1, h2⟩
theorem newArr (C : Ctx p s m meth c Z own nm B ml rt) {aty : ArrayType} {ty : FieldType} {z : Int32} {cap : Nat} {vs : List Value} (hd : decode B pc = .ok (.newarray aty, 2)) (hq : pc + 2 = q) (ht : newarray.typeOf aty = ty) (w : (Cond.arrayClass ty).before a0 Z = true) (hz : ¬ z < 0) (hcap : z.toNatClampNeg ≤ cap) (hbig : cap * 8 ≤ 536870912) (hvs : List.replicate z.toNatClampNeg (defaultValue ty) = vs)
    (hc : k + 1 ≤ R.cells) (hs : n + cap ≤ R.slots)
    (k' : ∀ a : Addr, (∀ b o, μ b = some o → b ≠ a) → n0 ≤ a → Go p l e R s m args below meth c Z n0 P kc ks (upd μ a (.inr (ty, vs))) (k + 1) (n + cap) (mkF m q L (.ref a :: st))) : Go p l e R s m args below meth c Z n0 P kc ks μ k n (mkF m pc L (.int z :: st)) := by
  subst hq hvs ht
  intro T locs X F H
  obtain ⟨T', h', cA, X', e', E, A, stp⟩ := newP X C.1 C.2.2.2.1 w rfl (g := mkF m pc L (.int z :: st)) rfl (hb C.2.1 hd) rfl hz hcap hbig hc hs
  obtain ⟨s2, o, h1, h2⟩ := k' T.heap.size H.fresh H.ge T' _ X' F (by
    rw [e']
    refine Hp.set (H.ext E) ⟨_, A, by simp [newA], by rw [List.length_replicate]; exact (back32 hz).2, fun v hv => ?_, fun _ K hK => ?_⟩
    · rw [(List.mem_replicate.mp hv).2]; cases aty <;> rfl
    · cases aty <;> cases hK)
  exact ⟨s2, o, stp _ h1, h2⟩
theorem newRef (C : Ctx p s m meth c Z own nm B ml rt) {i : Nat} {K : String} {z : Int32} {cap : Nat} {vs : List Value} (hd : decode B pc = .ok (.anewarray i, 3)) (hq : pc + 3 = q) (w1 : (Cond.classLink own i K).before a0 Z = true) (w2 : (Cond.arrayOver (.object K)).before a0 Z = true) (hz : ¬ z < 0) (hcap : z.toNatClampNeg ≤ cap) (hbig : cap * 8 ≤ 536870912) (hvs : List.replicate z.toNatClampNeg Value.null = vs)
    (hc : k + 1 ≤ R.cells) (hs : n + cap ≤ R.slots)
    (k' : ∀ a : Addr, (∀ b o, μ b = some o → b ≠ a) → n0 ≤ a → Go p l e R s m args below meth c Z n0 P kc ks (upd μ a (.inr (.object K, vs))) (k + 1) (n + cap) (mkF m q L (.ref a :: st))) : Go p l e R s m args below meth c Z n0 P kc ks μ k n (mkF m pc L (.int z :: st)) := by
  subst hq hvs
  intro T locs X F H
  obtain ⟨T', h', cA, X', e', E, A, O, stp⟩ := newR X C.1 C.2.2.2.1 C.2.2.2.2.1 w1 w2 rfl (g := mkF m pc L (.int z :: st)) rfl (hb C.2.1 hd) rfl hz hcap hbig hc hs
  obtain ⟨s2, o, h1, h2⟩ := k' T.heap.size H.fresh H.ge T' _ X' F (by
    rw [e']
    refine Hp.set (H.ext E) ⟨_, A, by simp [newA, defaultValue], by rw [List.length_replicate]; exact (back32 hz).2, fun v hv => ?_, fun _ K' hK => ?_⟩
    · rw [(List.mem_replicate.mp hv).2]; rfl
    · cases hK; exact O)
  exact ⟨s2, o, stp _ h1, h2⟩
/-! arrays -/
theorem inb {c : Cell} {vs : List Value} {j : Int32} (e : c.slots.toList = vs) (h0 : ¬ j < 0) (hj : j.toNatClampNeg < vs.length) : ¬ (j < 0 ∨ c.slots.size ≤ j.toNatClampNeg) := by
  subst e; rw [Array.length_toList] at hj; rintro (q | q)
  · exact h0 q
  · omega
theorem atL {c : Cell} {vs : List Value} {j : Nat} {v : Value} (e : c.slots.toList = vs) (hv : vs[j]? = some v) : c.slots[j]? = some v := by
  subst e; rw [Array.getElem?_toList] at hv; exact hv
theorem arraylength (C : Ctx p s m meth c Z own nm B ml rt) {ty : FieldType} {vs : List Value} {a : Addr} (hd : decode B pc = .ok (.arraylength, 1)) (hq : pc + 1 = q) (hμ : μ a = some (.inr (ty, vs))) (k' : ∀ z : Int32, z = Int32.ofNat vs.length → z.toInt = vs.length → Go p l e R s m args below meth c Z n0 P kc ks μ k n (mkF m q L (.int z :: st))) : Go p l e R s m args below meth c Z n0 P kc ks μ k n (mkF m pc L (.ref a :: st)) := by
  subst hq
  intro T locs X F H
  obtain ⟨cl, A, e1, hl, -⟩ := H.2 a _ hμ
  have e2 : cl.slots.size = vs.length := by subst e1; rw [Array.length_toList]
  obtain ⟨s2, o, h1, h2⟩ := k' (Int32.ofNat vs.length) rfl (Int32.toInt_ofNat_small hl) T _ X F H
  exact ⟨s2, o, X.arraylength C.1 A.1 (State.isArrayOf_alike C.2.2.2.1.alike A.2.1) (g := mkF m pc L (.ref a :: st)) rfl rfl (hb C.2.1 hd) _ (by rw [e2]; exact h1), h2⟩
theorem iaload (C : Ctx p s m meth c Z own nm B ml rt) {vs : List Value} {a : Addr} {j : Int32} {v : Value} (hd : decode B pc = .ok (.iaload, 1)) (hq : pc + 1 = q) (hμ : μ a = some (.inr (.int, vs))) (h0 : ¬ j < 0) (hv : vs[j.toNatClampNeg]? = some v) (k' : Go p l e R s m args below meth c Z n0 P kc ks μ k n (mkF m q L (v :: st))) : Go p l e R s m args below meth c Z n0 P kc ks μ k n (mkF m pc L (.int j :: .ref a :: st)) := by
  subst hq
  intro T locs X F H
  obtain ⟨cl, A, e1, -⟩ := H.2 a _ hμ
  obtain ⟨s2, o, h1, h2⟩ := k' T _ X F H
  exact ⟨s2, o, X.iaload C.1 A.1 (State.isArrayOf_alike C.2.2.2.1.alike A.2.1) A.2.2 (inb e1 h0 (List.getElem?_eq_some_iff.mp hv).1) (atL e1 hv) (g := mkF m pc L (.int j :: .ref a :: st)) rfl rfl (hb C.2.1 hd) _ h1, h2⟩
theorem laload (C : Ctx p s m meth c Z own nm B ml rt) {vs : List Value} {a : Addr} {j : Int32} {v : Value} (hd : decode B pc = .ok (.laload, 1)) (hq : pc + 1 = q) (hμ : μ a = some (.inr (.long, vs))) (h0 : ¬ j < 0) (hv : vs[j.toNatClampNeg]? = some v) (k' : Go p l e R s m args below meth c Z n0 P kc ks μ k n (mkF m q L (v :: st))) : Go p l e R s m args below meth c Z n0 P kc ks μ k n (mkF m pc L (.int j :: .ref a :: st)) := by
  subst hq
  intro T locs X F H
  obtain ⟨cl, A, e1, -⟩ := H.2 a _ hμ
  obtain ⟨s2, o, h1, h2⟩ := k' T _ X F H
  exact ⟨s2, o, X.laload C.1 A.1 (State.isArrayOf_alike C.2.2.2.1.alike A.2.1) A.2.2 (inb e1 h0 (List.getElem?_eq_some_iff.mp hv).1) (atL e1 hv) (g := mkF m pc L (.int j :: .ref a :: st)) rfl rfl (hb C.2.1 hd) _ h1, h2⟩
theorem caload (C : Ctx p s m meth c Z own nm B ml rt) {vs : List Value} {a : Addr} {j : Int32} {v : Value} (hd : decode B pc = .ok (.caload, 1)) (hq : pc + 1 = q) (hμ : μ a = some (.inr (.char, vs))) (h0 : ¬ j < 0) (hv : vs[j.toNatClampNeg]? = some v) (k' : Go p l e R s m args below meth c Z n0 P kc ks μ k n (mkF m q L (v :: st))) : Go p l e R s m args below meth c Z n0 P kc ks μ k n (mkF m pc L (.int j :: .ref a :: st)) := by
  subst hq
  intro T locs X F H
  obtain ⟨cl, A, e1, -⟩ := H.2 a _ hμ
  obtain ⟨s2, o, h1, h2⟩ := k' T _ X F H
  exact ⟨s2, o, X.caload C.1 A.1 (State.isArrayOf_alike C.2.2.2.1.alike A.2.1) A.2.2 (inb e1 h0 (List.getElem?_eq_some_iff.mp hv).1) (atL e1 hv) (g := mkF m pc L (.int j :: .ref a :: st)) rfl rfl (hb C.2.1 hd) _ h1, h2⟩
theorem baload (C : Ctx p s m meth c Z own nm B ml rt) {vs : List Value} {a : Addr} {j : Int32} {v : Value} (hd : decode B pc = .ok (.baload, 1)) (hq : pc + 1 = q) (hμ : μ a = some (.inr (.byte, vs))) (h0 : ¬ j < 0) (hv : vs[j.toNatClampNeg]? = some v) (k' : Go p l e R s m args below meth c Z n0 P kc ks μ k n (mkF m q L (v :: st))) : Go p l e R s m args below meth c Z n0 P kc ks μ k n (mkF m pc L (.int j :: .ref a :: st)) := by
  subst hq
  intro T locs X F H
  obtain ⟨cl, A, e1, -⟩ := H.2 a _ hμ
  obtain ⟨s2, o, h1, h2⟩ := k' T _ X F H
  exact ⟨s2, o, X.baloadBytes C.1 A.1 (State.isArrayOf_alike C.2.2.2.1.alike A.2.1) A.2.2 (inb e1 h0 (List.getElem?_eq_some_iff.mp hv).1) (atL e1 hv) (g := mkF m pc L (.int j :: .ref a :: st)) rfl rfl (hb C.2.1 hd) _ h1, h2⟩
theorem zaload (C : Ctx p s m meth c Z own nm B ml rt) {vs : List Value} {a : Addr} {j : Int32} {v : Value} (hd : decode B pc = .ok (.baload, 1)) (hq : pc + 1 = q) (hμ : μ a = some (.inr (.boolean, vs))) (h0 : ¬ j < 0) (hv : vs[j.toNatClampNeg]? = some v) (k' : Go p l e R s m args below meth c Z n0 P kc ks μ k n (mkF m q L (v :: st))) : Go p l e R s m args below meth c Z n0 P kc ks μ k n (mkF m pc L (.int j :: .ref a :: st)) := by
  subst hq
  intro T locs X F H
  obtain ⟨cl, A, e1, -⟩ := H.2 a _ hμ
  obtain ⟨s2, o, h1, h2⟩ := k' T _ X F H
  exact ⟨s2, o, X.baloadBooleans C.1 A.1 (State.isArrayOf_alike C.2.2.2.1.alike A.2.1) A.2.2 (inb e1 h0 (List.getElem?_eq_some_iff.mp hv).1) (atL e1 hv) (g := mkF m pc L (.int j :: .ref a :: st)) rfl rfl (hb C.2.1 hd) _ h1, h2⟩
theorem aaload (C : Ctx p s m meth c Z own nm B ml rt) {ty : FieldType} {vs : List Value} {a : Addr} {j : Int32} {v : Value} (hd : decode B pc = .ok (.aaload, 1)) (hq : pc + 1 = q) (hμ : μ a = some (.inr (ty, vs))) (hr : ty.isReference = true) (h0 : ¬ j < 0) (hv : vs[j.toNatClampNeg]? = some v) (k' : Go p l e R s m args below meth c Z n0 P kc ks μ k n (mkF m q L (v :: st))) : Go p l e R s m args below meth c Z n0 P kc ks μ k n (mkF m pc L (.int j :: .ref a :: st)) := by
  subst hq
  intro T locs X F H
  obtain ⟨cl, A, e1, -⟩ := H.2 a _ hμ
  obtain ⟨s2, o, h1, h2⟩ := k' T _ X F H
  exact ⟨s2, o, X.aaload C.1 A.1 (State.isArrayOf_alike C.2.2.2.1.alike A.2.1) hr A.2.2 (inb e1 h0 (List.getElem?_eq_some_iff.mp hv).1) (atL e1 hv) (g := mkF m pc L (.int j :: .ref a :: st)) rfl rfl (hb C.2.1 hd) _ h1, h2⟩
theorem iastore (C : Ctx p s m meth c Z own nm B ml rt) {vs : List Value} {a : Addr} {j : Int32} {x : Int32} (hd : decode B pc = .ok (.iastore, 1)) (hq : pc + 1 = q) (hμ : μ a = some (.inr (.int, vs))) (h0 : ¬ j < 0) (hj : j.toNatClampNeg < vs.length) (ha : n0 ≤ a) (k' : Go p l e R s m args below meth c Z n0 P kc ks (upd μ a (.inr (.int, vs.set j.toNatClampNeg (.int x)))) k n (mkF m q L st)) : Go p l e R s m args below meth c Z n0 P kc ks μ k n (mkF m pc L ((.int x) :: .int j :: .ref a :: st)) := by
  subst hq
  intro T locs X F H
  have I := H.2 a _ hμ
  obtain ⟨cl, A, e1, -⟩ := id I
  obtain ⟨T', h', X', e', W, stp⟩ := stI X C.1 C.2.2.2.1 rfl A (inb e1 h0 hj) (g := mkF m pc L ((.int x) :: .int j :: .ref a :: st)) rfl rfl (hb C.2.1 hd)
  obtain ⟨s2, o, h1, h2⟩ := k' T' _ X' (Fr.snoc X' F ha) (by rw [e']; exact H.wr W ha (IsA.put I rfl W))
  exact ⟨s2, o, stp _ h1, h2⟩
theorem lastore (C : Ctx p s m meth c Z own nm B ml rt) {vs : List Value} {a : Addr} {j : Int32} {x : Int64} (hd : decode B pc = .ok (.lastore, 1)) (hq : pc + 1 = q) (hμ : μ a = some (.inr (.long, vs))) (h0 : ¬ j < 0) (hj : j.toNatClampNeg < vs.length) (ha : n0 ≤ a) (k' : Go p l e R s m args below meth c Z n0 P kc ks (upd μ a (.inr (.long, vs.set j.toNatClampNeg (.long x)))) k n (mkF m q L st)) : Go p l e R s m args below meth c Z n0 P kc ks μ k n (mkF m pc L ((.long x) :: .int j :: .ref a :: st)) := by
  subst hq
  intro T locs X F H
  have I := H.2 a _ hμ
  obtain ⟨cl, A, e1, -⟩ := id I
  obtain ⟨T', h', X', e', W, stp⟩ := stJ X C.1 C.2.2.2.1 rfl A (inb e1 h0 hj) (g := mkF m pc L ((.long x) :: .int j :: .ref a :: st)) rfl rfl (hb C.2.1 hd)
  obtain ⟨s2, o, h1, h2⟩ := k' T' _ X' (Fr.snoc X' F ha) (by rw [e']; exact H.wr W ha (IsA.put I rfl W))
  exact ⟨s2, o, stp _ h1, h2⟩
theorem castore (C : Ctx p s m meth c Z own nm B ml rt) {vs : List Value} {a : Addr} {j : Int32} {x : Int32} (hd : decode B pc = .ok (.castore, 1)) (hq : pc + 1 = q) (hμ : μ a = some (.inr (.char, vs))) (h0 : ¬ j < 0) (hj : j.toNatClampNeg < vs.length) (ha : n0 ≤ a) (k' : Go p l e R s m args below meth c Z n0 P kc ks (upd μ a (.inr (.char, vs.set j.toNatClampNeg (.int (nar .char x))))) k n (mkF m q L st)) : Go p l e R s m args below meth c Z n0 P kc ks μ k n (mkF m pc L ((.int x) :: .int j :: .ref a :: st)) := by
  subst hq
  intro T locs X F H
  have I := H.2 a _ hμ
  obtain ⟨cl, A, e1, -⟩ := id I
  obtain ⟨T', h', X', e', W, stp⟩ := stC X C.1 C.2.2.2.1 rfl A (inb e1 h0 hj) (g := mkF m pc L ((.int x) :: .int j :: .ref a :: st)) rfl rfl (hb C.2.1 hd)
  obtain ⟨s2, o, h1, h2⟩ := k' T' _ X' (Fr.snoc X' F ha) (by rw [e']; exact H.wr W ha (IsA.put I (fits_nar_char _) W))
  exact ⟨s2, o, stp _ h1, h2⟩
theorem bastore (C : Ctx p s m meth c Z own nm B ml rt) {vs : List Value} {a : Addr} {j : Int32} {x : Int32} (hd : decode B pc = .ok (.bastore, 1)) (hq : pc + 1 = q) (hμ : μ a = some (.inr (.byte, vs))) (h0 : ¬ j < 0) (hj : j.toNatClampNeg < vs.length) (ha : n0 ≤ a) (k' : Go p l e R s m args below meth c Z n0 P kc ks (upd μ a (.inr (.byte, vs.set j.toNatClampNeg (.int x.toInt8.toInt32)))) k n (mkF m q L st)) : Go p l e R s m args below meth c Z n0 P kc ks μ k n (mkF m pc L ((.int x) :: .int j :: .ref a :: st)) := by
  subst hq
  intro T locs X F H
  have I := H.2 a _ hμ
  obtain ⟨cl, A, e1, -⟩ := id I
  obtain ⟨T', h', X', e', W, stp⟩ := stB X C.1 C.2.2.2.1 rfl A (inb e1 h0 hj) (g := mkF m pc L ((.int x) :: .int j :: .ref a :: st)) rfl rfl (hb C.2.1 hd)
  obtain ⟨s2, o, h1, h2⟩ := k' T' _ X' (Fr.snoc X' F ha) (by rw [e']; exact H.wr W ha (IsA.put I (fits_nar_byte _) W))
  exact ⟨s2, o, stp _ h1, h2⟩
theorem zastore (C : Ctx p s m meth c Z own nm B ml rt) {vs : List Value} {a : Addr} {j : Int32} {x : Int32} (hd : decode B pc = .ok (.bastore, 1)) (hq : pc + 1 = q) (hμ : μ a = some (.inr (.boolean, vs))) (h0 : ¬ j < 0) (hj : j.toNatClampNeg < vs.length) (ha : n0 ≤ a) (k' : Go p l e R s m args below meth c Z n0 P kc ks (upd μ a (.inr (.boolean, vs.set j.toNatClampNeg (.int (nar .boolean x))))) k n (mkF m q L st)) : Go p l e R s m args below meth c Z n0 P kc ks μ k n (mkF m pc L ((.int x) :: .int j :: .ref a :: st)) := by
  subst hq
  intro T locs X F H
  have I := H.2 a _ hμ
  obtain ⟨cl, A, e1, -⟩ := id I
  obtain ⟨T', h', X', e', W, stp⟩ := stZ X C.1 C.2.2.2.1 rfl A (inb e1 h0 hj) (g := mkF m pc L ((.int x) :: .int j :: .ref a :: st)) rfl rfl (hb C.2.1 hd)
  obtain ⟨s2, o, h1, h2⟩ := k' T' _ X' (Fr.snoc X' F ha) (by rw [e']; exact H.wr W ha (IsA.put I (fits_nar_bool _) W))
  exact ⟨s2, o, stp _ h1, h2⟩
theorem aastore (C : Ctx p s m meth c Z own nm B ml rt) {K : String} {vs : List Value} {a : Addr} {j : Int32} {v : Value} (hd : decode B pc = .ok (.aastore, 1)) (hq : pc + 1 = q) (hμ : μ a = some (.inr (.object K, vs))) (hv : v = .null ∨ ∃ b, v = .ref b ∧ ∀ h, Hp Z n0 μ h → Ins Z h b K true) (h0 : ¬ j < 0) (hj : j.toNatClampNeg < vs.length) (ha : n0 ≤ a) (k' : Go p l e R s m args below meth c Z n0 P kc ks (upd μ a (.inr (.object K, vs.set j.toNatClampNeg v))) k n (mkF m q L st)) : Go p l e R s m args below meth c Z n0 P kc ks μ k n (mkF m pc L (v :: .int j :: .ref a :: st)) := by
  subst hq
  intro T locs X F H
  have I := H.2 a _ hμ
  obtain ⟨cl, A, e1, -, -, O⟩ := id I
  have S : Sto Z T.heap a v := by
    rcases hv with rfl | ⟨b, rfl, hb⟩
    · exact Or.inl rfl
    · exact Sto.of A (O ha K rfl) (hb _ H)
  have hf : fits (.object K) v = true := by
    rcases hv with rfl | ⟨b, rfl, -⟩ <;> rfl
  obtain ⟨T', h', X', e', W, stp⟩ := stR X C.1 C.2.2.2.1 rfl A (inb e1 h0 hj) rfl S (g := mkF m pc L (v :: .int j :: .ref a :: st)) rfl rfl (hb C.2.1 hd)
  obtain ⟨s2, o, h1, h2⟩ := k' T' _ X' (Fr.snoc X' F ha) (by rw [e']; exact H.wr W ha (IsA.put I hf W))
  exact ⟨s2, o, stp _ h1, h2⟩
/-! returns -/
theorem ireturn (C : Ctx p s m meth c Z own nm B ml (some .int)) {z : Int32} (hd : decode B pc = .ok (.ireturn, 1)) (hk : k ≤ kc) (hn : n ≤ ks) (h : P (some (.int z)) μ) : Go p l e R s m args below meth c Z n0 P kc ks μ k n (mkF m pc L (.int z :: st)) := fun T locs X F H => by
  obtain ⟨fs, hr, hrun, hended, hW, hsame⟩ := X.leave (v := some (.int z)) (fun h => by rw [C.2.2.2.2.2.1] at h; cases h) C.2.2.2.2.2.2.1
  exact ⟨_, _, retOut X C.1 C.2.2.2.2.2.1 rfl (Or.inl ⟨rfl, Or.inl rfl, z, rfl⟩) (hb C.2.1 hd) hr, hrun, hended, _, _, rfl, ⟨F, μ, H, h⟩, ⟨_, rfl⟩, hW, hsame.mono hk hn⟩
theorem nreturn {t : FieldType} (C : Ctx p s m meth c Z own nm B ml (some t)) {z z' : Int32} (hd : decode B pc = .ok (.ireturn, 1)) (ht : t = .boolean ∨ t = .byte ∨ t = .char ∨ t = .short) (hz : nar t z = z') (hk : k ≤ kc) (hn : n ≤ ks) (h : P (some (.int z')) μ) : Go p l e R s m args below meth c Z n0 P kc ks μ k n (mkF m pc L (.int z :: st)) := fun T locs X F H => by
  subst hz
  obtain ⟨fs, hr, hrun, hended, hW, hsame⟩ := X.leave (v := some (.int (nar t z))) (fun h => by rw [C.2.2.2.2.2.1] at h; cases h) C.2.2.2.2.2.2.1
  exact ⟨_, _, retN X C.1 C.2.2.2.2.2.1 ht (hb C.2.1 hd) hr, hrun, hended, _, _, rfl, ⟨F, μ, H, h⟩, ⟨_, rfl⟩, hW, hsame.mono hk hn⟩
theorem lreturn (C : Ctx p s m meth c Z own nm B ml (some .long)) {z : Int64} (hd : decode B pc = .ok (.lreturn, 1)) (hk : k ≤ kc) (hn : n ≤ ks) (h : P (some (.long z)) μ) : Go p l e R s m args below meth c Z n0 P kc ks μ k n (mkF m pc L (.long z :: st)) := fun T locs X F H => by
  obtain ⟨fs, hr, hrun, hended, hW, hsame⟩ := X.leave (v := some (.long z)) (fun h => by rw [C.2.2.2.2.2.1] at h; cases h) C.2.2.2.2.2.2.1
  exact ⟨_, _, retOut X C.1 C.2.2.2.2.2.1 rfl (Or.inr (Or.inl ⟨rfl, rfl, z, rfl⟩)) (hb C.2.1 hd) hr, hrun, hended, _, _, rfl, ⟨F, μ, H, h⟩, ⟨_, rfl⟩, hW, hsame.mono hk hn⟩
theorem nref {t : FieldType} {v : Value} (h1 : t.isReference = true) (h2 : v.isRef = true) : narrow t v = v := by
  cases t <;> first | (cases h1; done) | rfl
theorem areturn {t : FieldType} (C : Ctx p s m meth c Z own nm B ml (some t)) {v : Value} (ht : t.isReference = true) (hv : v.isRef = true) (hd : decode B pc = .ok (.areturn, 1)) (hk : k ≤ kc) (hn : n ≤ ks) (h : P (some v) μ) : Go p l e R s m args below meth c Z n0 P kc ks μ k n (mkF m pc L (v :: st)) := fun T locs X F H => by
  obtain ⟨fs, hr, hrun, hended, hW, hsame⟩ := X.leave (v := some v) (fun h => by rw [C.2.2.2.2.2.1] at h; cases h) C.2.2.2.2.2.2.1
  exact ⟨_, _, retOut X C.1 C.2.2.2.2.2.1 (nref ht hv) (Or.inr (Or.inr (Or.inr (Or.inr ⟨rfl, ht, hv⟩)))) (hb C.2.1 hd) hr, hrun, hended, _, _, rfl, ⟨F, μ, H, h⟩, ⟨_, rfl⟩, hW, hsame.mono hk hn⟩
theorem vreturn (C : Ctx p s m meth c Z own nm B ml none) (hd : decode B pc = .ok (.return_, 1)) (hk : k ≤ kc) (hn : n ≤ ks) (h : P none μ) : Go p l e R s m args below meth c Z n0 P kc ks μ k n (mkF m pc L []) := fun T locs X F H => by
  obtain ⟨fs, hr, hrun, hended, hW, hsame⟩ := X.leave (v := none) (fun _ => rfl) C.2.2.2.2.2.2.1
  exact ⟨_, _, X.returnOut C.1 C.2.2.2.2.2.1 (hb C.2.1 hd) hr, hrun, hended, _, _, rfl, ⟨F, μ, H, h⟩, ⟨_, rfl⟩, hW, hsame.mono hk hn⟩
/-! what a callee leaves, by the kind of its return -/
def RV (Q : Mem → Prop) : Option Value → Mem → Prop := fun v μ => v = none ∧ Q μ
def RI (Q : Int32 → Mem → Prop) : Option Value → Mem → Prop := fun v μ => ∃ z, v = some (.int z) ∧ Q z μ
def RJ (Q : Int64 → Mem → Prop) : Option Value → Mem → Prop := fun v μ => ∃ z, v = some (.long z) ∧ Q z μ
def RR (Q : Value → Mem → Prop) : Option Value → Mem → Prop := fun v μ => ∃ z : Value, v = some z ∧ z.isRef = true ∧ Q z μ
section Nx
variable {k2 n2 : Nat}
theorem nxV {Q : Mem → Prop} (h : ∀ μ', Q μ' → Go p l e R s m args below meth c Z n0 P kc ks μ' k2 n2 (mkF m q L st)) : ∀ v μ', RV Q v μ' → Go p l e R s m args below meth c Z n0 P kc ks μ' k2 n2 (mkF m q L (v.toList ++ st)) := fun v μ' ⟨e1, e2⟩ => by subst e1; exact h μ' e2
theorem nxI {Q : Int32 → Mem → Prop} (h : ∀ z μ', Q z μ' → Go p l e R s m args below meth c Z n0 P kc ks μ' k2 n2 (mkF m q L (.int z :: st))) : ∀ v μ', RI Q v μ' → Go p l e R s m args below meth c Z n0 P kc ks μ' k2 n2 (mkF m q L (v.toList ++ st)) := fun v μ' ⟨z, e1, e2⟩ => by subst e1; exact h z μ' e2
theorem nxJ {Q : Int64 → Mem → Prop} (h : ∀ z μ', Q z μ' → Go p l e R s m args below meth c Z n0 P kc ks μ' k2 n2 (mkF m q L (.long z :: st))) : ∀ v μ', RJ Q v μ' → Go p l e R s m args below meth c Z n0 P kc ks μ' k2 n2 (mkF m q L (v.toList ++ st)) := fun v μ' ⟨z, e1, e2⟩ => by subst e1; exact h z μ' e2
theorem nxR {Q : Value → Mem → Prop} (h : ∀ z μ', z.isRef = true → Q z μ' → Go p l e R s m args below meth c Z n0 P kc ks μ' k2 n2 (mkF m q L (z :: st))) : ∀ v μ', RR Q v μ' → Go p l e R s m args below meth c Z n0 P kc ks μ' k2 n2 (mkF m q L (v.toList ++ st)) := fun v μ' ⟨z, e1, e2, e3⟩ => by subst e1; exact h z μ' e2 e3
end Nx
/-! calls by contract -/
theorem backs {y : MethodName} {B' : ByteArray} {ml' : Nat} {rt' : Option FieldType} {rm : Room} {len W : Nat} {as' : Array Value} {P' : Option Value → Mem → Prop} {h : Heap}
    (con : Con l Z n0 y B' ml' rt' [] rm rm.cells rm.slots as' μ P') (H : Hp Z n0 μ h) (hZ : Z.Warmed39 s.vm) (wc : (Cond.code y B' ml' rt').before a0 Z = true) (wz : (Cond.initialized y.cls).before a0 Z = true) (hf : rm.frames + 1 ≤ R.frames) (hl : W + (ml' + 11) + rm.locals ≤ R.locals) :
    Back l R p e below s args y len W (fun A a => a = as' ∧ A.U.heap = h ∧ A.cells + rm.cells ≤ R.cells ∧ A.slots + rm.slots ≤ R.slots)
      (fun A _ v B => ∃ L, (Fr n0 L ∧ ∃ μ', Hp Z n0 μ' B.U.heap ∧ P' v μ') ∧ B.locs = A.locs ++ L ∧ B.cells = A.cells + rm.cells ∧ B.slots = A.slots + rm.slots) :=
  backOf (Q := fun v h' L => Fr n0 L ∧ ∃ μ', Hp Z n0 μ' h' ∧ P' v μ') (con h H) hZ wc wz hf hl
theorem callS (C : Ctx p s m meth c Z own nm B ml rt) {i : Nat} {y : MethodName} {B' : ByteArray} {ml' : Nat} {rt' : Option FieldType} {rm : Room} {W : Nat} {argsL : List Value} {P' : Option Value → Mem → Prop} {S : List Value} (hd : decode B pc = .ok (.invokestatic i, 3)) (hq : pc + 3 = q)
    (w1 : (Cond.methodLink own i y).before a0 Z = true) (w2 : (Cond.static y).before a0 Z = true) (w3 : (Cond.initialized y.cls).before a0 Z = true) (w4 : (Cond.code y B' ml' rt').before a0 Z = true) (hy : y.cls ≠ "java/lang/invoke/MethodHandle" ∧ y.cls ≠ "java/lang/invoke/VarHandle")
    (hlen : ∀ sig, parseMethodDescriptor y.desc = some sig → argsL.length = sig.parameters.length) (hS : S = argsL.reverse ++ st) (hsz : L.size = ml) (hW : 2 * 0 + (st.map fun v => v.category).sum ≤ W) (hf : rm.frames + 1 ≤ R.frames) (hl : W + (ml' + 11) + rm.locals ≤ R.locals) (hc : k + rm.cells ≤ R.cells) (hs : n + rm.slots ≤ R.slots)
    (con : Con l Z n0 y B' ml' rt' [] rm rm.cells rm.slots argsL.toArray μ P')
    (k' : ∀ v μ', P' v μ' → Go p l e R s m args below meth c Z n0 P kc ks μ' (k + rm.cells) (n + rm.slots) (mkF m q L (v.toList ++ st))) : Go p l e R s m args below meth c Z n0 P kc ks μ k n (mkF m pc L S) := by
  subst hq
  intro T locs X F H
  obtain ⟨v, vm1, ⟨T', L', k2, n2⟩, -, X', ⟨Lc, ⟨N, μ', H', hP⟩, e1, e2, e3⟩, stp⟩ := Jvm.LawKit.callS X C.1 (y := y) C.2.2.2.2.1 (mvT C.2.2.2.1 w1) (mvT C.2.2.2.1 w2) (mvT C.2.2.2.1 w3) (mvT C.2.2.2.1 w4) hy (backs (W := W) con H C.2.2.2.1 w4 w3 hf hl) (g := mkF m pc L S) rfl (hsz.trans C.2.2.1.symm) (argsL := argsL) (rest := st) hlen hS hW (hb C.2.1 hd) (fun _ _ => ⟨rfl, rfl, hc, hs⟩)
  dsimp only [Pt.U, Pt.locs, Pt.cells, Pt.slots] at X' e1 e2 e3 stp H'
  subst e1 e2 e3
  obtain ⟨s2, o, h1, h2⟩ := k' v μ' hP T' _ X' (F.app N) H'
  exact ⟨s2, o, stp _ h1, h2⟩
theorem callI (C : Ctx p s m meth c Z own nm B ml rt) {i : Nat} {y : MethodName} {B' : ByteArray} {ml' : Nat} {rm : Room} {W : Nat} {argsL : List Value} {P' : Option Value → Mem → Prop} {S : List Value} {a : Addr} (hd : decode B pc = .ok (.invokespecial i, 3)) (hq : pc + 3 = q) (hnm : y.name = "<init>")
    (w1 : (Cond.methodLink own i y).before a0 Z = true) (w2 : (Cond.instanceMethod y).before a0 Z = true) (w3 : (Cond.initialized y.cls).before a0 Z = true) (w4 : (Cond.code y B' ml' none).before a0 Z = true) (hy : y.cls ≠ "java/lang/invoke/MethodHandle" ∧ y.cls ≠ "java/lang/invoke/VarHandle")
    (hlen : ∀ sig, parseMethodDescriptor y.desc = some sig → argsL.length = sig.parameters.length) (hS : S = argsL.reverse ++ .ref a :: st) (hsz : L.size = ml) (hW : 2 * 0 + (st.map fun v => v.category).sum ≤ W) (hf : rm.frames + 1 ≤ R.frames) (hl : W + (ml' + 11) + rm.locals ≤ R.locals) (hc : k + rm.cells ≤ R.cells) (hs : n + rm.slots ≤ R.slots)
    (con : Con l Z n0 y B' ml' none [] rm rm.cells rm.slots (.ref a :: argsL).toArray μ P')
    (k' : ∀ v μ', P' v μ' → Go p l e R s m args below meth c Z n0 P kc ks μ' (k + rm.cells) (n + rm.slots) (mkF m q L (v.toList ++ st))) : Go p l e R s m args below meth c Z n0 P kc ks μ k n (mkF m pc L S) := by
  subst hq
  intro T locs X F H
  obtain ⟨v, vm1, ⟨T', L', k2, n2⟩, -, X', ⟨Lc, ⟨N, μ', H', hP⟩, e1, e2, e3⟩, stp⟩ := X.specialBack C.1 (y := y) hnm C.2.2.2.2.1 (mvT C.2.2.2.1 w1) (mvT C.2.2.2.1 w2) (mvT C.2.2.2.1 w4) hy (backs (W := W) con H C.2.2.2.1 w4 w3 hf hl) (g := mkF m pc L S) rfl (hsz.trans C.2.2.1.symm) (Steps.refl _) (a := a) (argsL := argsL) (rest := st) hlen hS hW (hb C.2.1 hd) (fun _ _ => ⟨rfl, rfl, hc, hs⟩)
  dsimp only [Pt.U, Pt.locs, Pt.cells, Pt.slots] at X' e1 e2 e3 stp H'
  subst e1 e2 e3
  obtain ⟨s2, o, h1, h2⟩ := k' v μ' hP T' _ X' (F.app N) H'
  exact ⟨s2, o, stp.trans h1, h2⟩
theorem initObj (C : Ctx p s m meth c Z own nm B ml rt) {i W : Nat} {a : Addr} (hd : decode B pc = .ok (.invokespecial i, 3)) (hq : pc + 3 = q) (w1 : (Cond.methodLink own i Lib.objectInit).before a0 Z = true) (w2 : (Cond.instanceMethod Lib.objectInit).before a0 Z = true) (w3 : (Cond.code Lib.objectInit ⟨#[0xb1]⟩ 1 none).before a0 Z = true)
    (hsz : L.size = ml) (hf : 1 ≤ R.frames) (hW : 2 * 0 + (st.map fun v => v.category).sum ≤ W) (hl : W + 12 ≤ R.locals) (k' : Go p l e R s m args below meth c Z n0 P kc ks μ k n (mkF m q L st)) : Go p l e R s m args below meth c Z n0 P kc ks μ k n (mkF m pc L (.ref a :: st)) := by
  subst hq
  exact Go.stand k' fun T locs X H => initO X C.1 C.2.2.2.1 C.2.2.2.2.1 w1 w2 w3 rfl (g := mkF m pc L (.ref a :: st)) rfl (hsz.trans C.2.2.1.symm) rfl (hb C.2.1 hd) hf hW hl
theorem callV (C : Ctx p s m meth c Z own nm B ml rt) {i : Nat} {y z : MethodName} {K : String} {fs : List (Key × Value)} {B' : ByteArray} {ml' : Nat} {rt' : Option FieldType} {rm : Room} {W : Nat} {argsL : List Value} {P' : Option Value → Mem → Prop} {S : List Value} {a : Addr} (hd : decode B pc = .ok (.invokevirtual i, 3)) (hq : pc + 3 = q)
    (w1 : (Cond.methodLink own i y).before a0 Z = true) (w2 : (Cond.declares y).before a0 Z = true) (hnf : NotFace s y) (w5 : (Cond.selects K y z).before a0 Z = true) (w6 : (Cond.instanceMethod z).before a0 Z = true) (w3 : (Cond.initialized z.cls).before a0 Z = true) (w4 : (Cond.code z B' ml' rt').before a0 Z = true) (hy : y.cls ≠ "java/lang/invoke/MethodHandle" ∧ y.cls ≠ "java/lang/invoke/VarHandle")
    (hlen : ∀ sig, parseMethodDescriptor y.desc = some sig → argsL.length = sig.parameters.length) (hS : S = argsL.reverse ++ .ref a :: st) (hsz : L.size = ml) (hW : 2 * 0 + (st.map fun v => v.category).sum ≤ W) (hf : rm.frames + 1 ≤ R.frames) (hl : W + (ml' + 11) + rm.locals ≤ R.locals) (hc : k + rm.cells ≤ R.cells) (hs : n + rm.slots ≤ R.slots)
    (hμ : μ a = some (.inl (K, fs))) (con : Con l Z n0 z B' ml' rt' [] rm rm.cells rm.slots (.ref a :: argsL).toArray μ P')
    (k' : ∀ v μ', P' v μ' → Go p l e R s m args below meth c Z n0 P kc ks μ' (k + rm.cells) (n + rm.slots) (mkF m q L (v.toList ++ st))) : Go p l e R s m args below meth c Z n0 P kc ks μ k n (mkF m pc L S) := by
  subst hq
  intro T locs X F H
  obtain ⟨cq, kq, qa, qb, qc⟩ := isOf (T := T) C.2.2.2.1 rfl (H.2 a _ hμ).1
  obtain ⟨v, vm1, ⟨T', L', k2, n2⟩, -, X', ⟨Lc, ⟨N, μ', H', hP⟩, e1, e2, e3⟩, stp⟩ := X.virtualBack C.1 (y := y) (z := z) C.2.2.2.2.1 (mvT C.2.2.2.1 w1) (mvT C.2.2.2.1 w2) hnf (mvT C.2.2.2.1 w5) (mvT C.2.2.2.1 w6) hy (backs (W := W) con H C.2.2.2.1 w4 w3 hf hl) qa qc (g := mkF m pc L S) rfl (hsz.trans C.2.2.1.symm) (Steps.refl _) (argsL := argsL) (rest := st) hlen hS hW (hb C.2.1 hd) (fun _ _ => ⟨rfl, rfl, hc, hs⟩)
  dsimp only [Pt.U, Pt.locs, Pt.cells, Pt.slots] at X' e1 e2 e3 stp H'
  subst e1 e2 e3
  obtain ⟨s2, o, h1, h2⟩ := k' v μ' hP T' _ X' (F.app N) H'
  exact ⟨s2, o, stp.trans h1, h2⟩
theorem callP (C : Ctx p s m meth c Z own nm B ml rt) {i : Nat} {y : MethodName} {K : String} {fs : List (Key × Value)} {B' : ByteArray} {ml' : Nat} {rt' : Option FieldType} {rm : Room} {W : Nat} {argsL : List Value} {P' : Option Value → Mem → Prop} {S : List Value} {a : Addr} (hd : decode B pc = .ok (.invokevirtual i, 3)) (hq : pc + 3 = q)
    (w1 : (Cond.methodLink own i y).before a0 Z = true) (w2 : (Cond.privateMethod y).before a0 Z = true) {kk : Nat} (w5 : (Cond.instantiable y.cls kk).before a0 Z = true) (w6 : (Cond.instanceMethod y).before a0 Z = true) (w3 : (Cond.initialized y.cls).before a0 Z = true) (w4 : (Cond.code y B' ml' rt').before a0 Z = true) (hy : y.cls ≠ "java/lang/invoke/MethodHandle" ∧ y.cls ≠ "java/lang/invoke/VarHandle")
    (hlen : ∀ sig, parseMethodDescriptor y.desc = some sig → argsL.length = sig.parameters.length) (hS : S = argsL.reverse ++ .ref a :: st) (hsz : L.size = ml) (hW : 2 * 0 + (st.map fun v => v.category).sum ≤ W) (hf : rm.frames + 1 ≤ R.frames) (hl : W + (ml' + 11) + rm.locals ≤ R.locals) (hc : k + rm.cells ≤ R.cells) (hs : n + rm.slots ≤ R.slots)
    (hμ : μ a = some (.inl (K, fs))) (con : Con l Z n0 y B' ml' rt' [] rm rm.cells rm.slots (.ref a :: argsL).toArray μ P')
    (k' : ∀ v μ', P' v μ' → Go p l e R s m args below meth c Z n0 P kc ks μ' (k + rm.cells) (n + rm.slots) (mkF m q L (v.toList ++ st))) : Go p l e R s m args below meth c Z n0 P kc ks μ k n (mkF m pc L S) := by
  subst hq
  intro T locs X F H
  obtain ⟨cq, q1, q2⟩ := (H.2 a _ hμ).1.cell
  have hp : s.PrivateAt y := Cond.privateMethod_at (mvP C.2.2.2.1 w2 (args := #[]))
  obtain ⟨c2, k2, i1, i2, -, i4, -⟩ := Cond.instantiable_spec (show (Cond.instantiable y.cls kk).before args s = true from mvT C.2.2.2.1 w5)
  have h5 : (Cond.selects y.cls y y).before args s = true := Jvm.Stand.selects_self_of_private i1 i2 (by simp only [Bool.or_eq_false_iff] at i4; exact i4.1) hp (mvT C.2.2.2.1 w6) hy
  obtain ⟨v, vm1, ⟨T', L', k2, n2⟩, -, X', ⟨Lc, ⟨N, μ', H', hP⟩, e1, e2, e3⟩, stp⟩ := X.privateBack C.1 (y := y) C.2.2.2.2.1 (mvT C.2.2.2.1 w1) (mvT C.2.2.2.1 w6) h5 hp (mvT C.2.2.2.1 w4) hy (backs (W := W) con H C.2.2.2.1 w4 w3 hf hl) (g := mkF m pc L S) rfl (hsz.trans C.2.2.1.symm) (Steps.refl _) (a := a) q1 q2 (argsL := argsL) (rest := st) hlen hS hW (hb C.2.1 hd) (fun _ _ => ⟨rfl, rfl, hc, hs⟩)
  dsimp only [Pt.U, Pt.locs, Pt.cells, Pt.slots] at X' e1 e2 e3 stp H'
  subst e1 e2 e3
  obtain ⟨s2, o, h1, h2⟩ := k' v μ' hP T' _ X' (F.app N) H'
  exact ⟨s2, o, stp.trans h1, h2⟩
end Rules
end Jvm.Own
namespace Jvm.Pilot.@@N@@
open Jvm Jvm.ClassFile Sem Op Lib Jvm.Free Jvm.Stand Jvm.LawKit Jvm.RoadKit Bundle Jvm.Own Jvm.Pilot.@@N@@.Jvm.D
abbrev o_ES (v0 : Value) (v1 : Value) : Obj := .inl ("com/example/parcours/parcours/search/ExactSum", [(("com/example/parcours/parcours/search/ExactSum", "low", "J"), v0), (("com/example/parcours/parcours/search/ExactSum", "wraps", "J"), v1)])
theorem lay_ES {Z : State} {a0 : Array Value} (hw : ∀ d ∈ tables_1, d.before a0 Z = true) : AllLaid Z a0 "com/example/parcours/parcours/search/ExactSum" [(("com/example/parcours/parcours/search/ExactSum", "low", "J"), (.long (0 : Int64))), (("com/example/parcours/parcours/search/ExactSum", "wraps", "J"), (.long (0 : Int64)))] := ⟨⟨.long, Or.inl (hw _ (List.mem_of_getElem? (i := 15) rfl)), by decide +kernel, rfl⟩, ⟨.long, Or.inl (hw _ (List.mem_of_getElem? (i := 17) rfl)), by decide +kernel, rfl⟩, trivial⟩
def sat (S : Int) : Int := if 9223372036854775807 < S then 9223372036854775807 else if S ≤ -9223372036854775808 then -9223372036854775807 else S
theorem sub_ov {lo v d x1 x2 x3 : Int64} (e : d = lo - v) (e1 : x1 = lo ^^^ v) (e2 : x2 = lo ^^^ d) (e3 : x3 = x1 &&& x2) :
    (x3 < 0 → (v < 0 → d.toInt + 18446744073709551616 = lo.toInt - v.toInt) ∧ (¬ v < 0 → d.toInt - 18446744073709551616 = lo.toInt - v.toInt)) ∧ (¬ x3 < 0 → d.toInt = lo.toInt - v.toInt) := by
  have o0 := c_lsub lo v; rw [← e] at o0
  have o1 := c_xorSL lo v; rw [← e1] at o1
  have o2 := c_xorSL lo d; rw [← e2] at o2
  have o3 := c_andSL x1 x2; rw [← e3] at o3
  have w0 := rng64 lo; have w1 := rng64 v; have w2 := rng64 d
  simp only [Int64.lt_iff_toInt_lt, show (0 : Int64).toInt = 0 from rfl]
  omega
theorem sat_pos {lo wr : Int64} (h : 0 < wr) : (9223372036854775807 : Int64).toInt = sat (wr.toInt * 18446744073709551616 + lo.toInt) := by
  have w0 := rng64 lo
  rw [Int64.lt_iff_toInt_lt, show (0 : Int64).toInt = 0 from rfl] at h
  unfold sat; rw [if_pos (by omega)]; rfl
theorem sat_neg {lo wr : Int64} (h0 : ¬ wr = 0) (h : ¬ 0 < wr) : (-9223372036854775807 : Int64).toInt = sat (wr.toInt * 18446744073709551616 + lo.toInt) := by
  have w0 := rng64 lo
  rw [Int64.lt_iff_toInt_lt, show (0 : Int64).toInt = 0 from rfl] at h
  rw [← Int64.toInt_inj, show (0 : Int64).toInt = 0 from rfl] at h0
  unfold sat; rw [if_neg (by omega), if_pos (by omega)]; rfl
theorem sat_min {lo wr : Int64} (h0 : wr = 0) (h : lo = -9223372036854775808) : (-9223372036854775807 : Int64).toInt = sat (wr.toInt * 18446744073709551616 + lo.toInt) := by
  subst h0 h; rfl
theorem sat_mid {lo wr : Int64} (h0 : wr = 0) (h : ¬ lo = -9223372036854775808) : lo.toInt = sat (wr.toInt * 18446744073709551616 + lo.toInt) := by
  have w0 := rng64 lo
  subst h0
  rw [← Int64.toInt_inj, show (-9223372036854775808 : Int64).toInt = -9223372036854775808 from rfl] at h
  rw [show (0 : Int64).toInt = 0 from rfl]
  unfold sat; rw [if_neg (by omega), if_neg (by omega)]; omega
theorem sat_eq {z S : Int} (h1 : 9223372036854775807 < S → z = 9223372036854775807) (h2 : S ≤ -9223372036854775808 → z = -9223372036854775807) (h3 : ¬ 9223372036854775807 < S → ¬ S ≤ -9223372036854775808 → z = S) : z = sat S := by
  unfold sat; split
  · exact h1 ‹_›
  · split
    · exact h2 ‹_›
    · exact h3 ‹_› ‹_›
theorem exp_of {a b c a1 a0 b1 b0 c1 c0 l1 lp h1 h2 h3 hi lr : Int64} (e1 : a1 = a >>> ((32 : Int32) &&& 0x3f).toInt64) (e2 : a0 = a &&& 4294967295) (e3 : b1 = b >>> ((32 : Int32) &&& 0x3f).toInt64) (e4 : b0 = b &&& 4294967295) (e5 : c1 = c >>> ((32 : Int32) &&& 0x3f).toInt64) (e6 : c0 = c &&& 4294967295)
    (e7 : l1 = a0 - b0) (e8 : lp = l1 - c0) (e9 : h1 = a1 - b1) (e10 : h2 = h1 - c1) (e11 : h3 = lp >>> ((32 : Int32) &&& 0x3f).toInt64) (e12 : hi = h2 + h3) (e13 : lr = lp &&& 4294967295) :
    hi.toInt * 4294967296 + lr.toInt = a.toInt - b.toInt - c.toInt ∧ 0 ≤ lr.toInt ∧ lr.toInt < 4294967296 := by
  have o1 := c_lshr a 32 32 (by decide); have o2 := c_maskL a 4294967295 32 (by decide) (by decide)
  have o3 := c_lshr b 32 32 (by decide); have o4 := c_maskL b 4294967295 32 (by decide) (by decide)
  have o5 := c_lshr c 32 32 (by decide); have o6 := c_maskL c 4294967295 32 (by decide) (by decide)
  rw [← e1] at o1; rw [← e2] at o2; rw [← e3] at o3; rw [← e4] at o4; rw [← e5] at o5; rw [← e6] at o6
  have w1 := rng64 a; have w2 := rng64 b; have w3 := rng64 c
  have o7 := c_lsub a0 b0; rw [← e7] at o7; have q1 := rng64 l1
  have p1 : l1.toInt = a0.toInt - b0.toInt := by omega
  have o8 := c_lsub l1 c0; rw [← e8] at o8; have q2 := rng64 lp
  have p2 : lp.toInt = l1.toInt - c0.toInt := by omega
  have o9 := c_lsub a1 b1; rw [← e9] at o9; have q3 := rng64 h1
  have p3 : h1.toInt = a1.toInt - b1.toInt := by omega
  have o10 := c_lsub h1 c1; rw [← e10] at o10; have q4 := rng64 h2
  have p4 : h2.toInt = h1.toInt - c1.toInt := by omega
  have o11 := c_lshr lp 32 32 (by decide); rw [← e11] at o11
  have o13 := c_maskL lp 4294967295 32 (by decide) (by decide); rw [← e13] at o13
  have o12 := c_ladd h2 h3; rw [← e12] at o12; have q5 := rng64 hi
  have p5 : hi.toInt = h2.toInt + h3.toInt := by omega
  clear o7 o8 o9 o10 o12
  omega
theorem join_of {hi lr x z : Int64} (h1 : ¬ 2147483647 < hi) (h2 : ¬ hi < -2147483648) (hl : 0 ≤ lr.toInt ∧ lr.toInt < 4294967296) (e1 : x = hi <<< ((32 : Int32) &&& 0x3f).toInt64) (e2 : z = x ||| lr) : z.toInt = hi.toInt * 4294967296 + lr.toInt := by
  simp only [Int64.lt_iff_toInt_lt, show (2147483647 : Int64).toInt = 2147483647 from rfl, show (-2147483648 : Int64).toInt = -2147483648 from rfl] at h1 h2
  have o1 := c_lshl hi 32 32 (by decide); rw [← e1] at o1; have q1 := rng64 x
  have p1 : x.toInt = hi.toInt * 4294967296 := by omega
  have o2 := c_orL x lr 32 (by decide) 4294967296 (by decide) (by omega) (by omega) (by omega); rw [← e2] at o2; have q2 := rng64 z
  omega
abbrev rm_1 : Room := { frames := 1, cells := 0, slots := 0, locals := 12 }
theorem d1_0 : decode prog_50_method_1_code 0 = .ok (.aload_n 0, 1) := by decide +kernel
theorem d1_1 : decode prog_50_method_1_code 1 = .ok (.invokespecial 1, 3) := by decide +kernel
theorem d1_4 : decode prog_50_method_1_code 4 = .ok (.return_, 1) := by decide +kernel
set_option maxRecDepth 65536 in
set_option maxHeartbeats 4000000 in
theorem c_init (l : Launch) (Z : State) (a0 : Array Value) (hw : ∀ d ∈ tables_1, d.before a0 Z = true) (n0 : Nat) (μ : Mem) (a : Addr)  :
    Con l Z n0 (⟨"com/example/parcours/parcours/search/ExactSum", "<init>", "()V"⟩ : MethodName) prog_50_method_1_code 1 none [] rm_1 rm_1.cells rm_1.slots #[(.ref a)] μ (RV fun μ' => μ' = μ) := by
  refine Con.intro (L0 := #[.val (.ref a)]) (plainFor_of_name (by first | (simp [plainName, overriddenIn]; done) | decide +kernel)) (fun m => by first | (simp [entryFrame, mkF, argsToLocals, Value.category]; done) | rfl) ?_
  intro p e s m below meth c C
  have C : Ctx p s m meth c Z "com/example/parcours/parcours/search/ExactSum" "<init>" prog_50_method_1_code 1 none := C
  refine Own.aloadN C d1_0 (q := 1) rfl rfl rfl ?_
  refine Own.initObj C d1_1 (q := 4) rfl (hw _ (List.mem_of_getElem? (i := 6) rfl)) (hw _ (List.mem_of_getElem? (i := 7) rfl)) (hw _ (List.mem_of_getElem? (i := 8) rfl)) rfl (by decide) (W := 0) (Nat.le_of_eq rfl) (by decide) ?_
  refine Own.vreturn C d1_4 (by decide) (by decide) ?_
  exact ⟨rfl, rfl⟩
abbrev rm_3 : Room := { frames := 0, cells := 0, slots := 0, locals := 0 }
theorem d3_0 : decode prog_50_method_2_code 0 = .ok (.aload_n 0, 1) := by decide +kernel
theorem d3_1 : decode prog_50_method_2_code 1 = .ok (.lload_n 1, 1) := by decide +kernel
theorem d3_2 : decode prog_50_method_2_code 2 = .ok (.putfield 7, 3) := by decide +kernel
theorem d3_5 : decode prog_50_method_2_code 5 = .ok (.aload_n 0, 1) := by decide +kernel
theorem d3_6 : decode prog_50_method_2_code 6 = .ok (.lconst 0, 1) := by decide +kernel
theorem d3_7 : decode prog_50_method_2_code 7 = .ok (.putfield 13, 3) := by decide +kernel
theorem d3_10 : decode prog_50_method_2_code 10 = .ok (.return_, 1) := by decide +kernel
set_option maxRecDepth 65536 in
set_option maxHeartbeats 4000000 in
theorem c_set (l : Launch) (Z : State) (a0 : Array Value) (hw : ∀ d ∈ tables_1, d.before a0 Z = true) (n0 : Nat) (μ : Mem) (a : Addr) (v : Int64) (lo wr : Int64) (hμ : μ a = some (o_ES (.long lo) (.long wr))) (ga : n0 ≤ a) :
    Con l Z n0 (⟨"com/example/parcours/parcours/search/ExactSum", "set", "(J)V"⟩ : MethodName) prog_50_method_2_code 3 none [] rm_3 rm_3.cells rm_3.slots #[(.ref a), (.long v)] μ (RV fun μ' => μ' = upd μ a (o_ES (.long v) (.long (0 : Int64)))) := by
  refine Con.intro (L0 := #[.val (.ref a), .val (.long v), .second]) (plainFor_of_name (by first | (simp [plainName, overriddenIn]; done) | decide +kernel)) (fun m => by first | (simp [entryFrame, mkF, argsToLocals, Value.category]; done) | rfl) ?_
  intro p e s m below meth c C
  have C : Ctx p s m meth c Z "com/example/parcours/parcours/search/ExactSum" "set" prog_50_method_2_code 3 none := C
  refine Own.aloadN C d3_0 (q := 1) rfl rfl rfl ?_
  refine Own.lloadN C d3_1 (q := 2) rfl rfl ?_
  refine Own.putfield C d3_2 (q := 5) rfl (host := "") (Or.inl (hw _ (List.mem_of_getElem? (i := 14) rfl))) Via.refl (Or.inl (hw _ (List.mem_of_getElem? (i := 15) rfl))) (hw _ (List.mem_of_getElem? (i := 1) rfl)) (ty := .long) (by decide) rfl rfl hμ (j := 0) rfl (fs' := [(("com/example/parcours/parcours/search/ExactSum", "low", "J"), (.long v)), (("com/example/parcours/parcours/search/ExactSum", "wraps", "J"), (.long wr))]) rfl ga (mem rfl ?_)
  refine Own.aloadN C d3_5 (q := 6) rfl rfl rfl ?_
  refine Own.lconst C d3_6 (q := 7) rfl (z := 0) (by decide) ?_
  refine Own.putfield C d3_7 (q := 10) rfl (host := "") (Or.inl (hw _ (List.mem_of_getElem? (i := 16) rfl))) Via.refl (Or.inl (hw _ (List.mem_of_getElem? (i := 17) rfl))) (hw _ (List.mem_of_getElem? (i := 1) rfl)) (ty := .long) (by decide) rfl rfl upd_same (j := 1) rfl (fs' := [(("com/example/parcours/parcours/search/ExactSum", "low", "J"), (.long v)), (("com/example/parcours/parcours/search/ExactSum", "wraps", "J"), (.long (0 : Int64)))]) rfl ga (mem upd_upd ?_)
  refine Own.vreturn C d3_10 (by decide) (by decide) ?_
  exact ⟨rfl, rfl⟩
abbrev rm_4 : Room := { frames := 0, cells := 0, slots := 0, locals := 0 }
theorem d4_0 : decode prog_50_method_4_code 0 = .ok (.aload_n 0, 1) := by decide +kernel
theorem d4_1 : decode prog_50_method_4_code 1 = .ok (.getfield 7, 3) := by decide +kernel
theorem d4_4 : decode prog_50_method_4_code 4 = .ok (.lload_n 1, 1) := by decide +kernel
theorem d4_5 : decode prog_50_method_4_code 5 = .ok (.lsub, 1) := by decide +kernel
theorem d4_6 : decode prog_50_method_4_code 6 = .ok (.lstore_n 3, 1) := by decide +kernel
theorem d4_7 : decode prog_50_method_4_code 7 = .ok (.aload_n 0, 1) := by decide +kernel
theorem d4_8 : decode prog_50_method_4_code 8 = .ok (.getfield 7, 3) := by decide +kernel
theorem d4_11 : decode prog_50_method_4_code 11 = .ok (.lload_n 1, 1) := by decide +kernel
theorem d4_12 : decode prog_50_method_4_code 12 = .ok (.lxor, 1) := by decide +kernel
theorem d4_13 : decode prog_50_method_4_code 13 = .ok (.aload_n 0, 1) := by decide +kernel
theorem d4_14 : decode prog_50_method_4_code 14 = .ok (.getfield 7, 3) := by decide +kernel
theorem d4_17 : decode prog_50_method_4_code 17 = .ok (.lload_n 3, 1) := by decide +kernel
theorem d4_18 : decode prog_50_method_4_code 18 = .ok (.lxor, 1) := by decide +kernel
theorem d4_19 : decode prog_50_method_4_code 19 = .ok (.land, 1) := by decide +kernel
theorem d4_20 : decode prog_50_method_4_code 20 = .ok (.lconst 0, 1) := by decide +kernel
theorem d4_21 : decode prog_50_method_4_code 21 = .ok (.lcmp, 1) := by decide +kernel
theorem d4_22 : decode prog_50_method_4_code 22 = .ok (.ifCond .ge 25, 3) := by decide +kernel
theorem d4_25 : decode prog_50_method_4_code 25 = .ok (.aload_n 0, 1) := by decide +kernel
theorem d4_26 : decode prog_50_method_4_code 26 = .ok (.dup, 1) := by decide +kernel
theorem d4_27 : decode prog_50_method_4_code 27 = .ok (.getfield 13, 3) := by decide +kernel
theorem d4_30 : decode prog_50_method_4_code 30 = .ok (.lload_n 1, 1) := by decide +kernel
theorem d4_31 : decode prog_50_method_4_code 31 = .ok (.lconst 0, 1) := by decide +kernel
theorem d4_32 : decode prog_50_method_4_code 32 = .ok (.lcmp, 1) := by decide +kernel
theorem d4_33 : decode prog_50_method_4_code 33 = .ok (.ifCond .ge 7, 3) := by decide +kernel
theorem d4_36 : decode prog_50_method_4_code 36 = .ok (.lconst 1, 1) := by decide +kernel
theorem d4_37 : decode prog_50_method_4_code 37 = .ok (.goto 6, 3) := by decide +kernel
theorem d4_40 : decode prog_50_method_4_code 40 = .ok (.ldc2_w 16, 3) := by decide +kernel
theorem d4_43 : decode prog_50_method_4_code 43 = .ok (.ladd, 1) := by decide +kernel
theorem d4_44 : decode prog_50_method_4_code 44 = .ok (.putfield 13, 3) := by decide +kernel
theorem d4_47 : decode prog_50_method_4_code 47 = .ok (.aload_n 0, 1) := by decide +kernel
theorem d4_48 : decode prog_50_method_4_code 48 = .ok (.lload_n 3, 1) := by decide +kernel
theorem d4_49 : decode prog_50_method_4_code 49 = .ok (.putfield 7, 3) := by decide +kernel
theorem d4_52 : decode prog_50_method_4_code 52 = .ok (.return_, 1) := by decide +kernel
set_option maxRecDepth 65536 in
set_option maxHeartbeats 4000000 in
theorem c_sub (l : Launch) (Z : State) (a0 : Array Value) (hw : ∀ d ∈ tables_1, d.before a0 Z = true) (n0 : Nat) (μ : Mem) (a : Addr) (v : Int64) (lo wr : Int64) (hμ : μ a = some (o_ES (.long lo) (.long wr))) (ga : n0 ≤ a) (hs : -9 ≤ wr.toInt ∧ wr.toInt ≤ 9) :
    Con l Z n0 (⟨"com/example/parcours/parcours/search/ExactSum", "subtract", "(J)V"⟩ : MethodName) prog_50_method_4_code 5 none [] rm_4 rm_4.cells rm_4.slots #[(.ref a), (.long v)] μ (RV fun μ' => ∃ lo' wr' : Int64, μ' = upd μ a (o_ES (.long lo') (.long wr')) ∧ wr'.toInt * 18446744073709551616 + lo'.toInt = wr.toInt * 18446744073709551616 + lo.toInt - v.toInt) := by
  refine Con.intro (L0 := #[.val (.ref a), .val (.long v), .second, .unset, .unset]) (plainFor_of_name (by first | (simp [plainName, overriddenIn]; done) | decide +kernel)) (fun m => by first | (simp [entryFrame, mkF, argsToLocals, Value.category]; done) | rfl) ?_
  intro p e s m below meth c C
  have C : Ctx p s m meth c Z "com/example/parcours/parcours/search/ExactSum" "subtract" prog_50_method_4_code 5 none := C
  refine Own.aloadN C d4_0 (q := 1) rfl rfl rfl ?_
  refine Own.getfield C d4_1 (q := 4) rfl (host := "") (Or.inl (hw _ (List.mem_of_getElem? (i := 14) rfl))) Via.refl hμ (j := 0) rfl ?_
  refine Own.lloadN C d4_4 (q := 5) rfl rfl ?_
  refine Own.lsub C d4_5 (q := 6) rfl fun z5 e5 => ?_
  refine Own.lstoreN C d4_6 (q := 7) rfl (L' := #[.val (.ref a), .val (.long v), .second, .val (.long z5), .second]) rfl ?_
  refine Own.aloadN C d4_7 (q := 8) rfl rfl rfl ?_
  refine Own.getfield C d4_8 (q := 11) rfl (host := "") (Or.inl (hw _ (List.mem_of_getElem? (i := 14) rfl))) Via.refl hμ (j := 0) rfl ?_
  refine Own.lloadN C d4_11 (q := 12) rfl rfl ?_
  refine Own.lxor C d4_12 (q := 13) rfl fun z12 e12 => ?_
  refine Own.aloadN C d4_13 (q := 14) rfl rfl rfl ?_
  refine Own.getfield C d4_14 (q := 17) rfl (host := "") (Or.inl (hw _ (List.mem_of_getElem? (i := 14) rfl))) Via.refl hμ (j := 0) rfl ?_
  refine Own.lloadN C d4_17 (q := 18) rfl rfl ?_
  refine Own.lxor C d4_18 (q := 19) rfl fun z18 e18 => ?_
  refine Own.land C d4_19 (q := 20) rfl fun z19 e19 => ?_
  refine Own.lconst C d4_20 (q := 21) rfl (z := 0) (by decide) ?_
  refine Own.lcmp_ge C d4_21 (pc1 := 22) rfl d4_22 (q := 25) rfl (r := 47) (by decide) (fun h21 => ?_) (fun h21 => ?_)
  · refine Own.aloadN C d4_47 (q := 48) rfl rfl rfl ?_
    refine Own.lloadN C d4_48 (q := 49) rfl rfl ?_
    refine Own.putfield C d4_49 (q := 52) rfl (host := "") (Or.inl (hw _ (List.mem_of_getElem? (i := 14) rfl))) Via.refl (Or.inl (hw _ (List.mem_of_getElem? (i := 15) rfl))) (hw _ (List.mem_of_getElem? (i := 1) rfl)) (ty := .long) (by decide) rfl rfl hμ (j := 0) rfl (fs' := [(("com/example/parcours/parcours/search/ExactSum", "low", "J"), (.long z5)), (("com/example/parcours/parcours/search/ExactSum", "wraps", "J"), (.long wr))]) rfl ga (mem rfl ?_)
    refine Own.vreturn C d4_52 (by decide) (by decide) ?_
    refine ⟨rfl, _, _, rfl, ?_⟩
    have k := (sub_ov e5 e12 e18 e19).2 h21
    omega
  · refine Own.aloadN C d4_25 (q := 26) rfl rfl rfl ?_
    refine Own.dup C d4_26 (q := 27) rfl rfl ?_
    refine Own.getfield C d4_27 (q := 30) rfl (host := "") (Or.inl (hw _ (List.mem_of_getElem? (i := 16) rfl))) Via.refl hμ (j := 1) rfl ?_
    refine Own.lloadN C d4_30 (q := 31) rfl rfl ?_
    refine Own.lconst C d4_31 (q := 32) rfl (z := 0) (by decide) ?_
    refine Own.lcmp_ge C d4_32 (pc1 := 33) rfl d4_33 (q := 36) rfl (r := 40) (by decide) (fun h32 => ?_) (fun h32 => ?_)
    · refine Own.ldcJ C d4_40 (q := 43) rfl (hw _ (List.mem_of_getElem? (i := 39) rfl)) ?_
      refine Own.ladd C d4_43 (q := 44) rfl fun z43 e43 => ?_
      refine Own.putfield C d4_44 (q := 47) rfl (host := "") (Or.inl (hw _ (List.mem_of_getElem? (i := 16) rfl))) Via.refl (Or.inl (hw _ (List.mem_of_getElem? (i := 17) rfl))) (hw _ (List.mem_of_getElem? (i := 1) rfl)) (ty := .long) (by decide) rfl rfl hμ (j := 1) rfl (fs' := [(("com/example/parcours/parcours/search/ExactSum", "low", "J"), (.long lo)), (("com/example/parcours/parcours/search/ExactSum", "wraps", "J"), (.long z43))]) rfl ga (mem rfl ?_)
      refine Own.aloadN C d4_47 (q := 48) rfl rfl rfl ?_
      refine Own.lloadN C d4_48 (q := 49) rfl rfl ?_
      refine Own.putfield C d4_49 (q := 52) rfl (host := "") (Or.inl (hw _ (List.mem_of_getElem? (i := 14) rfl))) Via.refl (Or.inl (hw _ (List.mem_of_getElem? (i := 15) rfl))) (hw _ (List.mem_of_getElem? (i := 1) rfl)) (ty := .long) (by decide) rfl rfl upd_same (j := 0) rfl (fs' := [(("com/example/parcours/parcours/search/ExactSum", "low", "J"), (.long z5)), (("com/example/parcours/parcours/search/ExactSum", "wraps", "J"), (.long z43))]) rfl ga (mem upd_upd ?_)
      refine Own.vreturn C d4_52 (by decide) (by decide) ?_
      refine ⟨rfl, _, _, rfl, ?_⟩
      have k := (sub_ov e5 e12 e18 e19).1 (by simpa using h21)
      have o := c_ladd wr (-1); rw [← e43] at o; have q := rng64 z43
      simp only [Int64.lt_iff_toInt_lt, show (0 : Int64).toInt = 0 from rfl, show (1 : Int64).toInt = 1 from rfl, show (-1 : Int64).toInt = -1 from rfl] at *
      omega
    · refine Own.lconst C d4_36 (q := 37) rfl (z := 1) (by decide) ?_
      refine Own.goto C d4_37 (q := 43) (by decide) ?_
      refine Own.ladd C d4_43 (q := 44) rfl fun z43 e43 => ?_
      refine Own.putfield C d4_44 (q := 47) rfl (host := "") (Or.inl (hw _ (List.mem_of_getElem? (i := 16) rfl))) Via.refl (Or.inl (hw _ (List.mem_of_getElem? (i := 17) rfl))) (hw _ (List.mem_of_getElem? (i := 1) rfl)) (ty := .long) (by decide) rfl rfl hμ (j := 1) rfl (fs' := [(("com/example/parcours/parcours/search/ExactSum", "low", "J"), (.long lo)), (("com/example/parcours/parcours/search/ExactSum", "wraps", "J"), (.long z43))]) rfl ga (mem rfl ?_)
      refine Own.aloadN C d4_47 (q := 48) rfl rfl rfl ?_
      refine Own.lloadN C d4_48 (q := 49) rfl rfl ?_
      refine Own.putfield C d4_49 (q := 52) rfl (host := "") (Or.inl (hw _ (List.mem_of_getElem? (i := 14) rfl))) Via.refl (Or.inl (hw _ (List.mem_of_getElem? (i := 15) rfl))) (hw _ (List.mem_of_getElem? (i := 1) rfl)) (ty := .long) (by decide) rfl rfl upd_same (j := 0) rfl (fs' := [(("com/example/parcours/parcours/search/ExactSum", "low", "J"), (.long z5)), (("com/example/parcours/parcours/search/ExactSum", "wraps", "J"), (.long z43))]) rfl ga (mem upd_upd ?_)
      refine Own.vreturn C d4_52 (by decide) (by decide) ?_
      refine ⟨rfl, _, _, rfl, ?_⟩
      have k := (sub_ov e5 e12 e18 e19).1 (by simpa using h21)
      have o := c_ladd wr 1; rw [← e43] at o; have q := rng64 z43
      simp only [Int64.lt_iff_toInt_lt, show (0 : Int64).toInt = 0 from rfl, show (1 : Int64).toInt = 1 from rfl, show (-1 : Int64).toInt = -1 from rfl] at *
      omega
abbrev rm_6 : Room := { frames := 0, cells := 0, slots := 0, locals := 0 }
theorem d6_0 : decode prog_50_method_6_code 0 = .ok (.lload_n 2, 1) := by decide +kernel
theorem d6_1 : decode prog_50_method_6_code 1 = .ok (.lconst 0, 1) := by decide +kernel
theorem d6_2 : decode prog_50_method_6_code 2 = .ok (.lcmp, 1) := by decide +kernel
theorem d6_3 : decode prog_50_method_6_code 3 = .ok (.ifCond .eq 19, 3) := by decide +kernel
theorem d6_6 : decode prog_50_method_6_code 6 = .ok (.lload_n 2, 1) := by decide +kernel
theorem d6_7 : decode prog_50_method_6_code 7 = .ok (.lconst 0, 1) := by decide +kernel
theorem d6_8 : decode prog_50_method_6_code 8 = .ok (.lcmp, 1) := by decide +kernel
theorem d6_9 : decode prog_50_method_6_code 9 = .ok (.ifCond .le 9, 3) := by decide +kernel
theorem d6_12 : decode prog_50_method_6_code 12 = .ok (.ldc2_w 24, 3) := by decide +kernel
theorem d6_15 : decode prog_50_method_6_code 15 = .ok (.goto 6, 3) := by decide +kernel
theorem d6_18 : decode prog_50_method_6_code 18 = .ok (.ldc2_w 26, 3) := by decide +kernel
theorem d6_21 : decode prog_50_method_6_code 21 = .ok (.lreturn, 1) := by decide +kernel
theorem d6_22 : decode prog_50_method_6_code 22 = .ok (.lload_n 0, 1) := by decide +kernel
theorem d6_23 : decode prog_50_method_6_code 23 = .ok (.ldc2_w 28, 3) := by decide +kernel
theorem d6_26 : decode prog_50_method_6_code 26 = .ok (.lcmp, 1) := by decide +kernel
theorem d6_27 : decode prog_50_method_6_code 27 = .ok (.ifCond .ne 9, 3) := by decide +kernel
theorem d6_30 : decode prog_50_method_6_code 30 = .ok (.ldc2_w 26, 3) := by decide +kernel
theorem d6_33 : decode prog_50_method_6_code 33 = .ok (.goto 4, 3) := by decide +kernel
theorem d6_36 : decode prog_50_method_6_code 36 = .ok (.lload_n 0, 1) := by decide +kernel
theorem d6_37 : decode prog_50_method_6_code 37 = .ok (.lreturn, 1) := by decide +kernel
set_option maxRecDepth 65536 in
set_option maxHeartbeats 4000000 in
theorem c_sat (l : Launch) (Z : State) (a0 : Array Value) (hw : ∀ d ∈ tables_1, d.before a0 Z = true) (n0 : Nat) (μ : Mem) (lo : Int64) (wr : Int64)  :
    Con l Z n0 (⟨"com/example/parcours/parcours/search/ExactSum", "saturated", "(JJ)J"⟩ : MethodName) prog_50_method_6_code 4 (some .long) [] rm_6 rm_6.cells rm_6.slots #[(.long lo), (.long wr)] μ (RJ fun z μ' => μ' = μ ∧ z.toInt = sat (wr.toInt * 18446744073709551616 + lo.toInt)) := by
  refine Con.intro (L0 := #[.val (.long lo), .second, .val (.long wr), .second]) (plainFor_of_name (by first | (simp [plainName, overriddenIn]; done) | decide +kernel)) (fun m => by first | (simp [entryFrame, mkF, argsToLocals, Value.category]; done) | rfl) ?_
  intro p e s m below meth c C
  have C : Ctx p s m meth c Z "com/example/parcours/parcours/search/ExactSum" "saturated" prog_50_method_6_code 4 (some .long) := C
  refine Own.lloadN C d6_0 (q := 1) rfl rfl ?_
  refine Own.lconst C d6_1 (q := 2) rfl (z := 0) (by decide) ?_
  refine Own.lcmp_eq C d6_2 (pc1 := 3) rfl d6_3 (q := 6) rfl (r := 22) (by decide) (fun h2 => ?_) (fun h2 => ?_)
  · refine Own.lloadN C d6_22 (q := 23) rfl rfl ?_
    refine Own.ldcJ C d6_23 (q := 26) rfl (hw _ (List.mem_of_getElem? (i := 31) rfl)) ?_
    refine Own.lcmp_ne C d6_26 (pc1 := 27) rfl d6_27 (q := 30) rfl (r := 36) (by decide) (fun h26 => ?_) (fun h26 => ?_)
    · refine Own.lloadN C d6_36 (q := 37) rfl rfl ?_
      refine Own.lreturn C d6_37 (by decide) (by decide) ?_
      exact ⟨_, rfl, rfl, sat_mid h2 h26⟩
    · refine Own.ldcJ C d6_30 (q := 33) rfl (hw _ (List.mem_of_getElem? (i := 40) rfl)) ?_
      refine Own.goto C d6_33 (q := 37) (by decide) ?_
      refine Own.lreturn C d6_37 (by decide) (by decide) ?_
      exact ⟨_, rfl, rfl, sat_min h2 h26⟩
  · refine Own.lloadN C d6_6 (q := 7) rfl rfl ?_
    refine Own.lconst C d6_7 (q := 8) rfl (z := 0) (by decide) ?_
    refine Own.lcmp_le C d6_8 (pc1 := 9) rfl d6_9 (q := 12) rfl (r := 18) (by decide) (fun h8 => ?_) (fun h8 => ?_)
    · refine Own.ldcJ C d6_18 (q := 21) rfl (hw _ (List.mem_of_getElem? (i := 40) rfl)) ?_
      refine Own.lreturn C d6_21 (by decide) (by decide) ?_
      exact ⟨_, rfl, rfl, sat_neg h2 h8⟩
    · refine Own.ldcJ C d6_12 (q := 15) rfl (hw _ (List.mem_of_getElem? (i := 42) rfl)) ?_
      refine Own.goto C d6_15 (q := 21) (by decide) ?_
      refine Own.lreturn C d6_21 (by decide) (by decide) ?_
      exact ⟨_, rfl, rfl, sat_pos h8⟩
theorem pd_0 : parseMethodDescriptor "(JJ)J" = some ⟨[.long, .long], some .long⟩ := by decide +kernel
abbrev rm_5 : Room := { frames := 1, cells := 0, slots := 0, locals := 15 }
theorem d5_0 : decode prog_50_method_5_code 0 = .ok (.aload_n 0, 1) := by decide +kernel
theorem d5_1 : decode prog_50_method_5_code 1 = .ok (.getfield 7, 3) := by decide +kernel
theorem d5_4 : decode prog_50_method_5_code 4 = .ok (.aload_n 1, 1) := by decide +kernel
theorem d5_5 : decode prog_50_method_5_code 5 = .ok (.getfield 7, 3) := by decide +kernel
theorem d5_8 : decode prog_50_method_5_code 8 = .ok (.lsub, 1) := by decide +kernel
theorem d5_9 : decode prog_50_method_5_code 9 = .ok (.lstore_n 2, 1) := by decide +kernel
theorem d5_10 : decode prog_50_method_5_code 10 = .ok (.aload_n 0, 1) := by decide +kernel
theorem d5_11 : decode prog_50_method_5_code 11 = .ok (.getfield 13, 3) := by decide +kernel
theorem d5_14 : decode prog_50_method_5_code 14 = .ok (.aload_n 1, 1) := by decide +kernel
theorem d5_15 : decode prog_50_method_5_code 15 = .ok (.getfield 13, 3) := by decide +kernel
theorem d5_18 : decode prog_50_method_5_code 18 = .ok (.lsub, 1) := by decide +kernel
theorem d5_19 : decode prog_50_method_5_code 19 = .ok (.lstore 4, 2) := by decide +kernel
theorem d5_21 : decode prog_50_method_5_code 21 = .ok (.aload_n 0, 1) := by decide +kernel
theorem d5_22 : decode prog_50_method_5_code 22 = .ok (.getfield 7, 3) := by decide +kernel
theorem d5_25 : decode prog_50_method_5_code 25 = .ok (.aload_n 1, 1) := by decide +kernel
theorem d5_26 : decode prog_50_method_5_code 26 = .ok (.getfield 7, 3) := by decide +kernel
theorem d5_29 : decode prog_50_method_5_code 29 = .ok (.lxor, 1) := by decide +kernel
theorem d5_30 : decode prog_50_method_5_code 30 = .ok (.aload_n 0, 1) := by decide +kernel
theorem d5_31 : decode prog_50_method_5_code 31 = .ok (.getfield 7, 3) := by decide +kernel
theorem d5_34 : decode prog_50_method_5_code 34 = .ok (.lload_n 2, 1) := by decide +kernel
theorem d5_35 : decode prog_50_method_5_code 35 = .ok (.lxor, 1) := by decide +kernel
theorem d5_36 : decode prog_50_method_5_code 36 = .ok (.land, 1) := by decide +kernel
theorem d5_37 : decode prog_50_method_5_code 37 = .ok (.lconst 0, 1) := by decide +kernel
theorem d5_38 : decode prog_50_method_5_code 38 = .ok (.lcmp, 1) := by decide +kernel
theorem d5_39 : decode prog_50_method_5_code 39 = .ok (.ifCond .ge 24, 3) := by decide +kernel
theorem d5_42 : decode prog_50_method_5_code 42 = .ok (.lload 4, 2) := by decide +kernel
theorem d5_44 : decode prog_50_method_5_code 44 = .ok (.aload_n 1, 1) := by decide +kernel
theorem d5_45 : decode prog_50_method_5_code 45 = .ok (.getfield 7, 3) := by decide +kernel
theorem d5_48 : decode prog_50_method_5_code 48 = .ok (.lconst 0, 1) := by decide +kernel
theorem d5_49 : decode prog_50_method_5_code 49 = .ok (.lcmp, 1) := by decide +kernel
theorem d5_50 : decode prog_50_method_5_code 50 = .ok (.ifCond .ge 7, 3) := by decide +kernel
theorem d5_53 : decode prog_50_method_5_code 53 = .ok (.lconst 1, 1) := by decide +kernel
theorem d5_54 : decode prog_50_method_5_code 54 = .ok (.goto 6, 3) := by decide +kernel
theorem d5_57 : decode prog_50_method_5_code 57 = .ok (.ldc2_w 16, 3) := by decide +kernel
theorem d5_60 : decode prog_50_method_5_code 60 = .ok (.ladd, 1) := by decide +kernel
theorem d5_61 : decode prog_50_method_5_code 61 = .ok (.lstore 4, 2) := by decide +kernel
theorem d5_63 : decode prog_50_method_5_code 63 = .ok (.lload_n 2, 1) := by decide +kernel
theorem d5_64 : decode prog_50_method_5_code 64 = .ok (.lload 4, 2) := by decide +kernel
theorem d5_66 : decode prog_50_method_5_code 66 = .ok (.invokestatic 18, 3) := by decide +kernel
theorem d5_69 : decode prog_50_method_5_code 69 = .ok (.lreturn, 1) := by decide +kernel
set_option maxRecDepth 65536 in
set_option maxHeartbeats 4000000 in
theorem c_minus (l : Launch) (Z : State) (a0 : Array Value) (hw : ∀ d ∈ tables_1, d.before a0 Z = true) (n0 : Nat) (μ : Mem) (a : Addr) (b : Addr) (lo wr lo2 wr2 : Int64) (hμ : μ a = some (o_ES (.long lo) (.long wr))) (hν : μ b = some (o_ES (.long lo2) (.long wr2))) (hs : -9 ≤ wr.toInt ∧ wr.toInt ≤ 9) (hs2 : -9 ≤ wr2.toInt ∧ wr2.toInt ≤ 9) :
    Con l Z n0 (⟨"com/example/parcours/parcours/search/ExactSum", "minus", "(Lcom/example/parcours/parcours/search/ExactSum;)J"⟩ : MethodName) prog_50_method_5_code 6 (some .long) [] rm_5 rm_5.cells rm_5.slots #[(.ref a), (.ref b)] μ (RJ fun z μ' => μ' = μ ∧ z.toInt = sat ((wr.toInt - wr2.toInt) * 18446744073709551616 + lo.toInt - lo2.toInt)) := by
  refine Con.intro (L0 := #[.val (.ref a), .val (.ref b), .unset, .unset, .unset, .unset]) (plainFor_of_name (by first | (simp [plainName, overriddenIn]; done) | decide +kernel)) (fun m => by first | (simp [entryFrame, mkF, argsToLocals, Value.category]; done) | rfl) ?_
  intro p e s m below meth c C
  have C : Ctx p s m meth c Z "com/example/parcours/parcours/search/ExactSum" "minus" prog_50_method_5_code 6 (some .long) := C
  refine Own.aloadN C d5_0 (q := 1) rfl rfl rfl ?_
  refine Own.getfield C d5_1 (q := 4) rfl (host := "") (Or.inl (hw _ (List.mem_of_getElem? (i := 14) rfl))) Via.refl hμ (j := 0) rfl ?_
  refine Own.aloadN C d5_4 (q := 5) rfl rfl rfl ?_
  refine Own.getfield C d5_5 (q := 8) rfl (host := "") (Or.inl (hw _ (List.mem_of_getElem? (i := 14) rfl))) Via.refl hν (j := 0) rfl ?_
  refine Own.lsub C d5_8 (q := 9) rfl fun z8 e8 => ?_
  refine Own.lstoreN C d5_9 (q := 10) rfl (L' := #[.val (.ref a), .val (.ref b), .val (.long z8), .second, .unset, .unset]) rfl ?_
  refine Own.aloadN C d5_10 (q := 11) rfl rfl rfl ?_
  refine Own.getfield C d5_11 (q := 14) rfl (host := "") (Or.inl (hw _ (List.mem_of_getElem? (i := 16) rfl))) Via.refl hμ (j := 1) rfl ?_
  refine Own.aloadN C d5_14 (q := 15) rfl rfl rfl ?_
  refine Own.getfield C d5_15 (q := 18) rfl (host := "") (Or.inl (hw _ (List.mem_of_getElem? (i := 16) rfl))) Via.refl hν (j := 1) rfl ?_
  refine Own.lsub C d5_18 (q := 19) rfl fun z18 e18 => ?_
  refine Own.lstore C d5_19 (q := 21) rfl (L' := #[.val (.ref a), .val (.ref b), .val (.long z8), .second, .val (.long z18), .second]) rfl ?_
  refine Own.aloadN C d5_21 (q := 22) rfl rfl rfl ?_
  refine Own.getfield C d5_22 (q := 25) rfl (host := "") (Or.inl (hw _ (List.mem_of_getElem? (i := 14) rfl))) Via.refl hμ (j := 0) rfl ?_
  refine Own.aloadN C d5_25 (q := 26) rfl rfl rfl ?_
  refine Own.getfield C d5_26 (q := 29) rfl (host := "") (Or.inl (hw _ (List.mem_of_getElem? (i := 14) rfl))) Via.refl hν (j := 0) rfl ?_
  refine Own.lxor C d5_29 (q := 30) rfl fun z29 e29 => ?_
  refine Own.aloadN C d5_30 (q := 31) rfl rfl rfl ?_
  refine Own.getfield C d5_31 (q := 34) rfl (host := "") (Or.inl (hw _ (List.mem_of_getElem? (i := 14) rfl))) Via.refl hμ (j := 0) rfl ?_
  refine Own.lloadN C d5_34 (q := 35) rfl rfl ?_
  refine Own.lxor C d5_35 (q := 36) rfl fun z35 e35 => ?_
  refine Own.land C d5_36 (q := 37) rfl fun z36 e36 => ?_
  refine Own.lconst C d5_37 (q := 38) rfl (z := 0) (by decide) ?_
  refine Own.lcmp_ge C d5_38 (pc1 := 39) rfl d5_39 (q := 42) rfl (r := 63) (by decide) (fun h38 => ?_) (fun h38 => ?_)
  · refine Own.lloadN C d5_63 (q := 64) rfl rfl ?_
    refine Own.lload C d5_64 (q := 66) rfl rfl ?_
    refine Own.callS C d5_66 (q := 69) rfl (hw _ (List.mem_of_getElem? (i := 28) rfl)) (hw _ (List.mem_of_getElem? (i := 29) rfl)) (hw _ (List.mem_of_getElem? (i := 2) rfl)) (hw _ (List.mem_of_getElem? (i := 30) rfl)) (by decide) (W := 0) (rm := rm_6) (argsL := [(.long z8), (.long z18)]) (st := []) (lenOf pd_0 rfl) rfl rfl (Nat.le_of_eq rfl) (by decide) (by decide) (by decide) (by decide) (c_sat l Z a0 hw n0 _ z8 z18) (nxJ fun z66 μ66 h66 => ?_)
    obtain ⟨rfl, h66⟩ := h66
    refine Own.lreturn C d5_69 (by decide) (by decide) ?_
    refine ⟨_, rfl, rfl, h66.trans (congrArg sat ?_)⟩
    have o1 := c_lsub wr wr2; rw [← e18] at o1; have q1 := rng64 z18
    have k := (sub_ov e8 e29 e35 e36).2 h38
    simp only [Int64.lt_iff_toInt_lt, show (0 : Int64).toInt = 0 from rfl, show (1 : Int64).toInt = 1 from rfl, show (-1 : Int64).toInt = -1 from rfl] at *
    omega
  · refine Own.lload C d5_42 (q := 44) rfl rfl ?_
    refine Own.aloadN C d5_44 (q := 45) rfl rfl rfl ?_
    refine Own.getfield C d5_45 (q := 48) rfl (host := "") (Or.inl (hw _ (List.mem_of_getElem? (i := 14) rfl))) Via.refl hν (j := 0) rfl ?_
    refine Own.lconst C d5_48 (q := 49) rfl (z := 0) (by decide) ?_
    refine Own.lcmp_ge C d5_49 (pc1 := 50) rfl d5_50 (q := 53) rfl (r := 57) (by decide) (fun h49 => ?_) (fun h49 => ?_)
    · refine Own.ldcJ C d5_57 (q := 60) rfl (hw _ (List.mem_of_getElem? (i := 39) rfl)) ?_
      refine Own.ladd C d5_60 (q := 61) rfl fun z60 e60 => ?_
      refine Own.lstore C d5_61 (q := 63) rfl (L' := #[.val (.ref a), .val (.ref b), .val (.long z8), .second, .val (.long z60), .second]) rfl ?_
      refine Own.lloadN C d5_63 (q := 64) rfl rfl ?_
      refine Own.lload C d5_64 (q := 66) rfl rfl ?_
      refine Own.callS C d5_66 (q := 69) rfl (hw _ (List.mem_of_getElem? (i := 28) rfl)) (hw _ (List.mem_of_getElem? (i := 29) rfl)) (hw _ (List.mem_of_getElem? (i := 2) rfl)) (hw _ (List.mem_of_getElem? (i := 30) rfl)) (by decide) (W := 0) (rm := rm_6) (argsL := [(.long z8), (.long z60)]) (st := []) (lenOf pd_0 rfl) rfl rfl (Nat.le_of_eq rfl) (by decide) (by decide) (by decide) (by decide) (c_sat l Z a0 hw n0 _ z8 z60) (nxJ fun z66 μ66 h66 => ?_)
      obtain ⟨rfl, h66⟩ := h66
      refine Own.lreturn C d5_69 (by decide) (by decide) ?_
      refine ⟨_, rfl, rfl, h66.trans (congrArg sat ?_)⟩
      have o1 := c_lsub wr wr2; rw [← e18] at o1; have q1 := rng64 z18
      have k := (sub_ov e8 e29 e35 e36).1 (by simpa using h38)
      have o := c_ladd z18 (-1); rw [← e60] at o; have q := rng64 z60
      simp only [Int64.lt_iff_toInt_lt, show (0 : Int64).toInt = 0 from rfl, show (1 : Int64).toInt = 1 from rfl, show (-1 : Int64).toInt = -1 from rfl] at *
      omega
    · refine Own.lconst C d5_53 (q := 54) rfl (z := 1) (by decide) ?_
      refine Own.goto C d5_54 (q := 60) (by decide) ?_
      refine Own.ladd C d5_60 (q := 61) rfl fun z60 e60 => ?_
      refine Own.lstore C d5_61 (q := 63) rfl (L' := #[.val (.ref a), .val (.ref b), .val (.long z8), .second, .val (.long z60), .second]) rfl ?_
      refine Own.lloadN C d5_63 (q := 64) rfl rfl ?_
      refine Own.lload C d5_64 (q := 66) rfl rfl ?_
      refine Own.callS C d5_66 (q := 69) rfl (hw _ (List.mem_of_getElem? (i := 28) rfl)) (hw _ (List.mem_of_getElem? (i := 29) rfl)) (hw _ (List.mem_of_getElem? (i := 2) rfl)) (hw _ (List.mem_of_getElem? (i := 30) rfl)) (by decide) (W := 0) (rm := rm_6) (argsL := [(.long z8), (.long z60)]) (st := []) (lenOf pd_0 rfl) rfl rfl (Nat.le_of_eq rfl) (by decide) (by decide) (by decide) (by decide) (c_sat l Z a0 hw n0 _ z8 z60) (nxJ fun z66 μ66 h66 => ?_)
      obtain ⟨rfl, h66⟩ := h66
      refine Own.lreturn C d5_69 (by decide) (by decide) ?_
      refine ⟨_, rfl, rfl, h66.trans (congrArg sat ?_)⟩
      have o1 := c_lsub wr wr2; rw [← e18] at o1; have q1 := rng64 z18
      have k := (sub_ov e8 e29 e35 e36).1 (by simpa using h38)
      have o := c_ladd z18 1; rw [← e60] at o; have q := rng64 z60
      simp only [Int64.lt_iff_toInt_lt, show (0 : Int64).toInt = 0 from rfl, show (1 : Int64).toInt = 1 from rfl, show (-1 : Int64).toInt = -1 from rfl] at *
      omega
abbrev rm_7 : Room := { frames := 0, cells := 0, slots := 0, locals := 0 }
theorem d7_0 : decode method_3_code 0 = .ok (.lload_n 0, 1) := by decide +kernel
theorem d7_1 : decode method_3_code 1 = .ok (.bipush 32, 2) := by decide +kernel
theorem d7_3 : decode method_3_code 3 = .ok (.lshr, 1) := by decide +kernel
theorem d7_4 : decode method_3_code 4 = .ok (.lstore 6, 2) := by decide +kernel
theorem d7_6 : decode method_3_code 6 = .ok (.lload_n 0, 1) := by decide +kernel
theorem d7_7 : decode method_3_code 7 = .ok (.ldc2_w 27, 3) := by decide +kernel
theorem d7_10 : decode method_3_code 10 = .ok (.land, 1) := by decide +kernel
theorem d7_11 : decode method_3_code 11 = .ok (.lstore 8, 2) := by decide +kernel
theorem d7_13 : decode method_3_code 13 = .ok (.lload_n 2, 1) := by decide +kernel
theorem d7_14 : decode method_3_code 14 = .ok (.bipush 32, 2) := by decide +kernel
theorem d7_16 : decode method_3_code 16 = .ok (.lshr, 1) := by decide +kernel
theorem d7_17 : decode method_3_code 17 = .ok (.lstore 10, 2) := by decide +kernel
theorem d7_19 : decode method_3_code 19 = .ok (.lload_n 2, 1) := by decide +kernel
theorem d7_20 : decode method_3_code 20 = .ok (.ldc2_w 27, 3) := by decide +kernel
theorem d7_23 : decode method_3_code 23 = .ok (.land, 1) := by decide +kernel
theorem d7_24 : decode method_3_code 24 = .ok (.lstore 12, 2) := by decide +kernel
theorem d7_26 : decode method_3_code 26 = .ok (.lload 4, 2) := by decide +kernel
theorem d7_28 : decode method_3_code 28 = .ok (.bipush 32, 2) := by decide +kernel
theorem d7_30 : decode method_3_code 30 = .ok (.lshr, 1) := by decide +kernel
theorem d7_31 : decode method_3_code 31 = .ok (.lstore 14, 2) := by decide +kernel
theorem d7_33 : decode method_3_code 33 = .ok (.lload 4, 2) := by decide +kernel
theorem d7_35 : decode method_3_code 35 = .ok (.ldc2_w 27, 3) := by decide +kernel
theorem d7_38 : decode method_3_code 38 = .ok (.land, 1) := by decide +kernel
theorem d7_39 : decode method_3_code 39 = .ok (.lstore 16, 2) := by decide +kernel
theorem d7_41 : decode method_3_code 41 = .ok (.lload 8, 2) := by decide +kernel
theorem d7_43 : decode method_3_code 43 = .ok (.lload 12, 2) := by decide +kernel
theorem d7_45 : decode method_3_code 45 = .ok (.lsub, 1) := by decide +kernel
theorem d7_46 : decode method_3_code 46 = .ok (.lload 16, 2) := by decide +kernel
theorem d7_48 : decode method_3_code 48 = .ok (.lsub, 1) := by decide +kernel
theorem d7_49 : decode method_3_code 49 = .ok (.lstore 18, 2) := by decide +kernel
theorem d7_51 : decode method_3_code 51 = .ok (.lload 6, 2) := by decide +kernel
theorem d7_53 : decode method_3_code 53 = .ok (.lload 10, 2) := by decide +kernel
theorem d7_55 : decode method_3_code 55 = .ok (.lsub, 1) := by decide +kernel
theorem d7_56 : decode method_3_code 56 = .ok (.lload 14, 2) := by decide +kernel
theorem d7_58 : decode method_3_code 58 = .ok (.lsub, 1) := by decide +kernel
theorem d7_59 : decode method_3_code 59 = .ok (.lload 18, 2) := by decide +kernel
theorem d7_61 : decode method_3_code 61 = .ok (.bipush 32, 2) := by decide +kernel
theorem d7_63 : decode method_3_code 63 = .ok (.lshr, 1) := by decide +kernel
theorem d7_64 : decode method_3_code 64 = .ok (.ladd, 1) := by decide +kernel
theorem d7_65 : decode method_3_code 65 = .ok (.lstore 20, 2) := by decide +kernel
theorem d7_67 : decode method_3_code 67 = .ok (.lload 18, 2) := by decide +kernel
theorem d7_69 : decode method_3_code 69 = .ok (.ldc2_w 27, 3) := by decide +kernel
theorem d7_72 : decode method_3_code 72 = .ok (.land, 1) := by decide +kernel
theorem d7_73 : decode method_3_code 73 = .ok (.lstore 22, 2) := by decide +kernel
theorem d7_75 : decode method_3_code 75 = .ok (.lload 20, 2) := by decide +kernel
theorem d7_77 : decode method_3_code 77 = .ok (.ldc2_w 29, 3) := by decide +kernel
theorem d7_80 : decode method_3_code 80 = .ok (.lcmp, 1) := by decide +kernel
theorem d7_81 : decode method_3_code 81 = .ok (.ifCond .le 7, 3) := by decide +kernel
theorem d7_84 : decode method_3_code 84 = .ok (.ldc2_w 33, 3) := by decide +kernel
theorem d7_87 : decode method_3_code 87 = .ok (.lreturn, 1) := by decide +kernel
theorem d7_88 : decode method_3_code 88 = .ok (.lload 20, 2) := by decide +kernel
theorem d7_90 : decode method_3_code 90 = .ok (.ldc2_w 35, 3) := by decide +kernel
theorem d7_93 : decode method_3_code 93 = .ok (.lcmp, 1) := by decide +kernel
theorem d7_94 : decode method_3_code 94 = .ok (.ifCond .ge 7, 3) := by decide +kernel
theorem d7_97 : decode method_3_code 97 = .ok (.ldc2_w 37, 3) := by decide +kernel
theorem d7_100 : decode method_3_code 100 = .ok (.lreturn, 1) := by decide +kernel
theorem d7_101 : decode method_3_code 101 = .ok (.lload 20, 2) := by decide +kernel
theorem d7_103 : decode method_3_code 103 = .ok (.ldc2_w 35, 3) := by decide +kernel
theorem d7_106 : decode method_3_code 106 = .ok (.lcmp, 1) := by decide +kernel
theorem d7_107 : decode method_3_code 107 = .ok (.ifCond .ne 14, 3) := by decide +kernel
theorem d7_110 : decode method_3_code 110 = .ok (.lload 22, 2) := by decide +kernel
theorem d7_112 : decode method_3_code 112 = .ok (.lconst 0, 1) := by decide +kernel
theorem d7_113 : decode method_3_code 113 = .ok (.lcmp, 1) := by decide +kernel
theorem d7_114 : decode method_3_code 114 = .ok (.ifCond .ne 7, 3) := by decide +kernel
theorem d7_117 : decode method_3_code 117 = .ok (.ldc2_w 37, 3) := by decide +kernel
theorem d7_120 : decode method_3_code 120 = .ok (.lreturn, 1) := by decide +kernel
theorem d7_121 : decode method_3_code 121 = .ok (.lload 20, 2) := by decide +kernel
theorem d7_123 : decode method_3_code 123 = .ok (.bipush 32, 2) := by decide +kernel
theorem d7_125 : decode method_3_code 125 = .ok (.lshl, 1) := by decide +kernel
theorem d7_126 : decode method_3_code 126 = .ok (.lload 22, 2) := by decide +kernel
theorem d7_128 : decode method_3_code 128 = .ok (.lor, 1) := by decide +kernel
theorem d7_129 : decode method_3_code 129 = .ok (.lreturn, 1) := by decide +kernel
set_option maxRecDepth 65536 in
set_option maxHeartbeats 4000000 in
theorem c_exp (l : Launch) (Z : State) (a0 : Array Value) (hw : ∀ d ∈ tables_1, d.before a0 Z = true) (n0 : Nat) (μ : Mem) (x : Int64) (y : Int64) (z : Int64)  :
    Con l Z n0 (⟨"com/example/parcours/parcours/search/ExactSumSubtractPinLaw", "expected", "(JJJ)J"⟩ : MethodName) method_3_code 24 (some .long) [] rm_7 rm_7.cells rm_7.slots #[(.long x), (.long y), (.long z)] μ (RJ fun r μ' => μ' = μ ∧ r.toInt = sat (x.toInt - y.toInt - z.toInt)) := by
  refine Con.intro (L0 := #[.val (.long x), .second, .val (.long y), .second, .val (.long z), .second, .unset, .unset, .unset, .unset, .unset, .unset, .unset, .unset, .unset, .unset, .unset, .unset, .unset, .unset, .unset, .unset, .unset, .unset]) (plainFor_of_name (by first | (simp [plainName, overriddenIn]; done) | decide +kernel)) (fun m => by first | (simp [entryFrame, mkF, argsToLocals, Value.category]; done) | rfl) ?_
  intro p e s m below meth c C
  have C : Ctx p s m meth c Z "com/example/parcours/parcours/search/ExactSumSubtractPinLaw" "expected" method_3_code 24 (some .long) := C
  refine Own.lloadN C d7_0 (q := 1) rfl rfl ?_
  refine Own.bipush C d7_1 (q := 3) rfl (z := 32) (by decide) ?_
  refine Own.lshr C d7_3 (q := 4) rfl fun z3 e3 => ?_
  refine Own.lstore C d7_4 (q := 6) rfl (L' := #[.val (.long x), .second, .val (.long y), .second, .val (.long z), .second, .val (.long z3), .second, .unset, .unset, .unset, .unset, .unset, .unset, .unset, .unset, .unset, .unset, .unset, .unset, .unset, .unset, .unset, .unset]) rfl ?_
  refine Own.lloadN C d7_6 (q := 7) rfl rfl ?_
  refine Own.ldcJ C d7_7 (q := 10) rfl (hw _ (List.mem_of_getElem? (i := 36) rfl)) ?_
  refine Own.land C d7_10 (q := 11) rfl fun z10 e10 => ?_
  refine Own.lstore C d7_11 (q := 13) rfl (L' := #[.val (.long x), .second, .val (.long y), .second, .val (.long z), .second, .val (.long z3), .second, .val (.long z10), .second, .unset, .unset, .unset, .unset, .unset, .unset, .unset, .unset, .unset, .unset, .unset, .unset, .unset, .unset]) rfl ?_
  refine Own.lloadN C d7_13 (q := 14) rfl rfl ?_
  refine Own.bipush C d7_14 (q := 16) rfl (z := 32) (by decide) ?_
  refine Own.lshr C d7_16 (q := 17) rfl fun z16 e16 => ?_
  refine Own.lstore C d7_17 (q := 19) rfl (L' := #[.val (.long x), .second, .val (.long y), .second, .val (.long z), .second, .val (.long z3), .second, .val (.long z10), .second, .val (.long z16), .second, .unset, .unset, .unset, .unset, .unset, .unset, .unset, .unset, .unset, .unset, .unset, .unset]) rfl ?_
  refine Own.lloadN C d7_19 (q := 20) rfl rfl ?_
  refine Own.ldcJ C d7_20 (q := 23) rfl (hw _ (List.mem_of_getElem? (i := 36) rfl)) ?_
  refine Own.land C d7_23 (q := 24) rfl fun z23 e23 => ?_
  refine Own.lstore C d7_24 (q := 26) rfl (L' := #[.val (.long x), .second, .val (.long y), .second, .val (.long z), .second, .val (.long z3), .second, .val (.long z10), .second, .val (.long z16), .second, .val (.long z23), .second, .unset, .unset, .unset, .unset, .unset, .unset, .unset, .unset, .unset, .unset]) rfl ?_
  refine Own.lload C d7_26 (q := 28) rfl rfl ?_
  refine Own.bipush C d7_28 (q := 30) rfl (z := 32) (by decide) ?_
  refine Own.lshr C d7_30 (q := 31) rfl fun z30 e30 => ?_
  refine Own.lstore C d7_31 (q := 33) rfl (L' := #[.val (.long x), .second, .val (.long y), .second, .val (.long z), .second, .val (.long z3), .second, .val (.long z10), .second, .val (.long z16), .second, .val (.long z23), .second, .val (.long z30), .second, .unset, .unset, .unset, .unset, .unset, .unset, .unset, .unset]) rfl ?_
  refine Own.lload C d7_33 (q := 35) rfl rfl ?_
  refine Own.ldcJ C d7_35 (q := 38) rfl (hw _ (List.mem_of_getElem? (i := 36) rfl)) ?_
  refine Own.land C d7_38 (q := 39) rfl fun z38 e38 => ?_
  refine Own.lstore C d7_39 (q := 41) rfl (L' := #[.val (.long x), .second, .val (.long y), .second, .val (.long z), .second, .val (.long z3), .second, .val (.long z10), .second, .val (.long z16), .second, .val (.long z23), .second, .val (.long z30), .second, .val (.long z38), .second, .unset, .unset, .unset, .unset, .unset, .unset]) rfl ?_
  refine Own.lload C d7_41 (q := 43) rfl rfl ?_
  refine Own.lload C d7_43 (q := 45) rfl rfl ?_
  refine Own.lsub C d7_45 (q := 46) rfl fun z45 e45 => ?_
  refine Own.lload C d7_46 (q := 48) rfl rfl ?_
  refine Own.lsub C d7_48 (q := 49) rfl fun z48 e48 => ?_
  refine Own.lstore C d7_49 (q := 51) rfl (L' := #[.val (.long x), .second, .val (.long y), .second, .val (.long z), .second, .val (.long z3), .second, .val (.long z10), .second, .val (.long z16), .second, .val (.long z23), .second, .val (.long z30), .second, .val (.long z38), .second, .val (.long z48), .second, .unset, .unset, .unset, .unset]) rfl ?_
  refine Own.lload C d7_51 (q := 53) rfl rfl ?_
  refine Own.lload C d7_53 (q := 55) rfl rfl ?_
  refine Own.lsub C d7_55 (q := 56) rfl fun z55 e55 => ?_
  refine Own.lload C d7_56 (q := 58) rfl rfl ?_
  refine Own.lsub C d7_58 (q := 59) rfl fun z58 e58 => ?_
  refine Own.lload C d7_59 (q := 61) rfl rfl ?_
  refine Own.bipush C d7_61 (q := 63) rfl (z := 32) (by decide) ?_
  refine Own.lshr C d7_63 (q := 64) rfl fun z63 e63 => ?_
  refine Own.ladd C d7_64 (q := 65) rfl fun z64 e64 => ?_
  refine Own.lstore C d7_65 (q := 67) rfl (L' := #[.val (.long x), .second, .val (.long y), .second, .val (.long z), .second, .val (.long z3), .second, .val (.long z10), .second, .val (.long z16), .second, .val (.long z23), .second, .val (.long z30), .second, .val (.long z38), .second, .val (.long z48), .second, .val (.long z64), .second, .unset, .unset]) rfl ?_
  refine Own.lload C d7_67 (q := 69) rfl rfl ?_
  refine Own.ldcJ C d7_69 (q := 72) rfl (hw _ (List.mem_of_getElem? (i := 36) rfl)) ?_
  refine Own.land C d7_72 (q := 73) rfl fun z72 e72 => ?_
  refine Own.lstore C d7_73 (q := 75) rfl (L' := #[.val (.long x), .second, .val (.long y), .second, .val (.long z), .second, .val (.long z3), .second, .val (.long z10), .second, .val (.long z16), .second, .val (.long z23), .second, .val (.long z30), .second, .val (.long z38), .second, .val (.long z48), .second, .val (.long z64), .second, .val (.long z72), .second]) rfl ?_
  refine Own.lload C d7_75 (q := 77) rfl rfl ?_
  refine Own.ldcJ C d7_77 (q := 80) rfl (hw _ (List.mem_of_getElem? (i := 37) rfl)) ?_
  refine Own.lcmp_le C d7_80 (pc1 := 81) rfl d7_81 (q := 84) rfl (r := 88) (by decide) (fun h80 => ?_) (fun h80 => ?_)
  · refine Own.lload C d7_88 (q := 90) rfl rfl ?_
    refine Own.ldcJ C d7_90 (q := 93) rfl (hw _ (List.mem_of_getElem? (i := 38) rfl)) ?_
    refine Own.lcmp_ge C d7_93 (pc1 := 94) rfl d7_94 (q := 97) rfl (r := 101) (by decide) (fun h93 => ?_) (fun h93 => ?_)
    · refine Own.lload C d7_101 (q := 103) rfl rfl ?_
      refine Own.ldcJ C d7_103 (q := 106) rfl (hw _ (List.mem_of_getElem? (i := 38) rfl)) ?_
      refine Own.lcmp_ne C d7_106 (pc1 := 107) rfl d7_107 (q := 110) rfl (r := 121) (by decide) (fun h106 => ?_) (fun h106 => ?_)
      · refine Own.lload C d7_121 (q := 123) rfl rfl ?_
        refine Own.bipush C d7_123 (q := 125) rfl (z := 32) (by decide) ?_
        refine Own.lshl C d7_125 (q := 126) rfl fun z125 e125 => ?_
        refine Own.lload C d7_126 (q := 128) rfl rfl ?_
        refine Own.lor C d7_128 (q := 129) rfl fun z128 e128 => ?_
        refine Own.lreturn C d7_129 (by decide) (by decide) ?_
        have k := exp_of e3 e10 e16 e23 e30 e38 e45 e48 e55 e58 e63 e64 e72
        have j := join_of h80 h93 k.2 e125 e128
        clear e3 e10 e16 e23 e30 e38 e45 e48 e55 e58 e63 e64 e72 e125 e128
        rw [Int64.lt_iff_toInt_lt] at h80; simp only [show (2147483647 : Int64).toInt = 2147483647 from rfl, show (-2147483648 : Int64).toInt = -2147483648 from rfl] at h80
        rw [Int64.lt_iff_toInt_lt] at h93; simp only [show (2147483647 : Int64).toInt = 2147483647 from rfl, show (-2147483648 : Int64).toInt = -2147483648 from rfl] at h93
        rw [← Int64.toInt_inj] at h106; simp only [show (-2147483648 : Int64).toInt = -2147483648 from rfl, show (0 : Int64).toInt = 0 from rfl] at h106
        refine ⟨_, rfl, rfl, ?_⟩
        rw [j]
        exact sat_eq (by omega) (by omega) (by omega)
      · refine Own.lload C d7_110 (q := 112) rfl rfl ?_
        refine Own.lconst C d7_112 (q := 113) rfl (z := 0) (by decide) ?_
        refine Own.lcmp_ne C d7_113 (pc1 := 114) rfl d7_114 (q := 117) rfl (r := 121) (by decide) (fun h113 => ?_) (fun h113 => ?_)
        · refine Own.lload C d7_121 (q := 123) rfl rfl ?_
          refine Own.bipush C d7_123 (q := 125) rfl (z := 32) (by decide) ?_
          refine Own.lshl C d7_125 (q := 126) rfl fun z125 e125 => ?_
          refine Own.lload C d7_126 (q := 128) rfl rfl ?_
          refine Own.lor C d7_128 (q := 129) rfl fun z128 e128 => ?_
          refine Own.lreturn C d7_129 (by decide) (by decide) ?_
          have k := exp_of e3 e10 e16 e23 e30 e38 e45 e48 e55 e58 e63 e64 e72
          have j := join_of h80 h93 k.2 e125 e128
          clear e3 e10 e16 e23 e30 e38 e45 e48 e55 e58 e63 e64 e72 e125 e128
          rw [Int64.lt_iff_toInt_lt] at h80; simp only [show (2147483647 : Int64).toInt = 2147483647 from rfl, show (-2147483648 : Int64).toInt = -2147483648 from rfl] at h80
          rw [Int64.lt_iff_toInt_lt] at h93; simp only [show (2147483647 : Int64).toInt = 2147483647 from rfl, show (-2147483648 : Int64).toInt = -2147483648 from rfl] at h93
          rw [← Int64.toInt_inj] at h106; simp only [show (-2147483648 : Int64).toInt = -2147483648 from rfl, show (0 : Int64).toInt = 0 from rfl] at h106
          rw [← Int64.toInt_inj] at h113; simp only [show (-2147483648 : Int64).toInt = -2147483648 from rfl, show (0 : Int64).toInt = 0 from rfl] at h113
          refine ⟨_, rfl, rfl, ?_⟩
          rw [j]
          exact sat_eq (by omega) (by omega) (by omega)
        · refine Own.ldcJ C d7_117 (q := 120) rfl (hw _ (List.mem_of_getElem? (i := 41) rfl)) ?_
          refine Own.lreturn C d7_120 (by decide) (by decide) ?_
          have k := exp_of e3 e10 e16 e23 e30 e38 e45 e48 e55 e58 e63 e64 e72
          clear e3 e10 e16 e23 e30 e38 e45 e48 e55 e58 e63 e64 e72
          rw [Int64.lt_iff_toInt_lt] at h80; simp only [show (2147483647 : Int64).toInt = 2147483647 from rfl, show (-2147483648 : Int64).toInt = -2147483648 from rfl] at h80
          rw [Int64.lt_iff_toInt_lt] at h93; simp only [show (2147483647 : Int64).toInt = 2147483647 from rfl, show (-2147483648 : Int64).toInt = -2147483648 from rfl] at h93
          rw [← Int64.toInt_inj] at h106; simp only [show (-2147483648 : Int64).toInt = -2147483648 from rfl, show (0 : Int64).toInt = 0 from rfl] at h106
          rw [← Int64.toInt_inj] at h113; simp only [show (-2147483648 : Int64).toInt = -2147483648 from rfl, show (0 : Int64).toInt = 0 from rfl] at h113
          refine ⟨_, rfl, rfl, ?_⟩
          rw [show (-9223372036854775807 : Int64).toInt = -9223372036854775807 from rfl]
          exact sat_eq (by omega) (by omega) (by omega)
    · refine Own.ldcJ C d7_97 (q := 100) rfl (hw _ (List.mem_of_getElem? (i := 41) rfl)) ?_
      refine Own.lreturn C d7_100 (by decide) (by decide) ?_
      have k := exp_of e3 e10 e16 e23 e30 e38 e45 e48 e55 e58 e63 e64 e72
      clear e3 e10 e16 e23 e30 e38 e45 e48 e55 e58 e63 e64 e72
      rw [Int64.lt_iff_toInt_lt] at h80; simp only [show (2147483647 : Int64).toInt = 2147483647 from rfl, show (-2147483648 : Int64).toInt = -2147483648 from rfl] at h80
      rw [Int64.lt_iff_toInt_lt] at h93; simp only [show (2147483647 : Int64).toInt = 2147483647 from rfl, show (-2147483648 : Int64).toInt = -2147483648 from rfl] at h93
      refine ⟨_, rfl, rfl, ?_⟩
      rw [show (-9223372036854775807 : Int64).toInt = -9223372036854775807 from rfl]
      exact sat_eq (by omega) (by omega) (by omega)
  · refine Own.ldcJ C d7_84 (q := 87) rfl (hw _ (List.mem_of_getElem? (i := 43) rfl)) ?_
    refine Own.lreturn C d7_87 (by decide) (by decide) ?_
    have k := exp_of e3 e10 e16 e23 e30 e38 e45 e48 e55 e58 e63 e64 e72
    clear e3 e10 e16 e23 e30 e38 e45 e48 e55 e58 e63 e64 e72
    rw [Int64.lt_iff_toInt_lt] at h80; simp only [show (2147483647 : Int64).toInt = 2147483647 from rfl, show (-2147483648 : Int64).toInt = -2147483648 from rfl] at h80
    refine ⟨_, rfl, rfl, ?_⟩
    rw [show (9223372036854775807 : Int64).toInt = 9223372036854775807 from rfl]
    exact sat_eq (by omega) (by omega) (by omega)
theorem pd_1 : parseMethodDescriptor "()V" = some ⟨[], none⟩ := by decide +kernel
theorem pd_2 : parseMethodDescriptor "(J)V" = some ⟨[.long], none⟩ := by decide +kernel
theorem pd_3 : parseMethodDescriptor "(Lcom/example/parcours/parcours/search/ExactSum;)J" = some ⟨[(.object "com/example/parcours/parcours/search/ExactSum")], some .long⟩ := by decide +kernel
theorem pd_4 : parseMethodDescriptor "(JJJ)J" = some ⟨[.long, .long, .long], some .long⟩ := by decide +kernel
set_option maxRecDepth 65536 in
set_option maxHeartbeats 4000000 in
theorem c_law (l : Launch) (Z : State) (a0 : Array Value) (hw : ∀ d ∈ tables_1, d.before a0 Z = true) (n0 : Nat) (μ : Mem) (u : Int64) (w : Int64) (t : Int64)  :
    Con l Z n0 x code maxLocals ret tables_1 room_1 room_1.cells room_1.slots #[(.long u), (.long w), (.long t)] μ (fun v _ => v = some (.int 1)) := by
  refine Con.intro (L0 := #[.val (.long u), .second, .val (.long w), .second, .val (.long t), .second, .unset, .unset, .unset, .unset]) (plainFor_of_name (by first | (simp [plainName, overriddenIn]; done) | decide +kernel)) (fun m => by first | (simp [entryFrame, mkF, argsToLocals, Value.category, maxLocals]; done) | rfl) ?_
  intro p e s m below meth c C
  have C : Ctx p s m meth c Z "com/example/parcours/parcours/search/ExactSumSubtractPinLaw" "law" code maxLocals (some .boolean) := C
  refine Own.new C at_0 (q := 3) rfl (hw _ (List.mem_of_getElem? (i := 0) rfl)) (hw _ (List.mem_of_getElem? (i := 1) rfl)) (hw _ (List.mem_of_getElem? (i := 2) rfl)) (lay_ES hw) (by decide) (by decide) (by decide) fun a0_1 a0_1_f a0_1_g => ?_
  refine Own.dup C at_3 (q := 4) rfl rfl ?_
  refine Own.callI C at_4 (q := 7) rfl rfl (hw _ (List.mem_of_getElem? (i := 3) rfl)) (hw _ (List.mem_of_getElem? (i := 4) rfl)) (hw _ (List.mem_of_getElem? (i := 2) rfl)) (hw _ (List.mem_of_getElem? (i := 5) rfl)) (by decide) (W := 1) (rm := rm_1) (argsL := []) (st := [(.ref a0_1)]) (lenOf pd_1 rfl) rfl rfl (Nat.le_of_eq rfl) (by decide) (by decide) (by decide) (by decide) (c_init l Z a0 hw n0 _ a0_1) (nxV fun μ4 h4 => ?_)
  subst h4
  refine Own.astore C at_7 (q := 9) rfl (L' := #[.val (.long u), .second, .val (.long w), .second, .val (.long t), .second, .val (.ref a0_1), .unset, .unset, .unset]) rfl rfl ?_
  refine Own.new C at_9 (q := 12) rfl (hw _ (List.mem_of_getElem? (i := 0) rfl)) (hw _ (List.mem_of_getElem? (i := 1) rfl)) (hw _ (List.mem_of_getElem? (i := 2) rfl)) (lay_ES hw) (by decide) (by decide) (by decide) fun a9 a9_f a9_g => ?_
  have ne_a0_1_a9 := a9_f _ _ upd_same
  refine Own.dup C at_12 (q := 13) rfl rfl ?_
  refine Own.callI C at_13 (q := 16) rfl rfl (hw _ (List.mem_of_getElem? (i := 3) rfl)) (hw _ (List.mem_of_getElem? (i := 4) rfl)) (hw _ (List.mem_of_getElem? (i := 2) rfl)) (hw _ (List.mem_of_getElem? (i := 5) rfl)) (by decide) (W := 1) (rm := rm_1) (argsL := []) (st := [(.ref a9)]) (lenOf pd_1 rfl) rfl rfl (Nat.le_of_eq rfl) (by decide) (by decide) (by decide) (by decide) (c_init l Z a0 hw n0 _ a9) (nxV fun μ13 h13 => ?_)
  subst h13
  refine Own.astore C at_16 (q := 18) rfl (L' := #[.val (.long u), .second, .val (.long w), .second, .val (.long t), .second, .val (.ref a0_1), .val (.ref a9), .unset, .unset]) rfl rfl ?_
  refine Own.aload C at_18 (q := 20) rfl rfl rfl ?_
  refine Own.lloadN C at_20 (q := 21) rfl rfl ?_
  refine Own.callV C at_21 (q := 24) rfl (hw _ (List.mem_of_getElem? (i := 9) rfl)) (hw _ (List.mem_of_getElem? (i := 10) rfl)) (notFace_of_selects (args := #[]) (mvT C.2.2.2.1 (hw _ (List.mem_of_getElem? (i := 12) rfl)))) (hw _ (List.mem_of_getElem? (i := 12) rfl)) (hw _ (List.mem_of_getElem? (i := 11) rfl)) (hw _ (List.mem_of_getElem? (i := 2) rfl)) (hw _ (List.mem_of_getElem? (i := 13) rfl)) (by decide) (W := 0) (rm := rm_3) (argsL := [(.long u)]) (st := []) (lenOf pd_2 rfl) rfl rfl (Nat.le_of_eq rfl) (by decide) (by decide) (by decide) (by decide) (upd_at ne_a0_1_a9 upd_same) (c_set l Z a0 hw n0 _ a0_1 u (0 : Int64) (0 : Int64) (upd_at ne_a0_1_a9 upd_same) a0_1_g) (nxV fun μ21 h21 => ?_)
  subst h21
  refine Own.mem (upd_in upd_upd (Ne.symm ne_a0_1_a9)) ?_
  refine Own.aload C at_24 (q := 26) rfl rfl rfl ?_
  refine Own.lloadN C at_26 (q := 27) rfl rfl ?_
  refine Own.callV C at_27 (q := 30) rfl (hw _ (List.mem_of_getElem? (i := 18) rfl)) (hw _ (List.mem_of_getElem? (i := 19) rfl)) (notFace_of_selects (args := #[]) (mvT C.2.2.2.1 (hw _ (List.mem_of_getElem? (i := 21) rfl)))) (hw _ (List.mem_of_getElem? (i := 21) rfl)) (hw _ (List.mem_of_getElem? (i := 20) rfl)) (hw _ (List.mem_of_getElem? (i := 2) rfl)) (hw _ (List.mem_of_getElem? (i := 22) rfl)) (by decide) (W := 0) (rm := rm_4) (argsL := [(.long w)]) (st := []) (lenOf pd_2 rfl) rfl rfl (Nat.le_of_eq rfl) (by decide) (by decide) (by decide) (by decide) (upd_at ne_a0_1_a9 upd_same) (c_sub l Z a0 hw n0 _ a0_1 w u (0 : Int64) (upd_at ne_a0_1_a9 upd_same) a0_1_g (by decide)) (nxV fun μ27 h27 => ?_)
  obtain ⟨lo27, wr27, rfl, k27⟩ := h27
  refine Own.mem (upd_in upd_upd (Ne.symm ne_a0_1_a9)) ?_
  have hs34 : -9 ≤ wr27.toInt ∧ wr27.toInt ≤ 9 := by have := rng64 lo27; have := rng64 u; have := rng64 w; simp only [show (0 : Int64).toInt = 0 from rfl] at k27; omega
  refine Own.aload C at_30 (q := 32) rfl rfl rfl ?_
  refine Own.lload C at_32 (q := 34) rfl rfl ?_
  refine Own.callV C at_34 (q := 37) rfl (hw _ (List.mem_of_getElem? (i := 18) rfl)) (hw _ (List.mem_of_getElem? (i := 19) rfl)) (notFace_of_selects (args := #[]) (mvT C.2.2.2.1 (hw _ (List.mem_of_getElem? (i := 21) rfl)))) (hw _ (List.mem_of_getElem? (i := 21) rfl)) (hw _ (List.mem_of_getElem? (i := 20) rfl)) (hw _ (List.mem_of_getElem? (i := 2) rfl)) (hw _ (List.mem_of_getElem? (i := 22) rfl)) (by decide) (W := 0) (rm := rm_4) (argsL := [(.long t)]) (st := []) (lenOf pd_2 rfl) rfl rfl (Nat.le_of_eq rfl) (by decide) (by decide) (by decide) (by decide) (upd_at ne_a0_1_a9 upd_same) (c_sub l Z a0 hw n0 _ a0_1 t lo27 wr27 (upd_at ne_a0_1_a9 upd_same) a0_1_g hs34) (nxV fun μ34 h34 => ?_)
  obtain ⟨lo34, wr34, rfl, k34⟩ := h34
  refine Own.mem (upd_in upd_upd (Ne.symm ne_a0_1_a9)) ?_
  have hs41 : -9 ≤ wr34.toInt ∧ wr34.toInt ≤ 9 := by have := rng64 lo34; have := rng64 lo27; have := rng64 t; have := rng64 u; have := rng64 w; simp only [show (0 : Int64).toInt = 0 from rfl] at k27; omega
  refine Own.aload C at_37 (q := 39) rfl rfl rfl ?_
  refine Own.aload C at_39 (q := 41) rfl rfl rfl ?_
  refine Own.callV C at_41 (q := 44) rfl (hw _ (List.mem_of_getElem? (i := 23) rfl)) (hw _ (List.mem_of_getElem? (i := 24) rfl)) (notFace_of_selects (args := #[]) (mvT C.2.2.2.1 (hw _ (List.mem_of_getElem? (i := 26) rfl)))) (hw _ (List.mem_of_getElem? (i := 26) rfl)) (hw _ (List.mem_of_getElem? (i := 25) rfl)) (hw _ (List.mem_of_getElem? (i := 2) rfl)) (hw _ (List.mem_of_getElem? (i := 27) rfl)) (by decide) (W := 0) (rm := rm_5) (argsL := [(.ref a9)]) (st := []) (lenOf pd_3 rfl) rfl rfl (Nat.le_of_eq rfl) (by decide) (by decide) (by decide) (by decide) (upd_at ne_a0_1_a9 upd_same) (c_minus l Z a0 hw n0 _ a0_1 a9 lo34 wr34 (0 : Int64) (0 : Int64) (upd_at ne_a0_1_a9 upd_same) upd_same hs41 (by decide)) (nxJ fun z41 μ41 h41 => ?_)
  obtain ⟨rfl, h41⟩ := h41
  refine Own.lstore C at_44 (q := 46) rfl (L' := #[.val (.long u), .second, .val (.long w), .second, .val (.long t), .second, .val (.ref a0_1), .val (.ref a9), .val (.long z41), .second]) rfl ?_
  refine Own.lload C at_46 (q := 48) rfl rfl ?_
  refine Own.lloadN C at_48 (q := 49) rfl rfl ?_
  refine Own.lloadN C at_49 (q := 50) rfl rfl ?_
  refine Own.lload C at_50 (q := 52) rfl rfl ?_
  refine Own.callS C at_52 (q := 55) rfl (hw _ (List.mem_of_getElem? (i := 32) rfl)) (hw _ (List.mem_of_getElem? (i := 33) rfl)) (hw _ (List.mem_of_getElem? (i := 34) rfl)) (hw _ (List.mem_of_getElem? (i := 35) rfl)) (by decide) (W := 2) (rm := rm_7) (argsL := [(.long u), (.long w), (.long t)]) (st := [(.long z41)]) (lenOf pd_4 rfl) rfl rfl (Nat.le_of_eq rfl) (by decide) (by decide) (by decide) (by decide) (c_exp l Z a0 hw n0 _ u w t) (nxJ fun z52 μ52 h52 => ?_)
  obtain ⟨rfl, h52⟩ := h52
  refine Own.lcmp_ne C at_55 (pc1 := 56) rfl at_56 (q := 59) rfl (r := 63) (by decide) (fun h55 => ?_) (fun h55 => ?_)
  · refine absurd (Int64.toInt_inj.mp (h41.trans ((congrArg sat ?_).trans h52.symm))) h55; simp only [show (0 : Int64).toInt = 0 from rfl] at k27 ⊢; omega
  · refine Own.iconst C at_59 (q := 60) rfl (z := 1) (by decide) ?_
    refine Own.goto C at_60 (q := 64) (by decide) ?_
    refine Own.nreturn C at_64 (by simp) (z' := (1 : Int32)) (by decide) (by decide) (by decide) ?_
    rfl
set_option maxRecDepth 65536 in
set_option maxHeartbeats 4000000 in
theorem comes_1 {Post : Tables → Env → Array Value → State → Outcome → State → Prop} (hpost : ∀ tb e args s v u, (limb_1_1.after args s (.returned v) u = true ∧ limb_1_2.after args s (.returned v) u = true ∧ True) → FrameEnd s (.returned v) u (Jvm.fieldLocs frame_1_writes args s ++ Jvm.arrayLocs frame_1_arrays args s ++ Jvm.staticLocs frame_1_statics s) 16 128 → Post tb e args s (.returned v) u) :
    ArmFor flags0 classFile x code maxLocals ret World_1 tables_1 room_1 Calls_1 rest_1 Pre_1 Post := by
  intro l hfl _ _ p e ha hc hk s m args below hf hA hF happ hP
  obtain ⟨hcalls, hrest, hpre⟩ := hP
  obtain ⟨-, -, -, hnamed, -, -, -, hat⟩ := (Spec.applies_iff hf).mp happ
  obtain ⟨hg, hn⟩ := and_e (Cond.before_iff.mp (show (Jvm.Cond.and given_1 narrow_1).before args s = true from hpre))
  obtain ⟨g0, hg⟩ := and_e hg
  obtain ⟨g1, hg⟩ := and_e hg
  obtain ⟨g2, hg⟩ := and_e hg
  have g3 := hg
  obtain ⟨w0, w1, w2, rfl⟩ : ∃ w0 w1 w2 : Value, args = #[w0, w1, w2] := by
    have hs : args.size = 3 := by simpa [Cond.value, given_1] using g0
    obtain ⟨L⟩ := args
    match L, hs with
    | [w0, w1, w2], _ => exact ⟨w0, w1, w2, rfl⟩
  have hw := fun d (hd : d ∈ tables_1) => atoms_spec (ws := Jvm.Cond.code x code maxLocals ret :: tables_1) hat d (List.mem_cons_of_mem _ hd)
  have hfit : Fit s := fun {y c} hc i hi => by
    obtain ⟨ha, rfl⟩ := Array.getElem?_eq_some_iff.mp hc
    have q := List.all_eq_true.mp ((Array.all_eq_true_iff_forall_mem.mp hF) _ (Array.getElem_mem ha)) i (List.mem_range.mpr hi)
    simpa [Array.getElem?_eq_getElem hi] using q
  obtain ⟨i0, ei0⟩ := isL_v g1
  obtain rfl : w0 = (.long i0) := Option.some.inj ei0
  obtain ⟨i1, ei1⟩ := isL_v g2
  obtain rfl : w1 = (.long i1) := Option.some.inj ei1
  obtain ⟨i2, ei2⟩ := isL_v g3
  obtain rfl : w2 = (.long i2) := Option.some.inj ei2
  obtain ⟨n, o, h1, h2, h3, _, L, rfl, ⟨N, _, -, rfl⟩, hq⟩ := c_law l s _ hw s.heap.size (fun _ => none) i0 i1 i2 s.heap ⟨Old.start s, fun _ _ q => nomatch q⟩ p e ha hc hk s m _ below hf ((Spec.applies_iff_loose hf).mp happ).1 ⟨rfl, State.Warmed39.refl s, rfl⟩ trivial
  refine ⟨n, _, h1, h2, h3, hpost _ _ _ _ _ _ ⟨Cond.after_iff.mpr rfl, Cond.after_iff.mpr (eq_i res_at (Term.int_eval (1)) rfl), trivial⟩ ⟨hq.1, hq.2.1, (hq.2.2.sift fun y hy => Or.inr (N y hy)).mono (by decide) (by decide)⟩⟩
theorem main_1_1 : Claimed_1_1 := comes_1 fun _ _ _ _ _ _ h hF => ⟨h.1, hF⟩
theorem main_1_2 : Claimed_1_2 := comes_1 fun _ _ _ _ _ _ h hF => ⟨h.2.1, hF⟩
end Jvm.Pilot.@@N@@
namespace Jvm.Pilot.@@N@@
open Jvm Jvm.ClassFile Sem Op Lib Jvm.Free Jvm.Stand Jvm.Pilot.@@N@@.Jvm.D
/-! MADE BY PROGRAM (witnessworld.py) out of the Statement's table words and the real class files: 9 classes; the members and pool entries that the words name. The judged class is class 1, her method 1. -/
namespace start1
open Jvm.ClassFile
def u (s : String) : CpInfo := .utf8 (stringToUtf16 s)
/-- a pool by its gaps: so many unusable entries, then the entry; so many at the end -/
def gap : Nat → List CpInfo → List CpInfo
  | 0, r => r
  | n + 1, r => .unusable :: gap n r
def poolList (es : List (Nat × CpInfo)) (last : Nat) : List CpInfo := es.foldr (fun e r => gap e.1 (e.2 :: r)) (gap last [])
def pool (es : List (Nat × CpInfo)) (last : Nat) : Array CpInfo := ⟨poolList es last⟩
def fileOf (pool : Array CpInfo) (this : Nat) (attrs : Array Attribute := #[]) (ms : Array MethodInfo := #[]) (fl : Nat := 33) (sup : Nat := 0) (ifs : Array Nat := #[]) (fds : Array FieldInfo := #[]) : ClassFile where
  minorVersion := 0
  majorVersion := 65
  constantPool := pool
  accessFlags := fl
  thisClass := this
  superClass := sup
  interfaces := ifs
  fields := fds
  methods := ms
  attributes := attrs
def plain (name : String) (sup : Option ClassId) : Class where
  name := name
  kind := .ordinary
  loader := none
  accessFlags := 33
  super := sup
  interfaces := #[]
  cf := none
  fields := #[]
  methods := #[]
  instanceTypes := #[]
  staticTypes := #[]
  resolved := #[]
  callSites := []
  init := .initialized
  statics := none
  mirror := none

def pool0 : Array CpInfo := pool [(5, u "<init>"), (0, u "()V"), (1, .class_ 10), (1, u "java/lang/Object")] 113

def k0c0 : Code := { maxStack := 0, maxLocals := 1, code := object_method_1_code, exceptionTable := #[], attributes := #[] }
def k0m0 : Method := { name := "<init>", desc := "()V", sig := { parameters := [], returnType := none }, accessFlags := 1, code := some k0c0 }
/-- java/lang/Object -/
def k0 : Class := { plain "java/lang/Object" none with
  accessFlags := 33
  interfaces := #[]
  cf := some (fileOf pool0 8 #[] #[{ accessFlags := 1, nameIndex := 5, descriptorIndex := 6, attributes := #[] }] 33 0 #[] #[])
  fields := #[]
  methods := #[k0m0]
  instanceTypes := #[]
  staticTypes := #[]
  resolved := Array.replicate 124 none
  statics := none }

def pool1 : Array CpInfo := pool [(2, .class_ 4), (0, .nameAndType 5 6), (0, u "java/lang/Object"), (0, u "<init>"), (0, u "()V"), (0, .class_ 8), (0, u "com/example/parcours/parcours/search/ExactSum"), (0, .methodref 7 3), (0, .methodref 7 11), (0, .nameAndType 12 13), (0, u "set"), (0, u "(J)V"), (0, .methodref 7 15), (0, .nameAndType 16 13), (0, u "subtract"), (0, .methodref 7 18), (0, .nameAndType 19 20), (0, u "minus"), (0, u "(Lcom/example/parcours/parcours/search/ExactSum;)J"), (0, .methodref 22 23), (0, .class_ 24), (0, .nameAndType 25 26), (0, u "com/example/parcours/parcours/search/ExactSumSubtractPinLaw"), (0, u "expected"), (0, u "(JJJ)J"), (0, .long 4294967295), (1, .long 2147483647), (3, .long 9223372036854775807), (1, .long 18446744071562067968), (1, .long 9223372036854775809), (3, u "law"), (0, u "(JJJ)Z")] 3

def k1m0 : Method := { name := "<init>", desc := "()V", sig := { parameters := [], returnType := none }, accessFlags := 1, code := none }
def k1c1 : Code := { maxStack := 8, maxLocals := 10, code := code, exceptionTable := #[], attributes := #[] }
def k1m1 : Method := { name := "law", desc := "(JJJ)Z", sig := { parameters := [.long, .long, .long], returnType := some .boolean }, accessFlags := 9, code := some k1c1 }
def k1c2 : Code := { maxStack := 5, maxLocals := 24, code := method_3_code, exceptionTable := #[], attributes := #[] }
def k1m2 : Method := { name := "expected", desc := "(JJJ)J", sig := { parameters := [.long, .long, .long], returnType := some .long }, accessFlags := 10, code := some k1c2 }
/-- com/example/parcours/parcours/search/ExactSumSubtractPinLaw -/
def k1 : Class := { plain "com/example/parcours/parcours/search/ExactSumSubtractPinLaw" (some 0) with
  accessFlags := 49
  interfaces := #[]
  cf := some (fileOf pool1 22 #[] #[{ accessFlags := 1, nameIndex := 5, descriptorIndex := 6, attributes := #[] }, { accessFlags := 9, nameIndex := 41, descriptorIndex := 42, attributes := #[] }, { accessFlags := 10, nameIndex := 25, descriptorIndex := 26, attributes := #[] }] 49 2 #[] #[])
  fields := #[]
  methods := #[k1m0, k1m1, k1m2]
  instanceTypes := #[]
  staticTypes := #[]
  resolved := Array.replicate 46 none
  statics := none }

def pool2 : Array CpInfo := pool [(1, .methodref 2 3), (0, .class_ 4), (0, .nameAndType 5 6), (0, u "java/lang/Object"), (0, u "<init>"), (0, u "()V"), (0, .fieldref 8 9), (0, .class_ 10), (0, .nameAndType 11 12), (0, u "com/example/parcours/parcours/search/ExactSum"), (0, u "low"), (0, u "J"), (0, .fieldref 8 14), (0, .nameAndType 15 12), (0, u "wraps"), (0, .long 18446744073709551615), (1, .methodref 8 19), (0, .nameAndType 20 21), (0, u "saturated"), (0, u "(JJ)J"), (2, .long 9223372036854775807), (1, .long 9223372036854775809), (1, .long 9223372036854775808), (3, u "set"), (0, u "(J)V"), (2, u "subtract"), (0, u "minus"), (0, u "(Lcom/example/parcours/parcours/search/ExactSum;)J")] 2

def k2c0 : Code := { maxStack := 1, maxLocals := 1, code := prog_50_method_1_code, exceptionTable := #[], attributes := #[] }
def k2m0 : Method := { name := "<init>", desc := "()V", sig := { parameters := [], returnType := none }, accessFlags := 0, code := some k2c0 }
def k2c1 : Code := { maxStack := 3, maxLocals := 3, code := prog_50_method_2_code, exceptionTable := #[], attributes := #[] }
def k2m1 : Method := { name := "set", desc := "(J)V", sig := { parameters := [.long], returnType := none }, accessFlags := 0, code := some k2c1 }
def k2c2 : Code := { maxStack := 7, maxLocals := 5, code := prog_50_method_4_code, exceptionTable := #[], attributes := #[] }
def k2m2 : Method := { name := "subtract", desc := "(J)V", sig := { parameters := [.long], returnType := none }, accessFlags := 0, code := some k2c2 }
def k2c3 : Code := { maxStack := 6, maxLocals := 6, code := prog_50_method_5_code, exceptionTable := #[], attributes := #[] }
def k2m3 : Method := { name := "minus", desc := "(Lcom/example/parcours/parcours/search/ExactSum;)J", sig := { parameters := [(.object "com/example/parcours/parcours/search/ExactSum")], returnType := some .long }, accessFlags := 0, code := some k2c3 }
def k2c4 : Code := { maxStack := 4, maxLocals := 4, code := prog_50_method_6_code, exceptionTable := #[], attributes := #[] }
def k2m4 : Method := { name := "saturated", desc := "(JJ)J", sig := { parameters := [.long, .long], returnType := some .long }, accessFlags := 10, code := some k2c4 }
/-- com/example/parcours/parcours/search/ExactSum -/
def k2 : Class := { plain "com/example/parcours/parcours/search/ExactSum" (some 0) with
  accessFlags := 32
  interfaces := #[]
  cf := some (fileOf pool2 8 #[] #[{ accessFlags := 0, nameIndex := 5, descriptorIndex := 6, attributes := #[] }, { accessFlags := 0, nameIndex := 32, descriptorIndex := 33, attributes := #[] }, { accessFlags := 0, nameIndex := 36, descriptorIndex := 33, attributes := #[] }, { accessFlags := 0, nameIndex := 37, descriptorIndex := 38, attributes := #[] }, { accessFlags := 10, nameIndex := 20, descriptorIndex := 21, attributes := #[] }] 32 2 #[] #[{ accessFlags := 2, nameIndex := 11, descriptorIndex := 12, attributes := #[] }, { accessFlags := 2, nameIndex := 15, descriptorIndex := 12, attributes := #[] }])
  fields := #[{ name := "low", type := .long, accessFlags := 2, slot := 0, constantValue := 0 }, { name := "wraps", type := .long, accessFlags := 2, slot := 1, constantValue := 0 }]
  methods := #[k2m0, k2m1, k2m2, k2m3, k2m4]
  instanceTypes := #[.long, .long]
  staticTypes := #[]
  resolved := Array.replicate 41 none
  statics := none }

def pool3 : Array CpInfo := pool [(1, u "java/lang/Cloneable"), (0, .class_ 1), (0, u "java/lang/Object"), (0, .class_ 3)] 3

/-- java/lang/Cloneable -/
def k3 : Class := { plain "java/lang/Cloneable" (some 0) with
  accessFlags := 1537
  interfaces := #[]
  cf := some (fileOf pool3 2 #[] #[] 1537 4 #[] #[])
  fields := #[]
  methods := #[]
  instanceTypes := #[]
  staticTypes := #[]
  resolved := Array.replicate 8 none
  statics := none }

def pool4 : Array CpInfo := pool [(1, u "java/io/Serializable"), (0, .class_ 1), (0, u "java/lang/Object"), (0, .class_ 3)] 3

/-- java/io/Serializable -/
def k4 : Class := { plain "java/io/Serializable" (some 0) with
  accessFlags := 1537
  interfaces := #[]
  cf := some (fileOf pool4 2 #[] #[] 1537 4 #[] #[])
  fields := #[]
  methods := #[]
  instanceTypes := #[]
  staticTypes := #[]
  resolved := Array.replicate 8 none
  statics := none }

/-- the primitive byte -/
def k5 : Class := { plain "byte" none with kind := .primitive 'B', accessFlags := 0x411 }
/-- [B -/
def k6 : Class := { plain "[B" (some 0) with kind := .array 5 .byte, interfaces := #[3, 4], accessFlags := 1041 }

/-- the primitive int -/
def k7 : Class := { plain "int" none with kind := .primitive 'I', accessFlags := 0x411 }
/-- [I -/
def k8 : Class := { plain "[I" (some 0) with kind := .array 7 .int, interfaces := #[3, 4], accessFlags := 1041 }

def heap : Heap := #[]
def classes : Array Class := #[k0, k1, k2, k3, k4, k5, k6, k7, k8]
def interned : List (Array UInt16 × Addr) := []
def slotsUsed : Nat := 0
def theMethod : MethodId := ⟨1, 1⟩
def args0 : Array Value := #[.long 5, .long 6, .long 7]
def aboutOver (below : List Frame) : State where
  vm := { classes := classes, interned := interned.toArray }
  heap := heap
  slotsUsed := slotsUsed
  threads := #[{ frames := .invoking theMethod args0 :: below }]
def below0 : List Frame := [.native { method := ⟨0, 0⟩, args := #[] }]
def about1 : State := aboutOver below0
def p0 : Program := .bare "" "" ""
def e0 : Env := launch0.env 0 0 0
theorem w_frames : about1.frames = Frame.invoking theMethod args0 :: below0 := rfl
set_option maxRecDepth 65536 in
theorem w_args : argsFit about1.vm theMethod args0 = true := by decide +kernel
set_option maxRecDepth 65536 in
theorem w_heap : heapFits about1 = true := by decide +kernel
set_option maxRecDepth 65536 in
theorem w_runnable : about1.curStatus? = some .runnable := by decide +kernel
set_option maxRecDepth 65536 in
theorem w_alone : about1.alone = true := by decide +kernel
set_option maxRecDepth 65536 in
theorem w_named : about1.methodNamed? x = some theMethod := by decide +kernel
set_option maxRecDepth 65536 in
theorem w_hears : about1.hears theMethod below0 = true := by decide +kernel
set_option maxRecDepth 65536 in
theorem w_ripe : about1.ripe theMethod args0 below0 = true := by decide +kernel
theorem w_running : about1.status = .running := rfl
set_option maxRecDepth 65536 in
theorem w_room : about1.hasRoom e0.platform room_1 = true :=
  launch0.hasRoom_least _ room_1 (by decide +kernel) (by decide +kernel) (by decide +kernel) (by decide +kernel) (by decide +kernel) (by decide +kernel)
theorem allAtoms_all (ts : List Jvm.Cond) (a : Array Jvm.Value) (st : Jvm.State) : (allAtoms ts).before a st = ts.all (fun c => c.before a st) := by
  induction ts with
  | nil => rfl
  | cons c t ih =>
    show (Jvm.Cond.and c (allAtoms t)).before a st = _
    rw [Jvm.Cond.before_and, ih, List.all_cons]
def words1 : List Jvm.Cond := Jvm.Cond.code x code maxLocals ret :: tables_1
/-- a 'code' word, met by the world's own term for the bytes: nothing is compared byte by byte -/
theorem code_word {y : MethodName} {bytes : ByteArray} {mx : Nat} {rt : Option FieldType} {a : Array Value} {s : State} {m : MethodId} {meth : Method} {c : Code} (h1 : s.methodNamed? y = some m) (h2 : s.vm.method? m = some meth) (h3 : meth.code = some c) (h4 : c.code = bytes)
    (h5 : (c.maxLocals == mx && c.exceptionTable.isEmpty && decide (c.maxStack ≤ mostOperands) && decide (meth.sig.returnType = rt) && !meth.locks && decide (parseMethodDescriptor y.desc = some meth.sig)) = true) : (Jvm.Cond.code y bytes mx rt).before a s = true := by
  simp only [Bool.and_eq_true, beq_iff_eq, Bool.not_eq_true', decide_eq_true_eq] at h5
  obtain ⟨⟨⟨⟨⟨g1, g2⟩, g3⟩, g4⟩, g5⟩, g6⟩ := h5
  simp [Cond.before, Cond.holds, Cond.value, h1, h2, h3, h4, g1, g2, g3, g4, g5, g6]
def isCode : Jvm.Cond → Bool
  | .code _ _ _ _ => true
  | _ => false
theorem all_split {L : List Jvm.Cond} {P : Jvm.Cond → Bool} (h1 : L.all (fun c => isCode c || P c) = true) (h2 : ∀ c ∈ L.filter isCode, P c = true) : L.all P = true := by
  refine List.all_eq_true.mpr fun c hc => ?_
  have h := List.all_eq_true.mp h1 c hc
  rcases Bool.eq_false_or_eq_true (isCode c) with hi | hi
  · exact h2 c (List.mem_filter.mpr ⟨hc, hi⟩)
  · simpa [hi] using h
set_option maxRecDepth 65536 in
theorem w_c0 : (Jvm.Cond.code x code maxLocals ret).before args0 about1 = true := code_word (m := ⟨1, 1⟩) (meth := k1m1) (c := k1c1) (by decide +kernel) rfl rfl rfl (by decide +kernel)
set_option maxRecDepth 65536 in
theorem w_c1 : (Jvm.Cond.code ({ cls := "com/example/parcours/parcours/search/ExactSum", name := "<init>", desc := "()V" } : Jvm.MethodName) prog_50_method_1_code (1 : Nat) (Option.none : Option Jvm.ClassFile.FieldType)).before args0 about1 = true := code_word (m := ⟨2, 0⟩) (meth := k2m0) (c := k2c0) (by decide +kernel) rfl rfl rfl (by decide +kernel)
set_option maxRecDepth 65536 in
theorem w_c2 : (Jvm.Cond.code ({ cls := "java/lang/Object", name := "<init>", desc := "()V" } : Jvm.MethodName) object_method_1_code (1 : Nat) (Option.none : Option Jvm.ClassFile.FieldType)).before args0 about1 = true := code_word (m := ⟨0, 0⟩) (meth := k0m0) (c := k0c0) (by decide +kernel) rfl rfl rfl (by decide +kernel)
set_option maxRecDepth 65536 in
theorem w_c3 : (Jvm.Cond.code ({ cls := "com/example/parcours/parcours/search/ExactSum", name := "set", desc := "(J)V" } : Jvm.MethodName) prog_50_method_2_code (3 : Nat) (Option.none : Option Jvm.ClassFile.FieldType)).before args0 about1 = true := code_word (m := ⟨2, 1⟩) (meth := k2m1) (c := k2c1) (by decide +kernel) rfl rfl rfl (by decide +kernel)
set_option maxRecDepth 65536 in
theorem w_c4 : (Jvm.Cond.code ({ cls := "com/example/parcours/parcours/search/ExactSum", name := "subtract", desc := "(J)V" } : Jvm.MethodName) prog_50_method_4_code (5 : Nat) (Option.none : Option Jvm.ClassFile.FieldType)).before args0 about1 = true := code_word (m := ⟨2, 2⟩) (meth := k2m2) (c := k2c2) (by decide +kernel) rfl rfl rfl (by decide +kernel)
set_option maxRecDepth 65536 in
theorem w_c5 : (Jvm.Cond.code ({ cls := "com/example/parcours/parcours/search/ExactSum", name := "minus", desc := "(Lcom/example/parcours/parcours/search/ExactSum;)J" } : Jvm.MethodName) prog_50_method_5_code (6 : Nat) (Option.some Jvm.ClassFile.FieldType.long)).before args0 about1 = true := code_word (m := ⟨2, 3⟩) (meth := k2m3) (c := k2c3) (by decide +kernel) rfl rfl rfl (by decide +kernel)
set_option maxRecDepth 65536 in
theorem w_c6 : (Jvm.Cond.code ({ cls := "com/example/parcours/parcours/search/ExactSum", name := "saturated", desc := "(JJ)J" } : Jvm.MethodName) prog_50_method_6_code (4 : Nat) (Option.some Jvm.ClassFile.FieldType.long)).before args0 about1 = true := code_word (m := ⟨2, 4⟩) (meth := k2m4) (c := k2c4) (by decide +kernel) rfl rfl rfl (by decide +kernel)
set_option maxRecDepth 65536 in
theorem w_c7 : (Jvm.Cond.code ({ cls := "com/example/parcours/parcours/search/ExactSumSubtractPinLaw", name := "expected", desc := "(JJJ)J" } : Jvm.MethodName) method_3_code (24 : Nat) (Option.some Jvm.ClassFile.FieldType.long)).before args0 about1 = true := code_word (m := ⟨1, 2⟩) (meth := k1m2) (c := k1c2) (by decide +kernel) rfl rfl rfl (by decide +kernel)
def codes1 : List Jvm.Cond := [Jvm.Cond.code x code maxLocals ret, Jvm.Cond.code ({ cls := "com/example/parcours/parcours/search/ExactSum", name := "<init>", desc := "()V" } : Jvm.MethodName) prog_50_method_1_code (1 : Nat) (Option.none : Option Jvm.ClassFile.FieldType), Jvm.Cond.code ({ cls := "java/lang/Object", name := "<init>", desc := "()V" } : Jvm.MethodName) object_method_1_code (1 : Nat) (Option.none : Option Jvm.ClassFile.FieldType), Jvm.Cond.code ({ cls := "com/example/parcours/parcours/search/ExactSum", name := "set", desc := "(J)V" } : Jvm.MethodName) prog_50_method_2_code (3 : Nat) (Option.none : Option Jvm.ClassFile.FieldType), Jvm.Cond.code ({ cls := "com/example/parcours/parcours/search/ExactSum", name := "subtract", desc := "(J)V" } : Jvm.MethodName) prog_50_method_4_code (5 : Nat) (Option.none : Option Jvm.ClassFile.FieldType), Jvm.Cond.code ({ cls := "com/example/parcours/parcours/search/ExactSum", name := "minus", desc := "(Lcom/example/parcours/parcours/search/ExactSum;)J" } : Jvm.MethodName) prog_50_method_5_code (6 : Nat) (Option.some Jvm.ClassFile.FieldType.long), Jvm.Cond.code ({ cls := "com/example/parcours/parcours/search/ExactSum", name := "saturated", desc := "(JJ)J" } : Jvm.MethodName) prog_50_method_6_code (4 : Nat) (Option.some Jvm.ClassFile.FieldType.long), Jvm.Cond.code ({ cls := "com/example/parcours/parcours/search/ExactSumSubtractPinLaw", name := "expected", desc := "(JJJ)J" } : Jvm.MethodName) method_3_code (24 : Nat) (Option.some Jvm.ClassFile.FieldType.long)]
set_option maxRecDepth 65536 in
theorem codes_eq : words1.filter isCode = codes1 := rfl
theorem w_codes : ∀ c ∈ words1.filter isCode, c.before args0 about1 = true := by
  rw [codes_eq]
  intro c hc
  simp only [codes1, List.mem_cons, List.not_mem_nil, or_false] at hc
  rcases hc with rfl | rfl | rfl | rfl | rfl | rfl | rfl | rfl
  · exact w_c0
  · exact w_c1
  · exact w_c2
  · exact w_c3
  · exact w_c4
  · exact w_c5
  · exact w_c6
  · exact w_c7
set_option maxRecDepth 65536 in
theorem w_t1 : (words1.take 24).all (fun c => isCode c || c.before args0 about1) = true := by decide +kernel
set_option maxRecDepth 65536 in
theorem w_t2 : (words1.drop 24).all (fun c => isCode c || c.before args0 about1) = true := by decide +kernel
theorem w_tables : (allAtoms (Jvm.Cond.code x code maxLocals ret :: tables_1)).before args0 about1 = true := by
  rw [allAtoms_all]
  show words1.all (fun c => c.before args0 about1) = true
  refine all_split ?_ w_codes
  rw [← List.take_append_drop 24 words1, List.all_append, w_t1, w_t2]
  rfl
set_option maxRecDepth 65536 in
theorem w_case : (Jvm.Cond.and given_1 narrow_1).before args0 about1 = true := by decide +kernel
theorem w_applies : (headSpec (Jvm.Cond.code x code maxLocals ret :: tables_1) room_1).applies x e0.platform about1 = true :=
  (Spec.applies_iff w_frames).mpr ⟨w_running, w_runnable, w_alone, w_named, w_hears, w_ripe, w_room, w_tables⟩
theorem atStart : AtStart classFile x code maxLocals ret World_1 tables_1 room_1 Calls_1 rest_1 Pre_1 launch0 p0 e0 about1 theMethod args0 below0 :=
  ⟨lists_1, trivial, launch0.admits_env _ _ _, launch0.least_env, fairChoices_fair.cas, fairChoices_fair.clock, w_frames, w_args, w_heap, w_applies, trivial, trivial, w_case⟩
end start1
theorem witness_1 : WitnessClaimed_1 := ⟨start1.p0, start1.e0, start1.about1, start1.theMethod, start1.args0, start1.below0, start1.atStart⟩
end Jvm.Pilot.@@N@@
