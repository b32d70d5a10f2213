import JvmDerived
import JvmDerived.Pilot.@@N@@Statement
import JvmDerived.Pilot.@@N@@Code
set_option linter.unusedVariables false
set_option linter.unusedSimpArgs false
namespace Jvm.Own
open Sem ClassFile Op Lib Jvm.Stand Jvm.Free Jvm.LawKit Jvm.RoadKit
/-! A plain store over the heap: what each address that matters holds. -/
abbrev Key : Type := String × String × String
abbrev Obj : Type := Sum (String × List (Key × Value)) (FieldType × List Value)
abbrev Mem : Type := Addr → Option Obj
def upd (μ : Mem) (a : Addr) (o : Obj) : Mem := fun x => if x = a then some o else μ x
section MemFacts
variable {μ : Mem} {a b : Addr} {o o' : Obj}
theorem upd_same : upd μ a o a = some o := by simp [upd]
theorem upd_ne (h : b ≠ a) : upd μ a o b = μ b := by simp [upd, h]
theorem upd_upd : upd (upd μ a o) a o' = upd μ a o' := by funext x; simp only [upd]; split <;> rfl
theorem upd_at (h : b ≠ a) {q : Obj} (hb : μ b = some q) : upd μ a o b = some q := (upd_ne h).trans hb
theorem upd_id (h : μ a = some o) : upd μ a o = μ := by funext x; simp only [upd]; split <;> simp_all
theorem upd_in {ν : Mem} {w : Obj} (h : upd μ a o = ν) (hb : b ≠ a) : upd (upd μ b w) a o = upd ν b w := by
  subst h; funext x; simp only [upd]
  by_cases h1 : x = a
  · subst h1; simp [Ne.symm hb]
  · by_cases h2 : x = b
    · subst h2; simp [h1]
    · simp [h1, h2]
theorem upd2 {ν ρ : Mem} {o' : Obj} (h1 : upd μ a o = ν) (h2 : upd ν b o' = ρ) : upd (upd μ a o) b o' = ρ := by subst h1; exact h2
theorem upd_list {ty : FieldType} {vs vs' : List Value} {ν : Mem} (h : vs = vs') (e : upd μ a (.inr (ty, vs')) = ν) : upd μ a (.inr (ty, vs)) = ν := by subst h; exact e
end MemFacts
def sl (Z : State) (q : Key × Value) : Nat := RoadKit.slotOf Z q.1.1 q.1.2.1 q.1.2.2
def IsO (Z : State) (h : Heap) (a : Addr) (C : String) (fs : List (Key × Value)) : Prop :=
  Exa Z h a C ∧ (∀ q ∈ fs, Fld Z h a q.1.1 q.1.2.1 q.1.2.2 q.2) ∧ fs.Pairwise fun q r => sl Z q ≠ sl Z r
def IsA (Z : State) (n0 : Nat) (h : Heap) (a : Addr) (ty : FieldType) (vs : List Value) : Prop :=
  ∃ c : Cell, Arr Z h a c ty ∧ c.slots.toList = vs ∧ vs.length < 2 ^ 31 ∧ (∀ v ∈ vs, fits ty v = true) ∧ (n0 ≤ a → ∀ C, ty = .object C → Ovr Z c.cls C)
def Is (Z : State) (n0 : Nat) (h : Heap) (a : Addr) : Obj → Prop
  | .inl q => IsO Z h a q.1 q.2
  | .inr q => IsA Z n0 h a q.1 q.2
def Hp (Z : State) (n0 : Nat) (μ : Mem) (h : Heap) : Prop := Old Z n0 h ∧ ∀ a o, μ a = some o → Is Z n0 h a o
section HpFacts
variable {Z : State} {n0 : Nat} {μ : Mem} {h h' : Heap} {a b : Addr} {o : Obj} {sl' : Nat} {v : Value}
theorem Is.lt (H : Is Z n0 h a o) : a < h.size := by
  rcases o with q | q
  · exact H.1.lt
  · obtain ⟨c, A, -⟩ := H; exact A.lt
theorem Is.ext (H : Is Z n0 h a o) (E : Ext h h') : Is Z n0 h' a o := by
  rcases o with q | q
  · exact ⟨H.1.ext E, fun r hr => (H.2.1 r hr).ext E, H.2.2⟩
  · obtain ⟨c, A, r⟩ := H; exact ⟨c, A.ext E, r⟩
theorem Is.other (H : Is Z n0 h b o) (W : Wr h h' a sl' v) (q : b ≠ a) : Is Z n0 h' b o := by
  rcases o with r | r
  · exact ⟨H.1.wr W, fun r hr => (H.2.1 r hr).other W (Or.inl q), H.2.2⟩
  · obtain ⟨c, A, r⟩ := H; exact ⟨c, A.other W q, r⟩
theorem Hp.ext (H : Hp Z n0 μ h) (E : Ext h h') : Hp Z n0 μ h' := ⟨H.1.ext E, fun a o q => (H.2 a o q).ext E⟩
theorem Hp.ge (H : Hp Z n0 μ h) : n0 ≤ h.size := H.1.1 ▸ H.1.2.1
theorem Hp.fresh (H : Hp Z n0 μ h) : ∀ b o, μ b = some o → b ≠ h.size := fun b o q => Nat.ne_of_lt (H.2 b o q).lt
theorem Hp.set (H : Hp Z n0 μ h') (I : Is Z n0 h' a o) : Hp Z n0 (upd μ a o) h' := ⟨H.1, fun b o' q => by
  by_cases e : b = a
  · subst e; rw [upd_same] at q; cases q; exact I
  · rw [upd_ne e] at q; exact H.2 b o' q⟩
theorem Hp.wr (H : Hp Z n0 μ h) (W : Wr h h' a sl' v) (g : n0 ≤ a) (I : Is Z n0 h' a o) : Hp Z n0 (upd μ a o) h' := ⟨H.1.wr W g, fun b o' q => by
  by_cases e : b = a
  · subst e; rw [upd_same] at q; cases q; exact I
  · rw [upd_ne e] at q; exact (H.2 b o' q).other W e⟩
theorem IsO.put {C : String} {fs fs' : List (Key × Value)} {k : Key} {i : Nat} {w : Value} (H : IsO Z h a C fs) (hi : fs[i]? = some (k, w)) (W : Wr h h' a (RoadKit.slotOf Z k.1 k.2.1 k.2.2) v) (e : fs.set i (k, v) = fs') : IsO Z h' a C fs' := by
  subst e
  obtain ⟨hlt, hk⟩ := List.getElem?_eq_some_iff.mp hi
  have F0 := H.2.1 _ (List.mem_of_getElem? hi)
  have hp := List.pairwise_iff_getElem.mp H.2.2
  refine ⟨H.1.wr W, fun q hq => ?_, ?_⟩
  · obtain ⟨j, hj, rfl⟩ := List.mem_iff_getElem.mp hq
    rw [List.length_set] at hj
    by_cases e : i = j
    · subst e; rw [List.getElem_set_self]; exact F0.same W
    · rw [List.getElem_set_ne e]
      refine (H.2.1 _ (List.getElem_mem hj)).other W (Or.inr ?_)
      have e0 : sl Z fs[i] = RoadKit.slotOf Z k.1 k.2.1 k.2.2 := by rw [hk]; rfl
      rcases Nat.lt_or_gt_of_ne e with q | q
      · have := hp i j hlt hj q; rw [e0] at this; exact fun z => this z.symm
      · have := hp j i hj hlt q; rw [e0] at this; exact this
  · rw [List.pairwise_iff_getElem]
    intro x y hx hy hxy
    rw [List.length_set] at hx hy
    have key : ∀ z (hz : z < (fs.set i (k, v)).length) (hz' : z < fs.length), sl Z (fs.set i (k, v))[z] = sl Z fs[z] := fun z hz hz' => by
      by_cases e : i = z
      · subst e; rw [List.getElem_set_self, hk]; rfl
      · rw [List.getElem_set_ne e]
    rw [key x _ hx, key y _ hy]
    exact hp x y hx hy hxy
theorem IsA.put {ty : FieldType} {vs : List Value} {j : Nat} (H : IsA Z n0 h a ty vs) (hv : fits ty v = true) (W : Wr h h' a j v) : IsA Z n0 h' a ty (vs.set j v) := by
  obtain ⟨c, A, rfl, hl, hf, ho⟩ := H
  refine ⟨_, A.same W, by simp [Cell.setSlot], by simpa using hl, fun w hw => ?_, ho⟩
  rcases List.mem_or_eq_of_mem_set hw with q | q
  · exact hf w q
  · subst q; exact hv
end HpFacts
/-- what is left to show from the frame g on -/
def Go (p : Program) (l : Launch) (e : Env) (R : Room) (s : State) (m : MethodId) (args : Array Value) (below : List Frame) (meth : Method) (c : Code) (Z : State) (n0 : Nat) (P : Option Value → Mem → Prop) (kc ks : Nat) (μ : Mem) (k n : Nat) (g : JFrame) : Prop :=
  ∀ T locs, Stand p l e R s m args below meth c T locs k n → Fr n0 locs → Hp Z n0 μ T.heap →
    ∃ s₂ o, Steps p.tables e below (T.setTop g) s₂ ∧ s₂.status = .running ∧ Ended s₂ below o ∧ ∃ v L, o = .returned v ∧ (Fr n0 L ∧ ∃ μ', Hp Z n0 μ' s₂.heap ∧ P v μ') ∧ FrameEnd s o s₂ L kc ks
/-- what stands fast while a body is walked -/
def Ctx (p : Program) (s : State) (m : MethodId) (meth : Method) (c : Code) (Z : State) (own nm : String) (B : ByteArray) (ml : Nat) (rt : Option FieldType) : Prop :=
  p.tables.exec = Jvm.exec ∧ c.code = B ∧ c.maxLocals = ml ∧ Z.Warmed39 s.vm ∧ s.vm.findClass own = some m.cls ∧ meth.sig.returnType = rt ∧ meth.locks = false ∧ meth.name = nm
/-- a body's contract -/
def Con (l : Launch) (Z : State) (n0 : Nat) (y : MethodName) (B : ByteArray) (ml : Nat) (rt : Option FieldType) (ws : List Cond) (rm : Room) (kc ks : Nat) (as : Array Value) (μ : Mem) (P : Option Value → Mem → Prop) : Prop :=
  ∀ h0, Hp Z n0 μ h0 → MetFree l y (head1 (Cond.code y B ml rt :: ws) rm) (fun a U => a = as ∧ Z.Warmed39 U.vm ∧ U.heap = h0) (fun _ _ _ _ _ => True)
    (fun _ U o U' => ∃ v L, o = .returned v ∧ (Fr n0 L ∧ ∃ μ', Hp Z n0 μ' U'.heap ∧ P v μ') ∧ FrameEnd U o U' L kc ks)
section Rules
variable {p : Program} {l : Launch} {e : Env} {R : Room} {s : State} {m : MethodId} {args : Array Value} {below : List Frame} {meth : Method} {c : Code} {Z : State} {a0 : Array Value} {n0 : Nat} {P : Option Value → Mem → Prop} {kc ks : Nat} {μ : Mem} {k n : Nat}
  {own nm : String} {B : ByteArray} {ml : Nat} {rt : Option FieldType} {pc q : Nat} {L L' : Array Slot} {st : List Value} {y : MethodName} {ws : List Cond} {rm : Room} {as : Array Value}
theorem Con.intro {L0 : Array Slot} (hx : plainFor y = true) (hef : ∀ m, entryFrame m as ml = mkF m 0 L0 [])
    (body : ∀ (p : Program) (e : Env) (s : State) (m : MethodId) (below : List Frame) (meth : Method) (c : Code), Ctx p s m meth c Z y.cls y.name B ml rt → Go p l e rm s m as below meth c Z n0 P kc ks μ 0 0 (mkF m 0 L0 [])) : Con l Z n0 y B ml rt ws rm kc ks as μ P := by
  intro h0 H0
  refine MetFree.of_bodySF hx hisR ?_
  intro p e s m args below meth c s₁ Bd hml hP hK
  obtain ⟨rfl, hZ, hh⟩ := hP
  have X0 : Stand p l e rm s m args below meth c s₁ [] 0 0 := Stand.of_body Bd
  have e0 : s₁.heap = h0 := by rw [← hh, Bd.state]; rfl
  obtain ⟨s2, o, g1, g2, g3, g4⟩ := body p e s m below meth c ⟨Bd.exec, Bd.bytes, hml, hZ, findClass_of_methodNamed Bd.named, Bd.returns, Bd.notSynchronized, (name_of_methodNamed Bd.named Bd.method).1⟩ s₁ [] X0 (Fr.nil n0) (by rw [e0]; exact H0)
  exact ⟨s2, o, castTop (hef m) g1, g2, g3, g4⟩
theorem Go.pure {g g' : JFrame} (K : Go p l e R s m args below meth c Z n0 P kc ks μ k n g') (st : ∀ T, At T m c below → ∀ target, Steps p.tables e below (T.setTop g') target → Steps p.tables e below (T.setTop g) target) : Go p l e R s m args below meth c Z n0 P kc ks μ k n g := fun T locs X F H => by
  obtain ⟨s2, o, h1, h2⟩ := K T locs X F H
  exact ⟨s2, o, st T X.here _ h1, h2⟩
theorem Go.stand {g g' : JFrame} (K : Go p l e R s m args below meth c Z n0 P kc ks μ k n g') (st : ∀ T locs, Stand p l e R s m args below meth c T locs k n → Hp Z n0 μ T.heap → ∃ T', Stand p l e R s m args below meth c T' locs k n ∧ T'.heap = T.heap ∧ ∀ target, Steps p.tables e below (T'.setTop g') target → Steps p.tables e below (T.setTop g) target) : Go p l e R s m args below meth c Z n0 P kc ks μ k n g := fun T locs X F H => by
  obtain ⟨T', X', e', h⟩ := st T locs X H
  obtain ⟨s2, o, h1, h2⟩ := K T' locs X' F (by rw [e']; exact H)
  exact ⟨s2, o, h _ h1, h2⟩
theorem iadd (C : Ctx p s m meth c Z own nm B ml rt) {x y : Int32} (hd : decode B pc = .ok (.iadd, 1)) (hq : pc + 1 = q) (k' : ∀ z : Int32, z = x + y → Go p l e R s m args below meth c Z n0 P kc ks μ k n (mkF m q L (.int z :: st))) : Go p l e R s m args below meth c Z n0 P kc ks μ k n (mkF m pc L (.int y :: .int x :: st)) := by
  subst hq
  exact Go.pure (k' _ rfl) fun T h t hr => XS.iadd h C.1 rfl (hb C.2.1 hd) rfl hr
theorem isub (C : Ctx p s m meth c Z own nm B ml rt) {x y : Int32} (hd : decode B pc = .ok (.isub, 1)) (hq : pc + 1 = q) (k' : ∀ z : Int32, z = x - y → Go p l e R s m args below meth c Z n0 P kc ks μ k n (mkF m q L (.int z :: st))) : Go p l e R s m args below meth c Z n0 P kc ks μ k n (mkF m pc L (.int y :: .int x :: st)) := by
  subst hq
  exact Go.pure (k' _ rfl) fun T h t hr => XS.isub h C.1 rfl (hb C.2.1 hd) rfl hr
theorem imul (C : Ctx p s m meth c Z own nm B ml rt) {x y : Int32} (hd : decode B pc = .ok (.imul, 1)) (hq : pc + 1 = q) (k' : ∀ z : Int32, z = x * y → Go p l e R s m args below meth c Z n0 P kc ks μ k n (mkF m q L (.int z :: st))) : Go p l e R s m args below meth c Z n0 P kc ks μ k n (mkF m pc L (.int y :: .int x :: st)) := by
  subst hq
  exact Go.pure (k' _ rfl) fun T h t hr => XS.imul h C.1 rfl (hb C.2.1 hd) rfl hr
theorem iand (C : Ctx p s m meth c Z own nm B ml rt) {x y : Int32} (hd : decode B pc = .ok (.iand, 1)) (hq : pc + 1 = q) (k' : ∀ z : Int32, z = x &&& y → Go p l e R s m args below meth c Z n0 P kc ks μ k n (mkF m q L (.int z :: st))) : Go p l e R s m args below meth c Z n0 P kc ks μ k n (mkF m pc L (.int y :: .int x :: st)) := by
  subst hq
  exact Go.pure (k' _ rfl) fun T h t hr => XS.iand h C.1 rfl (hb C.2.1 hd) rfl hr
theorem ior (C : Ctx p s m meth c Z own nm B ml rt) {x y : Int32} (hd : decode B pc = .ok (.ior, 1)) (hq : pc + 1 = q) (k' : ∀ z : Int32, z = x ||| y → Go p l e R s m args below meth c Z n0 P kc ks μ k n (mkF m q L (.int z :: st))) : Go p l e R s m args below meth c Z n0 P kc ks μ k n (mkF m pc L (.int y :: .int x :: st)) := by
  subst hq
  exact Go.pure (k' _ rfl) fun T h t hr => XS.ior h C.1 rfl (hb C.2.1 hd) rfl hr
theorem ixor (C : Ctx p s m meth c Z own nm B ml rt) {x y : Int32} (hd : decode B pc = .ok (.ixor, 1)) (hq : pc + 1 = q) (k' : ∀ z : Int32, z = x ^^^ y → Go p l e R s m args below meth c Z n0 P kc ks μ k n (mkF m q L (.int z :: st))) : Go p l e R s m args below meth c Z n0 P kc ks μ k n (mkF m pc L (.int y :: .int x :: st)) := by
  subst hq
  exact Go.pure (k' _ rfl) fun T h t hr => XS.ixor h C.1 rfl (hb C.2.1 hd) rfl hr
theorem ladd (C : Ctx p s m meth c Z own nm B ml rt) {x y : Int64} (hd : decode B pc = .ok (.ladd, 1)) (hq : pc + 1 = q) (k' : ∀ z : Int64, z = x + y → Go p l e R s m args below meth c Z n0 P kc ks μ k n (mkF m q L (.long z :: st))) : Go p l e R s m args below meth c Z n0 P kc ks μ k n (mkF m pc L (.long y :: .long x :: st)) := by
  subst hq
  exact Go.pure (k' _ rfl) fun T h t hr => XS.ladd h C.1 rfl (hb C.2.1 hd) rfl hr
theorem lsub (C : Ctx p s m meth c Z own nm B ml rt) {x y : Int64} (hd : decode B pc = .ok (.lsub, 1)) (hq : pc + 1 = q) (k' : ∀ z : Int64, z = x - y → Go p l e R s m args below meth c Z n0 P kc ks μ k n (mkF m q L (.long z :: st))) : Go p l e R s m args below meth c Z n0 P kc ks μ k n (mkF m pc L (.long y :: .long x :: st)) := by
  subst hq
  exact Go.pure (k' _ rfl) fun T h t hr => XS.lsub h C.1 rfl (hb C.2.1 hd) rfl hr
theorem lmul (C : Ctx p s m meth c Z own nm B ml rt) {x y : Int64} (hd : decode B pc = .ok (.lmul, 1)) (hq : pc + 1 = q) (k' : ∀ z : Int64, z = x * y → Go p l e R s m args below meth c Z n0 P kc ks μ k n (mkF m q L (.long z :: st))) : Go p l e R s m args below meth c Z n0 P kc ks μ k n (mkF m pc L (.long y :: .long x :: st)) := by
  subst hq
  exact Go.pure (k' _ rfl) fun T h t hr => XS.lmul h C.1 rfl (hb C.2.1 hd) rfl hr
theorem land (C : Ctx p s m meth c Z own nm B ml rt) {x y : Int64} (hd : decode B pc = .ok (.land, 1)) (hq : pc + 1 = q) (k' : ∀ z : Int64, z = x &&& y → Go p l e R s m args below meth c Z n0 P kc ks μ k n (mkF m q L (.long z :: st))) : Go p l e R s m args below meth c Z n0 P kc ks μ k n (mkF m pc L (.long y :: .long x :: st)) := by
  subst hq
  exact Go.pure (k' _ rfl) fun T h t hr => XS.land h C.1 rfl (hb C.2.1 hd) rfl hr
theorem lor (C : Ctx p s m meth c Z own nm B ml rt) {x y : Int64} (hd : decode B pc = .ok (.lor, 1)) (hq : pc + 1 = q) (k' : ∀ z : Int64, z = x ||| y → Go p l e R s m args below meth c Z n0 P kc ks μ k n (mkF m q L (.long z :: st))) : Go p l e R s m args below meth c Z n0 P kc ks μ k n (mkF m pc L (.long y :: .long x :: st)) := by
  subst hq
  exact Go.pure (k' _ rfl) fun T h t hr => XS.lor h C.1 rfl (hb C.2.1 hd) rfl hr
theorem lxor (C : Ctx p s m meth c Z own nm B ml rt) {x y : Int64} (hd : decode B pc = .ok (.lxor, 1)) (hq : pc + 1 = q) (k' : ∀ z : Int64, z = x ^^^ y → Go p l e R s m args below meth c Z n0 P kc ks μ k n (mkF m q L (.long z :: st))) : Go p l e R s m args below meth c Z n0 P kc ks μ k n (mkF m pc L (.long y :: .long x :: st)) := by
  subst hq
  exact Go.pure (k' _ rfl) fun T h t hr => XS.lxor h C.1 rfl (hb C.2.1 hd) rfl hr
theorem ishl (C : Ctx p s m meth c Z own nm B ml rt) {x y : Int32} (hd : decode B pc = .ok (.ishl, 1)) (hq : pc + 1 = q) (k' : ∀ z : Int32, z = x <<< (y &&& 31) → Go p l e R s m args below meth c Z n0 P kc ks μ k n (mkF m q L (.int z :: st))) : Go p l e R s m args below meth c Z n0 P kc ks μ k n (mkF m pc L (.int y :: .int x :: st)) := by
  subst hq
  exact Go.pure (k' _ rfl) fun T h t hr => XS.ishl h C.1 rfl (hb C.2.1 hd) rfl hr
theorem ishr (C : Ctx p s m meth c Z own nm B ml rt) {x y : Int32} (hd : decode B pc = .ok (.ishr, 1)) (hq : pc + 1 = q) (k' : ∀ z : Int32, z = x >>> (y &&& 31) → Go p l e R s m args below meth c Z n0 P kc ks μ k n (mkF m q L (.int z :: st))) : Go p l e R s m args below meth c Z n0 P kc ks μ k n (mkF m pc L (.int y :: .int x :: st)) := by
  subst hq
  exact Go.pure (k' _ rfl) fun T h t hr => XS.ishr h C.1 rfl (hb C.2.1 hd) rfl hr
theorem iushr (C : Ctx p s m meth c Z own nm B ml rt) {x y : Int32} (hd : decode B pc = .ok (.iushr, 1)) (hq : pc + 1 = q) (k' : ∀ z : Int32, z = (x.toUInt32 >>> (y &&& 31).toUInt32).toInt32 → Go p l e R s m args below meth c Z n0 P kc ks μ k n (mkF m q L (.int z :: st))) : Go p l e R s m args below meth c Z n0 P kc ks μ k n (mkF m pc L (.int y :: .int x :: st)) := by
  subst hq
  exact Go.pure (k' _ rfl) fun T h t hr => XS.iushr h C.1 rfl (hb C.2.1 hd) rfl hr
theorem lshl (C : Ctx p s m meth c Z own nm B ml rt) {x : Int64} {y : Int32} (hd : decode B pc = .ok (.lshl, 1)) (hq : pc + 1 = q) (k' : ∀ z : Int64, z = x <<< (y &&& 0x3f).toInt64 → Go p l e R s m args below meth c Z n0 P kc ks μ k n (mkF m q L (.long z :: st))) : Go p l e R s m args below meth c Z n0 P kc ks μ k n (mkF m pc L (.int y :: .long x :: st)) := by
  subst hq
  exact Go.pure (k' _ rfl) fun T h t hr => XS.lshl h C.1 rfl (hb C.2.1 hd) rfl hr
theorem lshr (C : Ctx p s m meth c Z own nm B ml rt) {x : Int64} {y : Int32} (hd : decode B pc = .ok (.lshr, 1)) (hq : pc + 1 = q) (k' : ∀ z : Int64, z = x >>> (y &&& 0x3f).toInt64 → Go p l e R s m args below meth c Z n0 P kc ks μ k n (mkF m q L (.long z :: st))) : Go p l e R s m args below meth c Z n0 P kc ks μ k n (mkF m pc L (.int y :: .long x :: st)) := by
  subst hq
  exact Go.pure (k' _ rfl) fun T h t hr => XS.lshr h C.1 rfl (hb C.2.1 hd) rfl hr
theorem lushr (C : Ctx p s m meth c Z own nm B ml rt) {x : Int64} {y : Int32} (hd : decode B pc = .ok (.lushr, 1)) (hq : pc + 1 = q) (k' : ∀ z : Int64, z = (x.toUInt64 >>> (y &&& 0x3f).toInt64.toUInt64).toInt64 → Go p l e R s m args below meth c Z n0 P kc ks μ k n (mkF m q L (.long z :: st))) : Go p l e R s m args below meth c Z n0 P kc ks μ k n (mkF m pc L (.int y :: .long x :: st)) := by
  subst hq
  exact Go.pure (k' _ rfl) fun T h t hr => XS.lushr h C.1 rfl (hb C.2.1 hd) rfl hr
theorem idiv (C : Ctx p s m meth c Z own nm B ml rt) {x y : Int32} (hd : decode B pc = .ok (.idiv, 1)) (hq : pc + 1 = q) (hy : y ≠ 0) (k' : ∀ z : Int32, z = x / y → Go p l e R s m args below meth c Z n0 P kc ks μ k n (mkF m q L (.int z :: st))) : Go p l e R s m args below meth c Z n0 P kc ks μ k n (mkF m pc L (.int y :: .int x :: st)) := by
  subst hq
  exact Go.pure (k' _ rfl) fun T h t hr => XS.idiv h C.1 rfl (hb C.2.1 hd) rfl hy hr
theorem irem (C : Ctx p s m meth c Z own nm B ml rt) {x y : Int32} (hd : decode B pc = .ok (.irem, 1)) (hq : pc + 1 = q) (hy : y ≠ 0) (k' : ∀ z : Int32, z = x % y → Go p l e R s m args below meth c Z n0 P kc ks μ k n (mkF m q L (.int z :: st))) : Go p l e R s m args below meth c Z n0 P kc ks μ k n (mkF m pc L (.int y :: .int x :: st)) := by
  subst hq
  exact Go.pure (k' _ rfl) fun T h t hr => XS.irem h C.1 rfl (hb C.2.1 hd) rfl hy (by rw [irem_eq_mod]; exact hr)
theorem ldiv (C : Ctx p s m meth c Z own nm B ml rt) {x y : Int64} (hd : decode B pc = .ok (.ldiv, 1)) (hq : pc + 1 = q) (hy : y ≠ 0) (k' : ∀ z : Int64, z = x / y → Go p l e R s m args below meth c Z n0 P kc ks μ k n (mkF m q L (.long z :: st))) : Go p l e R s m args below meth c Z n0 P kc ks μ k n (mkF m pc L (.long y :: .long x :: st)) := by
  subst hq
  exact Go.pure (k' _ rfl) fun T h t hr => XS.ldiv h C.1 rfl (hb C.2.1 hd) rfl hy hr
theorem lrem (C : Ctx p s m meth c Z own nm B ml rt) {x y : Int64} (hd : decode B pc = .ok (.lrem, 1)) (hq : pc + 1 = q) (hy : y ≠ 0) (k' : ∀ z : Int64, z = x - (x / y) * y → Go p l e R s m args below meth c Z n0 P kc ks μ k n (mkF m q L (.long z :: st))) : Go p l e R s m args below meth c Z n0 P kc ks μ k n (mkF m pc L (.long y :: .long x :: st)) := by
  subst hq
  exact Go.pure (k' _ rfl) fun T h t hr => XS.lrem h C.1 rfl (hb C.2.1 hd) rfl hy hr
theorem ineg (C : Ctx p s m meth c Z own nm B ml rt) {x : Int32} (hd : decode B pc = .ok (.ineg, 1)) (hq : pc + 1 = q) (k' : ∀ z : Int32, z = -x → Go p l e R s m args below meth c Z n0 P kc ks μ k n (mkF m q L (.int z :: st))) : Go p l e R s m args below meth c Z n0 P kc ks μ k n (mkF m pc L (.int x :: st)) := by
  subst hq
  exact Go.pure (k' _ rfl) fun T h t hr => XS.ineg h C.1 rfl (hb C.2.1 hd) rfl hr
theorem lneg (C : Ctx p s m meth c Z own nm B ml rt) {x : Int64} (hd : decode B pc = .ok (.lneg, 1)) (hq : pc + 1 = q) (k' : ∀ z : Int64, z = -x → Go p l e R s m args below meth c Z n0 P kc ks μ k n (mkF m q L (.long z :: st))) : Go p l e R s m args below meth c Z n0 P kc ks μ k n (mkF m pc L (.long x :: st)) := by
  subst hq
  exact Go.pure (k' _ rfl) fun T h t hr => XS.lneg h C.1 rfl (hb C.2.1 hd) rfl hr
theorem i2l (C : Ctx p s m meth c Z own nm B ml rt) {x : Int32} (hd : decode B pc = .ok (.i2l, 1)) (hq : pc + 1 = q) (k' : ∀ z : Int64, z = x.toInt64 → Go p l e R s m args below meth c Z n0 P kc ks μ k n (mkF m q L (.long z :: st))) : Go p l e R s m args below meth c Z n0 P kc ks μ k n (mkF m pc L (.int x :: st)) := by
  subst hq
  exact Go.pure (k' _ rfl) fun T h t hr => XS.i2l h C.1 rfl (hb C.2.1 hd) rfl hr
theorem l2i (C : Ctx p s m meth c Z own nm B ml rt) {x : Int64} (hd : decode B pc = .ok (.l2i, 1)) (hq : pc + 1 = q) (k' : ∀ z : Int32, z = x.toInt32 → Go p l e R s m args below meth c Z n0 P kc ks μ k n (mkF m q L (.int z :: st))) : Go p l e R s m args below meth c Z n0 P kc ks μ k n (mkF m pc L (.long x :: st)) := by
  subst hq
  exact Go.pure (k' _ rfl) fun T h t hr => XS.l2i h C.1 rfl (hb C.2.1 hd) rfl hr
theorem i2b (C : Ctx p s m meth c Z own nm B ml rt) {x : Int32} (hd : decode B pc = .ok (.i2b, 1)) (hq : pc + 1 = q) (k' : ∀ z : Int32, z = x.toInt8.toInt32 → Go p l e R s m args below meth c Z n0 P kc ks μ k n (mkF m q L (.int z :: st))) : Go p l e R s m args below meth c Z n0 P kc ks μ k n (mkF m pc L (.int x :: st)) := by
  subst hq
  exact Go.pure (k' _ rfl) fun T h t hr => XS.i2b h C.1 rfl (hb C.2.1 hd) rfl hr
theorem i2s (C : Ctx p s m meth c Z own nm B ml rt) {x : Int32} (hd : decode B pc = .ok (.i2s, 1)) (hq : pc + 1 = q) (k' : ∀ z : Int32, z = x.toInt16.toInt32 → Go p l e R s m args below meth c Z n0 P kc ks μ k n (mkF m q L (.int z :: st))) : Go p l e R s m args below meth c Z n0 P kc ks μ k n (mkF m pc L (.int x :: st)) := by
  subst hq
  exact Go.pure (k' _ rfl) fun T h t hr => XS.i2s h C.1 rfl (hb C.2.1 hd) rfl hr
theorem i2c (C : Ctx p s m meth c Z own nm B ml rt) {x : Int32} (hd : decode B pc = .ok (.i2c, 1)) (hq : pc + 1 = q) (k' : ∀ z : Int32, z = x.toUInt32.toUInt16.toUInt32.toInt32 → Go p l e R s m args below meth c Z n0 P kc ks μ k n (mkF m q L (.int z :: st))) : Go p l e R s m args below meth c Z n0 P kc ks μ k n (mkF m pc L (.int x :: st)) := by
  subst hq
  exact Go.pure (k' _ rfl) fun T h t hr => XS.i2c h C.1 rfl (hb C.2.1 hd) rfl hr
theorem iloadN (C : Ctx p s m meth c Z own nm B ml rt) {i : Fin 4} {v : Int32} (hd : decode B pc = .ok (.iload_n i, 1)) (hq : pc + 1 = q) (hl : L[i.val]? = some (.val (.int v))) (k' : Go p l e R s m args below meth c Z n0 P kc ks μ k n (mkF m q L (.int v :: st))) : Go p l e R s m args below meth c Z n0 P kc ks μ k n (mkF m pc L st) := by
  subst hq
  exact Go.pure k' fun T h t hr => XS.iloadN h C.1 rfl (hb C.2.1 hd) hl hr
theorem iload (C : Ctx p s m meth c Z own nm B ml rt) {i : Nat} {v : Int32} (hd : decode B pc = .ok (.iload i, 2)) (hq : pc + 2 = q) (hl : L[i]? = some (.val (.int v))) (k' : Go p l e R s m args below meth c Z n0 P kc ks μ k n (mkF m q L (.int v :: st))) : Go p l e R s m args below meth c Z n0 P kc ks μ k n (mkF m pc L st) := by
  subst hq
  exact Go.pure k' fun T h t hr => XS.iload h C.1 rfl (hb C.2.1 hd) hl hr
theorem istoreN (C : Ctx p s m meth c Z own nm B ml rt) {i : Fin 4} {v : Int32} (hd : decode B pc = .ok (.istore_n i, 1)) (hq : pc + 1 = q) (hl : storeLocals L i.val (.int v) = some L') (k' : Go p l e R s m args below meth c Z n0 P kc ks μ k n (mkF m q L' st)) : Go p l e R s m args below meth c Z n0 P kc ks μ k n (mkF m pc L (.int v :: st)) := by
  subst hq
  exact Go.pure k' fun T h t hr => XS.istoreN h C.1 rfl (hb C.2.1 hd) rfl hl hr
theorem istore (C : Ctx p s m meth c Z own nm B ml rt) {i : Nat} {v : Int32} (hd : decode B pc = .ok (.istore i, 2)) (hq : pc + 2 = q) (hl : storeLocals L i (.int v) = some L') (k' : Go p l e R s m args below meth c Z n0 P kc ks μ k n (mkF m q L' st)) : Go p l e R s m args below meth c Z n0 P kc ks μ k n (mkF m pc L (.int v :: st)) := by
  subst hq
  exact Go.pure k' fun T h t hr => XS.istore h C.1 rfl (hb C.2.1 hd) rfl hl hr
theorem lloadN (C : Ctx p s m meth c Z own nm B ml rt) {i : Fin 4} {v : Int64} (hd : decode B pc = .ok (.lload_n i, 1)) (hq : pc + 1 = q) (hl : L[i.val]? = some (.val (.long v))) (k' : Go p l e R s m args below meth c Z n0 P kc ks μ k n (mkF m q L (.long v :: st))) : Go p l e R s m args below meth c Z n0 P kc ks μ k n (mkF m pc L st) := by
  subst hq
  exact Go.pure k' fun T h t hr => XS.lloadN h C.1 rfl (hb C.2.1 hd) hl hr
theorem lload (C : Ctx p s m meth c Z own nm B ml rt) {i : Nat} {v : Int64} (hd : decode B pc = .ok (.lload i, 2)) (hq : pc + 2 = q) (hl : L[i]? = some (.val (.long v))) (k' : Go p l e R s m args below meth c Z n0 P kc ks μ k n (mkF m q L (.long v :: st))) : Go p l e R s m args below meth c Z n0 P kc ks μ k n (mkF m pc L st) := by
  subst hq
  exact Go.pure k' fun T h t hr => XS.lload h C.1 rfl (hb C.2.1 hd) hl hr
theorem lstoreN (C : Ctx p s m meth c Z own nm B ml rt) {i : Fin 4} {v : Int64} (hd : decode B pc = .ok (.lstore_n i, 1)) (hq : pc + 1 = q) (hl : storeLocals L i.val (.long v) = some L') (k' : Go p l e R s m args below meth c Z n0 P kc ks μ k n (mkF m q L' st)) : Go p l e R s m args below meth c Z n0 P kc ks μ k n (mkF m pc L (.long v :: st)) := by
  subst hq
  exact Go.pure k' fun T h t hr => XS.lstoreN h C.1 rfl (hb C.2.1 hd) rfl hl hr
theorem lstore (C : Ctx p s m meth c Z own nm B ml rt) {i : Nat} {v : Int64} (hd : decode B pc = .ok (.lstore i, 2)) (hq : pc + 2 = q) (hl : storeLocals L i (.long v) = some L') (k' : Go p l e R s m args below meth c Z n0 P kc ks μ k n (mkF m q L' st)) : Go p l e R s m args below meth c Z n0 P kc ks μ k n (mkF m pc L (.long v :: st)) := by
  subst hq
  exact Go.pure k' fun T h t hr => XS.lstore h C.1 rfl (hb C.2.1 hd) rfl hl hr
theorem aloadN (C : Ctx p s m meth c Z own nm B ml rt) {i : Fin 4} {v : Value} (hd : decode B pc = .ok (.aload_n i, 1)) (hq : pc + 1 = q) (hl : L[i.val]? = some (.val v)) (hv : v.isRef = true) (k' : Go p l e R s m args below meth c Z n0 P kc ks μ k n (mkF m q L (v :: st))) : Go p l e R s m args below meth c Z n0 P kc ks μ k n (mkF m pc L st) := by
  subst hq
  exact Go.pure k' fun T h t hr => XS.aloadN h C.1 rfl (hb C.2.1 hd) hl hv hr
theorem aload (C : Ctx p s m meth c Z own nm B ml rt) {i : Nat} {v : Value} (hd : decode B pc = .ok (.aload i, 2)) (hq : pc + 2 = q) (hl : L[i]? = some (.val v)) (hv : v.isRef = true) (k' : Go p l e R s m args below meth c Z n0 P kc ks μ k n (mkF m q L (v :: st))) : Go p l e R s m args below meth c Z n0 P kc ks μ k n (mkF m pc L st) := by
  subst hq
  exact Go.pure k' fun T h t hr => XS.aload h C.1 rfl (hb C.2.1 hd) hl hv hr
theorem astoreN (C : Ctx p s m meth c Z own nm B ml rt) {i : Fin 4} {v : Value} (hd : decode B pc = .ok (.astore_n i, 1)) (hq : pc + 1 = q) (hl : storeLocals L i.val v = some L') (hv : v.isRef = true) (k' : Go p l e R s m args below meth c Z n0 P kc ks μ k n (mkF m q L' st)) : Go p l e R s m args below meth c Z n0 P kc ks μ k n (mkF m pc L (v :: st)) := by
  subst hq
  exact Go.pure k' fun T h t hr => XS.astoreN h C.1 rfl (hb C.2.1 hd) rfl hv hl hr
theorem astore (C : Ctx p s m meth c Z own nm B ml rt) {i : Nat} {v : Value} (hd : decode B pc = .ok (.astore i, 2)) (hq : pc + 2 = q) (hl : storeLocals L i v = some L') (hv : v.isRef = true) (k' : Go p l e R s m args below meth c Z n0 P kc ks μ k n (mkF m q L' st)) : Go p l e R s m args below meth c Z n0 P kc ks μ k n (mkF m pc L (v :: st)) := by
  subst hq
  exact Go.pure k' fun T h t hr => XS.astore h C.1 rfl (hb C.2.1 hd) rfl hv hl hr
theorem iconst (C : Ctx p s m meth c Z own nm B ml rt) {i : Int} {z : Int32} (hd : decode B pc = .ok (.iconst i, 1)) (hq : pc + 1 = q) (hz : Int32.ofInt i = z) (k' : Go p l e R s m args below meth c Z n0 P kc ks μ k n (mkF m q L (.int z :: st))) : Go p l e R s m args below meth c Z n0 P kc ks μ k n (mkF m pc L st) := by
  subst hq
  exact Go.pure k' fun T h t hr => XS.iconst h C.1 rfl (hb C.2.1 hd) (by rw [hz]; exact hr)
theorem bipush (C : Ctx p s m meth c Z own nm B ml rt) {i : Int} {z : Int32} (hd : decode B pc = .ok (.bipush i, 2)) (hq : pc + 2 = q) (hz : (Int8.ofInt i).toInt32 = z) (k' : Go p l e R s m args below meth c Z n0 P kc ks μ k n (mkF m q L (.int z :: st))) : Go p l e R s m args below meth c Z n0 P kc ks μ k n (mkF m pc L st) := by
  subst hq
  exact Go.pure k' fun T h t hr => XS.bipush h C.1 rfl (hb C.2.1 hd) (by rw [hz]; exact hr)
theorem sipush (C : Ctx p s m meth c Z own nm B ml rt) {i : Int} {z : Int32} (hd : decode B pc = .ok (.sipush i, 3)) (hq : pc + 3 = q) (hz : (Int16.ofInt i).toInt32 = z) (k' : Go p l e R s m args below meth c Z n0 P kc ks μ k n (mkF m q L (.int z :: st))) : Go p l e R s m args below meth c Z n0 P kc ks μ k n (mkF m pc L st) := by
  subst hq
  exact Go.pure k' fun T h t hr => XS.sipush h C.1 rfl (hb C.2.1 hd) (by rw [hz]; exact hr)
theorem lconst (C : Ctx p s m meth c Z own nm B ml rt) {i : Fin 2} {z : Int64} (hd : decode B pc = .ok (.lconst i, 1)) (hq : pc + 1 = q) (hz : Int64.ofNat i = z) (k' : Go p l e R s m args below meth c Z n0 P kc ks μ k n (mkF m q L (.long z :: st))) : Go p l e R s m args below meth c Z n0 P kc ks μ k n (mkF m pc L st) := by
  subst hq
  exact Go.pure k' fun T h t hr => XS.lconst h C.1 rfl (hb C.2.1 hd) (by rw [hz]; exact hr)
theorem aconstNull (C : Ctx p s m meth c Z own nm B ml rt)  (hd : decode B pc = .ok (.aconst_null, 1)) (hq : pc + 1 = q) (k' : Go p l e R s m args below meth c Z n0 P kc ks μ k n (mkF m q L (.null :: st))) : Go p l e R s m args below meth c Z n0 P kc ks μ k n (mkF m pc L st) := by
  subst hq
  exact Go.pure k' fun T h t hr => XS.aconstNull h C.1 rfl (hb C.2.1 hd) hr
theorem dup (C : Ctx p s m meth c Z own nm B ml rt) {v : Value} (hd : decode B pc = .ok (.dup, 1)) (hq : pc + 1 = q) (hv : v.category = 1) (k' : Go p l e R s m args below meth c Z n0 P kc ks μ k n (mkF m q L (v :: v :: st))) : Go p l e R s m args below meth c Z n0 P kc ks μ k n (mkF m pc L (v :: st)) := by
  subst hq
  exact Go.pure k' fun T h t hr => XS.dup h C.1 rfl (hb C.2.1 hd) rfl hv hr
theorem pop (C : Ctx p s m meth c Z own nm B ml rt) {v : Value} (hd : decode B pc = .ok (.pop, 1)) (hq : pc + 1 = q) (hv : v.category = 1) (k' : Go p l e R s m args below meth c Z n0 P kc ks μ k n (mkF m q L st)) : Go p l e R s m args below meth c Z n0 P kc ks μ k n (mkF m pc L (v :: st)) := by
  subst hq
  exact Go.pure k' fun T h t hr => XS.pop h C.1 rfl (hb C.2.1 hd) rfl hv hr
theorem dupX1 (C : Ctx p s m meth c Z own nm B ml rt) {v w : Value} (hd : decode B pc = .ok (.dup_x1, 1)) (hq : pc + 1 = q) (hv : v.category = 1) (hw : w.category = 1) (k' : Go p l e R s m args below meth c Z n0 P kc ks μ k n (mkF m q L (v :: w :: v :: st))) : Go p l e R s m args below meth c Z n0 P kc ks μ k n (mkF m pc L (v :: w :: st)) := by
  subst hq
  exact Go.pure k' fun T h t hr => XS.dupX1 h C.1 rfl (hb C.2.1 hd) rfl hv hw hr
theorem dup2 (C : Ctx p s m meth c Z own nm B ml rt) {v w : Value} (hd : decode B pc = .ok (.dup2, 1)) (hq : pc + 1 = q) (hv : v.category = 1) (hw : w.category = 1) (k' : Go p l e R s m args below meth c Z n0 P kc ks μ k n (mkF m q L (v :: w :: v :: w :: st))) : Go p l e R s m args below meth c Z n0 P kc ks μ k n (mkF m pc L (v :: w :: st)) := by
  subst hq
  exact Go.pure k' fun T h t hr => XT.dup2 h C.1 rfl (hb C.2.1 hd) rfl hv hw hr
theorem dup2L (C : Ctx p s m meth c Z own nm B ml rt) {x : Int64} (hd : decode B pc = .ok (.dup2, 1)) (hq : pc + 1 = q) (k' : Go p l e R s m args below meth c Z n0 P kc ks μ k n (mkF m q L (.long x :: .long x :: st))) : Go p l e R s m args below meth c Z n0 P kc ks μ k n (mkF m pc L (.long x :: st)) := by
  subst hq
  exact Go.pure k' fun T h t hr => XT.dup2L h C.1 rfl (hb C.2.1 hd) rfl hr
theorem iinc (C : Ctx p s m meth c Z own nm B ml rt) {i : Nat} {d : Int} {x z : Int32} (hd : decode B pc = .ok (.iinc i d, 3)) (hq : pc + 3 = q) (hl : L[i]? = some (.val (.int x))) (hz : x + Int32.ofInt d = z) (hl' : storeLocals L i (.int z) = some L') (k' : Go p l e R s m args below meth c Z n0 P kc ks μ k n (mkF m q L' st)) : Go p l e R s m args below meth c Z n0 P kc ks μ k n (mkF m pc L st) := by
  subst hq
  exact Go.pure k' fun T h t hr => XS.iinc h C.1 rfl (hb C.2.1 hd) hl (by rw [hz]; exact hl') hr
theorem goto (C : Ctx p s m meth c Z own nm B ml rt) {o : Int} (hd : decode B pc = .ok (.goto o, 3)) (hq : 0 ≤ (pc : Int) + o ∧ ((pc : Int) + o).toNat = q) (k' : Go p l e R s m args below meth c Z n0 P kc ks μ k n (mkF m q L st)) : Go p l e R s m args below meth c Z n0 P kc ks μ k n (mkF m pc L st) := Go.pure k' fun T h t hr => XS.goto h C.1 rfl rfl (hb C.2.1 hd) hq.1 hq.2 hr
theorem icmp_eq (C : Ctx p s m meth c Z own nm B ml rt) {x y : Int32} {o : Int} {r : Nat} (hd : decode B pc = .ok (.if_icmp .eq o, 3)) (hq : pc + 3 = q) (hr : 0 ≤ (pc : Int) + o ∧ ((pc : Int) + o).toNat = r) (ky : x = y → Go p l e R s m args below meth c Z n0 P kc ks μ k n (mkF m r L st)) (kn : ¬ x = y → Go p l e R s m args below meth c Z n0 P kc ks μ k n (mkF m q L st)) : Go p l e R s m args below meth c Z n0 P kc ks μ k n (mkF m pc L (.int y :: .int x :: st)) := by
  subst hq
  by_cases hc : x = y
  · exact Go.pure (ky hc) fun T h t k => XS.icmpYes h C.1 rfl rfl (hb C.2.1 hd) rfl (XT.ii_eq_t hc) hr.1 hr.2 k
  · exact Go.pure (kn (by first | exact hc | exact Decidable.of_not_not hc)) fun T h t k => XS.icmpNo h C.1 rfl (hb C.2.1 hd) rfl (XT.ii_eq_f (by first | exact hc | exact Decidable.of_not_not hc)) k
theorem if_eq (C : Ctx p s m meth c Z own nm B ml rt) {x : Int32} {o : Int} {r : Nat} (hd : decode B pc = .ok (.ifCond .eq o, 3)) (hq : pc + 3 = q) (hr : 0 ≤ (pc : Int) + o ∧ ((pc : Int) + o).toNat = r) (ky : x = 0 → Go p l e R s m args below meth c Z n0 P kc ks μ k n (mkF m r L st)) (kn : ¬ x = 0 → Go p l e R s m args below meth c Z n0 P kc ks μ k n (mkF m q L st)) : Go p l e R s m args below meth c Z n0 P kc ks μ k n (mkF m pc L (.int x :: st)) := by
  subst hq
  by_cases hc : x = 0
  · exact Go.pure (ky hc) fun T h t k => XS.ifYes h C.1 rfl rfl (hb C.2.1 hd) rfl (XT.i0_eq_t hc) hr.1 hr.2 k
  · exact Go.pure (kn (by first | exact hc | exact Decidable.of_not_not hc)) fun T h t k => XS.ifNo h C.1 rfl (hb C.2.1 hd) rfl (XT.i0_eq_f (by first | exact hc | exact Decidable.of_not_not hc)) k
theorem lcmp_eq (C : Ctx p s m meth c Z own nm B ml rt) {x y : Int64} {o : Int} {r pc1 : Nat} (hd0 : decode B pc = .ok (.lcmp, 1)) (h1 : pc + 1 = pc1) (hd : decode B pc1 = .ok (.ifCond .eq o, 3)) (hq : pc1 + 3 = q) (hr : 0 ≤ (pc1 : Int) + o ∧ ((pc1 : Int) + o).toNat = r) (ky : x = y → Go p l e R s m args below meth c Z n0 P kc ks μ k n (mkF m r L st)) (kn : ¬ x = y → Go p l e R s m args below meth c Z n0 P kc ks μ k n (mkF m q L st)) : Go p l e R s m args below meth c Z n0 P kc ks μ k n (mkF m pc L (.long y :: .long x :: st)) := by
  subst hq h1
  refine Go.pure (g' := mkF m (pc + 1) L (.int (XT.cmpL x y) :: st)) ?_ fun T h t k => XT.lcmp h C.1 rfl (hb C.2.1 hd0) rfl k
  by_cases hc : x = y
  · exact Go.pure (ky hc) fun T h t k => XS.ifYes h C.1 rfl rfl (hb C.2.1 hd) rfl (XT.ll_eq_t hc) hr.1 hr.2 k
  · exact Go.pure (kn (by first | exact hc | exact Decidable.of_not_not hc)) fun T h t k => XS.ifNo h C.1 rfl (hb C.2.1 hd) rfl (XT.ll_eq_f (by first | exact hc | exact Decidable.of_not_not hc)) k
theorem icmp_ne (C : Ctx p s m meth c Z own nm B ml rt) {x y : Int32} {o : Int} {r : Nat} (hd : decode B pc = .ok (.if_icmp .ne o, 3)) (hq : pc + 3 = q) (hr : 0 ≤ (pc : Int) + o ∧ ((pc : Int) + o).toNat = r) (ky : ¬ x = y → Go p l e R s m args below meth c Z n0 P kc ks μ k n (mkF m r L st)) (kn : x = y → Go p l e R s m args below meth c Z n0 P kc ks μ k n (mkF m q L st)) : Go p l e R s m args below meth c Z n0 P kc ks μ k n (mkF m pc L (.int y :: .int x :: st)) := by
  subst hq
  by_cases hc : ¬ x = y
  · exact Go.pure (ky hc) fun T h t k => XS.icmpYes h C.1 rfl rfl (hb C.2.1 hd) rfl (XT.ii_ne_t hc) hr.1 hr.2 k
  · exact Go.pure (kn (by first | exact hc | exact Decidable.of_not_not hc)) fun T h t k => XS.icmpNo h C.1 rfl (hb C.2.1 hd) rfl (XT.ii_ne_f (by first | exact hc | exact Decidable.of_not_not hc)) k
theorem if_ne (C : Ctx p s m meth c Z own nm B ml rt) {x : Int32} {o : Int} {r : Nat} (hd : decode B pc = .ok (.ifCond .ne o, 3)) (hq : pc + 3 = q) (hr : 0 ≤ (pc : Int) + o ∧ ((pc : Int) + o).toNat = r) (ky : ¬ x = 0 → Go p l e R s m args below meth c Z n0 P kc ks μ k n (mkF m r L st)) (kn : x = 0 → Go p l e R s m args below meth c Z n0 P kc ks μ k n (mkF m q L st)) : Go p l e R s m args below meth c Z n0 P kc ks μ k n (mkF m pc L (.int x :: st)) := by
  subst hq
  by_cases hc : ¬ x = 0
  · exact Go.pure (ky hc) fun T h t k => XS.ifYes h C.1 rfl rfl (hb C.2.1 hd) rfl (XT.i0_ne_t hc) hr.1 hr.2 k
  · exact Go.pure (kn (by first | exact hc | exact Decidable.of_not_not hc)) fun T h t k => XS.ifNo h C.1 rfl (hb C.2.1 hd) rfl (XT.i0_ne_f (by first | exact hc | exact Decidable.of_not_not hc)) k
theorem lcmp_ne (C : Ctx p s m meth c Z own nm B ml rt) {x y : Int64} {o : Int} {r pc1 : Nat} (hd0 : decode B pc = .ok (.lcmp, 1)) (h1 : pc + 1 = pc1) (hd : decode B pc1 = .ok (.ifCond .ne o, 3)) (hq : pc1 + 3 = q) (hr : 0 ≤ (pc1 : Int) + o ∧ ((pc1 : Int) + o).toNat = r) (ky : ¬ x = y → Go p l e R s m args below meth c Z n0 P kc ks μ k n (mkF m r L st)) (kn : x = y → Go p l e R s m args below meth c Z n0 P kc ks μ k n (mkF m q L st)) : Go p l e R s m args below meth c Z n0 P kc ks μ k n (mkF m pc L (.long y :: .long x :: st)) := by
  subst hq h1
  refine Go.pure (g' := mkF m (pc + 1) L (.int (XT.cmpL x y) :: st)) ?_ fun T h t k => XT.lcmp h C.1 rfl (hb C.2.1 hd0) rfl k
  by_cases hc : ¬ x = y
  · exact Go.pure (ky hc) fun T h t k => XS.ifYes h C.1 rfl rfl (hb C.2.1 hd) rfl (XT.ll_ne_t hc) hr.1 hr.2 k
  · exact Go.pure (kn (by first | exact hc | exact Decidable.of_not_not hc)) fun T h t k => XS.ifNo h C.1 rfl (hb C.2.1 hd) rfl (XT.ll_ne_f (by first | exact hc | exact Decidable.of_not_not hc)) k
theorem icmp_lt (C : Ctx p s m meth c Z own nm B ml rt) {x y : Int32} {o : Int} {r : Nat} (hd : decode B pc = .ok (.if_icmp .lt o, 3)) (hq : pc + 3 = q) (hr : 0 ≤ (pc : Int) + o ∧ ((pc : Int) + o).toNat = r) (ky : x < y → Go p l e R s m args below meth c Z n0 P kc ks μ k n (mkF m r L st)) (kn : ¬ x < y → Go p l e R s m args below meth c Z n0 P kc ks μ k n (mkF m q L st)) : Go p l e R s m args below meth c Z n0 P kc ks μ k n (mkF m pc L (.int y :: .int x :: st)) := by
  subst hq
  by_cases hc : x < y
  · exact Go.pure (ky hc) fun T h t k => XS.icmpYes h C.1 rfl rfl (hb C.2.1 hd) rfl (XT.ii_lt_t hc) hr.1 hr.2 k
  · exact Go.pure (kn (by first | exact hc | exact Decidable.of_not_not hc)) fun T h t k => XS.icmpNo h C.1 rfl (hb C.2.1 hd) rfl (XT.ii_lt_f (by first | exact hc | exact Decidable.of_not_not hc)) k
theorem if_lt (C : Ctx p s m meth c Z own nm B ml rt) {x : Int32} {o : Int} {r : Nat} (hd : decode B pc = .ok (.ifCond .lt o, 3)) (hq : pc + 3 = q) (hr : 0 ≤ (pc : Int) + o ∧ ((pc : Int) + o).toNat = r) (ky : x < 0 → Go p l e R s m args below meth c Z n0 P kc ks μ k n (mkF m r L st)) (kn : ¬ x < 0 → Go p l e R s m args below meth c Z n0 P kc ks μ k n (mkF m q L st)) : Go p l e R s m args below meth c Z n0 P kc ks μ k n (mkF m pc L (.int x :: st)) := by
  subst hq
  by_cases hc : x < 0
  · exact Go.pure (ky hc) fun T h t k => XS.ifYes h C.1 rfl rfl (hb C.2.1 hd) rfl (XT.i0_lt_t hc) hr.1 hr.2 k
  · exact Go.pure (kn (by first | exact hc | exact Decidable.of_not_not hc)) fun T h t k => XS.ifNo h C.1 rfl (hb C.2.1 hd) rfl (XT.i0_lt_f (by first | exact hc | exact Decidable.of_not_not hc)) k
theorem lcmp_lt (C : Ctx p s m meth c Z own nm B ml rt) {x y : Int64} {o : Int} {r pc1 : Nat} (hd0 : decode B pc = .ok (.lcmp, 1)) (h1 : pc + 1 = pc1) (hd : decode B pc1 = .ok (.ifCond .lt o, 3)) (hq : pc1 + 3 = q) (hr : 0 ≤ (pc1 : Int) + o ∧ ((pc1 : Int) + o).toNat = r) (ky : x < y → Go p l e R s m args below meth c Z n0 P kc ks μ k n (mkF m r L st)) (kn : ¬ x < y → Go p l e R s m args below meth c Z n0 P kc ks μ k n (mkF m q L st)) : Go p l e R s m args below meth c Z n0 P kc ks μ k n (mkF m pc L (.long y :: .long x :: st)) := by
  subst hq h1
  refine Go.pure (g' := mkF m (pc + 1) L (.int (XT.cmpL x y) :: st)) ?_ fun T h t k => XT.lcmp h C.1 rfl (hb C.2.1 hd0) rfl k
  by_cases hc : x < y
  · exact Go.pure (ky hc) fun T h t k => XS.ifYes h C.1 rfl rfl (hb C.2.1 hd) rfl (XT.ll_lt_t hc) hr.1 hr.2 k
  · exact Go.pure (kn (by first | exact hc | exact Decidable.of_not_not hc)) fun T h t k => XS.ifNo h C.1 rfl (hb C.2.1 hd) rfl (XT.ll_lt_f (by first | exact hc | exact Decidable.of_not_not hc)) k
theorem icmp_ge (C : Ctx p s m meth c Z own nm B ml rt) {x y : Int32} {o : Int} {r : Nat} (hd : decode B pc = .ok (.if_icmp .ge o, 3)) (hq : pc + 3 = q) (hr : 0 ≤ (pc : Int) + o ∧ ((pc : Int) + o).toNat = r) (ky : ¬ x < y → Go p l e R s m args below meth c Z n0 P kc ks μ k n (mkF m r L st)) (kn : x < y → Go p l e R s m args below meth c Z n0 P kc ks μ k n (mkF m q L st)) : Go p l e R s m args below meth c Z n0 P kc ks μ k n (mkF m pc L (.int y :: .int x :: st)) := by
  subst hq
  by_cases hc : ¬ x < y
  · exact Go.pure (ky hc) fun T h t k => XS.icmpYes h C.1 rfl rfl (hb C.2.1 hd) rfl (XT.ii_ge_t hc) hr.1 hr.2 k
  · exact Go.pure (kn (by first | exact hc | exact Decidable.of_not_not hc)) fun T h t k => XS.icmpNo h C.1 rfl (hb C.2.1 hd) rfl (XT.ii_ge_f (by first | exact hc | exact Decidable.of_not_not hc)) k
theorem if_ge (C : Ctx p s m meth c Z own nm B ml rt) {x : Int32} {o : Int} {r : Nat} (hd : decode B pc = .ok (.ifCond .ge o, 3)) (hq : pc + 3 = q) (hr : 0 ≤ (pc : Int) + o ∧ ((pc : Int) + o).toNat = r) (ky : ¬ x < 0 → Go p l e R s m args below meth c Z n0 P kc ks μ k n (mkF m r L st)) (kn : x < 0 → Go p l e R s m args below meth c Z n0 P kc ks μ k n (mkF m q L st)) : Go p l e R s m args below meth c Z n0 P kc ks μ k n (mkF m pc L (.int x :: st)) := by
  subst hq
  by_cases hc : ¬ x < 0
  · exact Go.pure (ky hc) fun T h t k => XS.ifYes h C.1 rfl rfl (hb C.2.1 hd) rfl (XT.i0_ge_t hc) hr.1 hr.2 k
  · exact Go.pure (kn (by first | exact hc | exact Decidable.of_not_not hc)) fun T h t k => XS.ifNo h C.1 rfl (hb C.2.1 hd) rfl (XT.i0_ge_f (by first | exact hc | exact Decidable.of_not_not hc)) k
theorem lcmp_ge (C : Ctx p s m meth c Z own nm B ml rt) {x y : Int64} {o : Int} {r pc1 : Nat} (hd0 : decode B pc = .ok (.lcmp, 1)) (h1 : pc + 1 = pc1) (hd : decode B pc1 = .ok (.ifCond .ge o, 3)) (hq : pc1 + 3 = q) (hr : 0 ≤ (pc1 : Int) + o ∧ ((pc1 : Int) + o).toNat = r) (ky : ¬ x < y → Go p l e R s m args below meth c Z n0 P kc ks μ k n (mkF m r L st)) (kn : x < y → Go p l e R s m args below meth c Z n0 P kc ks μ k n (mkF m q L st)) : Go p l e R s m args below meth c Z n0 P kc ks μ k n (mkF m pc L (.long y :: .long x :: st)) := by
  subst hq h1
  refine Go.pure (g' := mkF m (pc + 1) L (.int (XT.cmpL x y) :: st)) ?_ fun T h t k => XT.lcmp h C.1 rfl (hb C.2.1 hd0) rfl k
  by_cases hc : ¬ x < y
  · exact Go.pure (ky hc) fun T h t k => XS.ifYes h C.1 rfl rfl (hb C.2.1 hd) rfl (XT.ll_ge_t hc) hr.1 hr.2 k
  · exact Go.pure (kn (by first | exact hc | exact Decidable.of_not_not hc)) fun T h t k => XS.ifNo h C.1 rfl (hb C.2.1 hd) rfl (XT.ll_ge_f (by first | exact hc | exact Decidable.of_not_not hc)) k
theorem icmp_gt (C : Ctx p s m meth c Z own nm B ml rt) {x y : Int32} {o : Int} {r : Nat} (hd : decode B pc = .ok (.if_icmp .gt o, 3)) (hq : pc + 3 = q) (hr : 0 ≤ (pc : Int) + o ∧ ((pc : Int) + o).toNat = r) (ky : y < x → Go p l e R s m args below meth c Z n0 P kc ks μ k n (mkF m r L st)) (kn : ¬ y < x → Go p l e R s m args below meth c Z n0 P kc ks μ k n (mkF m q L st)) : Go p l e R s m args below meth c Z n0 P kc ks μ k n (mkF m pc L (.int y :: .int x :: st)) := by
  subst hq
  by_cases hc : y < x
  · exact Go.pure (ky hc) fun T h t k => XS.icmpYes h C.1 rfl rfl (hb C.2.1 hd) rfl (XT.ii_gt_t hc) hr.1 hr.2 k
  · exact Go.pure (kn (by first | exact hc | exact Decidable.of_not_not hc)) fun T h t k => XS.icmpNo h C.1 rfl (hb C.2.1 hd) rfl (XT.ii_gt_f (by first | exact hc | exact Decidable.of_not_not hc)) k
theorem if_gt (C : Ctx p s m meth c Z own nm B ml rt) {x : Int32} {o : Int} {r : Nat} (hd : decode B pc = .ok (.ifCond .gt o, 3)) (hq : pc + 3 = q) (hr : 0 ≤ (pc : Int) + o ∧ ((pc : Int) + o).toNat = r) (ky : 0 < x → Go p l e R s m args below meth c Z n0 P kc ks μ k n (mkF m r L st)) (kn : ¬ 0 < x → Go p l e R s m args below meth c Z n0 P kc ks μ k n (mkF m q L st)) : Go p l e R s m args below meth c Z n0 P kc ks μ k n (mkF m pc L (.int x :: st)) := by
  subst hq
  by_cases hc : 0 < x
  · exact Go.pure (ky hc) fun T h t k => XS.ifYes h C.1 rfl rfl (hb C.2.1 hd) rfl (XT.i0_gt_t hc) hr.1 hr.2 k
  · exact Go.pure (kn (by first | exact hc | exact Decidable.of_not_not hc)) fun T h t k => XS.ifNo h C.1 rfl (hb C.2.1 hd) rfl (XT.i0_gt_f (by first | exact hc | exact Decidable.of_not_not hc)) k
theorem lcmp_gt (C : Ctx p s m meth c Z own nm B ml rt) {x y : Int64} {o : Int} {r pc1 : Nat} (hd0 : decode B pc = .ok (.lcmp, 1)) (h1 : pc + 1 = pc1) (hd : decode B pc1 = .ok (.ifCond .gt o, 3)) (hq : pc1 + 3 = q) (hr : 0 ≤ (pc1 : Int) + o ∧ ((pc1 : Int) + o).toNat = r) (ky : y < x → Go p l e R s m args below meth c Z n0 P kc ks μ k n (mkF m r L st)) (kn : ¬ y < x → Go p l e R s m args below meth c Z n0 P kc ks μ k n (mkF m q L st)) : Go p l e R s m args below meth c Z n0 P kc ks μ k n (mkF m pc L (.long y :: .long x :: st)) := by
  subst hq h1
  refine Go.pure (g' := mkF m (pc + 1) L (.int (XT.cmpL x y) :: st)) ?_ fun T h t k => XT.lcmp h C.1 rfl (hb C.2.1 hd0) rfl k
  by_cases hc : y < x
  · exact Go.pure (ky hc) fun T h t k => XS.ifYes h C.1 rfl rfl (hb C.2.1 hd) rfl (XT.ll_gt_t hc) hr.1 hr.2 k
  · exact Go.pure (kn (by first | exact hc | exact Decidable.of_not_not hc)) fun T h t k => XS.ifNo h C.1 rfl (hb C.2.1 hd) rfl (XT.ll_gt_f (by first | exact hc | exact Decidable.of_not_not hc)) k
theorem icmp_le (C : Ctx p s m meth c Z own nm B ml rt) {x y : Int32} {o : Int} {r : Nat} (hd : decode B pc = .ok (.if_icmp .le o, 3)) (hq : pc + 3 = q) (hr : 0 ≤ (pc : Int) + o ∧ ((pc : Int) + o).toNat = r) (ky : ¬ y < x → Go p l e R s m args below meth c Z n0 P kc ks μ k n (mkF m r L st)) (kn : y < x → Go p l e R s m args below meth c Z n0 P kc ks μ k n (mkF m q L st)) : Go p l e R s m args below meth c Z n0 P kc ks μ k n (mkF m pc L (.int y :: .int x :: st)) := by
  subst hq
  by_cases hc : ¬ y < x
  · exact Go.pure (ky hc) fun T h t k => XS.icmpYes h C.1 rfl rfl (hb C.2.1 hd) rfl (XT.ii_le_t hc) hr.1 hr.2 k
  · exact Go.pure (kn (by first | exact hc | exact Decidable.of_not_not hc)) fun T h t k => XS.icmpNo h C.1 rfl (hb C.2.1 hd) rfl (XT.ii_le_f (by first | exact hc | exact Decidable.of_not_not hc)) k
theorem if_le (C : Ctx p s m meth c Z own nm B ml rt) {x : Int32} {o : Int} {r : Nat} (hd : decode B pc = .ok (.ifCond .le o, 3)) (hq : pc + 3 = q) (hr : 0 ≤ (pc : Int) + o ∧ ((pc : Int) + o).toNat = r) (ky : ¬ 0 < x → Go p l e R s m args below meth c Z n0 P kc ks μ k n (mkF m r L st)) (kn : 0 < x → Go p l e R s m args below meth c Z n0 P kc ks μ k n (mkF m q L st)) : Go p l e R s m args below meth c Z n0 P kc ks μ k n (mkF m pc L (.int x :: st)) := by
  subst hq
  by_cases hc : ¬ 0 < x
  · exact Go.pure (ky hc) fun T h t k => XS.ifYes h C.1 rfl rfl (hb C.2.1 hd) rfl (XT.i0_le_t hc) hr.1 hr.2 k
  · exact Go.pure (kn (by first | exact hc | exact Decidable.of_not_not hc)) fun T h t k => XS.ifNo h C.1 rfl (hb C.2.1 hd) rfl (XT.i0_le_f (by first | exact hc | exact Decidable.of_not_not hc)) k
theorem lcmp_le (C : Ctx p s m meth c Z own nm B ml rt) {x y : Int64} {o : Int} {r pc1 : Nat} (hd0 : decode B pc = .ok (.lcmp, 1)) (h1 : pc + 1 = pc1) (hd : decode B pc1 = .ok (.ifCond .le o, 3)) (hq : pc1 + 3 = q) (hr : 0 ≤ (pc1 : Int) + o ∧ ((pc1 : Int) + o).toNat = r) (ky : ¬ y < x → Go p l e R s m args below meth c Z n0 P kc ks μ k n (mkF m r L st)) (kn : y < x → Go p l e R s m args below meth c Z n0 P kc ks μ k n (mkF m q L st)) : Go p l e R s m args below meth c Z n0 P kc ks μ k n (mkF m pc L (.long y :: .long x :: st)) := by
  subst hq h1
  refine Go.pure (g' := mkF m (pc + 1) L (.int (XT.cmpL x y) :: st)) ?_ fun T h t k => XT.lcmp h C.1 rfl (hb C.2.1 hd0) rfl k
  by_cases hc : ¬ y < x
  · exact Go.pure (ky hc) fun T h t k => XS.ifYes h C.1 rfl rfl (hb C.2.1 hd) rfl (XT.ll_le_t hc) hr.1 hr.2 k
  · exact Go.pure (kn (by first | exact hc | exact Decidable.of_not_not hc)) fun T h t k => XS.ifNo h C.1 rfl (hb C.2.1 hd) rfl (XT.ll_le_f (by first | exact hc | exact Decidable.of_not_not hc)) k
theorem ifnullY (C : Ctx p s m meth c Z own nm B ml rt) {o : Int} {b : Addr} (hd : decode B pc = .ok (.ifnull o, 3)) (hq : 0 ≤ (pc : Int) + o ∧ ((pc : Int) + o).toNat = q) (k' : Go p l e R s m args below meth c Z n0 P kc ks μ k n (mkF m q L st)) : Go p l e R s m args below meth c Z n0 P kc ks μ k n (mkF m pc L (.null :: st)) := Go.pure k' fun T h t hr => XS.ifnullYes h C.1 rfl rfl (hb C.2.1 hd) rfl hq.1 hq.2 hr
theorem ifnullN (C : Ctx p s m meth c Z own nm B ml rt) {o : Int} {b : Addr} (hd : decode B pc = .ok (.ifnull o, 3)) (hq : pc + 3 = q) (k' : Go p l e R s m args below meth c Z n0 P kc ks μ k n (mkF m q L st)) : Go p l e R s m args below meth c Z n0 P kc ks μ k n (mkF m pc L ((.ref b) :: st)) := by
  subst hq
  exact Go.pure k' fun T h t hr => XS.ifnullNo h C.1 rfl (hb C.2.1 hd) rfl hr
theorem ifnonnullY (C : Ctx p s m meth c Z own nm B ml rt) {o : Int} {b : Addr} (hd : decode B pc = .ok (.ifnonnull o, 3)) (hq : 0 ≤ (pc : Int) + o ∧ ((pc : Int) + o).toNat = q) (k' : Go p l e R s m args below meth c Z n0 P kc ks μ k n (mkF m q L st)) : Go p l e R s m args below meth c Z n0 P kc ks μ k n (mkF m pc L ((.ref b) :: st)) := Go.pure k' fun T h t hr => XT.ifnonnullYes h C.1 rfl rfl (hb C.2.1 hd) rfl hq.1 hq.2 hr
theorem ifnonnullN (C : Ctx p s m meth c Z own nm B ml rt) {o : Int} {b : Addr} (hd : decode B pc = .ok (.ifnonnull o, 3)) (hq : pc + 3 = q) (k' : Go p l e R s m args below meth c Z n0 P kc ks μ k n (mkF m q L st)) : Go p l e R s m args below meth c Z n0 P kc ks μ k n (mkF m pc L (.null :: st)) := by
  subst hq
  exact Go.pure k' fun T h t hr => XT.ifnonnullNo h C.1 rfl (hb C.2.1 hd) rfl hr
theorem acmp_eq (C : Ctx p s m meth c Z own nm B ml rt) {x y : Value} {o : Int} {r : Nat} (hd : decode B pc = .ok (.if_acmp .eq o, 3)) (hq : pc + 3 = q) (hr : 0 ≤ (pc : Int) + o ∧ ((pc : Int) + o).toNat = r) (h1 : x.isRef = true) (h2 : y.isRef = true) (ky : x = y → Go p l e R s m args below meth c Z n0 P kc ks μ k n (mkF m r L st)) (kn : ¬ x = y → Go p l e R s m args below meth c Z n0 P kc ks μ k n (mkF m q L st)) : Go p l e R s m args below meth c Z n0 P kc ks μ k n (mkF m pc L (y :: x :: st)) := by
  subst hq
  by_cases hc : x = y
  · exact Go.pure (ky hc) fun T h t k => XT.acmpYes h C.1 rfl rfl (hb C.2.1 hd) rfl h1 h2 (XT.aa_eq_t hc) hr.1 hr.2 k
  · exact Go.pure (kn (by first | exact hc | exact Decidable.of_not_not hc)) fun T h t k => XT.acmpNo h C.1 rfl (hb C.2.1 hd) rfl h1 h2 (XT.aa_eq_f (by first | exact hc | exact Decidable.of_not_not hc)) k
theorem acmp_ne (C : Ctx p s m meth c Z own nm B ml rt) {x y : Value} {o : Int} {r : Nat} (hd : decode B pc = .ok (.if_acmp .ne o, 3)) (hq : pc + 3 = q) (hr : 0 ≤ (pc : Int) + o ∧ ((pc : Int) + o).toNat = r) (h1 : x.isRef = true) (h2 : y.isRef = true) (ky : ¬ x = y → Go p l e R s m args below meth c Z n0 P kc ks μ k n (mkF m r L st)) (kn : x = y → Go p l e R s m args below meth c Z n0 P kc ks μ k n (mkF m q L st)) : Go p l e R s m args below meth c Z n0 P kc ks μ k n (mkF m pc L (y :: x :: st)) := by
  subst hq
  by_cases hc : ¬ x = y
  · exact Go.pure (ky hc) fun T h t k => XT.acmpYes h C.1 rfl rfl (hb C.2.1 hd) rfl h1 h2 (XT.aa_ne_t hc) hr.1 hr.2 k
  · exact Go.pure (kn (by first | exact hc | exact Decidable.of_not_not hc)) fun T h t k => XT.acmpNo h C.1 rfl (hb C.2.1 hd) rfl h1 h2 (XT.aa_ne_f (by first | exact hc | exact Decidable.of_not_not hc)) k
theorem mem {μ' : Mem} {g : JFrame} (h : μ = μ') (k' : Go p l e R s m args below meth c Z n0 P kc ks μ' k n g) : Go p l e R s m args below meth c Z n0 P kc ks μ k n g := by subst h; exact k'
/-! constants of the pool -/
theorem ldcI (C : Ctx p s m meth c Z own nm B ml rt) {i : Nat} {v : Int32} (hd : decode B pc = .ok (.ldc i, 2)) (hq : pc + 2 = q) (w : (Cond.constant own i v).before a0 Z = true) (k' : Go p l e R s m args below meth c Z n0 P kc ks μ k n (mkF m q L (.int v :: st))) : Go p l e R s m args below meth c Z n0 P kc ks μ k n (mkF m pc L st) := by
  subst hq
  exact Go.stand k' fun T locs X H => ⟨T, X, rfl, X.ldcInt C.1 C.2.2.2.2.1 (mvT C.2.2.2.1 w) (g := mkF m pc L st) rfl (hb C.2.1 hd)⟩
theorem ldcwI (C : Ctx p s m meth c Z own nm B ml rt) {i : Nat} {v : Int32} (hd : decode B pc = .ok (.ldc_w i, 3)) (hq : pc + 3 = q) (w : (Cond.constant own i v).before a0 Z = true) (k' : Go p l e R s m args below meth c Z n0 P kc ks μ k n (mkF m q L (.int v :: st))) : Go p l e R s m args below meth c Z n0 P kc ks μ k n (mkF m pc L st) := by
  subst hq
  exact Go.stand k' fun T locs X H => ⟨T, X, rfl, X.ldcwInt C.1 C.2.2.2.2.1 (mvT C.2.2.2.1 w) (g := mkF m pc L st) rfl (hb C.2.1 hd)⟩
theorem ldcJ (C : Ctx p s m meth c Z own nm B ml rt) {i : Nat} {v : Int64} (hd : decode B pc = .ok (.ldc2_w i, 3)) (hq : pc + 3 = q) (w : (Cond.constantLong own i v).before a0 Z = true) (k' : Go p l e R s m args below meth c Z n0 P kc ks μ k n (mkF m q L (.long v :: st))) : Go p l e R s m args below meth c Z n0 P kc ks μ k n (mkF m pc L st) := by
  subst hq
  exact Go.stand k' fun T locs X H => ⟨T, X, rfl, X.ldc2Long C.1 C.2.2.2.2.1 (mvT C.2.2.2.1 w) (g := mkF m pc L st) rfl (hb C.2.1 hd)⟩
/-! fields -/
theorem getfield (C : Ctx p s m meth c Z own nm B ml rt) {i j : Nat} {R0 O f d host K : String} {fs : List (Key × Value)} {v : Value} {a : Addr} (hd : decode B pc = .ok (.getfield i, 3)) (hq : pc + 3 = q) (w : (Cond.fieldLink own i R0 f d).before a0 Z = true ∨ (Cond.fieldLinkNest own i R0 f d host).before a0 Z = true) (via : Via Z R0 O f d)
    (hμ : μ a = some (.inl (K, fs))) (hj : fs[j]? = some ((O, f, d), v)) (k' : Go p l e R s m args below meth c Z n0 P kc ks μ k n (mkF m q L (v :: st))) : Go p l e R s m args below meth c Z n0 P kc ks μ k n (mkF m pc L (.ref a :: st)) := by
  subst hq
  refine Go.stand k' fun T locs X H => ?_
  have I := H.2 a _ hμ
  exact getF X C.1 C.2.2.2.1 C.2.2.2.2.1 w via rfl (I.2.1 _ (List.mem_of_getElem? hj)) (g := mkF m pc L (.ref a :: st)) rfl rfl (hb C.2.1 hd)
theorem putfield (C : Ctx p s m meth c Z own nm B ml rt) {i j kk : Nat} {R0 O f d host K : String} {fs fs' : List (Key × Value)} {v old : Value} {a : Addr} {ty : FieldType} (hd : decode B pc = .ok (.putfield i, 3)) (hq : pc + 3 = q) (w : (Cond.fieldLink own i R0 f d).before a0 Z = true ∨ (Cond.fieldLinkNest own i R0 f d host).before a0 Z = true) (via : Via Z R0 O f d)
    (wl : (Cond.lays K O f d).before a0 Z = true ∨ ((Cond.laysFinal K O f d).before a0 Z = true ∧ own = O ∧ nm = "<init>")) (wi : (Cond.instantiable K kk).before a0 Z = true) (hty : parseFieldDescriptor d = some ty) (hn : narrow ty v = v) (hf : fits ty v = true)
    (hμ : μ a = some (.inl (K, fs))) (hj : fs[j]? = some ((O, f, d), old)) (hfs : fs.set j ((O, f, d), v) = fs') (ha : n0 ≤ a) (k' : Go p l e R s m args below meth c Z n0 P kc ks (upd μ a (.inl (K, fs'))) k n (mkF m q L st)) : Go p l e R s m args below meth c Z n0 P kc ks μ k n (mkF m pc L (v :: .ref a :: st)) := by
  subst hq
  intro T locs X F H
  have I := H.2 a _ hμ
  obtain ⟨T', h', X', e', W, stp⟩ := putF X C.1 C.2.2.2.1 C.2.2.2.2.1 w via rfl (I.2.1 _ (List.mem_of_getElem? hj)) I.1 (wl.imp id fun z => ⟨z.1, z.2.1, C.2.2.2.2.2.2.2.trans z.2.2⟩) wi hty hn hf (g := mkF m pc L (v :: .ref a :: st)) rfl rfl (hb C.2.1 hd)
  obtain ⟨s2, o, h1, h2⟩ := k' T' _ X' (Fr.snoc X' F ha) (by rw [e']; exact H.wr W ha (IsO.put I hj W hfs))
  exact ⟨s2, o, stp _ h1, h2⟩
theorem putfieldN (C : Ctx p s m meth c Z own nm B ml rt) {i j kk : Nat} {R0 O f d K : String} {fs fs' : List (Key × Value)} {v v' old : Value} {a : Addr} {ty : FieldType} (hd : decode B pc = .ok (.putfield i, 3)) (hq : pc + 3 = q) (w : (Cond.fieldLink own i R0 f d).before a0 Z = true) (via : Via Z R0 O f d)
    (wl : (Cond.lays K O f d).before a0 Z = true ∨ ((Cond.laysFinal K O f d).before a0 Z = true ∧ own = O ∧ nm = "<init>")) (wi : (Cond.instantiable K kk).before a0 Z = true) (hty : parseFieldDescriptor d = some ty) (hn : narrow ty v = v') (hf : fits ty v' = true)
    (hμ : μ a = some (.inl (K, fs))) (hj : fs[j]? = some ((O, f, d), old)) (hfs : fs.set j ((O, f, d), v') = fs') (ha : n0 ≤ a) (k' : Go p l e R s m args below meth c Z n0 P kc ks (upd μ a (.inl (K, fs'))) k n (mkF m q L st)) : Go p l e R s m args below meth c Z n0 P kc ks μ k n (mkF m pc L (v :: .ref a :: st)) := by
  subst hq
  intro T locs X F H
  have I := H.2 a _ hμ
  obtain ⟨T', h', X', e', W, stp⟩ := putFN X C.1 C.2.2.2.1 C.2.2.2.2.1 w via rfl (I.2.1 _ (List.mem_of_getElem? hj)) I.1 (wl.imp id fun z => ⟨z.1, z.2.1, C.2.2.2.2.2.2.2.trans z.2.2⟩) wi hty hn hf (g := mkF m pc L (v :: .ref a :: st)) rfl rfl (hb C.2.1 hd)
  obtain ⟨s2, o, h1, h2⟩ := k' T' _ X' (Fr.snoc X' F ha) (by rw [e']; exact H.wr W ha (IsO.put I hj W hfs))
  exact ⟨s2, o, stp _ h1, h2⟩
theorem getstatic (C : Ctx p s m meth c Z own nm B ml rt) {i : Nat} {R0 O f d host : String} {v : Value} (hd : decode B pc = .ok (.getstatic i, 3)) (hq : pc + 3 = q) (w : (Cond.fieldLink own i R0 f d).before a0 Z = true ∨ (Cond.fieldLinkNest own i R0 f d host).before a0 Z = true) (via : Via Z R0 O f d)
    (S : Sta Z Z.heap O f d v) (k' : Go p l e R s m args below meth c Z n0 P kc ks μ k n (mkF m q L (v :: st))) : Go p l e R s m args below meth c Z n0 P kc ks μ k n (mkF m pc L st) := by
  subst hq
  exact Go.stand k' fun T locs X H => getS2 X C.1 C.2.2.2.1 C.2.2.2.2.1 w via rfl (S.ext H.1.2) (g := mkF m pc L st) rfl (hb C.2.1 hd)
/-! new objects -/
def AllLaid (Z : State) (a0 : Array Value) (C : String) : List (Key × Value) → Prop
  | [] => True
  | q :: r => (∃ ty, Laid Z a0 C q.1.1 q.1.2.1 q.1.2.2 ∧ parseFieldDescriptor q.1.2.2 = some ty ∧ q.2 = defaultValue ty) ∧ AllLaid Z a0 C r
theorem AllLaid.mem {K : String} : ∀ {fs : List (Key × Value)}, AllLaid Z a0 K fs → ∀ q ∈ fs, ∃ ty, Laid Z a0 K q.1.1 q.1.2.1 q.1.2.2 ∧ parseFieldDescriptor q.1.2.2 = some ty ∧ q.2 = defaultValue ty
  | [], _, _, h => nomatch h
  | _ :: _, H, q, h => (List.mem_cons.mp h).elim (fun z => z ▸ H.1) (AllLaid.mem H.2 q)
theorem AllLaid.pw {K : String} : ∀ {fs : List (Key × Value)}, AllLaid Z a0 K fs → fs.Pairwise (fun q r => q.1.2.1 ≠ r.1.2.1) → fs.Pairwise fun q r => sl Z q ≠ sl Z r
  | [], _, _ => .nil
  | x :: r, H, N => by
    cases N with
    | cons h1 h2 =>
      refine .cons (fun y hy => ?_) (AllLaid.pw H.2 h2)
      obtain ⟨t1, L1, p1, -⟩ := H.1
      obtain ⟨t2, L2, p2, -⟩ := AllLaid.mem H.2 y hy
      exact RoadKit.slot_ne L1 L2 (h1 y hy) p1 p2
theorem new (C : Ctx p s m meth c Z own nm B ml rt) {i ns : Nat} {K : String} {fs : List (Key × Value)} (hd : decode B pc = .ok (.new i, 3)) (hq : pc + 3 = q) (w1 : (Cond.classLink own i K).before a0 Z = true) (w2 : (Cond.instantiable K ns).before a0 Z = true) (w3 : (Cond.initialized K).before a0 Z = true)
    (hl : AllLaid Z a0 K fs) (hnd : fs.Pairwise (fun q r => q.1.2.1 ≠ r.1.2.1)) (hc : k + 1 ≤ R.cells) (hs : n + ns ≤ R.slots)
    (k' : ∀ a : Addr, (∀ b o, μ b = some o → b ≠ a) → n0 ≤ a → Go p l e R s m args below meth c Z n0 P kc ks (upd μ a (.inl (K, fs))) (k + 1) (n + ns) (mkF m q L (.ref a :: st))) : Go p l e R s m args below meth c Z n0 P kc ks μ k n (mkF m pc L st) := by
  subst hq
  intro T locs X F H
  obtain ⟨T', h', X', e', E, A, D, -, stp⟩ := newO X C.1 C.2.2.2.1 C.2.2.2.2.1 w1 w2 w3 rfl (g := mkF m pc L st) rfl (hb C.2.1 hd) hc hs
  obtain ⟨s2, o, h1, h2⟩ := k' T.heap.size H.fresh H.ge T' _ X' F (by
    rw [e']
    refine Hp.set (H.ext E) ⟨A, fun z hz => ?_, hl.pw hnd⟩
    obtain ⟨ty, l1, l2, l3⟩ := hl.mem z hz
    rw [l3]; exact D l1 l2)
  exact ⟨s2, o, stp _ h1, h2⟩
theorem newArr (C : Ctx p s m meth c Z own nm B ml rt) {aty : ArrayType} {ty : FieldType} {z : Int32} {cap : Nat} {vs : List Value} (hd : decode B pc = .ok (.newarray aty, 2)) (hq : pc + 2 = q) (ht : newarray.typeOf aty = ty) (w : (Cond.arrayClass ty).before a0 Z = true) (hz : ¬ z < 0) (hcap : z.toNatClampNeg ≤ cap) (hbig : cap * 8 ≤ 536870912) (hvs : List.replicate z.toNatClampNeg (defaultValue ty) = vs)
    (hc : k + 1 ≤ R.cells) (hs : n + cap ≤ R.slots)
    (k' : ∀ a : Addr, (∀ b o, μ b = some o → b ≠ a) → n0 ≤ a → Go p l e R s m args below meth c Z n0 P kc ks (upd μ a (.inr (ty, vs))) (k + 1) (n + cap) (mkF m q L (.ref a :: st))) : Go p l e R s m args below meth c Z n0 P kc ks μ k n (mkF m pc L (.int z :: st)) := by
  subst hq hvs ht
  intro T locs X F H
  obtain ⟨T', h', cA, X', e', E, A, stp⟩ := newP X C.1 C.2.2.2.1 w rfl (g := mkF m pc L (.int z :: st)) rfl (hb C.2.1 hd) rfl hz hcap hbig hc hs
  obtain ⟨s2, o, h1, h2⟩ := k' T.heap.size H.fresh H.ge T' _ X' F (by
    rw [e']
    refine Hp.set (H.ext E) ⟨_, A, by simp [newA], by rw [List.length_replicate]; exact (back32 hz).2, fun v hv => ?_, fun _ K hK => ?_⟩
    · rw [(List.mem_replicate.mp hv).2]; cases aty <;> rfl
    · cases aty <;> cases hK)
  exact ⟨s2, o, stp _ h1, h2⟩
theorem newRef (C : Ctx p s m meth c Z own nm B ml rt) {i : Nat} {K : String} {z : Int32} {cap : Nat} {vs : List Value} (hd : decode B pc = .ok (.anewarray i, 3)) (hq : pc + 3 = q) (w1 : (Cond.classLink own i K).before a0 Z = true) (w2 : (Cond.arrayOver (.object K)).before a0 Z = true) (hz : ¬ z < 0) (hcap : z.toNatClampNeg ≤ cap) (hbig : cap * 8 ≤ 536870912) (hvs : List.replicate z.toNatClampNeg Value.null = vs)
    (hc : k + 1 ≤ R.cells) (hs : n + cap ≤ R.slots)
    (k' : ∀ a : Addr, (∀ b o, μ b = some o → b ≠ a) → n0 ≤ a → Go p l e R s m args below meth c Z n0 P kc ks (upd μ a (.inr (.object K, vs))) (k + 1) (n + cap) (mkF m q L (.ref a :: st))) : Go p l e R s m args below meth c Z n0 P kc ks μ k n (mkF m pc L (.int z :: st)) := by
  subst hq hvs
  intro T locs X F H
  obtain ⟨T', h', cA, X', e', E, A, O, stp⟩ := newR X C.1 C.2.2.2.1 C.2.2.2.2.1 w1 w2 rfl (g := mkF m pc L (.int z :: st)) rfl (hb C.2.1 hd) rfl hz hcap hbig hc hs
  obtain ⟨s2, o, h1, h2⟩ := k' T.heap.size H.fresh H.ge T' _ X' F (by
    rw [e']
    refine Hp.set (H.ext E) ⟨_, A, by simp [newA, defaultValue], by rw [List.length_replicate]; exact (back32 hz).2, fun v hv => ?_, fun _ K' hK => ?_⟩
    · rw [(List.mem_replicate.mp hv).2]; rfl
    · cases hK; exact O)
  exact ⟨s2, o, stp _ h1, h2⟩
/-! arrays -/
theorem inb {c : Cell} {vs : List Value} {j : Int32} (e : c.slots.toList = vs) (h0 : ¬ j < 0) (hj : j.toNatClampNeg < vs.length) : ¬ (j < 0 ∨ c.slots.size ≤ j.toNatClampNeg) := by
  subst e; rw [Array.length_toList] at hj; rintro (q | q)
  · exact h0 q
  · omega
theorem atL {c : Cell} {vs : List Value} {j : Nat} {v : Value} (e : c.slots.toList = vs) (hv : vs[j]? = some v) : c.slots[j]? = some v := by
  subst e; rw [Array.getElem?_toList] at hv; exact hv
theorem arraylength (C : Ctx p s m meth c Z own nm B ml rt) {ty : FieldType} {vs : List Value} {a : Addr} (hd : decode B pc = .ok (.arraylength, 1)) (hq : pc + 1 = q) (hμ : μ a = some (.inr (ty, vs))) (k' : ∀ z : Int32, z = Int32.ofNat vs.length → z.toInt = vs.length → Go p l e R s m args below meth c Z n0 P kc ks μ k n (mkF m q L (.int z :: st))) : Go p l e R s m args below meth c Z n0 P kc ks μ k n (mkF m pc L (.ref a :: st)) := by
  subst hq
  intro T locs X F H
  obtain ⟨cl, A, e1, hl, -⟩ := H.2 a _ hμ
  have e2 : cl.slots.size = vs.length := by subst e1; rw [Array.length_toList]
  obtain ⟨s2, o, h1, h2⟩ := k' (Int32.ofNat vs.length) rfl (Int32.toInt_ofNat_small hl) T _ X F H
  exact ⟨s2, o, X.arraylength C.1 A.1 (State.isArrayOf_alike C.2.2.2.1.alike A.2.1) (g := mkF m pc L (.ref a :: st)) rfl rfl (hb C.2.1 hd) _ (by rw [e2]; exact h1), h2⟩
theorem iaload (C : Ctx p s m meth c Z own nm B ml rt) {vs : List Value} {a : Addr} {j : Int32} {v : Value} (hd : decode B pc = .ok (.iaload, 1)) (hq : pc + 1 = q) (hμ : μ a = some (.inr (.int, vs))) (h0 : ¬ j < 0) (hv : vs[j.toNatClampNeg]? = some v) (k' : Go p l e R s m args below meth c Z n0 P kc ks μ k n (mkF m q L (v :: st))) : Go p l e R s m args below meth c Z n0 P kc ks μ k n (mkF m pc L (.int j :: .ref a :: st)) := by
  subst hq
  intro T locs X F H
  obtain ⟨cl, A, e1, -⟩ := H.2 a _ hμ
  obtain ⟨s2, o, h1, h2⟩ := k' T _ X F H
  exact ⟨s2, o, X.iaload C.1 A.1 (State.isArrayOf_alike C.2.2.2.1.alike A.2.1) A.2.2 (inb e1 h0 (List.getElem?_eq_some_iff.mp hv).1) (atL e1 hv) (g := mkF m pc L (.int j :: .ref a :: st)) rfl rfl (hb C.2.1 hd) _ h1, h2⟩
theorem laload (C : Ctx p s m meth c Z own nm B ml rt) {vs : List Value} {a : Addr} {j : Int32} {v : Value} (hd : decode B pc = .ok (.laload, 1)) (hq : pc + 1 = q) (hμ : μ a = some (.inr (.long, vs))) (h0 : ¬ j < 0) (hv : vs[j.toNatClampNeg]? = some v) (k' : Go p l e R s m args below meth c Z n0 P kc ks μ k n (mkF m q L (v :: st))) : Go p l e R s m args below meth c Z n0 P kc ks μ k n (mkF m pc L (.int j :: .ref a :: st)) := by
  subst hq
  intro T locs X F H
  obtain ⟨cl, A, e1, -⟩ := H.2 a _ hμ
  obtain ⟨s2, o, h1, h2⟩ := k' T _ X F H
  exact ⟨s2, o, X.laload C.1 A.1 (State.isArrayOf_alike C.2.2.2.1.alike A.2.1) A.2.2 (inb e1 h0 (List.getElem?_eq_some_iff.mp hv).1) (atL e1 hv) (g := mkF m pc L (.int j :: .ref a :: st)) rfl rfl (hb C.2.1 hd) _ h1, h2⟩
theorem caload (C : Ctx p s m meth c Z own nm B ml rt) {vs : List Value} {a : Addr} {j : Int32} {v : Value} (hd : decode B pc = .ok (.caload, 1)) (hq : pc + 1 = q) (hμ : μ a = some (.inr (.char, vs))) (h0 : ¬ j < 0) (hv : vs[j.toNatClampNeg]? = some v) (k' : Go p l e R s m args below meth c Z n0 P kc ks μ k n (mkF m q L (v :: st))) : Go p l e R s m args below meth c Z n0 P kc ks μ k n (mkF m pc L (.int j :: .ref a :: st)) := by
  subst hq
  intro T locs X F H
  obtain ⟨cl, A, e1, -⟩ := H.2 a _ hμ
  obtain ⟨s2, o, h1, h2⟩ := k' T _ X F H
  exact ⟨s2, o, X.caload C.1 A.1 (State.isArrayOf_alike C.2.2.2.1.alike A.2.1) A.2.2 (inb e1 h0 (List.getElem?_eq_some_iff.mp hv).1) (atL e1 hv) (g := mkF m pc L (.int j :: .ref a :: st)) rfl rfl (hb C.2.1 hd) _ h1, h2⟩
theorem baload (C : Ctx p s m meth c Z own nm B ml rt) {vs : List Value} {a : Addr} {j : Int32} {v : Value} (hd : decode B pc = .ok (.baload, 1)) (hq : pc + 1 = q) (hμ : μ a = some (.inr (.byte, vs))) (h0 : ¬ j < 0) (hv : vs[j.toNatClampNeg]? = some v) (k' : Go p l e R s m args below meth c Z n0 P kc ks μ k n (mkF m q L (v :: st))) : Go p l e R s m args below meth c Z n0 P kc ks μ k n (mkF m pc L (.int j :: .ref a :: st)) := by
  subst hq
  intro T locs X F H
  obtain ⟨cl, A, e1, -⟩ := H.2 a _ hμ
  obtain ⟨s2, o, h1, h2⟩ := k' T _ X F H
  exact ⟨s2, o, X.baloadBytes C.1 A.1 (State.isArrayOf_alike C.2.2.2.1.alike A.2.1) A.2.2 (inb e1 h0 (List.getElem?_eq_some_iff.mp hv).1) (atL e1 hv) (g := mkF m pc L (.int j :: .ref a :: st)) rfl rfl (hb C.2.1 hd) _ h1, h2⟩
theorem zaload (C : Ctx p s m meth c Z own nm B ml rt) {vs : List Value} {a : Addr} {j : Int32} {v : Value} (hd : decode B pc = .ok (.baload, 1)) (hq : pc + 1 = q) (hμ : μ a = some (.inr (.boolean, vs))) (h0 : ¬ j < 0) (hv : vs[j.toNatClampNeg]? = some v) (k' : Go p l e R s m args below meth c Z n0 P kc ks μ k n (mkF m q L (v :: st))) : Go p l e R s m args below meth c Z n0 P kc ks μ k n (mkF m pc L (.int j :: .ref a :: st)) := by
  subst hq
  intro T locs X F H
  obtain ⟨cl, A, e1, -⟩ := H.2 a _ hμ
  obtain ⟨s2, o, h1, h2⟩ := k' T _ X F H
  exact ⟨s2, o, X.baloadBooleans C.1 A.1 (State.isArrayOf_alike C.2.2.2.1.alike A.2.1) A.2.2 (inb e1 h0 (List.getElem?_eq_some_iff.mp hv).1) (atL e1 hv) (g := mkF m pc L (.int j :: .ref a :: st)) rfl rfl (hb C.2.1 hd) _ h1, h2⟩
theorem aaload (C : Ctx p s m meth c Z own nm B ml rt) {ty : FieldType} {vs : List Value} {a : Addr} {j : Int32} {v : Value} (hd : decode B pc = .ok (.aaload, 1)) (hq : pc + 1 = q) (hμ : μ a = some (.inr (ty, vs))) (hr : ty.isReference = true) (h0 : ¬ j < 0) (hv : vs[j.toNatClampNeg]? = some v) (k' : Go p l e R s m args below meth c Z n0 P kc ks μ k n (mkF m q L (v :: st))) : Go p l e R s m args below meth c Z n0 P kc ks μ k n (mkF m pc L (.int j :: .ref a :: st)) := by
  subst hq
  intro T locs X F H
  obtain ⟨cl, A, e1, -⟩ := H.2 a _ hμ
  obtain ⟨s2, o, h1, h2⟩ := k' T _ X F H
  exact ⟨s2, o, X.aaload C.1 A.1 (State.isArrayOf_alike C.2.2.2.1.alike A.2.1) hr A.2.2 (inb e1 h0 (List.getElem?_eq_some_iff.mp hv).1) (atL e1 hv) (g := mkF m pc L (.int j :: .ref a :: st)) rfl rfl (hb C.2.1 hd) _ h1, h2⟩
theorem iastore (C : Ctx p s m meth c Z own nm B ml rt) {vs : List Value} {a : Addr} {j : Int32} {x : Int32} (hd : decode B pc = .ok (.iastore, 1)) (hq : pc + 1 = q) (hμ : μ a = some (.inr (.int, vs))) (h0 : ¬ j < 0) (hj : j.toNatClampNeg < vs.length) (ha : n0 ≤ a) (k' : Go p l e R s m args below meth c Z n0 P kc ks (upd μ a (.inr (.int, vs.set j.toNatClampNeg (.int x)))) k n (mkF m q L st)) : Go p l e R s m args below meth c Z n0 P kc ks μ k n (mkF m pc L ((.int x) :: .int j :: .ref a :: st)) := by
  subst hq
  intro T locs X F H
  have I := H.2 a _ hμ
  obtain ⟨cl, A, e1, -⟩ := id I
  obtain ⟨T', h', X', e', W, stp⟩ := stI X C.1 C.2.2.2.1 rfl A (inb e1 h0 hj) (g := mkF m pc L ((.int x) :: .int j :: .ref a :: st)) rfl rfl (hb C.2.1 hd)
  obtain ⟨s2, o, h1, h2⟩ := k' T' _ X' (Fr.snoc X' F ha) (by rw [e']; exact H.wr W ha (IsA.put I rfl W))
  exact ⟨s2, o, stp _ h1, h2⟩
theorem lastore (C : Ctx p s m meth c Z own nm B ml rt) {vs : List Value} {a : Addr} {j : Int32} {x : Int64} (hd : decode B pc = .ok (.lastore, 1)) (hq : pc + 1 = q) (hμ : μ a = some (.inr (.long, vs))) (h0 : ¬ j < 0) (hj : j.toNatClampNeg < vs.length) (ha : n0 ≤ a) (k' : Go p l e R s m args below meth c Z n0 P kc ks (upd μ a (.inr (.long, vs.set j.toNatClampNeg (.long x)))) k n (mkF m q L st)) : Go p l e R s m args below meth c Z n0 P kc ks μ k n (mkF m pc L ((.long x) :: .int j :: .ref a :: st)) := by
  subst hq
  intro T locs X F H
  have I := H.2 a _ hμ
  obtain ⟨cl, A, e1, -⟩ := id I
  obtain ⟨T', h', X', e', W, stp⟩ := stJ X C.1 C.2.2.2.1 rfl A (inb e1 h0 hj) (g := mkF m pc L ((.long x) :: .int j :: .ref a :: st)) rfl rfl (hb C.2.1 hd)
  obtain ⟨s2, o, h1, h2⟩ := k' T' _ X' (Fr.snoc X' F ha) (by rw [e']; exact H.wr W ha (IsA.put I rfl W))
  exact ⟨s2, o, stp _ h1, h2⟩
theorem castore (C : Ctx p s m meth c Z own nm B ml rt) {vs : List Value} {a : Addr} {j : Int32} {x : Int32} (hd : decode B pc = .ok (.castore, 1)) (hq : pc + 1 = q) (hμ : μ a = some (.inr (.char, vs))) (h0 : ¬ j < 0) (hj : j.toNatClampNeg < vs.length) (ha : n0 ≤ a) (k' : Go p l e R s m args below meth c Z n0 P kc ks (upd μ a (.inr (.char, vs.set j.toNatClampNeg (.int (nar .char x))))) k n (mkF m q L st)) : Go p l e R s m args below meth c Z n0 P kc ks μ k n (mkF m pc L ((.int x) :: .int j :: .ref a :: st)) := by
  subst hq
  intro T locs X F H
  have I := H.2 a _ hμ
  obtain ⟨cl, A, e1, -⟩ := id I
  obtain ⟨T', h', X', e', W, stp⟩ := stC X C.1 C.2.2.2.1 rfl A (inb e1 h0 hj) (g := mkF m pc L ((.int x) :: .int j :: .ref a :: st)) rfl rfl (hb C.2.1 hd)
  obtain ⟨s2, o, h1, h2⟩ := k' T' _ X' (Fr.snoc X' F ha) (by rw [e']; exact H.wr W ha (IsA.put I (fits_nar_char _) W))
  exact ⟨s2, o, stp _ h1, h2⟩
theorem bastore (C : Ctx p s m meth c Z own nm B ml rt) {vs : List Value} {a : Addr} {j : Int32} {x : Int32} (hd : decode B pc = .ok (.bastore, 1)) (hq : pc + 1 = q) (hμ : μ a = some (.inr (.byte, vs))) (h0 : ¬ j < 0) (hj : j.toNatClampNeg < vs.length) (ha : n0 ≤ a) (k' : Go p l e R s m args below meth c Z n0 P kc ks (upd μ a (.inr (.byte, vs.set j.toNatClampNeg (.int x.toInt8.toInt32)))) k n (mkF m q L st)) : Go p l e R s m args below meth c Z n0 P kc ks μ k n (mkF m pc L ((.int x) :: .int j :: .ref a :: st)) := by
  subst hq
  intro T locs X F H
  have I := H.2 a _ hμ
  obtain ⟨cl, A, e1, -⟩ := id I
  obtain ⟨T', h', X', e', W, stp⟩ := stB X C.1 C.2.2.2.1 rfl A (inb e1 h0 hj) (g := mkF m pc L ((.int x) :: .int j :: .ref a :: st)) rfl rfl (hb C.2.1 hd)
  obtain ⟨s2, o, h1, h2⟩ := k' T' _ X' (Fr.snoc X' F ha) (by rw [e']; exact H.wr W ha (IsA.put I (fits_nar_byte _) W))
  exact ⟨s2, o, stp _ h1, h2⟩
theorem zastore (C : Ctx p s m meth c Z own nm B ml rt) {vs : List Value} {a : Addr} {j : Int32} {x : Int32} (hd : decode B pc = .ok (.bastore, 1)) (hq : pc + 1 = q) (hμ : μ a = some (.inr (.boolean, vs))) (h0 : ¬ j < 0) (hj : j.toNatClampNeg < vs.length) (ha : n0 ≤ a) (k' : Go p l e R s m args below meth c Z n0 P kc ks (upd μ a (.inr (.boolean, vs.set j.toNatClampNeg (.int (nar .boolean x))))) k n (mkF m q L st)) : Go p l e R s m args below meth c Z n0 P kc ks μ k n (mkF m pc L ((.int x) :: .int j :: .ref a :: st)) := by
  subst hq
  intro T locs X F H
  have I := H.2 a _ hμ
  obtain ⟨cl, A, e1, -⟩ := id I
  obtain ⟨T', h', X', e', W, stp⟩ := stZ X C.1 C.2.2.2.1 rfl A (inb e1 h0 hj) (g := mkF m pc L ((.int x) :: .int j :: .ref a :: st)) rfl rfl (hb C.2.1 hd)
  obtain ⟨s2, o, h1, h2⟩ := k' T' _ X' (Fr.snoc X' F ha) (by rw [e']; exact H.wr W ha (IsA.put I (fits_nar_bool _) W))
  exact ⟨s2, o, stp _ h1, h2⟩
theorem aastore (C : Ctx p s m meth c Z own nm B ml rt) {K : String} {vs : List Value} {a : Addr} {j : Int32} {v : Value} (hd : decode B pc = .ok (.aastore, 1)) (hq : pc + 1 = q) (hμ : μ a = some (.inr (.object K, vs))) (hv : v = .null ∨ ∃ b, v = .ref b ∧ ∀ h, Hp Z n0 μ h → Ins Z h b K true) (h0 : ¬ j < 0) (hj : j.toNatClampNeg < vs.length) (ha : n0 ≤ a) (k' : Go p l e R s m args below meth c Z n0 P kc ks (upd μ a (.inr (.object K, vs.set j.toNatClampNeg v))) k n (mkF m q L st)) : Go p l e R s m args below meth c Z n0 P kc ks μ k n (mkF m pc L (v :: .int j :: .ref a :: st)) := by
  subst hq
  intro T locs X F H
  have I := H.2 a _ hμ
  obtain ⟨cl, A, e1, -, -, O⟩ := id I
  have S : Sto Z T.heap a v := by
    rcases hv with rfl | ⟨b, rfl, hb⟩
    · exact Or.inl rfl
    · exact Sto.of A (O ha K rfl) (hb _ H)
  have hf : fits (.object K) v = true := by
    rcases hv with rfl | ⟨b, rfl, -⟩ <;> rfl
  obtain ⟨T', h', X', e', W, stp⟩ := stR X C.1 C.2.2.2.1 rfl A (inb e1 h0 hj) rfl S (g := mkF m pc L (v :: .int j :: .ref a :: st)) rfl rfl (hb C.2.1 hd)
  obtain ⟨s2, o, h1, h2⟩ := k' T' _ X' (Fr.snoc X' F ha) (by rw [e']; exact H.wr W ha (IsA.put I hf W))
  exact ⟨s2, o, stp _ h1, h2⟩
/-! returns -/
theorem ireturn (C : Ctx p s m meth c Z own nm B ml (some .int)) {z : Int32} (hd : decode B pc = .ok (.ireturn, 1)) (hk : k ≤ kc) (hn : n ≤ ks) (h : P (some (.int z)) μ) : Go p l e R s m args below meth c Z n0 P kc ks μ k n (mkF m pc L (.int z :: st)) := fun T locs X F H => by
  obtain ⟨fs, hr, hrun, hended, hW, hsame⟩ := X.leave (v := some (.int z)) (fun h => by rw [C.2.2.2.2.2.1] at h; cases h) C.2.2.2.2.2.2.1
  exact ⟨_, _, retOut X C.1 C.2.2.2.2.2.1 rfl (Or.inl ⟨rfl, Or.inl rfl, z, rfl⟩) (hb C.2.1 hd) hr, hrun, hended, _, _, rfl, ⟨F, μ, H, h⟩, ⟨_, rfl⟩, hW, hsame.mono hk hn⟩
theorem nreturn {t : FieldType} (C : Ctx p s m meth c Z own nm B ml (some t)) {z z' : Int32} (hd : decode B pc = .ok (.ireturn, 1)) (ht : t = .boolean ∨ t = .byte ∨ t = .char ∨ t = .short) (hz : nar t z = z') (hk : k ≤ kc) (hn : n ≤ ks) (h : P (some (.int z')) μ) : Go p l e R s m args below meth c Z n0 P kc ks μ k n (mkF m pc L (.int z :: st)) := fun T locs X F H => by
  subst hz
  obtain ⟨fs, hr, hrun, hended, hW, hsame⟩ := X.leave (v := some (.int (nar t z))) (fun h => by rw [C.2.2.2.2.2.1] at h; cases h) C.2.2.2.2.2.2.1
  exact ⟨_, _, retN X C.1 C.2.2.2.2.2.1 ht (hb C.2.1 hd) hr, hrun, hended, _, _, rfl, ⟨F, μ, H, h⟩, ⟨_, rfl⟩, hW, hsame.mono hk hn⟩
theorem lreturn (C : Ctx p s m meth c Z own nm B ml (some .long)) {z : Int64} (hd : decode B pc = .ok (.lreturn, 1)) (hk : k ≤ kc) (hn : n ≤ ks) (h : P (some (.long z)) μ) : Go p l e R s m args below meth c Z n0 P kc ks μ k n (mkF m pc L (.long z :: st)) := fun T locs X F H => by
  obtain ⟨fs, hr, hrun, hended, hW, hsame⟩ := X.leave (v := some (.long z)) (fun h => by rw [C.2.2.2.2.2.1] at h; cases h) C.2.2.2.2.2.2.1
  exact ⟨_, _, retOut X C.1 C.2.2.2.2.2.1 rfl (Or.inr (Or.inl ⟨rfl, rfl, z, rfl⟩)) (hb C.2.1 hd) hr, hrun, hended, _, _, rfl, ⟨F, μ, H, h⟩, ⟨_, rfl⟩, hW, hsame.mono hk hn⟩
theorem nref {t : FieldType} {v : Value} (h1 : t.isReference = true) (h2 : v.isRef = true) : narrow t v = v := by
  cases t <;> first | (cases h1; done) | rfl
theorem areturn {t : FieldType} (C : Ctx p s m meth c Z own nm B ml (some t)) {v : Value} (ht : t.isReference = true) (hv : v.isRef = true) (hd : decode B pc = .ok (.areturn, 1)) (hk : k ≤ kc) (hn : n ≤ ks) (h : P (some v) μ) : Go p l e R s m args below meth c Z n0 P kc ks μ k n (mkF m pc L (v :: st)) := fun T locs X F H => by
  obtain ⟨fs, hr, hrun, hended, hW, hsame⟩ := X.leave (v := some v) (fun h => by rw [C.2.2.2.2.2.1] at h; cases h) C.2.2.2.2.2.2.1
  exact ⟨_, _, retOut X C.1 C.2.2.2.2.2.1 (nref ht hv) (Or.inr (Or.inr (Or.inr (Or.inr ⟨rfl, ht, hv⟩)))) (hb C.2.1 hd) hr, hrun, hended, _, _, rfl, ⟨F, μ, H, h⟩, ⟨_, rfl⟩, hW, hsame.mono hk hn⟩
theorem vreturn (C : Ctx p s m meth c Z own nm B ml none) (hd : decode B pc = .ok (.return_, 1)) (hk : k ≤ kc) (hn : n ≤ ks) (h : P none μ) : Go p l e R s m args below meth c Z n0 P kc ks μ k n (mkF m pc L []) := fun T locs X F H => by
  obtain ⟨fs, hr, hrun, hended, hW, hsame⟩ := X.leave (v := none) (fun _ => rfl) C.2.2.2.2.2.2.1
  exact ⟨_, _, X.returnOut C.1 C.2.2.2.2.2.1 (hb C.2.1 hd) hr, hrun, hended, _, _, rfl, ⟨F, μ, H, h⟩, ⟨_, rfl⟩, hW, hsame.mono hk hn⟩
/-! what a callee leaves, by the kind of its return -/
def RV (Q : Mem → Prop) : Option Value → Mem → Prop := fun v μ => v = none ∧ Q μ
def RI (Q : Int32 → Mem → Prop) : Option Value → Mem → Prop := fun v μ => ∃ z, v = some (.int z) ∧ Q z μ
def RJ (Q : Int64 → Mem → Prop) : Option Value → Mem → Prop := fun v μ => ∃ z, v = some (.long z) ∧ Q z μ
def RR (Q : Value → Mem → Prop) : Option Value → Mem → Prop := fun v μ => ∃ z : Value, v = some z ∧ z.isRef = true ∧ Q z μ
section Nx
variable {k2 n2 : Nat}
theorem nxV {Q : Mem → Prop} (h : ∀ μ', Q μ' → Go p l e R s m args below meth c Z n0 P kc ks μ' k2 n2 (mkF m q L st)) : ∀ v μ', RV Q v μ' → Go p l e R s m args below meth c Z n0 P kc ks μ' k2 n2 (mkF m q L (v.toList ++ st)) := fun v μ' ⟨e1, e2⟩ => by subst e1; exact h μ' e2
theorem nxI {Q : Int32 → Mem → Prop} (h : ∀ z μ', Q z μ' → Go p l e R s m args below meth c Z n0 P kc ks μ' k2 n2 (mkF m q L (.int z :: st))) : ∀ v μ', RI Q v μ' → Go p l e R s m args below meth c Z n0 P kc ks μ' k2 n2 (mkF m q L (v.toList ++ st)) := fun v μ' ⟨z, e1, e2⟩ => by subst e1; exact h z μ' e2
theorem nxJ {Q : Int64 → Mem → Prop} (h : ∀ z μ', Q z μ' → Go p l e R s m args below meth c Z n0 P kc ks μ' k2 n2 (mkF m q L (.long z :: st))) : ∀ v μ', RJ Q v μ' → Go p l e R s m args below meth c Z n0 P kc ks μ' k2 n2 (mkF m q L (v.toList ++ st)) := fun v μ' ⟨z, e1, e2⟩ => by subst e1; exact h z μ' e2
theorem nxR {Q : Value → Mem → Prop} (h : ∀ z μ', z.isRef = true → Q z μ' → Go p l e R s m args below meth c Z n0 P kc ks μ' k2 n2 (mkF m q L (z :: st))) : ∀ v μ', RR Q v μ' → Go p l e R s m args below meth c Z n0 P kc ks μ' k2 n2 (mkF m q L (v.toList ++ st)) := fun v μ' ⟨z, e1, e2, e3⟩ => by subst e1; exact h z μ' e2 e3
end Nx
/-! calls by contract -/
theorem backs {y : MethodName} {B' : ByteArray} {ml' : Nat} {rt' : Option FieldType} {rm : Room} {len W : Nat} {as' : Array Value} {P' : Option Value → Mem → Prop} {h : Heap}
    (con : Con l Z n0 y B' ml' rt' [] rm rm.cells rm.slots as' μ P') (H : Hp Z n0 μ h) (hZ : Z.Warmed39 s.vm) (wc : (Cond.code y B' ml' rt').before a0 Z = true) (wz : (Cond.initialized y.cls).before a0 Z = true) (hf : rm.frames + 1 ≤ R.frames) (hl : W + (ml' + 11) + rm.locals ≤ R.locals) :
    Back l R p e below s args y len W (fun A a => a = as' ∧ A.U.heap = h ∧ A.cells + rm.cells ≤ R.cells ∧ A.slots + rm.slots ≤ R.slots)
      (fun A _ v B => ∃ L, (Fr n0 L ∧ ∃ μ', Hp Z n0 μ' B.U.heap ∧ P' v μ') ∧ B.locs = A.locs ++ L ∧ B.cells = A.cells + rm.cells ∧ B.slots = A.slots + rm.slots) :=
  backOf (Q := fun v h' L => Fr n0 L ∧ ∃ μ', Hp Z n0 μ' h' ∧ P' v μ') (con h H) hZ wc wz hf hl
theorem callS (C : Ctx p s m meth c Z own nm B ml rt) {i : Nat} {y : MethodName} {B' : ByteArray} {ml' : Nat} {rt' : Option FieldType} {rm : Room} {W : Nat} {argsL : List Value} {P' : Option Value → Mem → Prop} {S : List Value} (hd : decode B pc = .ok (.invokestatic i, 3)) (hq : pc + 3 = q)
    (w1 : (Cond.methodLink own i y).before a0 Z = true) (w2 : (Cond.static y).before a0 Z = true) (w3 : (Cond.initialized y.cls).before a0 Z = true) (w4 : (Cond.code y B' ml' rt').before a0 Z = true) (hy : y.cls ≠ "java/lang/invoke/MethodHandle" ∧ y.cls ≠ "java/lang/invoke/VarHandle")
    (hlen : ∀ sig, parseMethodDescriptor y.desc = some sig → argsL.length = sig.parameters.length) (hS : S = argsL.reverse ++ st) (hsz : L.size = ml) (hW : 2 * 0 + (st.map fun v => v.category).sum ≤ W) (hf : rm.frames + 1 ≤ R.frames) (hl : W + (ml' + 11) + rm.locals ≤ R.locals) (hc : k + rm.cells ≤ R.cells) (hs : n + rm.slots ≤ R.slots)
    (con : Con l Z n0 y B' ml' rt' [] rm rm.cells rm.slots argsL.toArray μ P')
    (k' : ∀ v μ', P' v μ' → Go p l e R s m args below meth c Z n0 P kc ks μ' (k + rm.cells) (n + rm.slots) (mkF m q L (v.toList ++ st))) : Go p l e R s m args below meth c Z n0 P kc ks μ k n (mkF m pc L S) := by
  subst hq
  intro T locs X F H
  obtain ⟨v, vm1, ⟨T', L', k2, n2⟩, -, X', ⟨Lc, ⟨N, μ', H', hP⟩, e1, e2, e3⟩, stp⟩ := Jvm.LawKit.callS X C.1 (y := y) C.2.2.2.2.1 (mvT C.2.2.2.1 w1) (mvT C.2.2.2.1 w2) (mvT C.2.2.2.1 w3) (mvT C.2.2.2.1 w4) hy (backs (W := W) con H C.2.2.2.1 w4 w3 hf hl) (g := mkF m pc L S) rfl (hsz.trans C.2.2.1.symm) (argsL := argsL) (rest := st) hlen hS hW (hb C.2.1 hd) (fun _ _ => ⟨rfl, rfl, hc, hs⟩)
  dsimp only [Pt.U, Pt.locs, Pt.cells, Pt.slots] at X' e1 e2 e3 stp H'
  subst e1 e2 e3
  obtain ⟨s2, o, h1, h2⟩ := k' v μ' hP T' _ X' (F.app N) H'
  exact ⟨s2, o, stp _ h1, h2⟩
theorem callI (C : Ctx p s m meth c Z own nm B ml rt) {i : Nat} {y : MethodName} {B' : ByteArray} {ml' : Nat} {rm : Room} {W : Nat} {argsL : List Value} {P' : Option Value → Mem → Prop} {S : List Value} {a : Addr} (hd : decode B pc = .ok (.invokespecial i, 3)) (hq : pc + 3 = q) (hnm : y.name = "<init>")
    (w1 : (Cond.methodLink own i y).before a0 Z = true) (w2 : (Cond.instanceMethod y).before a0 Z = true) (w3 : (Cond.initialized y.cls).before a0 Z = true) (w4 : (Cond.code y B' ml' none).before a0 Z = true) (hy : y.cls ≠ "java/lang/invoke/MethodHandle" ∧ y.cls ≠ "java/lang/invoke/VarHandle")
    (hlen : ∀ sig, parseMethodDescriptor y.desc = some sig → argsL.length = sig.parameters.length) (hS : S = argsL.reverse ++ .ref a :: st) (hsz : L.size = ml) (hW : 2 * 0 + (st.map fun v => v.category).sum ≤ W) (hf : rm.frames + 1 ≤ R.frames) (hl : W + (ml' + 11) + rm.locals ≤ R.locals) (hc : k + rm.cells ≤ R.cells) (hs : n + rm.slots ≤ R.slots)
    (con : Con l Z n0 y B' ml' none [] rm rm.cells rm.slots (.ref a :: argsL).toArray μ P')
    (k' : ∀ v μ', P' v μ' → Go p l e R s m args below meth c Z n0 P kc ks μ' (k + rm.cells) (n + rm.slots) (mkF m q L (v.toList ++ st))) : Go p l e R s m args below meth c Z n0 P kc ks μ k n (mkF m pc L S) := by
  subst hq
  intro T locs X F H
  obtain ⟨v, vm1, ⟨T', L', k2, n2⟩, -, X', ⟨Lc, ⟨N, μ', H', hP⟩, e1, e2, e3⟩, stp⟩ := X.specialBack C.1 (y := y) hnm C.2.2.2.2.1 (mvT C.2.2.2.1 w1) (mvT C.2.2.2.1 w2) (mvT C.2.2.2.1 w4) hy (backs (W := W) con H C.2.2.2.1 w4 w3 hf hl) (g := mkF m pc L S) rfl (hsz.trans C.2.2.1.symm) (Steps.refl _) (a := a) (argsL := argsL) (rest := st) hlen hS hW (hb C.2.1 hd) (fun _ _ => ⟨rfl, rfl, hc, hs⟩)
  dsimp only [Pt.U, Pt.locs, Pt.cells, Pt.slots] at X' e1 e2 e3 stp H'
  subst e1 e2 e3
  obtain ⟨s2, o, h1, h2⟩ := k' v μ' hP T' _ X' (F.app N) H'
  exact ⟨s2, o, stp.trans h1, h2⟩
theorem initObj (C : Ctx p s m meth c Z own nm B ml rt) {i W : Nat} {a : Addr} (hd : decode B pc = .ok (.invokespecial i, 3)) (hq : pc + 3 = q) (w1 : (Cond.methodLink own i Lib.objectInit).before a0 Z = true) (w2 : (Cond.instanceMethod Lib.objectInit).before a0 Z = true) (w3 : (Cond.code Lib.objectInit ⟨#[0xb1]⟩ 1 none).before a0 Z = true)
    (hsz : L.size = ml) (hf : 1 ≤ R.frames) (hW : 2 * 0 + (st.map fun v => v.category).sum ≤ W) (hl : W + 12 ≤ R.locals) (k' : Go p l e R s m args below meth c Z n0 P kc ks μ k n (mkF m q L st)) : Go p l e R s m args below meth c Z n0 P kc ks μ k n (mkF m pc L (.ref a :: st)) := by
  subst hq
  exact Go.stand k' fun T locs X H => initO X C.1 C.2.2.2.1 C.2.2.2.2.1 w1 w2 w3 rfl (g := mkF m pc L (.ref a :: st)) rfl (hsz.trans C.2.2.1.symm) rfl (hb C.2.1 hd) hf hW hl
theorem callV (C : Ctx p s m meth c Z own nm B ml rt) {i : Nat} {y z : MethodName} {K : String} {fs : List (Key × Value)} {B' : ByteArray} {ml' : Nat} {rt' : Option FieldType} {rm : Room} {W : Nat} {argsL : List Value} {P' : Option Value → Mem → Prop} {S : List Value} {a : Addr} (hd : decode B pc = .ok (.invokevirtual i, 3)) (hq : pc + 3 = q)
    (w1 : (Cond.methodLink own i y).before a0 Z = true) (w2 : (Cond.declares y).before a0 Z = true) (hnf : NotFace s y) (w5 : (Cond.selects K y z).before a0 Z = true) (w6 : (Cond.instanceMethod z).before a0 Z = true) (w3 : (Cond.initialized z.cls).before a0 Z = true) (w4 : (Cond.code z B' ml' rt').before a0 Z = true) (hy : y.cls ≠ "java/lang/invoke/MethodHandle" ∧ y.cls ≠ "java/lang/invoke/VarHandle")
    (hlen : ∀ sig, parseMethodDescriptor y.desc = some sig → argsL.length = sig.parameters.length) (hS : S = argsL.reverse ++ .ref a :: st) (hsz : L.size = ml) (hW : 2 * 0 + (st.map fun v => v.category).sum ≤ W) (hf : rm.frames + 1 ≤ R.frames) (hl : W + (ml' + 11) + rm.locals ≤ R.locals) (hc : k + rm.cells ≤ R.cells) (hs : n + rm.slots ≤ R.slots)
    (hμ : μ a = some (.inl (K, fs))) (con : Con l Z n0 z B' ml' rt' [] rm rm.cells rm.slots (.ref a :: argsL).toArray μ P')
    (k' : ∀ v μ', P' v μ' → Go p l e R s m args below meth c Z n0 P kc ks μ' (k + rm.cells) (n + rm.slots) (mkF m q L (v.toList ++ st))) : Go p l e R s m args below meth c Z n0 P kc ks μ k n (mkF m pc L S) := by
  subst hq
  intro T locs X F H
  obtain ⟨cq, kq, qa, qb, qc⟩ := isOf (T := T) C.2.2.2.1 rfl (H.2 a _ hμ).1
  obtain ⟨v, vm1, ⟨T', L', k2, n2⟩, -, X', ⟨Lc, ⟨N, μ', H', hP⟩, e1, e2, e3⟩, stp⟩ := X.virtualBack C.1 (y := y) (z := z) C.2.2.2.2.1 (mvT C.2.2.2.1 w1) (mvT C.2.2.2.1 w2) hnf (mvT C.2.2.2.1 w5) (mvT C.2.2.2.1 w6) hy (backs (W := W) con H C.2.2.2.1 w4 w3 hf hl) qa qc (g := mkF m pc L S) rfl (hsz.trans C.2.2.1.symm) (Steps.refl _) (argsL := argsL) (rest := st) hlen hS hW (hb C.2.1 hd) (fun _ _ => ⟨rfl, rfl, hc, hs⟩)
  dsimp only [Pt.U, Pt.locs, Pt.cells, Pt.slots] at X' e1 e2 e3 stp H'
  subst e1 e2 e3
  obtain ⟨s2, o, h1, h2⟩ := k' v μ' hP T' _ X' (F.app N) H'
  exact ⟨s2, o, stp.trans h1, h2⟩
theorem callP (C : Ctx p s m meth c Z own nm B ml rt) {i : Nat} {y : MethodName} {K : String} {fs : List (Key × Value)} {B' : ByteArray} {ml' : Nat} {rt' : Option FieldType} {rm : Room} {W : Nat} {argsL : List Value} {P' : Option Value → Mem → Prop} {S : List Value} {a : Addr} (hd : decode B pc = .ok (.invokevirtual i, 3)) (hq : pc + 3 = q)
    (w1 : (Cond.methodLink own i y).before a0 Z = true) (w2 : (Cond.privateMethod y).before a0 Z = true) {kk : Nat} (w5 : (Cond.instantiable y.cls kk).before a0 Z = true) (w6 : (Cond.instanceMethod y).before a0 Z = true) (w3 : (Cond.initialized y.cls).before a0 Z = true) (w4 : (Cond.code y B' ml' rt').before a0 Z = true) (hy : y.cls ≠ "java/lang/invoke/MethodHandle" ∧ y.cls ≠ "java/lang/invoke/VarHandle")
    (hlen : ∀ sig, parseMethodDescriptor y.desc = some sig → argsL.length = sig.parameters.length) (hS : S = argsL.reverse ++ .ref a :: st) (hsz : L.size = ml) (hW : 2 * 0 + (st.map fun v => v.category).sum ≤ W) (hf : rm.frames + 1 ≤ R.frames) (hl : W + (ml' + 11) + rm.locals ≤ R.locals) (hc : k + rm.cells ≤ R.cells) (hs : n + rm.slots ≤ R.slots)
    (hμ : μ a = some (.inl (K, fs))) (con : Con l Z n0 y B' ml' rt' [] rm rm.cells rm.slots (.ref a :: argsL).toArray μ P')
    (k' : ∀ v μ', P' v μ' → Go p l e R s m args below meth c Z n0 P kc ks μ' (k + rm.cells) (n + rm.slots) (mkF m q L (v.toList ++ st))) : Go p l e R s m args below meth c Z n0 P kc ks μ k n (mkF m pc L S) := by
  subst hq
  intro T locs X F H
  obtain ⟨cq, q1, q2⟩ := (H.2 a _ hμ).1.cell
  have hp : s.PrivateAt y := Cond.privateMethod_at (mvP C.2.2.2.1 w2 (args := #[]))
  obtain ⟨c2, k2, i1, i2, -, i4, -⟩ := Cond.instantiable_spec (show (Cond.instantiable y.cls kk).before args s = true from mvT C.2.2.2.1 w5)
  have h5 : (Cond.selects y.cls y y).before args s = true := Jvm.Stand.selects_self_of_private i1 i2 (by simp only [Bool.or_eq_false_iff] at i4; exact i4.1) hp (mvT C.2.2.2.1 w6) hy
  obtain ⟨v, vm1, ⟨T', L', k2, n2⟩, -, X', ⟨Lc, ⟨N, μ', H', hP⟩, e1, e2, e3⟩, stp⟩ := X.privateBack C.1 (y := y) C.2.2.2.2.1 (mvT C.2.2.2.1 w1) (mvT C.2.2.2.1 w6) h5 hp (mvT C.2.2.2.1 w4) hy (backs (W := W) con H C.2.2.2.1 w4 w3 hf hl) (g := mkF m pc L S) rfl (hsz.trans C.2.2.1.symm) (Steps.refl _) (a := a) q1 q2 (argsL := argsL) (rest := st) hlen hS hW (hb C.2.1 hd) (fun _ _ => ⟨rfl, rfl, hc, hs⟩)
  dsimp only [Pt.U, Pt.locs, Pt.cells, Pt.slots] at X' e1 e2 e3 stp H'
  subst e1 e2 e3
  obtain ⟨s2, o, h1, h2⟩ := k' v μ' hP T' _ X' (F.app N) H'
  exact ⟨s2, o, stp.trans h1, h2⟩
end Rules
end Jvm.Own
namespace Jvm.Pilot.@@N@@
open Jvm Jvm.ClassFile Sem Op Lib Jvm.Free Jvm.Stand Jvm.LawKit Jvm.RoadKit Bundle Jvm.Own Jvm.Pilot.@@N@@.Jvm.D
abbrev o_BW (v0 : Value) (v1 : Value) (v2 : Value) (v3 : Value) : Obj := .inl ("com/example/thin_index/thinindex/BitWriter", [(("com/example/thin_index/thinindex/BitWriter", "bytes", "[B"), v0), (("com/example/thin_index/thinindex/BitWriter", "byteCount", "I"), v1), (("com/example/thin_index/thinindex/BitWriter", "pendingCount", "I"), v2), (("com/example/thin_index/thinindex/BitWriter", "pending", "J"), v3)])
theorem lay_BW {Z : State} {a0 : Array Value} (hw : ∀ d ∈ tables_1, d.before a0 Z = true) : AllLaid Z a0 "com/example/thin_index/thinindex/BitWriter" [(("com/example/thin_index/thinindex/BitWriter", "bytes", "[B"), .null), (("com/example/thin_index/thinindex/BitWriter", "byteCount", "I"), (.int (0 : Int32))), (("com/example/thin_index/thinindex/BitWriter", "pendingCount", "I"), (.int (0 : Int32))), (("com/example/thin_index/thinindex/BitWriter", "pending", "J"), (.long (0 : Int64)))] := ⟨⟨(.array .byte), Or.inl (hw _ (List.mem_of_getElem? (i := 12) rfl)), by decide +kernel, rfl⟩, ⟨.int, Or.inl (hw _ (List.mem_of_getElem? (i := 19) rfl)), by decide +kernel, rfl⟩, ⟨.int, Or.inl (hw _ (List.mem_of_getElem? (i := 22) rfl)), by decide +kernel, rfl⟩, ⟨.long, Or.inl (hw _ (List.mem_of_getElem? (i := 29) rfl)), by decide +kernel, rfl⟩, trivial⟩
abbrev rm_1 : Room := { frames := 1, cells := 1, slots := 64, locals := 12 }
theorem d1_0 : decode prog_4_method_1_code 0 = .ok (.aload_n 0, 1) := by decide +kernel
theorem d1_1 : decode prog_4_method_1_code 1 = .ok (.invokespecial 1, 3) := by decide +kernel
theorem d1_4 : decode prog_4_method_1_code 4 = .ok (.aload_n 0, 1) := by decide +kernel
theorem d1_5 : decode prog_4_method_1_code 5 = .ok (.bipush 64, 2) := by decide +kernel
theorem d1_7 : decode prog_4_method_1_code 7 = .ok (.newarray .byte, 2) := by decide +kernel
theorem d1_9 : decode prog_4_method_1_code 9 = .ok (.putfield 7, 3) := by decide +kernel
theorem d1_12 : decode prog_4_method_1_code 12 = .ok (.return_, 1) := by decide +kernel
set_option maxRecDepth 65536 in
set_option maxHeartbeats 4000000 in
theorem c_init (l : Launch) (Z : State) (a0 : Array Value) (hw : ∀ d ∈ tables_1, d.before a0 Z = true) (n0 : Nat) (μ : Mem) (a : Addr) (hμ : μ a = some (o_BW .null (.int (0 : Int32)) (.int (0 : Int32)) (.long (0 : Int64)))) (ga : n0 ≤ a) :
    Con l Z n0 (⟨"com/example/thin_index/thinindex/BitWriter", "<init>", "()V"⟩ : MethodName) prog_4_method_1_code 1 none [] rm_1 rm_1.cells rm_1.slots #[(.ref a)] μ (RV fun μ' => ∃ q, n0 ≤ q ∧ (∀ b o, μ b = some o → b ≠ q) ∧ μ' = upd (upd μ a (o_BW (.ref q) (.int (0 : Int32)) (.int (0 : Int32)) (.long (0 : Int64)))) q (.inr (.byte, (List.replicate 64 (Value.int 0))))) := by
  refine Con.intro (L0 := #[.val (.ref a)]) (plainFor_of_name (by first | (simp [plainName, overriddenIn]; done) | decide +kernel)) (fun m => by first | (simp [entryFrame, mkF, argsToLocals, Value.category]; done) | rfl) ?_
  intro p e s m below meth c C
  have C : Ctx p s m meth c Z "com/example/thin_index/thinindex/BitWriter" "<init>" prog_4_method_1_code 1 none := C
  refine Own.aloadN C d1_0 (q := 1) rfl rfl rfl ?_
  refine Own.initObj C d1_1 (q := 4) rfl (hw _ (List.mem_of_getElem? (i := 7) rfl)) (hw _ (List.mem_of_getElem? (i := 8) rfl)) (hw _ (List.mem_of_getElem? (i := 9) rfl)) rfl (by decide) (W := 0) (Nat.le_of_eq rfl) (by decide) ?_
  refine Own.aloadN C d1_4 (q := 5) rfl rfl rfl ?_
  refine Own.bipush C d1_5 (q := 7) rfl (z := 64) (by decide) ?_
  refine Own.newArr C d1_7 (q := 9) rfl (ty := .byte) rfl (hw _ (List.mem_of_getElem? (i := 10) rfl)) (by decide) (cap := 64) (by decide) (by decide) (vs := [(.int (0 : Int32)), (.int (0 : Int32)), (.int (0 : Int32)), (.int (0 : Int32)), (.int (0 : Int32)), (.int (0 : Int32)), (.int (0 : Int32)), (.int (0 : Int32)), (.int (0 : Int32)), (.int (0 : Int32)), (.int (0 : Int32)), (.int (0 : Int32)), (.int (0 : Int32)), (.int (0 : Int32)), (.int (0 : Int32)), (.int (0 : Int32)), (.int (0 : Int32)), (.int (0 : Int32)), (.int (0 : Int32)), (.int (0 : Int32)), (.int (0 : Int32)), (.int (0 : Int32)), (.int (0 : Int32)), (.int (0 : Int32)), (.int (0 : Int32)), (.int (0 : Int32)), (.int (0 : Int32)), (.int (0 : Int32)), (.int (0 : Int32)), (.int (0 : Int32)), (.int (0 : Int32)), (.int (0 : Int32)), (.int (0 : Int32)), (.int (0 : Int32)), (.int (0 : Int32)), (.int (0 : Int32)), (.int (0 : Int32)), (.int (0 : Int32)), (.int (0 : Int32)), (.int (0 : Int32)), (.int (0 : Int32)), (.int (0 : Int32)), (.int (0 : Int32)), (.int (0 : Int32)), (.int (0 : Int32)), (.int (0 : Int32)), (.int (0 : Int32)), (.int (0 : Int32)), (.int (0 : Int32)), (.int (0 : Int32)), (.int (0 : Int32)), (.int (0 : Int32)), (.int (0 : Int32)), (.int (0 : Int32)), (.int (0 : Int32)), (.int (0 : Int32)), (.int (0 : Int32)), (.int (0 : Int32)), (.int (0 : Int32)), (.int (0 : Int32)), (.int (0 : Int32)), (.int (0 : Int32)), (.int (0 : Int32)), (.int (0 : Int32))]) rfl (by decide) (by decide) fun a7 a7_f a7_g => ?_
  have ne_a_a7 := a7_f _ _ hμ
  refine Own.putfield C d1_9 (q := 12) rfl (host := "") (Or.inl (hw _ (List.mem_of_getElem? (i := 11) rfl))) Via.refl (Or.inl (hw _ (List.mem_of_getElem? (i := 12) rfl))) (hw _ (List.mem_of_getElem? (i := 2) rfl)) (ty := (.array .byte)) (by decide) rfl rfl (upd_at ne_a_a7 hμ) (j := 0) rfl (fs' := [(("com/example/thin_index/thinindex/BitWriter", "bytes", "[B"), (.ref a7)), (("com/example/thin_index/thinindex/BitWriter", "byteCount", "I"), (.int (0 : Int32))), (("com/example/thin_index/thinindex/BitWriter", "pendingCount", "I"), (.int (0 : Int32))), (("com/example/thin_index/thinindex/BitWriter", "pending", "J"), (.long (0 : Int64)))]) rfl ga (mem rfl ?_)
  refine Own.vreturn C d1_12 (by decide) (by decide) ?_
  exact ⟨rfl, _, a7_g, a7_f, (upd_in rfl ne_a_a7).symm⟩
abbrev rm_3 : Room := { frames := 0, cells := 0, slots := 0, locals := 0 }
theorem d3_0 : decode prog_4_method_3_code 0 = .ok (.aload_n 0, 1) := by decide +kernel
theorem d3_1 : decode prog_4_method_3_code 1 = .ok (.getfield 23, 3) := by decide +kernel
theorem d3_4 : decode prog_4_method_3_code 4 = .ok (.i2l, 1) := by decide +kernel
theorem d3_5 : decode prog_4_method_3_code 5 = .ok (.ldc2_w 32, 3) := by decide +kernel
theorem d3_8 : decode prog_4_method_3_code 8 = .ok (.lmul, 1) := by decide +kernel
theorem d3_9 : decode prog_4_method_3_code 9 = .ok (.aload_n 0, 1) := by decide +kernel
theorem d3_10 : decode prog_4_method_3_code 10 = .ok (.getfield 17, 3) := by decide +kernel
theorem d3_13 : decode prog_4_method_3_code 13 = .ok (.i2l, 1) := by decide +kernel
theorem d3_14 : decode prog_4_method_3_code 14 = .ok (.ladd, 1) := by decide +kernel
theorem d3_15 : decode prog_4_method_3_code 15 = .ok (.lreturn, 1) := by decide +kernel
set_option maxRecDepth 65536 in
set_option maxHeartbeats 4000000 in
theorem c_bits (l : Launch) (Z : State) (a0 : Array Value) (hw : ∀ d ∈ tables_1, d.before a0 Z = true) (n0 : Nat) (μ : Mem) (a : Addr) (q : Value) (bc pc : Int32) (pd : Int64) (hμ : μ a = some (o_BW q (.int bc) (.int pc) (.long pd))) :
    Con l Z n0 (⟨"com/example/thin_index/thinindex/BitWriter", "bitCount", "()J"⟩ : MethodName) prog_4_method_3_code 1 (some .long) [] rm_3 rm_3.cells rm_3.slots #[(.ref a)] μ (RJ fun z μ' => μ' = μ ∧ z.toInt = 8 * bc.toInt + pc.toInt) := by
  refine Con.intro (L0 := #[.val (.ref a)]) (plainFor_of_name (by first | (simp [plainName, overriddenIn]; done) | decide +kernel)) (fun m => by first | (simp [entryFrame, mkF, argsToLocals, Value.category]; done) | rfl) ?_
  intro p e s m below meth c C
  have C : Ctx p s m meth c Z "com/example/thin_index/thinindex/BitWriter" "bitCount" prog_4_method_3_code 1 (some .long) := C
  refine Own.aloadN C d3_0 (q := 1) rfl rfl rfl ?_
  refine Own.getfield C d3_1 (q := 4) rfl (host := "") (Or.inl (hw _ (List.mem_of_getElem? (i := 18) rfl))) Via.refl hμ (j := 1) rfl ?_
  refine Own.i2l C d3_4 (q := 5) rfl fun z4 e4 => ?_
  refine Own.ldcJ C d3_5 (q := 8) rfl (hw _ (List.mem_of_getElem? (i := 20) rfl)) ?_
  refine Own.lmul C d3_8 (q := 9) rfl fun z8 e8 => ?_
  refine Own.aloadN C d3_9 (q := 10) rfl rfl rfl ?_
  refine Own.getfield C d3_10 (q := 13) rfl (host := "") (Or.inl (hw _ (List.mem_of_getElem? (i := 21) rfl))) Via.refl hμ (j := 2) rfl ?_
  refine Own.i2l C d3_13 (q := 14) rfl fun z13 e13 => ?_
  refine Own.ladd C d3_14 (q := 15) rfl fun z14 e14 => ?_
  refine Own.lreturn C d3_15 (by decide) (by decide) ?_
  refine ⟨_, rfl, rfl, ?_⟩
  have o1 := c_i2l bc; rw [← e4] at o1; have o2 := c_lmul z4 8; rw [← e8] at o2; have o3 := c_i2l pc; rw [← e13] at o3; have o4 := c_ladd z8 z13; rw [← e14] at o4
  have := rng32 bc; have := rng32 pc; have := rng64 z8; have := rng64 z14
  simp only [show (8 : Int64).toInt = 8 from rfl] at o2
  omega
abbrev rm_4 : Room := { frames := 0, cells := 0, slots := 0, locals := 0 }
theorem d4_0 : decode prog_4_method_2_code 0 = .ok (.aload_n 0, 1) := by decide +kernel
theorem d4_1 : decode prog_4_method_2_code 1 = .ok (.aload_n 0, 1) := by decide +kernel
theorem d4_2 : decode prog_4_method_2_code 2 = .ok (.getfield 13, 3) := by decide +kernel
theorem d4_5 : decode prog_4_method_2_code 5 = .ok (.iload_n 2, 1) := by decide +kernel
theorem d4_6 : decode prog_4_method_2_code 6 = .ok (.lshl, 1) := by decide +kernel
theorem d4_7 : decode prog_4_method_2_code 7 = .ok (.iload_n 1, 1) := by decide +kernel
theorem d4_8 : decode prog_4_method_2_code 8 = .ok (.i2l, 1) := by decide +kernel
theorem d4_9 : decode prog_4_method_2_code 9 = .ok (.lconst 1, 1) := by decide +kernel
theorem d4_10 : decode prog_4_method_2_code 10 = .ok (.iload_n 2, 1) := by decide +kernel
theorem d4_11 : decode prog_4_method_2_code 11 = .ok (.lshl, 1) := by decide +kernel
theorem d4_12 : decode prog_4_method_2_code 12 = .ok (.lconst 1, 1) := by decide +kernel
theorem d4_13 : decode prog_4_method_2_code 13 = .ok (.lsub, 1) := by decide +kernel
theorem d4_14 : decode prog_4_method_2_code 14 = .ok (.land, 1) := by decide +kernel
theorem d4_15 : decode prog_4_method_2_code 15 = .ok (.lor, 1) := by decide +kernel
theorem d4_16 : decode prog_4_method_2_code 16 = .ok (.putfield 13, 3) := by decide +kernel
theorem d4_19 : decode prog_4_method_2_code 19 = .ok (.aload_n 0, 1) := by decide +kernel
theorem d4_20 : decode prog_4_method_2_code 20 = .ok (.dup, 1) := by decide +kernel
theorem d4_21 : decode prog_4_method_2_code 21 = .ok (.getfield 17, 3) := by decide +kernel
theorem d4_24 : decode prog_4_method_2_code 24 = .ok (.iload_n 2, 1) := by decide +kernel
theorem d4_25 : decode prog_4_method_2_code 25 = .ok (.iadd, 1) := by decide +kernel
theorem d4_26 : decode prog_4_method_2_code 26 = .ok (.putfield 17, 3) := by decide +kernel
theorem d4_29 : decode prog_4_method_2_code 29 = .ok (.aload_n 0, 1) := by decide +kernel
theorem d4_30 : decode prog_4_method_2_code 30 = .ok (.getfield 17, 3) := by decide +kernel
theorem d4_33 : decode prog_4_method_2_code 33 = .ok (.bipush 8, 2) := by decide +kernel
theorem d4_35 : decode prog_4_method_2_code 35 = .ok (.if_icmp .lt 74, 3) := by decide +kernel
theorem d4_38 : decode prog_4_method_2_code 38 = .ok (.aload_n 0, 1) := by decide +kernel
theorem d4_39 : decode prog_4_method_2_code 39 = .ok (.dup, 1) := by decide +kernel
theorem d4_40 : decode prog_4_method_2_code 40 = .ok (.getfield 17, 3) := by decide +kernel
theorem d4_43 : decode prog_4_method_2_code 43 = .ok (.bipush 8, 2) := by decide +kernel
theorem d4_45 : decode prog_4_method_2_code 45 = .ok (.isub, 1) := by decide +kernel
theorem d4_46 : decode prog_4_method_2_code 46 = .ok (.putfield 17, 3) := by decide +kernel
theorem d4_49 : decode prog_4_method_2_code 49 = .ok (.aload_n 0, 1) := by decide +kernel
theorem d4_50 : decode prog_4_method_2_code 50 = .ok (.getfield 23, 3) := by decide +kernel
theorem d4_53 : decode prog_4_method_2_code 53 = .ok (.aload_n 0, 1) := by decide +kernel
theorem d4_54 : decode prog_4_method_2_code 54 = .ok (.getfield 7, 3) := by decide +kernel
theorem d4_57 : decode prog_4_method_2_code 57 = .ok (.arraylength, 1) := by decide +kernel
theorem d4_58 : decode prog_4_method_2_code 58 = .ok (.if_icmp .ne 21, 3) := by decide +kernel
theorem d4_79 : decode prog_4_method_2_code 79 = .ok (.aload_n 0, 1) := by decide +kernel
theorem d4_80 : decode prog_4_method_2_code 80 = .ok (.getfield 7, 3) := by decide +kernel
theorem d4_83 : decode prog_4_method_2_code 83 = .ok (.aload_n 0, 1) := by decide +kernel
theorem d4_84 : decode prog_4_method_2_code 84 = .ok (.dup, 1) := by decide +kernel
theorem d4_85 : decode prog_4_method_2_code 85 = .ok (.getfield 23, 3) := by decide +kernel
theorem d4_88 : decode prog_4_method_2_code 88 = .ok (.dup_x1, 1) := by decide +kernel
theorem d4_89 : decode prog_4_method_2_code 89 = .ok (.iconst 1, 1) := by decide +kernel
theorem d4_90 : decode prog_4_method_2_code 90 = .ok (.iadd, 1) := by decide +kernel
theorem d4_91 : decode prog_4_method_2_code 91 = .ok (.putfield 23, 3) := by decide +kernel
theorem d4_94 : decode prog_4_method_2_code 94 = .ok (.aload_n 0, 1) := by decide +kernel
theorem d4_95 : decode prog_4_method_2_code 95 = .ok (.getfield 13, 3) := by decide +kernel
theorem d4_98 : decode prog_4_method_2_code 98 = .ok (.aload_n 0, 1) := by decide +kernel
theorem d4_99 : decode prog_4_method_2_code 99 = .ok (.getfield 17, 3) := by decide +kernel
theorem d4_102 : decode prog_4_method_2_code 102 = .ok (.lushr, 1) := by decide +kernel
theorem d4_103 : decode prog_4_method_2_code 103 = .ok (.l2i, 1) := by decide +kernel
theorem d4_104 : decode prog_4_method_2_code 104 = .ok (.i2b, 1) := by decide +kernel
theorem d4_105 : decode prog_4_method_2_code 105 = .ok (.bastore, 1) := by decide +kernel
theorem d4_106 : decode prog_4_method_2_code 106 = .ok (.goto (-77), 3) := by decide +kernel
theorem d4_109 : decode prog_4_method_2_code 109 = .ok (.return_, 1) := by decide +kernel
set_option maxRecDepth 65536 in
set_option maxHeartbeats 4000000 in
theorem c_write (l : Launch) (Z : State) (a0 : Array Value) (hw : ∀ d ∈ tables_1, d.before a0 Z = true) (n0 : Nat) (μ : Mem) (a : Addr) (v : Int32) (cn : Int32) (q : Addr) (vs : List Value) (bc pc : Int32) (pd : Int64) (hμ : μ a = some (o_BW (.ref q) (.int bc) (.int pc) (.long pd))) (hq : μ q = some (.inr (.byte, vs))) (naq : a ≠ q) (ga : n0 ≤ a) (gq : n0 ≤ q) (hl : vs.length = 64) (hc : 0 ≤ cn.toInt ∧ cn.toInt ≤ 32) (hp : 0 ≤ pc.toInt ∧ pc.toInt < 8) (hb : 0 ≤ bc.toInt) (ht : 8 * bc.toInt + pc.toInt + cn.toInt ≤ 500) :
    Con l Z n0 (⟨"com/example/thin_index/thinindex/BitWriter", "write", "(II)V"⟩ : MethodName) prog_4_method_2_code 3 none [] rm_4 rm_4.cells rm_4.slots #[(.ref a), (.int v), (.int cn)] μ (RV fun μ' => ∃ (vs' : List Value) (bc' pc' : Int32) (pd' : Int64), μ' = upd (upd μ a (o_BW (.ref q) (.int bc') (.int pc') (.long pd'))) q (.inr (.byte, vs')) ∧ vs'.length = 64 ∧ 0 ≤ pc'.toInt ∧ pc'.toInt < 8 ∧ 0 ≤ bc'.toInt ∧ 8 * bc'.toInt + pc'.toInt = 8 * bc.toInt + pc.toInt + cn.toInt) := by
  refine Con.intro (L0 := #[.val (.ref a), .val (.int v), .val (.int cn)]) (plainFor_of_name (by first | (simp [plainName, overriddenIn]; done) | decide +kernel)) (fun m => by first | (simp [entryFrame, mkF, argsToLocals, Value.category]; done) | rfl) ?_
  intro p e s m below meth c C
  have C : Ctx p s m meth c Z "com/example/thin_index/thinindex/BitWriter" "write" prog_4_method_2_code 3 none := C
  refine Own.aloadN C d4_0 (q := 1) rfl rfl rfl ?_
  refine Own.aloadN C d4_1 (q := 2) rfl rfl rfl ?_
  refine Own.getfield C d4_2 (q := 5) rfl (host := "") (Or.inl (hw _ (List.mem_of_getElem? (i := 28) rfl))) Via.refl hμ (j := 3) rfl ?_
  refine Own.iloadN C d4_5 (q := 6) rfl rfl ?_
  refine Own.lshl C d4_6 (q := 7) rfl fun z6 e6 => ?_
  refine Own.iloadN C d4_7 (q := 8) rfl rfl ?_
  refine Own.i2l C d4_8 (q := 9) rfl fun z8 e8 => ?_
  refine Own.lconst C d4_9 (q := 10) rfl (z := 1) (by decide) ?_
  refine Own.iloadN C d4_10 (q := 11) rfl rfl ?_
  refine Own.lshl C d4_11 (q := 12) rfl fun z11 e11 => ?_
  refine Own.lconst C d4_12 (q := 13) rfl (z := 1) (by decide) ?_
  refine Own.lsub C d4_13 (q := 14) rfl fun z13 e13 => ?_
  refine Own.land C d4_14 (q := 15) rfl fun z14 e14 => ?_
  refine Own.lor C d4_15 (q := 16) rfl fun z15 e15 => ?_
  refine Own.putfield C d4_16 (q := 19) rfl (host := "") (Or.inl (hw _ (List.mem_of_getElem? (i := 28) rfl))) Via.refl (Or.inl (hw _ (List.mem_of_getElem? (i := 29) rfl))) (hw _ (List.mem_of_getElem? (i := 2) rfl)) (ty := .long) (by decide) rfl rfl hμ (j := 3) rfl (fs' := [(("com/example/thin_index/thinindex/BitWriter", "bytes", "[B"), (.ref q)), (("com/example/thin_index/thinindex/BitWriter", "byteCount", "I"), (.int bc)), (("com/example/thin_index/thinindex/BitWriter", "pendingCount", "I"), (.int pc)), (("com/example/thin_index/thinindex/BitWriter", "pending", "J"), (.long z15))]) rfl ga (mem rfl ?_)
  refine Own.aloadN C d4_19 (q := 20) rfl rfl rfl ?_
  refine Own.dup C d4_20 (q := 21) rfl rfl ?_
  refine Own.getfield C d4_21 (q := 24) rfl (host := "") (Or.inl (hw _ (List.mem_of_getElem? (i := 21) rfl))) Via.refl upd_same (j := 2) rfl ?_
  refine Own.iloadN C d4_24 (q := 25) rfl rfl ?_
  refine Own.iadd C d4_25 (q := 26) rfl fun z25 e25 => ?_
  refine Own.putfield C d4_26 (q := 29) rfl (host := "") (Or.inl (hw _ (List.mem_of_getElem? (i := 21) rfl))) Via.refl (Or.inl (hw _ (List.mem_of_getElem? (i := 22) rfl))) (hw _ (List.mem_of_getElem? (i := 2) rfl)) (ty := .int) (by decide) rfl rfl upd_same (j := 2) rfl (fs' := [(("com/example/thin_index/thinindex/BitWriter", "bytes", "[B"), (.ref q)), (("com/example/thin_index/thinindex/BitWriter", "byteCount", "I"), (.int bc)), (("com/example/thin_index/thinindex/BitWriter", "pendingCount", "I"), (.int z25)), (("com/example/thin_index/thinindex/BitWriter", "pending", "J"), (.long z15))]) rfl ga (mem upd_upd ?_)
  have J29 : ∀ (N : Nat) (vs1 : List Value) (bc1 pc1 : Int32), vs1.length = 64 → 0 ≤ pc1.toInt → 0 ≤ bc1.toInt → 8 * bc1.toInt + pc1.toInt = 8 * bc.toInt + pc.toInt + cn.toInt → pc1.toInt < N → Go p l e rm_4 s m #[(.ref a), (.int v), (.int cn)] below meth c Z n0 (RV fun μ' => ∃ (vs' : List Value) (bc' pc' : Int32) (pd' : Int64), μ' = upd (upd μ a (o_BW (.ref q) (.int bc') (.int pc') (.long pd'))) q (.inr (.byte, vs')) ∧ vs'.length = 64 ∧ 0 ≤ pc'.toInt ∧ pc'.toInt < 8 ∧ 0 ≤ bc'.toInt ∧ 8 * bc'.toInt + pc'.toInt = 8 * bc.toInt + pc.toInt + cn.toInt) rm_4.cells rm_4.slots (upd (upd μ a (o_BW (.ref q) (.int bc1) (.int pc1) (.long z15))) q (.inr (.byte, vs1))) (0) (0) (mkF m 29 #[.val (.ref a), .val (.int v), .val (.int cn)] []) := by
    intro N
    induction N with
    | zero => intro vs1 bc1 pc1 _ h1 _ _ h2; omega
    | succ N ih =>
      intro vs1 bc1 pc1 hl1 hp1 hb1 ht1 hN
      refine Own.aloadN C d4_29 (q := 30) rfl rfl rfl ?_
      refine Own.getfield C d4_30 (q := 33) rfl (host := "") (Or.inl (hw _ (List.mem_of_getElem? (i := 21) rfl))) Via.refl (upd_at naq upd_same) (j := 2) rfl ?_
      refine Own.bipush C d4_33 (q := 35) rfl (z := 8) (by decide) ?_
      refine Own.icmp_lt C d4_35 (q := 38) rfl (r := 109) (by decide) (fun h35 => ?_) (fun h35 => ?_)
      · refine Own.vreturn C d4_109 (by decide) (by decide) ?_
        exact ⟨rfl, vs1, bc1, pc1, _, rfl, hl1, hp1, by simp only [Int32.lt_iff_toInt_lt, Int32.reduceToInt] at h35; omega, hb1, ht1⟩
      · refine Own.aloadN C d4_38 (q := 39) rfl rfl rfl ?_
        refine Own.dup C d4_39 (q := 40) rfl rfl ?_
        refine Own.getfield C d4_40 (q := 43) rfl (host := "") (Or.inl (hw _ (List.mem_of_getElem? (i := 21) rfl))) Via.refl (upd_at naq upd_same) (j := 2) rfl ?_
        refine Own.bipush C d4_43 (q := 45) rfl (z := 8) (by decide) ?_
        refine Own.isub C d4_45 (q := 46) rfl fun z45 e45 => ?_
        refine Own.putfield C d4_46 (q := 49) rfl (host := "") (Or.inl (hw _ (List.mem_of_getElem? (i := 21) rfl))) Via.refl (Or.inl (hw _ (List.mem_of_getElem? (i := 22) rfl))) (hw _ (List.mem_of_getElem? (i := 2) rfl)) (ty := .int) (by decide) rfl rfl (upd_at naq upd_same) (j := 2) rfl (fs' := [(("com/example/thin_index/thinindex/BitWriter", "bytes", "[B"), (.ref q)), (("com/example/thin_index/thinindex/BitWriter", "byteCount", "I"), (.int bc1)), (("com/example/thin_index/thinindex/BitWriter", "pendingCount", "I"), (.int z45)), (("com/example/thin_index/thinindex/BitWriter", "pending", "J"), (.long z15))]) rfl ga (mem (upd_in upd_upd (Ne.symm naq)) ?_)
        refine Own.aloadN C d4_49 (q := 50) rfl rfl rfl ?_
        refine Own.getfield C d4_50 (q := 53) rfl (host := "") (Or.inl (hw _ (List.mem_of_getElem? (i := 18) rfl))) Via.refl (upd_at naq upd_same) (j := 1) rfl ?_
        refine Own.aloadN C d4_53 (q := 54) rfl rfl rfl ?_
        refine Own.getfield C d4_54 (q := 57) rfl (host := "") (Or.inl (hw _ (List.mem_of_getElem? (i := 11) rfl))) Via.refl (upd_at naq upd_same) (j := 0) rfl ?_
        refine Own.arraylength C d4_57 (q := 58) rfl upd_same fun z57 e57 e57i => ?_
        refine Own.icmp_ne C d4_58 (q := 61) rfl (r := 79) (by decide) (fun h58 => ?_) (fun h58 => ?_)
        · refine Own.aloadN C d4_79 (q := 80) rfl rfl rfl ?_
          refine Own.getfield C d4_80 (q := 83) rfl (host := "") (Or.inl (hw _ (List.mem_of_getElem? (i := 11) rfl))) Via.refl (upd_at naq upd_same) (j := 0) rfl ?_
          refine Own.aloadN C d4_83 (q := 84) rfl rfl rfl ?_
          refine Own.dup C d4_84 (q := 85) rfl rfl ?_
          refine Own.getfield C d4_85 (q := 88) rfl (host := "") (Or.inl (hw _ (List.mem_of_getElem? (i := 18) rfl))) Via.refl (upd_at naq upd_same) (j := 1) rfl ?_
          refine Own.dupX1 C d4_88 (q := 89) rfl rfl rfl ?_
          refine Own.iconst C d4_89 (q := 90) rfl (z := 1) (by decide) ?_
          refine Own.iadd C d4_90 (q := 91) rfl fun z90 e90 => ?_
          refine Own.putfield C d4_91 (q := 94) rfl (host := "") (Or.inl (hw _ (List.mem_of_getElem? (i := 18) rfl))) Via.refl (Or.inl (hw _ (List.mem_of_getElem? (i := 19) rfl))) (hw _ (List.mem_of_getElem? (i := 2) rfl)) (ty := .int) (by decide) rfl rfl (upd_at naq upd_same) (j := 1) rfl (fs' := [(("com/example/thin_index/thinindex/BitWriter", "bytes", "[B"), (.ref q)), (("com/example/thin_index/thinindex/BitWriter", "byteCount", "I"), (.int z90)), (("com/example/thin_index/thinindex/BitWriter", "pendingCount", "I"), (.int z45)), (("com/example/thin_index/thinindex/BitWriter", "pending", "J"), (.long z15))]) rfl ga (mem (upd_in upd_upd (Ne.symm naq)) ?_)
          refine Own.aloadN C d4_94 (q := 95) rfl rfl rfl ?_
          refine Own.getfield C d4_95 (q := 98) rfl (host := "") (Or.inl (hw _ (List.mem_of_getElem? (i := 28) rfl))) Via.refl (upd_at naq upd_same) (j := 3) rfl ?_
          refine Own.aloadN C d4_98 (q := 99) rfl rfl rfl ?_
          refine Own.getfield C d4_99 (q := 102) rfl (host := "") (Or.inl (hw _ (List.mem_of_getElem? (i := 21) rfl))) Via.refl (upd_at naq upd_same) (j := 2) rfl ?_
          refine Own.lushr C d4_102 (q := 103) rfl fun z102 e102 => ?_
          refine Own.l2i C d4_103 (q := 104) rfl fun z103 e103 => ?_
          refine Own.i2b C d4_104 (q := 105) rfl fun z104 e104 => ?_
          refine Own.bastore C d4_105 (q := 106) rfl upd_same (by simp only [Int32.lt_iff_toInt_lt, Int32.reduceToInt] at *; omega) (by rw [hl1]; simp only [Int32.lt_iff_toInt_lt, Int32.reduceToInt, Int32.toNatClampNeg] at *; omega) gq (mem (upd_list rfl upd_upd) ?_)
          refine Own.goto C d4_106 (q := 29) (by decide) ?_
          exact ih _ _ _ (by simp [hl1]) (by have o1 := c_isub pc1 8; rw [← e45] at o1; have o2 := c_iadd bc1 1; rw [← e90] at o2; have := rng32 z45; have := rng32 z90; simp only [Int32.lt_iff_toInt_lt, Int32.reduceToInt] at *; omega) (by have o1 := c_isub pc1 8; rw [← e45] at o1; have o2 := c_iadd bc1 1; rw [← e90] at o2; have := rng32 z45; have := rng32 z90; simp only [Int32.lt_iff_toInt_lt, Int32.reduceToInt] at *; omega) (by have o1 := c_isub pc1 8; rw [← e45] at o1; have o2 := c_iadd bc1 1; rw [← e90] at o2; have := rng32 z45; have := rng32 z90; simp only [Int32.lt_iff_toInt_lt, Int32.reduceToInt] at *; omega) (by have o1 := c_isub pc1 8; rw [← e45] at o1; have o2 := c_iadd bc1 1; rw [← e90] at o2; have := rng32 z45; have := rng32 z90; simp only [Int32.lt_iff_toInt_lt, Int32.reduceToInt] at *; omega)
        · exfalso; rw [hl1] at e57i; simp only [Int32.lt_iff_toInt_lt, ← Int32.toInt_inj, Int32.reduceToInt] at *; omega
  refine Own.mem (upd_id (upd_at (Ne.symm naq) hq)).symm ?_
  have o0 := c_iadd pc cn; rw [← e25] at o0; have w0 := rng32 z25
  exact J29 (z25.toInt.toNat + 1) _ _ _ hl (by omega) hb (by omega) (by omega)
theorem m33 (x : Int32) {z w : Int32} (hz : z = x &&& 2147483647) (hw : w = z % 33) : 0 ≤ w.toInt ∧ w.toInt ≤ 32 := by
  have o1 := c_mask x 2147483647 31 (by decide) (by decide)
  have o2 := c_irem z 33 33 (by decide)
  rw [← hz] at o1; rw [← hw] at o2
  omega
theorem pd_0 : parseMethodDescriptor "()V" = some ⟨[], none⟩ := by decide +kernel
theorem pd_1 : parseMethodDescriptor "()J" = some ⟨[], some .long⟩ := by decide +kernel
theorem pd_2 : parseMethodDescriptor "(II)V" = some ⟨[.int, .int], none⟩ := by decide +kernel
set_option maxRecDepth 65536 in
set_option maxHeartbeats 4000000 in
theorem c_law (l : Launch) (Z : State) (a0 : Array Value) (hw : ∀ d ∈ tables_1, d.before a0 Z = true) (n0 : Nat) (μ : Mem) (v1 : Int32) (c1 : Int32) (v2 : Int32) (c2 : Int32) (v3 : Int32) (c3 : Int32)  :
    Con l Z n0 x code maxLocals ret tables_1 room_1 room_1.cells room_1.slots #[(.int v1), (.int c1), (.int v2), (.int c2), (.int v3), (.int c3)] μ (fun v _ => v = some (.int 1)) := by
  refine Con.intro (L0 := #[.val (.int v1), .val (.int c1), .val (.int v2), .val (.int c2), .val (.int v3), .val (.int c3), .unset, .unset, .unset, .unset, .unset]) (plainFor_of_name (by first | (simp [plainName, overriddenIn]; done) | decide +kernel)) (fun m => by first | (simp [entryFrame, mkF, argsToLocals, Value.category, maxLocals]; done) | rfl) ?_
  intro p e s m below meth c C
  have C : Ctx p s m meth c Z "com/example/thin_index/thinindex/BitWriterBitCountPinLaw" "law" code maxLocals (some .boolean) := C
  refine Own.iloadN C at_0 (q := 1) rfl rfl ?_
  refine Own.ldcI C at_1 (q := 3) rfl (hw _ (List.mem_of_getElem? (i := 0) rfl)) ?_
  refine Own.iand C at_3 (q := 4) rfl fun z3 e3 => ?_
  refine Own.bipush C at_4 (q := 6) rfl (z := 33) (by decide) ?_
  refine Own.irem C at_6 (q := 7) rfl (by decide) fun z6 e6 => ?_
  refine Own.istore C at_7 (q := 9) rfl (L' := #[.val (.int v1), .val (.int c1), .val (.int v2), .val (.int c2), .val (.int v3), .val (.int c3), .val (.int z6), .unset, .unset, .unset, .unset]) rfl ?_
  refine Own.iloadN C at_9 (q := 10) rfl rfl ?_
  refine Own.ldcI C at_10 (q := 12) rfl (hw _ (List.mem_of_getElem? (i := 0) rfl)) ?_
  refine Own.iand C at_12 (q := 13) rfl fun z12 e12 => ?_
  refine Own.bipush C at_13 (q := 15) rfl (z := 33) (by decide) ?_
  refine Own.irem C at_15 (q := 16) rfl (by decide) fun z15 e15 => ?_
  refine Own.istore C at_16 (q := 18) rfl (L' := #[.val (.int v1), .val (.int c1), .val (.int v2), .val (.int c2), .val (.int v3), .val (.int c3), .val (.int z6), .val (.int z15), .unset, .unset, .unset]) rfl ?_
  refine Own.iload C at_18 (q := 20) rfl rfl ?_
  refine Own.ldcI C at_20 (q := 22) rfl (hw _ (List.mem_of_getElem? (i := 0) rfl)) ?_
  refine Own.iand C at_22 (q := 23) rfl fun z22 e22 => ?_
  refine Own.bipush C at_23 (q := 25) rfl (z := 33) (by decide) ?_
  refine Own.irem C at_25 (q := 26) rfl (by decide) fun z25 e25 => ?_
  refine Own.istore C at_26 (q := 28) rfl (L' := #[.val (.int v1), .val (.int c1), .val (.int v2), .val (.int c2), .val (.int v3), .val (.int c3), .val (.int z6), .val (.int z15), .val (.int z25), .unset, .unset]) rfl ?_
  have r1 := m33 c1 e3 e6
  have r2 := m33 c2 e12 e15
  have r3 := m33 c3 e22 e25
  refine Own.new C at_28 (q := 31) rfl (hw _ (List.mem_of_getElem? (i := 1) rfl)) (hw _ (List.mem_of_getElem? (i := 2) rfl)) (hw _ (List.mem_of_getElem? (i := 3) rfl)) (lay_BW hw) (by decide) (by decide) (by decide) fun a28 a28_f a28_g => ?_
  refine Own.dup C at_31 (q := 32) rfl rfl ?_
  refine Own.callI C at_32 (q := 35) rfl rfl (hw _ (List.mem_of_getElem? (i := 4) rfl)) (hw _ (List.mem_of_getElem? (i := 5) rfl)) (hw _ (List.mem_of_getElem? (i := 3) rfl)) (hw _ (List.mem_of_getElem? (i := 6) rfl)) (by decide) (W := 1) (rm := rm_1) (argsL := []) (st := [(.ref a28)]) (lenOf pd_0 rfl) rfl rfl (Nat.le_of_eq rfl) (by decide) (by decide) (by decide) (by decide) (c_init l Z a0 hw n0 _ a28 upd_same a28_g) (nxV fun μ32 h32 => ?_)
  obtain ⟨q, q_g, q_f, rfl⟩ := h32
  have ne_a28_q := q_f _ _ upd_same
  refine Own.mem (congrArg (fun m => Own.upd m q _) upd_upd) ?_
  refine Own.astore C at_35 (q := 37) rfl (L' := #[.val (.int v1), .val (.int c1), .val (.int v2), .val (.int c2), .val (.int v3), .val (.int c3), .val (.int z6), .val (.int z15), .val (.int z25), .val (.ref a28), .unset]) rfl rfl ?_
  refine Own.aload C at_37 (q := 39) rfl rfl rfl ?_
  refine Own.callV C at_39 (q := 42) rfl (hw _ (List.mem_of_getElem? (i := 13) rfl)) (hw _ (List.mem_of_getElem? (i := 14) rfl)) (notFace_of_selects (args := #[]) (mvT C.2.2.2.1 (hw _ (List.mem_of_getElem? (i := 16) rfl)))) (hw _ (List.mem_of_getElem? (i := 16) rfl)) (hw _ (List.mem_of_getElem? (i := 15) rfl)) (hw _ (List.mem_of_getElem? (i := 3) rfl)) (hw _ (List.mem_of_getElem? (i := 17) rfl)) (by decide) (W := 0) (rm := rm_3) (argsL := []) (st := []) (lenOf pd_1 rfl) rfl rfl (Nat.le_of_eq rfl) (by decide) (by decide) (by decide) (by decide) (upd_at ne_a28_q upd_same) (c_bits l Z a0 hw n0 _ a28 (.ref q) (0 : Int32) (0 : Int32) (0 : Int64) (upd_at ne_a28_q upd_same)) (nxJ fun z39 μ39 h39 => ?_)
  obtain ⟨rfl, h39⟩ := h39
  refine Own.lconst C at_42 (q := 43) rfl (z := 0) (by decide) ?_
  refine Own.lcmp_ne C at_43 (pc1 := 44) rfl at_44 (q := 47) rfl (r := 51) (by decide) (fun h43 => ?_) (fun h43 => ?_)
  · refine absurd (Int64.toInt_inj.mp ?_) h43; rw [h39]; rfl
  · refine Own.iconst C at_47 (q := 48) rfl (z := 1) (by decide) ?_
    refine Own.goto C at_48 (q := 52) (by decide) ?_
    refine Own.istore C at_52 (q := 54) rfl (L' := #[.val (.int v1), .val (.int c1), .val (.int v2), .val (.int c2), .val (.int v3), .val (.int c3), .val (.int z6), .val (.int z15), .val (.int z25), .val (.ref a28), .val (.int (1 : Int32))]) rfl ?_
    refine Own.aload C at_54 (q := 56) rfl rfl rfl ?_
    refine Own.iloadN C at_56 (q := 57) rfl rfl ?_
    refine Own.iload C at_57 (q := 59) rfl rfl ?_
    have hl59 : (List.replicate 64 (Value.int 0)).length = 64 := List.length_replicate
    refine Own.callV C at_59 (q := 62) rfl (hw _ (List.mem_of_getElem? (i := 23) rfl)) (hw _ (List.mem_of_getElem? (i := 24) rfl)) (notFace_of_selects (args := #[]) (mvT C.2.2.2.1 (hw _ (List.mem_of_getElem? (i := 26) rfl)))) (hw _ (List.mem_of_getElem? (i := 26) rfl)) (hw _ (List.mem_of_getElem? (i := 25) rfl)) (hw _ (List.mem_of_getElem? (i := 3) rfl)) (hw _ (List.mem_of_getElem? (i := 27) rfl)) (by decide) (W := 0) (rm := rm_4) (argsL := [(.int v1), (.int z6)]) (st := []) (lenOf pd_2 rfl) rfl rfl (Nat.le_of_eq rfl) (by decide) (by decide) (by decide) (by decide) (upd_at ne_a28_q upd_same) (c_write l Z a0 hw n0 _ a28 v1 z6 q (List.replicate 64 (Value.int 0)) (0 : Int32) (0 : Int32) (0 : Int64) (upd_at ne_a28_q upd_same) upd_same ne_a28_q a28_g q_g hl59 r1 (by decide) (by decide) (by simp only [Int32.reduceToInt]; omega)) (nxV fun μ59 h59 => ?_)
    obtain ⟨vs59, bc59, pc59, pd59, rfl, l59, p59, p59', b59, t59⟩ := h59
    refine Own.mem (upd2 (upd_in upd_upd (Ne.symm ne_a28_q)) upd_upd) ?_
    refine Own.iload C at_62 (q := 64) rfl rfl ?_
    refine Own.aload C at_64 (q := 66) rfl rfl rfl ?_
    refine Own.callV C at_66 (q := 69) rfl (hw _ (List.mem_of_getElem? (i := 13) rfl)) (hw _ (List.mem_of_getElem? (i := 14) rfl)) (notFace_of_selects (args := #[]) (mvT C.2.2.2.1 (hw _ (List.mem_of_getElem? (i := 16) rfl)))) (hw _ (List.mem_of_getElem? (i := 16) rfl)) (hw _ (List.mem_of_getElem? (i := 15) rfl)) (hw _ (List.mem_of_getElem? (i := 3) rfl)) (hw _ (List.mem_of_getElem? (i := 17) rfl)) (by decide) (W := 1) (rm := rm_3) (argsL := []) (st := [(.int (1 : Int32))]) (lenOf pd_1 rfl) rfl rfl (Nat.le_of_eq rfl) (by decide) (by decide) (by decide) (by decide) (upd_at ne_a28_q upd_same) (c_bits l Z a0 hw n0 _ a28 (.ref q) bc59 pc59 pd59 (upd_at ne_a28_q upd_same)) (nxJ fun z66 μ66 h66 => ?_)
    obtain ⟨rfl, h66⟩ := h66
    refine Own.iload C at_69 (q := 71) rfl rfl ?_
    refine Own.i2l C at_71 (q := 72) rfl fun z71 e71 => ?_
    refine Own.lcmp_ne C at_72 (pc1 := 73) rfl at_73 (q := 76) rfl (r := 80) (by decide) (fun h72 => ?_) (fun h72 => ?_)
    · refine absurd (Int64.toInt_inj.mp ?_) h72; simp only [Int32.reduceToInt, Int64.reduceToInt] at *; have o1 := c_i2l z6; rw [← e71] at o1; omega
    · refine Own.iconst C at_76 (q := 77) rfl (z := 1) (by decide) ?_
      refine Own.goto C at_77 (q := 81) (by decide) ?_
      refine Own.iand C at_81 (q := 82) rfl fun z81 e81 => ?_
      obtain rfl : z81 = (1 : Int32) := e81.trans (by decide)
      refine Own.istore C at_82 (q := 84) rfl (L' := #[.val (.int v1), .val (.int c1), .val (.int v2), .val (.int c2), .val (.int v3), .val (.int c3), .val (.int z6), .val (.int z15), .val (.int z25), .val (.ref a28), .val (.int (1 : Int32))]) rfl ?_
      refine Own.aload C at_84 (q := 86) rfl rfl rfl ?_
      refine Own.iloadN C at_86 (q := 87) rfl rfl ?_
      refine Own.iload C at_87 (q := 89) rfl rfl ?_
      have hl89 := l59
      refine Own.callV C at_89 (q := 92) rfl (hw _ (List.mem_of_getElem? (i := 23) rfl)) (hw _ (List.mem_of_getElem? (i := 24) rfl)) (notFace_of_selects (args := #[]) (mvT C.2.2.2.1 (hw _ (List.mem_of_getElem? (i := 26) rfl)))) (hw _ (List.mem_of_getElem? (i := 26) rfl)) (hw _ (List.mem_of_getElem? (i := 25) rfl)) (hw _ (List.mem_of_getElem? (i := 3) rfl)) (hw _ (List.mem_of_getElem? (i := 27) rfl)) (by decide) (W := 0) (rm := rm_4) (argsL := [(.int v2), (.int z15)]) (st := []) (lenOf pd_2 rfl) rfl rfl (Nat.le_of_eq rfl) (by decide) (by decide) (by decide) (by decide) (upd_at ne_a28_q upd_same) (c_write l Z a0 hw n0 _ a28 v2 z15 q vs59 bc59 pc59 pd59 (upd_at ne_a28_q upd_same) upd_same ne_a28_q a28_g q_g hl89 r2 ⟨p59, p59'⟩ b59 (by simp only [Int32.reduceToInt] at t59; omega)) (nxV fun μ89 h89 => ?_)
      obtain ⟨vs89, bc89, pc89, pd89, rfl, l89, p89, p89', b89, t89⟩ := h89
      refine Own.mem (upd2 (upd_in upd_upd (Ne.symm ne_a28_q)) upd_upd) ?_
      refine Own.iload C at_92 (q := 94) rfl rfl ?_
      refine Own.aload C at_94 (q := 96) rfl rfl rfl ?_
      refine Own.callV C at_96 (q := 99) rfl (hw _ (List.mem_of_getElem? (i := 13) rfl)) (hw _ (List.mem_of_getElem? (i := 14) rfl)) (notFace_of_selects (args := #[]) (mvT C.2.2.2.1 (hw _ (List.mem_of_getElem? (i := 16) rfl)))) (hw _ (List.mem_of_getElem? (i := 16) rfl)) (hw _ (List.mem_of_getElem? (i := 15) rfl)) (hw _ (List.mem_of_getElem? (i := 3) rfl)) (hw _ (List.mem_of_getElem? (i := 17) rfl)) (by decide) (W := 1) (rm := rm_3) (argsL := []) (st := [(.int (1 : Int32))]) (lenOf pd_1 rfl) rfl rfl (Nat.le_of_eq rfl) (by decide) (by decide) (by decide) (by decide) (upd_at ne_a28_q upd_same) (c_bits l Z a0 hw n0 _ a28 (.ref q) bc89 pc89 pd89 (upd_at ne_a28_q upd_same)) (nxJ fun z96 μ96 h96 => ?_)
      obtain ⟨rfl, h96⟩ := h96
      refine Own.iload C at_99 (q := 101) rfl rfl ?_
      refine Own.i2l C at_101 (q := 102) rfl fun z101 e101 => ?_
      refine Own.iload C at_102 (q := 104) rfl rfl ?_
      refine Own.i2l C at_104 (q := 105) rfl fun z104 e104 => ?_
      refine Own.ladd C at_105 (q := 106) rfl fun z105 e105 => ?_
      refine Own.lcmp_ne C at_106 (pc1 := 107) rfl at_107 (q := 110) rfl (r := 114) (by decide) (fun h106 => ?_) (fun h106 => ?_)
      · refine absurd (Int64.toInt_inj.mp ?_) h106; simp only [Int32.reduceToInt, Int64.reduceToInt] at *; have o1 := c_i2l z6; rw [← e101] at o1; have o2 := c_i2l z15; rw [← e104] at o2; have o3 := c_ladd z101 z104; rw [← e105] at o3; have := rng64 z105; omega
      · refine Own.iconst C at_110 (q := 111) rfl (z := 1) (by decide) ?_
        refine Own.goto C at_111 (q := 115) (by decide) ?_
        refine Own.iand C at_115 (q := 116) rfl fun z115 e115 => ?_
        obtain rfl : z115 = (1 : Int32) := e115.trans (by decide)
        refine Own.istore C at_116 (q := 118) rfl (L' := #[.val (.int v1), .val (.int c1), .val (.int v2), .val (.int c2), .val (.int v3), .val (.int c3), .val (.int z6), .val (.int z15), .val (.int z25), .val (.ref a28), .val (.int (1 : Int32))]) rfl ?_
        refine Own.aload C at_118 (q := 120) rfl rfl rfl ?_
        refine Own.iload C at_120 (q := 122) rfl rfl ?_
        refine Own.iload C at_122 (q := 124) rfl rfl ?_
        have hl124 := l89
        refine Own.callV C at_124 (q := 127) rfl (hw _ (List.mem_of_getElem? (i := 23) rfl)) (hw _ (List.mem_of_getElem? (i := 24) rfl)) (notFace_of_selects (args := #[]) (mvT C.2.2.2.1 (hw _ (List.mem_of_getElem? (i := 26) rfl)))) (hw _ (List.mem_of_getElem? (i := 26) rfl)) (hw _ (List.mem_of_getElem? (i := 25) rfl)) (hw _ (List.mem_of_getElem? (i := 3) rfl)) (hw _ (List.mem_of_getElem? (i := 27) rfl)) (by decide) (W := 0) (rm := rm_4) (argsL := [(.int v3), (.int z25)]) (st := []) (lenOf pd_2 rfl) rfl rfl (Nat.le_of_eq rfl) (by decide) (by decide) (by decide) (by decide) (upd_at ne_a28_q upd_same) (c_write l Z a0 hw n0 _ a28 v3 z25 q vs89 bc89 pc89 pd89 (upd_at ne_a28_q upd_same) upd_same ne_a28_q a28_g q_g hl124 r3 ⟨p89, p89'⟩ b89 (by simp only [Int32.reduceToInt] at t59; omega)) (nxV fun μ124 h124 => ?_)
        obtain ⟨vs124, bc124, pc124, pd124, rfl, l124, p124, p124', b124, t124⟩ := h124
        refine Own.mem (upd2 (upd_in upd_upd (Ne.symm ne_a28_q)) upd_upd) ?_
        refine Own.iload C at_127 (q := 129) rfl rfl ?_
        refine Own.aload C at_129 (q := 131) rfl rfl rfl ?_
        refine Own.callV C at_131 (q := 134) rfl (hw _ (List.mem_of_getElem? (i := 13) rfl)) (hw _ (List.mem_of_getElem? (i := 14) rfl)) (notFace_of_selects (args := #[]) (mvT C.2.2.2.1 (hw _ (List.mem_of_getElem? (i := 16) rfl)))) (hw _ (List.mem_of_getElem? (i := 16) rfl)) (hw _ (List.mem_of_getElem? (i := 15) rfl)) (hw _ (List.mem_of_getElem? (i := 3) rfl)) (hw _ (List.mem_of_getElem? (i := 17) rfl)) (by decide) (W := 1) (rm := rm_3) (argsL := []) (st := [(.int (1 : Int32))]) (lenOf pd_1 rfl) rfl rfl (Nat.le_of_eq rfl) (by decide) (by decide) (by decide) (by decide) (upd_at ne_a28_q upd_same) (c_bits l Z a0 hw n0 _ a28 (.ref q) bc124 pc124 pd124 (upd_at ne_a28_q upd_same)) (nxJ fun z131 μ131 h131 => ?_)
        obtain ⟨rfl, h131⟩ := h131
        refine Own.iload C at_134 (q := 136) rfl rfl ?_
        refine Own.i2l C at_136 (q := 137) rfl fun z136 e136 => ?_
        refine Own.iload C at_137 (q := 139) rfl rfl ?_
        refine Own.i2l C at_139 (q := 140) rfl fun z139 e139 => ?_
        refine Own.ladd C at_140 (q := 141) rfl fun z140 e140 => ?_
        refine Own.iload C at_141 (q := 143) rfl rfl ?_
        refine Own.i2l C at_143 (q := 144) rfl fun z143 e143 => ?_
        refine Own.ladd C at_144 (q := 145) rfl fun z144 e144 => ?_
        refine Own.lcmp_ne C at_145 (pc1 := 146) rfl at_146 (q := 149) rfl (r := 153) (by decide) (fun h145 => ?_) (fun h145 => ?_)
        · refine absurd (Int64.toInt_inj.mp ?_) h145; simp only [Int32.reduceToInt, Int64.reduceToInt] at *; have o1 := c_i2l z6; rw [← e136] at o1; have o2 := c_i2l z15; rw [← e139] at o2; have o3 := c_ladd z136 z139; rw [← e140] at o3; have := rng64 z140; have o4 := c_i2l z25; rw [← e143] at o4; have o5 := c_ladd z140 z143; rw [← e144] at o5; have := rng64 z144; omega
        · refine Own.iconst C at_149 (q := 150) rfl (z := 1) (by decide) ?_
          refine Own.goto C at_150 (q := 154) (by decide) ?_
          refine Own.iand C at_154 (q := 155) rfl fun z154 e154 => ?_
          obtain rfl : z154 = (1 : Int32) := e154.trans (by decide)
          refine Own.istore C at_155 (q := 157) rfl (L' := #[.val (.int v1), .val (.int c1), .val (.int v2), .val (.int c2), .val (.int v3), .val (.int c3), .val (.int z6), .val (.int z15), .val (.int z25), .val (.ref a28), .val (.int (1 : Int32))]) rfl ?_
          refine Own.iload C at_157 (q := 159) rfl rfl ?_
          refine Own.nreturn C at_159 (by simp) (z' := (1 : Int32)) (by decide) (by decide) (by decide) ?_
          rfl
set_option maxRecDepth 65536 in
set_option maxHeartbeats 4000000 in
theorem comes_1 {Post : Tables → Env → Array Value → State → Outcome → State → Prop} (hpost : ∀ tb e args s v u, (limb_1_1.after args s (.returned v) u = true ∧ limb_1_2.after args s (.returned v) u = true ∧ True) → FrameEnd s (.returned v) u (Jvm.fieldLocs frame_1_writes args s ++ Jvm.arrayLocs frame_1_arrays args s ++ Jvm.staticLocs frame_1_statics s) 16 256 → Post tb e args s (.returned v) u) :
    ArmFor flags0 classFile x code maxLocals ret World_1 tables_1 room_1 Calls_1 rest_1 Pre_1 Post := by
  intro l hfl _ _ p e ha hc hk s m args below hf hA hF happ hP
  obtain ⟨hcalls, hrest, hpre⟩ := hP
  obtain ⟨-, -, -, hnamed, -, -, -, hat⟩ := (Spec.applies_iff hf).mp happ
  obtain ⟨hg, hn⟩ := and_e (Cond.before_iff.mp (show (Jvm.Cond.and given_1 narrow_1).before args s = true from hpre))
  obtain ⟨g0, hg⟩ := and_e hg
  obtain ⟨g1, hg⟩ := and_e hg
  obtain ⟨g2, hg⟩ := and_e hg
  obtain ⟨g3, hg⟩ := and_e hg
  obtain ⟨g4, hg⟩ := and_e hg
  obtain ⟨g5, hg⟩ := and_e hg
  have g6 := hg
  obtain ⟨w0, w1, w2, w3, w4, w5, rfl⟩ : ∃ w0 w1 w2 w3 w4 w5 : Value, args = #[w0, w1, w2, w3, w4, w5] := by
    have hs : args.size = 6 := by simpa [Cond.value, given_1] using g0
    obtain ⟨L⟩ := args
    match L, hs with
    | [w0, w1, w2, w3, w4, w5], _ => exact ⟨w0, w1, w2, w3, w4, w5, rfl⟩
  have hw := fun d (hd : d ∈ tables_1) => atoms_spec (ws := Jvm.Cond.code x code maxLocals ret :: tables_1) hat d (List.mem_cons_of_mem _ hd)
  have hfit : Fit s := fun {y c} hc i hi => by
    obtain ⟨ha, rfl⟩ := Array.getElem?_eq_some_iff.mp hc
    have q := List.all_eq_true.mp ((Array.all_eq_true_iff_forall_mem.mp hF) _ (Array.getElem_mem ha)) i (List.mem_range.mpr hi)
    simpa [Array.getElem?_eq_getElem hi] using q
  obtain ⟨i0, ei0⟩ := is_v g1
  obtain rfl : w0 = (.int i0) := Option.some.inj ei0
  obtain ⟨i1, ei1⟩ := is_v g2
  obtain rfl : w1 = (.int i1) := Option.some.inj ei1
  obtain ⟨i2, ei2⟩ := is_v g3
  obtain rfl : w2 = (.int i2) := Option.some.inj ei2
  obtain ⟨i3, ei3⟩ := is_v g4
  obtain rfl : w3 = (.int i3) := Option.some.inj ei3
  obtain ⟨i4, ei4⟩ := is_v g5
  obtain rfl : w4 = (.int i4) := Option.some.inj ei4
  obtain ⟨i5, ei5⟩ := is_v g6
  obtain rfl : w5 = (.int i5) := Option.some.inj ei5
  obtain ⟨n, o, h1, h2, h3, _, L, rfl, ⟨N, _, -, rfl⟩, hq⟩ := c_law l s _ hw s.heap.size (fun _ => none) i0 i1 i2 i3 i4 i5 s.heap ⟨Old.start s, fun _ _ q => nomatch q⟩ p e ha hc hk s m _ below hf ((Spec.applies_iff_loose hf).mp happ).1 ⟨rfl, State.Warmed39.refl s, rfl⟩ trivial
  refine ⟨n, _, h1, h2, h3, hpost _ _ _ _ _ _ ⟨Cond.after_iff.mpr rfl, Cond.after_iff.mpr (eq_i res_at (Term.int_eval (1)) rfl), trivial⟩ ⟨hq.1, hq.2.1, (hq.2.2.sift fun y hy => Or.inr (N y hy)).mono (by decide) (by decide)⟩⟩
theorem main_1_1 : Claimed_1_1 := comes_1 fun _ _ _ _ _ _ h hF => ⟨h.1, hF⟩
theorem main_1_2 : Claimed_1_2 := comes_1 fun _ _ _ _ _ _ h hF => ⟨h.2.1, hF⟩
end Jvm.Pilot.@@N@@
namespace Jvm.Pilot.@@N@@
open Jvm Jvm.ClassFile Sem Op Lib Jvm.Free Jvm.Stand Jvm.Pilot.@@N@@.Jvm.D
/-! MADE BY PROGRAM (witnessworld.py) out of the Statement's table words and the real class files: 9 classes; the members and pool entries that the words name. The judged class is class 1, her method 1. -/
namespace start1
open Jvm.ClassFile
def u (s : String) : CpInfo := .utf8 (stringToUtf16 s)
/-- a pool by its gaps: so many unusable entries, then the entry; so many at the end -/
def gap : Nat → List CpInfo → List CpInfo
  | 0, r => r
  | n + 1, r => .unusable :: gap n r
def poolList (es : List (Nat × CpInfo)) (last : Nat) : List CpInfo := es.foldr (fun e r => gap e.1 (e.2 :: r)) (gap last [])
def pool (es : List (Nat × CpInfo)) (last : Nat) : Array CpInfo := ⟨poolList es last⟩
def fileOf (pool : Array CpInfo) (this : Nat) (attrs : Array Attribute := #[]) (ms : Array MethodInfo := #[]) (fl : Nat := 33) (sup : Nat := 0) (ifs : Array Nat := #[]) (fds : Array FieldInfo := #[]) : ClassFile where
  minorVersion := 0
  majorVersion := 65
  constantPool := pool
  accessFlags := fl
  thisClass := this
  superClass := sup
  interfaces := ifs
  fields := fds
  methods := ms
  attributes := attrs
def plain (name : String) (sup : Option ClassId) : Class where
  name := name
  kind := .ordinary
  loader := none
  accessFlags := 33
  super := sup
  interfaces := #[]
  cf := none
  fields := #[]
  methods := #[]
  instanceTypes := #[]
  staticTypes := #[]
  resolved := #[]
  callSites := []
  init := .initialized
  statics := none
  mirror := none

def pool0 : Array CpInfo := pool [(5, u "<init>"), (0, u "()V"), (1, .class_ 10), (1, u "java/lang/Object")] 113

def k0c0 : Code := { maxStack := 0, maxLocals := 1, code := object_method_1_code, exceptionTable := #[], attributes := #[] }
def k0m0 : Method := { name := "<init>", desc := "()V", sig := { parameters := [], returnType := none }, accessFlags := 1, code := some k0c0 }
/-- java/lang/Object -/
def k0 : Class := { plain "java/lang/Object" none with
  accessFlags := 33
  interfaces := #[]
  cf := some (fileOf pool0 8 #[] #[{ accessFlags := 1, nameIndex := 5, descriptorIndex := 6, attributes := #[] }] 33 0 #[] #[])
  fields := #[]
  methods := #[k0m0]
  instanceTypes := #[]
  staticTypes := #[]
  resolved := Array.replicate 124 none
  statics := none }

def pool1 : Array CpInfo := pool [(2, .class_ 4), (0, .nameAndType 5 6), (0, u "java/lang/Object"), (0, u "<init>"), (0, u "()V"), (0, .integer 2147483647), (0, .class_ 9), (0, u "com/example/thin_index/thinindex/BitWriter"), (0, .methodref 8 3), (0, .methodref 8 12), (0, .nameAndType 13 14), (0, u "bitCount"), (0, u "()J"), (0, .methodref 8 16), (0, .nameAndType 17 18), (0, u "write"), (0, u "(II)V"), (0, .class_ 20), (0, u "com/example/thin_index/thinindex/BitWriterBitCountPinLaw"), (2, u "law"), (0, u "(IIIIII)Z")] 3

def k1m0 : Method := { name := "<init>", desc := "()V", sig := { parameters := [], returnType := none }, accessFlags := 1, code := none }
def k1c1 : Code := { maxStack := 7, maxLocals := 11, code := code, exceptionTable := #[], attributes := #[] }
def k1m1 : Method := { name := "law", desc := "(IIIIII)Z", sig := { parameters := [.int, .int, .int, .int, .int, .int], returnType := some .boolean }, accessFlags := 9, code := some k1c1 }
/-- com/example/thin_index/thinindex/BitWriterBitCountPinLaw -/
def k1 : Class := { plain "com/example/thin_index/thinindex/BitWriterBitCountPinLaw" (some 0) with
  accessFlags := 49
  interfaces := #[]
  cf := some (fileOf pool1 19 #[] #[{ accessFlags := 1, nameIndex := 5, descriptorIndex := 6, attributes := #[] }, { accessFlags := 9, nameIndex := 23, descriptorIndex := 24, attributes := #[] }] 49 2 #[] #[])
  fields := #[]
  methods := #[k1m0, k1m1]
  instanceTypes := #[]
  staticTypes := #[]
  resolved := Array.replicate 28 none
  statics := none }

def pool2 : Array CpInfo := pool [(1, .methodref 2 3), (0, .class_ 4), (0, .nameAndType 5 6), (0, u "java/lang/Object"), (0, u "<init>"), (0, u "()V"), (0, .fieldref 8 9), (0, .class_ 10), (0, .nameAndType 11 12), (0, u "com/example/thin_index/thinindex/BitWriter"), (0, u "bytes"), (0, u "[B"), (0, .fieldref 8 14), (0, .nameAndType 15 16), (0, u "pending"), (0, u "J"), (0, .fieldref 8 18), (0, .nameAndType 19 20), (0, u "pendingCount"), (0, u "I"), (2, .fieldref 8 24), (0, .nameAndType 25 20), (0, u "byteCount"), (6, .long 8), (3, u "write"), (0, u "(II)V"), (1, u "bitCount"), (0, u "()J")] 5

def k2c0 : Code := { maxStack := 2, maxLocals := 1, code := prog_4_method_1_code, exceptionTable := #[], attributes := #[] }
def k2m0 : Method := { name := "<init>", desc := "()V", sig := { parameters := [], returnType := none }, accessFlags := 0, code := some k2c0 }
def k2c1 : Code := { maxStack := 9, maxLocals := 3, code := prog_4_method_2_code, exceptionTable := #[], attributes := #[] }
def k2m1 : Method := { name := "write", desc := "(II)V", sig := { parameters := [.int, .int], returnType := none }, accessFlags := 0, code := some k2c1 }
def k2c2 : Code := { maxStack := 4, maxLocals := 1, code := prog_4_method_3_code, exceptionTable := #[], attributes := #[] }
def k2m2 : Method := { name := "bitCount", desc := "()J", sig := { parameters := [], returnType := some .long }, accessFlags := 0, code := some k2c2 }
/-- com/example/thin_index/thinindex/BitWriter -/
def k2 : Class := { plain "com/example/thin_index/thinindex/BitWriter" (some 0) with
  accessFlags := 48
  interfaces := #[]
  cf := some (fileOf pool2 8 #[] #[{ accessFlags := 0, nameIndex := 5, descriptorIndex := 6, attributes := #[] }, { accessFlags := 0, nameIndex := 36, descriptorIndex := 37, attributes := #[] }, { accessFlags := 0, nameIndex := 39, descriptorIndex := 40, attributes := #[] }] 48 2 #[] #[{ accessFlags := 2, nameIndex := 11, descriptorIndex := 12, attributes := #[] }, { accessFlags := 2, nameIndex := 25, descriptorIndex := 20, attributes := #[] }, { accessFlags := 2, nameIndex := 15, descriptorIndex := 16, attributes := #[] }, { accessFlags := 2, nameIndex := 19, descriptorIndex := 20, attributes := #[] }])
  fields := #[{ name := "bytes", type := (.array .byte), accessFlags := 2, slot := 0, constantValue := 0 }, { name := "byteCount", type := .int, accessFlags := 2, slot := 1, constantValue := 0 }, { name := "pending", type := .long, accessFlags := 2, slot := 2, constantValue := 0 }, { name := "pendingCount", type := .int, accessFlags := 2, slot := 3, constantValue := 0 }]
  methods := #[k2m0, k2m1, k2m2]
  instanceTypes := #[(.array .byte), .int, .long, .int]
  staticTypes := #[]
  resolved := Array.replicate 46 none
  statics := none }

def pool3 : Array CpInfo := pool [(1, u "java/lang/Cloneable"), (0, .class_ 1), (0, u "java/lang/Object"), (0, .class_ 3)] 3

/-- java/lang/Cloneable -/
def k3 : Class := { plain "java/lang/Cloneable" (some 0) with
  accessFlags := 1537
  interfaces := #[]
  cf := some (fileOf pool3 2 #[] #[] 1537 4 #[] #[])
  fields := #[]
  methods := #[]
  instanceTypes := #[]
  staticTypes := #[]
  resolved := Array.replicate 8 none
  statics := none }

def pool4 : Array CpInfo := pool [(1, u "java/io/Serializable"), (0, .class_ 1), (0, u "java/lang/Object"), (0, .class_ 3)] 3

/-- java/io/Serializable -/
def k4 : Class := { plain "java/io/Serializable" (some 0) with
  accessFlags := 1537
  interfaces := #[]
  cf := some (fileOf pool4 2 #[] #[] 1537 4 #[] #[])
  fields := #[]
  methods := #[]
  instanceTypes := #[]
  staticTypes := #[]
  resolved := Array.replicate 8 none
  statics := none }

/-- the primitive byte -/
def k5 : Class := { plain "byte" none with kind := .primitive 'B', accessFlags := 0x411 }
/-- [B -/
def k6 : Class := { plain "[B" (some 0) with kind := .array 5 .byte, interfaces := #[3, 4], accessFlags := 1041 }

/-- the primitive int -/
def k7 : Class := { plain "int" none with kind := .primitive 'I', accessFlags := 0x411 }
/-- [I -/
def k8 : Class := { plain "[I" (some 0) with kind := .array 7 .int, interfaces := #[3, 4], accessFlags := 1041 }

def heap : Heap := #[]
def classes : Array Class := #[k0, k1, k2, k3, k4, k5, k6, k7, k8]
def interned : List (Array UInt16 × Addr) := []
def slotsUsed : Nat := 0
def theMethod : MethodId := ⟨1, 1⟩
def args0 : Array Value := #[.int 5, .int 6, .int 7, .int 8, .int 9, .int 10]
def aboutOver (below : List Frame) : State where
  vm := { classes := classes, interned := interned.toArray }
  heap := heap
  slotsUsed := slotsUsed
  threads := #[{ frames := .invoking theMethod args0 :: below }]
def below0 : List Frame := [.native { method := ⟨0, 0⟩, args := #[] }]
def about1 : State := aboutOver below0
def p0 : Program := .bare "" "" ""
def e0 : Env := launch0.env 0 0 0
theorem w_frames : about1.frames = Frame.invoking theMethod args0 :: below0 := rfl
set_option maxRecDepth 65536 in
theorem w_args : argsFit about1.vm theMethod args0 = true := by decide +kernel
set_option maxRecDepth 65536 in
theorem w_heap : heapFits about1 = true := by decide +kernel
set_option maxRecDepth 65536 in
theorem w_runnable : about1.curStatus? = some .runnable := by decide +kernel
set_option maxRecDepth 65536 in
theorem w_alone : about1.alone = true := by decide +kernel
set_option maxRecDepth 65536 in
theorem w_named : about1.methodNamed? x = some theMethod := by decide +kernel
set_option maxRecDepth 65536 in
theorem w_hears : about1.hears theMethod below0 = true := by decide +kernel
set_option maxRecDepth 65536 in
theorem w_ripe : about1.ripe theMethod args0 below0 = true := by decide +kernel
theorem w_running : about1.status = .running := rfl
set_option maxRecDepth 65536 in
theorem w_room : about1.hasRoom e0.platform room_1 = true :=
  launch0.hasRoom_least _ room_1 (by decide +kernel) (by decide +kernel) (by decide +kernel) (by decide +kernel) (by decide +kernel) (by decide +kernel)
theorem allAtoms_all (ts : List Jvm.Cond) (a : Array Jvm.Value) (st : Jvm.State) : (allAtoms ts).before a st = ts.all (fun c => c.before a st) := by
  induction ts with
  | nil => rfl
  | cons c t ih =>
    show (Jvm.Cond.and c (allAtoms t)).before a st = _
    rw [Jvm.Cond.before_and, ih, List.all_cons]
def words1 : List Jvm.Cond := Jvm.Cond.code x code maxLocals ret :: tables_1
/-- a 'code' word, met by the world's own term for the bytes: nothing is compared byte by byte -/
theorem code_word {y : MethodName} {bytes : ByteArray} {mx : Nat} {rt : Option FieldType} {a : Array Value} {s : State} {m : MethodId} {meth : Method} {c : Code} (h1 : s.methodNamed? y = some m) (h2 : s.vm.method? m = some meth) (h3 : meth.code = some c) (h4 : c.code = bytes)
    (h5 : (c.maxLocals == mx && c.exceptionTable.isEmpty && decide (c.maxStack ≤ mostOperands) && decide (meth.sig.returnType = rt) && !meth.locks && decide (parseMethodDescriptor y.desc = some meth.sig)) = true) : (Jvm.Cond.code y bytes mx rt).before a s = true := by
  simp only [Bool.and_eq_true, beq_iff_eq, Bool.not_eq_true', decide_eq_true_eq] at h5
  obtain ⟨⟨⟨⟨⟨g1, g2⟩, g3⟩, g4⟩, g5⟩, g6⟩ := h5
  simp [Cond.before, Cond.holds, Cond.value, h1, h2, h3, h4, g1, g2, g3, g4, g5, g6]
def isCode : Jvm.Cond → Bool
  | .code _ _ _ _ => true
  | _ => false
theorem all_split {L : List Jvm.Cond} {P : Jvm.Cond → Bool} (h1 : L.all (fun c => isCode c || P c) = true) (h2 : ∀ c ∈ L.filter isCode, P c = true) : L.all P = true := by
  refine List.all_eq_true.mpr fun c hc => ?_
  have h := List.all_eq_true.mp h1 c hc
  rcases Bool.eq_false_or_eq_true (isCode c) with hi | hi
  · exact h2 c (List.mem_filter.mpr ⟨hc, hi⟩)
  · simpa [hi] using h
set_option maxRecDepth 65536 in
theorem w_c0 : (Jvm.Cond.code x code maxLocals ret).before args0 about1 = true := code_word (m := ⟨1, 1⟩) (meth := k1m1) (c := k1c1) (by decide +kernel) rfl rfl rfl (by decide +kernel)
set_option maxRecDepth 65536 in
theorem w_c1 : (Jvm.Cond.code ({ cls := "com/example/thin_index/thinindex/BitWriter", name := "<init>", desc := "()V" } : Jvm.MethodName) prog_4_method_1_code (1 : Nat) (Option.none : Option Jvm.ClassFile.FieldType)).before args0 about1 = true := code_word (m := ⟨2, 0⟩) (meth := k2m0) (c := k2c0) (by decide +kernel) rfl rfl rfl (by decide +kernel)
set_option maxRecDepth 65536 in
theorem w_c2 : (Jvm.Cond.code ({ cls := "java/lang/Object", name := "<init>", desc := "()V" } : Jvm.MethodName) object_method_1_code (1 : Nat) (Option.none : Option Jvm.ClassFile.FieldType)).before args0 about1 = true := code_word (m := ⟨0, 0⟩) (meth := k0m0) (c := k0c0) (by decide +kernel) rfl rfl rfl (by decide +kernel)
set_option maxRecDepth 65536 in
theorem w_c3 : (Jvm.Cond.code ({ cls := "com/example/thin_index/thinindex/BitWriter", name := "bitCount", desc := "()J" } : Jvm.MethodName) prog_4_method_3_code (1 : Nat) (Option.some Jvm.ClassFile.FieldType.long)).before args0 about1 = true := code_word (m := ⟨2, 2⟩) (meth := k2m2) (c := k2c2) (by decide +kernel) rfl rfl rfl (by decide +kernel)
set_option maxRecDepth 65536 in
theorem w_c4 : (Jvm.Cond.code ({ cls := "com/example/thin_index/thinindex/BitWriter", name := "write", desc := "(II)V" } : Jvm.MethodName) prog_4_method_2_code (3 : Nat) (Option.none : Option Jvm.ClassFile.FieldType)).before args0 about1 = true := code_word (m := ⟨2, 1⟩) (meth := k2m1) (c := k2c1) (by decide +kernel) rfl rfl rfl (by decide +kernel)
def codes1 : List Jvm.Cond := [Jvm.Cond.code x code maxLocals ret, Jvm.Cond.code ({ cls := "com/example/thin_index/thinindex/BitWriter", name := "<init>", desc := "()V" } : Jvm.MethodName) prog_4_method_1_code (1 : Nat) (Option.none : Option Jvm.ClassFile.FieldType), Jvm.Cond.code ({ cls := "java/lang/Object", name := "<init>", desc := "()V" } : Jvm.MethodName) object_method_1_code (1 : Nat) (Option.none : Option Jvm.ClassFile.FieldType), Jvm.Cond.code ({ cls := "com/example/thin_index/thinindex/BitWriter", name := "bitCount", desc := "()J" } : Jvm.MethodName) prog_4_method_3_code (1 : Nat) (Option.some Jvm.ClassFile.FieldType.long), Jvm.Cond.code ({ cls := "com/example/thin_index/thinindex/BitWriter", name := "write", desc := "(II)V" } : Jvm.MethodName) prog_4_method_2_code (3 : Nat) (Option.none : Option Jvm.ClassFile.FieldType)]
set_option maxRecDepth 65536 in
theorem codes_eq : words1.filter isCode = codes1 := rfl
theorem w_codes : ∀ c ∈ words1.filter isCode, c.before args0 about1 = true := by
  rw [codes_eq]
  intro c hc
  simp only [codes1, List.mem_cons, List.not_mem_nil, or_false] at hc
  rcases hc with rfl | rfl | rfl | rfl | rfl
  · exact w_c0
  · exact w_c1
  · exact w_c2
  · exact w_c3
  · exact w_c4
set_option maxRecDepth 65536 in
theorem w_t1 : (words1.take 24).all (fun c => isCode c || c.before args0 about1) = true := by decide +kernel
set_option maxRecDepth 65536 in
theorem w_t2 : (words1.drop 24).all (fun c => isCode c || c.before args0 about1) = true := by decide +kernel
theorem w_tables : (allAtoms (Jvm.Cond.code x code maxLocals ret :: tables_1)).before args0 about1 = true := by
  rw [allAtoms_all]
  show words1.all (fun c => c.before args0 about1) = true
  refine all_split ?_ w_codes
  rw [← List.take_append_drop 24 words1, List.all_append, w_t1, w_t2]
  rfl
set_option maxRecDepth 65536 in
theorem w_case : (Jvm.Cond.and given_1 narrow_1).before args0 about1 = true := by decide +kernel
theorem w_applies : (headSpec (Jvm.Cond.code x code maxLocals ret :: tables_1) room_1).applies x e0.platform about1 = true :=
  (Spec.applies_iff w_frames).mpr ⟨w_running, w_runnable, w_alone, w_named, w_hears, w_ripe, w_room, w_tables⟩
theorem atStart : AtStart classFile x code maxLocals ret World_1 tables_1 room_1 Calls_1 rest_1 Pre_1 launch0 p0 e0 about1 theMethod args0 below0 :=
  ⟨lists_1, trivial, launch0.admits_env _ _ _, launch0.least_env, fairChoices_fair.cas, fairChoices_fair.clock, w_frames, w_args, w_heap, w_applies, trivial, trivial, w_case⟩
end start1
theorem witness_1 : WitnessClaimed_1 := ⟨start1.p0, start1.e0, start1.about1, start1.theMethod, start1.args0, start1.below0, start1.atStart⟩
end Jvm.Pilot.@@N@@
