import JvmDerived
import JvmDerived.Pilot.@@N@@Statement
import JvmDerived.Pilot.@@N@@Code
set_option linter.unusedVariables false
set_option linter.unusedSimpArgs false
namespace Jvm.Own
open Sem ClassFile Op Lib Jvm.Stand Jvm.Free Jvm.LawKit Jvm.RoadKit
/-! A plain store over the heap: what each address that matters holds. -/
abbrev Key : Type := String × String × String
abbrev Obj : Type := Sum (String × List (Key × Value)) (FieldType × List Value)
abbrev Mem : Type := Addr → Option Obj
def upd (μ : Mem) (a : Addr) (o : Obj) : Mem := fun x => if x = a then some o else μ x
section MemFacts
variable {μ : Mem} {a b : Addr} {o o' : Obj}
theorem upd_same : upd μ a o a = some o := by simp [upd]
theorem upd_ne (h : b ≠ a) : upd μ a o b = μ b := by simp [upd, h]
theorem upd_upd : upd (upd μ a o) a o' = upd μ a o' := by funext x; simp only [upd]; split <;> rfl
theorem upd_at (h : b ≠ a) {q : Obj} (hb : μ b = some q) : upd μ a o b = some q := (upd_ne h).trans hb
theorem upd_id (h : μ a = some o) : upd μ a o = μ := by funext x; simp only [upd]; split <;> simp_all
theorem upd_in {ν : Mem} {w : Obj} (h : upd μ a o = ν) (hb : b ≠ a) : upd (upd μ b w) a o = upd ν b w := by
  subst h; funext x; simp only [upd]
  by_cases h1 : x = a
  · subst h1; simp [Ne.symm hb]
  · by_cases h2 : x = b
    · subst h2; simp [h1]
    · simp [h1, h2]
theorem upd2 {ν ρ : Mem} {o' : Obj} (h1 : upd μ a o = ν) (h2 : upd ν b o' = ρ) : upd (upd μ a o) b o' = ρ := by subst h1; exact h2
theorem upd_list {ty : FieldType} {vs vs' : List Value} {ν : Mem} (h : vs = vs') (e : upd μ a (.inr (ty, vs')) = ν) : upd μ a (.inr (ty, vs)) = ν := by subst h; exact e
end MemFacts
def sl (Z : State) (q : Key × Value) : Nat := RoadKit.slotOf Z q.1.1 q.1.2.1 q.1.2.2
def IsO (Z : State) (h : Heap) (a : Addr) (C : String) (fs : List (Key × Value)) : Prop :=
  Exa Z h a C ∧ (∀ q ∈ fs, Fld Z h a q.1.1 q.1.2.1 q.1.2.2 q.2) ∧ fs.Pairwise fun q r => sl Z q ≠ sl Z r
def IsA (Z : State) (n0 : Nat) (h : Heap) (a : Addr) (ty : FieldType) (vs : List Value) : Prop :=
  ∃ c : Cell, Arr Z h a c ty ∧ c.slots.toList = vs ∧ vs.length < 2 ^ 31 ∧ (∀ v ∈ vs, fits ty v = true)
def Is (Z : State) (n0 : Nat) (h : Heap) (a : Addr) : Obj → Prop
  | .inl q => IsO Z h a q.1 q.2
  | .inr q => IsA Z n0 h a q.1 q.2
def Hp (Z : State) (n0 : Nat) (μ : Mem) (h : Heap) : Prop := Old Z n0 h ∧ ∀ a o, μ a = some o → Is Z n0 h a o
section HpFacts
variable {Z : State} {n0 : Nat} {μ : Mem} {h h' : Heap} {a b : Addr} {o : Obj} {sl' : Nat} {v : Value}
theorem Is.lt (H : Is Z n0 h a o) : a < h.size := by
  rcases o with q | q
  · exact H.1.lt
  · obtain ⟨c, A, -⟩ := H; exact A.lt
theorem Is.ext (H : Is Z n0 h a o) (E : Ext h h') : Is Z n0 h' a o := by
  rcases o with q | q
  · exact ⟨H.1.ext E, fun r hr => (H.2.1 r hr).ext E, H.2.2⟩
  · obtain ⟨c, A, r⟩ := H; exact ⟨c, A.ext E, r⟩
theorem Is.other (H : Is Z n0 h b o) (W : Wr h h' a sl' v) (q : b ≠ a) : Is Z n0 h' b o := by
  rcases o with r | r
  · exact ⟨H.1.wr W, fun r hr => (H.2.1 r hr).other W (Or.inl q), H.2.2⟩
  · obtain ⟨c, A, r⟩ := H; exact ⟨c, A.other W q, r⟩
theorem Hp.ext (H : Hp Z n0 μ h) (E : Ext h h') : Hp Z n0 μ h' := ⟨H.1.ext E, fun a o q => (H.2 a o q).ext E⟩
theorem Hp.ge (H : Hp Z n0 μ h) : n0 ≤ h.size := H.1.1 ▸ H.1.2.1
theorem Hp.fresh (H : Hp Z n0 μ h) : ∀ b o, μ b = some o → b ≠ h.size := fun b o q => Nat.ne_of_lt (H.2 b o q).lt
theorem Hp.set (H : Hp Z n0 μ h') (I : Is Z n0 h' a o) : Hp Z n0 (upd μ a o) h' := ⟨H.1, fun b o' q => by
  by_cases e : b = a
  · subst e; rw [upd_same] at q; cases q; exact I
  · rw [upd_ne e] at q; exact H.2 b o' q⟩
theorem Hp.wr (H : Hp Z n0 μ h) (W : Wr h h' a sl' v) (g : n0 ≤ a) (I : Is Z n0 h' a o) : Hp Z n0 (upd μ a o) h' := ⟨H.1.wr W g, fun b o' q => by
  by_cases e : b = a
  · subst e; rw [upd_same] at q; cases q; exact I
  · rw [upd_ne e] at q; exact (H.2 b o' q).other W e⟩
theorem IsO.put {C : String} {fs fs' : List (Key × Value)} {k : Key} {i : Nat} {w : Value} (H : IsO Z h a C fs) (hi : fs[i]? = some (k, w)) (W : Wr h h' a (RoadKit.slotOf Z k.1 k.2.1 k.2.2) v) (e : fs.set i (k, v) = fs') : IsO Z h' a C fs' := by
  subst e
  obtain ⟨hlt, hk⟩ := List.getElem?_eq_some_iff.mp hi
  have F0 := H.2.1 _ (List.mem_of_getElem? hi)
  have hp := List.pairwise_iff_getElem.mp H.2.2
  refine ⟨H.1.wr W, fun q hq => ?_, ?_⟩
  · obtain ⟨j, hj, rfl⟩ := List.mem_iff_getElem.mp hq
    rw [List.length_set] at hj
    by_cases e : i = j
    · subst e; rw [List.getElem_set_self]; exact F0.same W
    · rw [List.getElem_set_ne e]
      refine (H.2.1 _ (List.getElem_mem hj)).other W (Or.inr ?_)
      have e0 : sl Z fs[i] = RoadKit.slotOf Z k.1 k.2.1 k.2.2 := by rw [hk]; rfl
      rcases Nat.lt_or_gt_of_ne e with q | q
      · have := hp i j hlt hj q; rw [e0] at this; exact fun z => this z.symm
      · have := hp j i hj hlt q; rw [e0] at this; exact this
  · rw [List.pairwise_iff_getElem]
    intro x y hx hy hxy
    rw [List.length_set] at hx hy
    have key : ∀ z (hz : z < (fs.set i (k, v)).length) (hz' : z < fs.length), sl Z (fs.set i (k, v))[z] = sl Z fs[z] := fun z hz hz' => by
      by_cases e : i = z
      · subst e; rw [List.getElem_set_self, hk]; rfl
      · rw [List.getElem_set_ne e]
    rw [key x _ hx, key y _ hy]
    exact hp x y hx hy hxy
theorem IsA.put {ty : FieldType} {vs : List Value} {j : Nat} (H : IsA Z n0 h a ty vs) (hv : fits ty v = true) (W : Wr h h' a j v) : IsA Z n0 h' a ty (vs.set j v) := by
  obtain ⟨c, A, rfl, hl, hf⟩ := H
  refine ⟨_, A.same W, by simp [Cell.setSlot], by simpa using hl, fun w hw => ?_⟩
  rcases List.mem_or_eq_of_mem_set hw with q | q
  · exact hf w q
  · subst q; exact hv
end HpFacts
/-- what is left to show from the frame g on -/
def Go (p : Program) (l : Launch) (e : Env) (R : Room) (s : State) (m : MethodId) (args : Array Value) (below : List Frame) (meth : Method) (c : Code) (Z : State) (n0 : Nat) (P : Option Value → Mem → Prop) (kc ks : Nat) (μ : Mem) (k n : Nat) (g : JFrame) : Prop :=
  ∀ T locs, Stand p l e R s m args below meth c T locs k n → Fr n0 locs → Hp Z n0 μ T.heap →
    ∃ s₂ o, Steps p.tables e below (T.setTop g) s₂ ∧ s₂.status = .running ∧ Ended s₂ below o ∧ ∃ v L, o = .returned v ∧ (Fr n0 L ∧ ∃ μ', Hp Z n0 μ' s₂.heap ∧ P v μ') ∧ FrameEnd s o s₂ L kc ks
/-- what stands fast while a body is walked -/
def Ctx (p : Program) (s : State) (m : MethodId) (meth : Method) (c : Code) (Z : State) (own nm : String) (B : ByteArray) (ml : Nat) (rt : Option FieldType) : Prop :=
  p.tables.exec = Jvm.exec ∧ c.code = B ∧ c.maxLocals = ml ∧ Z.Warmed39 s.vm ∧ s.vm.findClass own = some m.cls ∧ meth.sig.returnType = rt ∧ meth.locks = false ∧ meth.name = nm
/-- a body's contract -/
def Con (l : Launch) (Z : State) (n0 : Nat) (y : MethodName) (B : ByteArray) (ml : Nat) (rt : Option FieldType) (ws : List Cond) (rm : Room) (kc ks : Nat) (as : Array Value) (μ : Mem) (P : Option Value → Mem → Prop) : Prop :=
  ∀ h0, Hp Z n0 μ h0 → MetFree l y (head1 (Cond.code y B ml rt :: ws) rm) (fun a U => a = as ∧ Z.Warmed39 U.vm ∧ U.heap = h0) (fun _ _ _ _ _ => True)
    (fun _ U o U' => ∃ v L, o = .returned v ∧ (Fr n0 L ∧ ∃ μ', Hp Z n0 μ' U'.heap ∧ P v μ') ∧ FrameEnd U o U' L kc ks)
section Rules
variable {p : Program} {l : Launch} {e : Env} {R : Room} {s : State} {m : MethodId} {args : Array Value} {below : List Frame} {meth : Method} {c : Code} {Z : State} {a0 : Array Value} {n0 : Nat} {P : Option Value → Mem → Prop} {kc ks : Nat} {μ : Mem} {k n : Nat}
  {own nm : String} {B : ByteArray} {ml : Nat} {rt : Option FieldType} {pc q : Nat} {L L' : Array Slot} {st : List Value} {y : MethodName} {ws : List Cond} {rm : Room} {as : Array Value}
theorem Con.intro {L0 : Array Slot} (hx : plainFor y = true) (hef : ∀ m, entryFrame m as ml = mkF m 0 L0 [])
    (body : ∀ (p : Program) (e : Env) (s : State) (m : MethodId) (below : List Frame) (meth : Method) (c : Code), Ctx p s m meth c Z y.cls y.name B ml rt → Go p l e rm s m as below meth c Z n0 P kc ks μ 0 0 (mkF m 0 L0 [])) : Con l Z n0 y B ml rt ws rm kc ks as μ P := by
  intro h0 H0
  refine MetFree.of_bodySF hx hisR ?_
  intro p e s m args below meth c s₁ Bd hml hP hK
  obtain ⟨rfl, hZ, hh⟩ := hP
  have X0 : Stand p l e rm s m args below meth c s₁ [] 0 0 := Stand.of_body Bd
  have e0 : s₁.heap = h0 := by rw [← hh, Bd.state]; rfl
  obtain ⟨s2, o, g1, g2, g3, g4⟩ := body p e s m below meth c ⟨Bd.exec, Bd.bytes, hml, hZ, findClass_of_methodNamed Bd.named, Bd.returns, Bd.notSynchronized, (name_of_methodNamed Bd.named Bd.method).1⟩ s₁ [] X0 (Fr.nil n0) (by rw [e0]; exact H0)
  exact ⟨s2, o, castTop (hef m) g1, g2, g3, g4⟩
theorem Go.pure {g g' : JFrame} (K : Go p l e R s m args below meth c Z n0 P kc ks μ k n g') (st : ∀ T, At T m c below → ∀ target, Steps p.tables e below (T.setTop g') target → Steps p.tables e below (T.setTop g) target) : Go p l e R s m args below meth c Z n0 P kc ks μ k n g := fun T locs X F H => by
  obtain ⟨s2, o, h1, h2⟩ := K T locs X F H
  exact ⟨s2, o, st T X.here _ h1, h2⟩
theorem Go.stand {g g' : JFrame} (K : Go p l e R s m args below meth c Z n0 P kc ks μ k n g') (st : ∀ T locs, Stand p l e R s m args below meth c T locs k n → Hp Z n0 μ T.heap → ∃ T', Stand p l e R s m args below meth c T' locs k n ∧ T'.heap = T.heap ∧ ∀ target, Steps p.tables e below (T'.setTop g') target → Steps p.tables e below (T.setTop g) target) : Go p l e R s m args below meth c Z n0 P kc ks μ k n g := fun T locs X F H => by
  obtain ⟨T', X', e', h⟩ := st T locs X H
  obtain ⟨s2, o, h1, h2⟩ := K T' locs X' F (by rw [e']; exact H)
  exact ⟨s2, o, h _ h1, h2⟩
theorem iadd (C : Ctx p s m meth c Z own nm B ml rt) {x y : Int32} (hd : decode B pc = .ok (.iadd, 1)) (hq : pc + 1 = q) (k' : ∀ z : Int32, z = x + y → Go p l e R s m args below meth c Z n0 P kc ks μ k n (mkF m q L (.int z :: st))) : Go p l e R s m args below meth c Z n0 P kc ks μ k n (mkF m pc L (.int y :: .int x :: st)) := by
  subst hq
  exact Go.pure (k' _ rfl) fun T h t hr => XS.iadd h C.1 rfl (hb C.2.1 hd) rfl hr
theorem isub (C : Ctx p s m meth c Z own nm B ml rt) {x y : Int32} (hd : decode B pc = .ok (.isub, 1)) (hq : pc + 1 = q) (k' : ∀ z : Int32, z = x - y → Go p l e R s m args below meth c Z n0 P kc ks μ k n (mkF m q L (.int z :: st))) : Go p l e R s m args below meth c Z n0 P kc ks μ k n (mkF m pc L (.int y :: .int x :: st)) := by
  subst hq
  exact Go.pure (k' _ rfl) fun T h t hr => XS.isub h C.1 rfl (hb C.2.1 hd) rfl hr
theorem imul (C : Ctx p s m meth c Z own nm B ml rt) {x y : Int32} (hd : decode B pc = .ok (.imul, 1)) (hq : pc + 1 = q) (k' : ∀ z : Int32, z = x * y → Go p l e R s m args below meth c Z n0 P kc ks μ k n (mkF m q L (.int z :: st))) : Go p l e R s m args below meth c Z n0 P kc ks μ k n (mkF m pc L (.int y :: .int x :: st)) := by
  subst hq
  exact Go.pure (k' _ rfl) fun T h t hr => XS.imul h C.1 rfl (hb C.2.1 hd) rfl hr
theorem iand (C : Ctx p s m meth c Z own nm B ml rt) {x y : Int32} (hd : decode B pc = .ok (.iand, 1)) (hq : pc + 1 = q) (k' : ∀ z : Int32, z = x &&& y → Go p l e R s m args below meth c Z n0 P kc ks μ k n (mkF m q L (.int z :: st))) : Go p l e R s m args below meth c Z n0 P kc ks μ k n (mkF m pc L (.int y :: .int x :: st)) := by
  subst hq
  exact Go.pure (k' _ rfl) fun T h t hr => XS.iand h C.1 rfl (hb C.2.1 hd) rfl hr
theorem ior (C : Ctx p s m meth c Z own nm B ml rt) {x y : Int32} (hd : decode B pc = .ok (.ior, 1)) (hq : pc + 1 = q) (k' : ∀ z : Int32, z = x ||| y → Go p l e R s m args below meth c Z n0 P kc ks μ k n (mkF m q L (.int z :: st))) : Go p l e R s m args below meth c Z n0 P kc ks μ k n (mkF m pc L (.int y :: .int x :: st)) := by
  subst hq
  exact Go.pure (k' _ rfl) fun T h t hr => XS.ior h C.1 rfl (hb C.2.1 hd) rfl hr
theorem ixor (C : Ctx p s m meth c Z own nm B ml rt) {x y : Int32} (hd : decode B pc = .ok (.ixor, 1)) (hq : pc + 1 = q) (k' : ∀ z : Int32, z = x ^^^ y → Go p l e R s m args below meth c Z n0 P kc ks μ k n (mkF m q L (.int z :: st))) : Go p l e R s m args below meth c Z n0 P kc ks μ k n (mkF m pc L (.int y :: .int x :: st)) := by
  subst hq
  exact Go.pure (k' _ rfl) fun T h t hr => XS.ixor h C.1 rfl (hb C.2.1 hd) rfl hr
theorem ladd (C : Ctx p s m meth c Z own nm B ml rt) {x y : Int64} (hd : decode B pc = .ok (.ladd, 1)) (hq : pc + 1 = q) (k' : ∀ z : Int64, z = x + y → Go p l e R s m args below meth c Z n0 P kc ks μ k n (mkF m q L (.long z :: st))) : Go p l e R s m args below meth c Z n0 P kc ks μ k n (mkF m pc L (.long y :: .long x :: st)) := by
  subst hq
  exact Go.pure (k' _ rfl) fun T h t hr => XS.ladd h C.1 rfl (hb C.2.1 hd) rfl hr
theorem lsub (C : Ctx p s m meth c Z own nm B ml rt) {x y : Int64} (hd : decode B pc = .ok (.lsub, 1)) (hq : pc + 1 = q) (k' : ∀ z : Int64, z = x - y → Go p l e R s m args below meth c Z n0 P kc ks μ k n (mkF m q L (.long z :: st))) : Go p l e R s m args below meth c Z n0 P kc ks μ k n (mkF m pc L (.long y :: .long x :: st)) := by
  subst hq
  exact Go.pure (k' _ rfl) fun T h t hr => XS.lsub h C.1 rfl (hb C.2.1 hd) rfl hr
theorem lmul (C : Ctx p s m meth c Z own nm B ml rt) {x y : Int64} (hd : decode B pc = .ok (.lmul, 1)) (hq : pc + 1 = q) (k' : ∀ z : Int64, z = x * y → Go p l e R s m args below meth c Z n0 P kc ks μ k n (mkF m q L (.long z :: st))) : Go p l e R s m args below meth c Z n0 P kc ks μ k n (mkF m pc L (.long y :: .long x :: st)) := by
  subst hq
  exact Go.pure (k' _ rfl) fun T h t hr => XS.lmul h C.1 rfl (hb C.2.1 hd) rfl hr
theorem land (C : Ctx p s m meth c Z own nm B ml rt) {x y : Int64} (hd : decode B pc = .ok (.land, 1)) (hq : pc + 1 = q) (k' : ∀ z : Int64, z = x &&& y → Go p l e R s m args below meth c Z n0 P kc ks μ k n (mkF m q L (.long z :: st))) : Go p l e R s m args below meth c Z n0 P kc ks μ k n (mkF m pc L (.long y :: .long x :: st)) := by
  subst hq
  exact Go.pure (k' _ rfl) fun T h t hr => XS.land h C.1 rfl (hb C.2.1 hd) rfl hr
theorem lor (C : Ctx p s m meth c Z own nm B ml rt) {x y : Int64} (hd : decode B pc = .ok (.lor, 1)) (hq : pc + 1 = q) (k' : ∀ z : Int64, z = x ||| y → Go p l e R s m args below meth c Z n0 P kc ks μ k n (mkF m q L (.long z :: st))) : Go p l e R s m args below meth c Z n0 P kc ks μ k n (mkF m pc L (.long y :: .long x :: st)) := by
  subst hq
  exact Go.pure (k' _ rfl) fun T h t hr => XS.lor h C.1 rfl (hb C.2.1 hd) rfl hr
theorem lxor (C : Ctx p s m meth c Z own nm B ml rt) {x y : Int64} (hd : decode B pc = .ok (.lxor, 1)) (hq : pc + 1 = q) (k' : ∀ z : Int64, z = x ^^^ y → Go p l e R s m args below meth c Z n0 P kc ks μ k n (mkF m q L (.long z :: st))) : Go p l e R s m args below meth c Z n0 P kc ks μ k n (mkF m pc L (.long y :: .long x :: st)) := by
  subst hq
  exact Go.pure (k' _ rfl) fun T h t hr => XS.lxor h C.1 rfl (hb C.2.1 hd) rfl hr
theorem ishl (C : Ctx p s m meth c Z own nm B ml rt) {x y : Int32} (hd : decode B pc = .ok (.ishl, 1)) (hq : pc + 1 = q) (k' : ∀ z : Int32, z = x <<< (y &&& 31) → Go p l e R s m args below meth c Z n0 P kc ks μ k n (mkF m q L (.int z :: st))) : Go p l e R s m args below meth c Z n0 P kc ks μ k n (mkF m pc L (.int y :: .int x :: st)) := by
  subst hq
  exact Go.pure (k' _ rfl) fun T h t hr => XS.ishl h C.1 rfl (hb C.2.1 hd) rfl hr
theorem ishr (C : Ctx p s m meth c Z own nm B ml rt) {x y : Int32} (hd : decode B pc = .ok (.ishr, 1)) (hq : pc + 1 = q) (k' : ∀ z : Int32, z = x >>> (y &&& 31) → Go p l e R s m args below meth c Z n0 P kc ks μ k n (mkF m q L (.int z :: st))) : Go p l e R s m args below meth c Z n0 P kc ks μ k n (mkF m pc L (.int y :: .int x :: st)) := by
  subst hq
  exact Go.pure (k' _ rfl) fun T h t hr => XS.ishr h C.1 rfl (hb C.2.1 hd) rfl hr
theorem iushr (C : Ctx p s m meth c Z own nm B ml rt) {x y : Int32} (hd : decode B pc = .ok (.iushr, 1)) (hq : pc + 1 = q) (k' : ∀ z : Int32, z = (x.toUInt32 >>> (y &&& 31).toUInt32).toInt32 → Go p l e R s m args below meth c Z n0 P kc ks μ k n (mkF m q L (.int z :: st))) : Go p l e R s m args below meth c Z n0 P kc ks μ k n (mkF m pc L (.int y :: .int x :: st)) := by
  subst hq
  exact Go.pure (k' _ rfl) fun T h t hr => XS.iushr h C.1 rfl (hb C.2.1 hd) rfl hr
theorem lshl (C : Ctx p s m meth c Z own nm B ml rt) {x : Int64} {y : Int32} (hd : decode B pc = .ok (.lshl, 1)) (hq : pc + 1 = q) (k' : ∀ z : Int64, z = x <<< (y &&& 0x3f).toInt64 → Go p l e R s m args below meth c Z n0 P kc ks μ k n (mkF m q L (.long z :: st))) : Go p l e R s m args below meth c Z n0 P kc ks μ k n (mkF m pc L (.int y :: .long x :: st)) := by
  subst hq
  exact Go.pure (k' _ rfl) fun T h t hr => XS.lshl h C.1 rfl (hb C.2.1 hd) rfl hr
theorem lshr (C : Ctx p s m meth c Z own nm B ml rt) {x : Int64} {y : Int32} (hd : decode B pc = .ok (.lshr, 1)) (hq : pc + 1 = q) (k' : ∀ z : Int64, z = x >>> (y &&& 0x3f).toInt64 → Go p l e R s m args below meth c Z n0 P kc ks μ k n (mkF m q L (.long z :: st))) : Go p l e R s m args below meth c Z n0 P kc ks μ k n (mkF m pc L (.int y :: .long x :: st)) := by
  subst hq
  exact Go.pure (k' _ rfl) fun T h t hr => XS.lshr h C.1 rfl (hb C.2.1 hd) rfl hr
theorem lushr (C : Ctx p s m meth c Z own nm B ml rt) {x : Int64} {y : Int32} (hd : decode B pc = .ok (.lushr, 1)) (hq : pc + 1 = q) (k' : ∀ z : Int64, z = (x.toUInt64 >>> (y &&& 0x3f).toInt64.toUInt64).toInt64 → Go p l e R s m args below meth c Z n0 P kc ks μ k n (mkF m q L (.long z :: st))) : Go p l e R s m args below meth c Z n0 P kc ks μ k n (mkF m pc L (.int y :: .long x :: st)) := by
  subst hq
  exact Go.pure (k' _ rfl) fun T h t hr => XS.lushr h C.1 rfl (hb C.2.1 hd) rfl hr
theorem idiv (C : Ctx p s m meth c Z own nm B ml rt) {x y : Int32} (hd : decode B pc = .ok (.idiv, 1)) (hq : pc + 1 = q) (hy : y ≠ 0) (k' : ∀ z : Int32, z = x / y → Go p l e R s m args below meth c Z n0 P kc ks μ k n (mkF m q L (.int z :: st))) : Go p l e R s m args below meth c Z n0 P kc ks μ k n (mkF m pc L (.int y :: .int x :: st)) := by
  subst hq
  exact Go.pure (k' _ rfl) fun T h t hr => XS.idiv h C.1 rfl (hb C.2.1 hd) rfl hy hr
theorem irem (C : Ctx p s m meth c Z own nm B ml rt) {x y : Int32} (hd : decode B pc = .ok (.irem, 1)) (hq : pc + 1 = q) (hy : y ≠ 0) (k' : ∀ z : Int32, z = x % y → Go p l e R s m args below meth c Z n0 P kc ks μ k n (mkF m q L (.int z :: st))) : Go p l e R s m args below meth c Z n0 P kc ks μ k n (mkF m pc L (.int y :: .int x :: st)) := by
  subst hq
  exact Go.pure (k' _ rfl) fun T h t hr => XS.irem h C.1 rfl (hb C.2.1 hd) rfl hy (by rw [irem_eq_mod]; exact hr)
theorem ldiv (C : Ctx p s m meth c Z own nm B ml rt) {x y : Int64} (hd : decode B pc = .ok (.ldiv, 1)) (hq : pc + 1 = q) (hy : y ≠ 0) (k' : ∀ z : Int64, z = x / y → Go p l e R s m args below meth c Z n0 P kc ks μ k n (mkF m q L (.long z :: st))) : Go p l e R s m args below meth c Z n0 P kc ks μ k n (mkF m pc L (.long y :: .long x :: st)) := by
  subst hq
  exact Go.pure (k' _ rfl) fun T h t hr => XS.ldiv h C.1 rfl (hb C.2.1 hd) rfl hy hr
theorem lrem (C : Ctx p s m meth c Z own nm B ml rt) {x y : Int64} (hd : decode B pc = .ok (.lrem, 1)) (hq : pc + 1 = q) (hy : y ≠ 0) (k' : ∀ z : Int64, z = x - (x / y) * y → Go p l e R s m args below meth c Z n0 P kc ks μ k n (mkF m q L (.long z :: st))) : Go p l e R s m args below meth c Z n0 P kc ks μ k n (mkF m pc L (.long y :: .long x :: st)) := by
  subst hq
  exact Go.pure (k' _ rfl) fun T h t hr => XS.lrem h C.1 rfl (hb C.2.1 hd) rfl hy hr
theorem ineg (C : Ctx p s m meth c Z own nm B ml rt) {x : Int32} (hd : decode B pc = .ok (.ineg, 1)) (hq : pc + 1 = q) (k' : ∀ z : Int32, z = -x → Go p l e R s m args below meth c Z n0 P kc ks μ k n (mkF m q L (.int z :: st))) : Go p l e R s m args below meth c Z n0 P kc ks μ k n (mkF m pc L (.int x :: st)) := by
  subst hq
  exact Go.pure (k' _ rfl) fun T h t hr => XS.ineg h C.1 rfl (hb C.2.1 hd) rfl hr
theorem lneg (C : Ctx p s m meth c Z own nm B ml rt) {x : Int64} (hd : decode B pc = .ok (.lneg, 1)) (hq : pc + 1 = q) (k' : ∀ z : Int64, z = -x → Go p l e R s m args below meth c Z n0 P kc ks μ k n (mkF m q L (.long z :: st))) : Go p l e R s m args below meth c Z n0 P kc ks μ k n (mkF m pc L (.long x :: st)) := by
  subst hq
  exact Go.pure (k' _ rfl) fun T h t hr => XS.lneg h C.1 rfl (hb C.2.1 hd) rfl hr
theorem i2l (C : Ctx p s m meth c Z own nm B ml rt) {x : Int32} (hd : decode B pc = .ok (.i2l, 1)) (hq : pc + 1 = q) (k' : ∀ z : Int64, z = x.toInt64 → Go p l e R s m args below meth c Z n0 P kc ks μ k n (mkF m q L (.long z :: st))) : Go p l e R s m args below meth c Z n0 P kc ks μ k n (mkF m pc L (.int x :: st)) := by
  subst hq
  exact Go.pure (k' _ rfl) fun T h t hr => XS.i2l h C.1 rfl (hb C.2.1 hd) rfl hr
theorem l2i (C : Ctx p s m meth c Z own nm B ml rt) {x : Int64} (hd : decode B pc = .ok (.l2i, 1)) (hq : pc + 1 = q) (k' : ∀ z : Int32, z = x.toInt32 → Go p l e R s m args below meth c Z n0 P kc ks μ k n (mkF m q L (.int z :: st))) : Go p l e R s m args below meth c Z n0 P kc ks μ k n (mkF m pc L (.long x :: st)) := by
  subst hq
  exact Go.pure (k' _ rfl) fun T h t hr => XS.l2i h C.1 rfl (hb C.2.1 hd) rfl hr
theorem i2b (C : Ctx p s m meth c Z own nm B ml rt) {x : Int32} (hd : decode B pc = .ok (.i2b, 1)) (hq : pc + 1 = q) (k' : ∀ z : Int32, z = x.toInt8.toInt32 → Go p l e R s m args below meth c Z n0 P kc ks μ k n (mkF m q L (.int z :: st))) : Go p l e R s m args below meth c Z n0 P kc ks μ k n (mkF m pc L (.int x :: st)) := by
  subst hq
  exact Go.pure (k' _ rfl) fun T h t hr => XS.i2b h C.1 rfl (hb C.2.1 hd) rfl hr
theorem i2s (C : Ctx p s m meth c Z own nm B ml rt) {x : Int32} (hd : decode B pc = .ok (.i2s, 1)) (hq : pc + 1 = q) (k' : ∀ z : Int32, z = x.toInt16.toInt32 → Go p l e R s m args below meth c Z n0 P kc ks μ k n (mkF m q L (.int z :: st))) : Go p l e R s m args below meth c Z n0 P kc ks μ k n (mkF m pc L (.int x :: st)) := by
  subst hq
  exact Go.pure (k' _ rfl) fun T h t hr => XS.i2s h C.1 rfl (hb C.2.1 hd) rfl hr
theorem i2c (C : Ctx p s m meth c Z own nm B ml rt) {x : Int32} (hd : decode B pc = .ok (.i2c, 1)) (hq : pc + 1 = q) (k' : ∀ z : Int32, z = x.toUInt32.toUInt16.toUInt32.toInt32 → Go p l e R s m args below meth c Z n0 P kc ks μ k n (mkF m q L (.int z :: st))) : Go p l e R s m args below meth c Z n0 P kc ks μ k n (mkF m pc L (.int x :: st)) := by
  subst hq
  exact Go.pure (k' _ rfl) fun T h t hr => XS.i2c h C.1 rfl (hb C.2.1 hd) rfl hr
theorem iloadN (C : Ctx p s m meth c Z own nm B ml rt) {i : Fin 4} {v : Int32} (hd : decode B pc = .ok (.iload_n i, 1)) (hq : pc + 1 = q) (hl : L[i.val]? = some (.val (.int v))) (k' : Go p l e R s m args below meth c Z n0 P kc ks μ k n (mkF m q L (.int v :: st))) : Go p l e R s m args below meth c Z n0 P kc ks μ k n (mkF m pc L st) := by
  subst hq
  exact Go.pure k' fun T h t hr => XS.iloadN h C.1 rfl (hb C.2.1 hd) hl hr
theorem iload (C : Ctx p s m meth c Z own nm B ml rt) {i : Nat} {v : Int32} (hd : decode B pc = .ok (.iload i, 2)) (hq : pc + 2 = q) (hl : L[i]? = some (.val (.int v))) (k' : Go p l e R s m args below meth c Z n0 P kc ks μ k n (mkF m q L (.int v :: st))) : Go p l e R s m args below meth c Z n0 P kc ks μ k n (mkF m pc L st) := by
  subst hq
  exact Go.pure k' fun T h t hr => XS.iload h C.1 rfl (hb C.2.1 hd) hl hr
theorem istoreN (C : Ctx p s m meth c Z own nm B ml rt) {i : Fin 4} {v : Int32} (hd : decode B pc = .ok (.istore_n i, 1)) (hq : pc + 1 = q) (hl : storeLocals L i.val (.int v) = some L') (k' : Go p l e R s m args below meth c Z n0 P kc ks μ k n (mkF m q L' st)) : Go p l e R s m args below meth c Z n0 P kc ks μ k n (mkF m pc L (.int v :: st)) := by
  subst hq
  exact Go.pure k' fun T h t hr => XS.istoreN h C.1 rfl (hb C.2.1 hd) rfl hl hr
theorem istore (C : Ctx p s m meth c Z own nm B ml rt) {i : Nat} {v : Int32} (hd : decode B pc = .ok (.istore i, 2)) (hq : pc + 2 = q) (hl : storeLocals L i (.int v) = some L') (k' : Go p l e R s m args below meth c Z n0 P kc ks μ k n (mkF m q L' st)) : Go p l e R s m args below meth c Z n0 P kc ks μ k n (mkF m pc L (.int v :: st)) := by
  subst hq
  exact Go.pure k' fun T h t hr => XS.istore h C.1 rfl (hb C.2.1 hd) rfl hl hr
theorem lloadN (C : Ctx p s m meth c Z own nm B ml rt) {i : Fin 4} {v : Int64} (hd : decode B pc = .ok (.lload_n i, 1)) (hq : pc + 1 = q) (hl : L[i.val]? = some (.val (.long v))) (k' : Go p l e R s m args below meth c Z n0 P kc ks μ k n (mkF m q L (.long v :: st))) : Go p l e R s m args below meth c Z n0 P kc ks μ k n (mkF m pc L st) := by
  subst hq
  exact Go.pure k' fun T h t hr => XS.lloadN h C.1 rfl (hb C.2.1 hd) hl hr
theorem lload (C : Ctx p s m meth c Z own nm B ml rt) {i : Nat} {v : Int64} (hd : decode B pc = .ok (.lload i, 2)) (hq : pc + 2 = q) (hl : L[i]? = some (.val (.long v))) (k' : Go p l e R s m args below meth c Z n0 P kc ks μ k n (mkF m q L (.long v :: st))) : Go p l e R s m args below meth c Z n0 P kc ks μ k n (mkF m pc L st) := by
  subst hq
  exact Go.pure k' fun T h t hr => XS.lload h C.1 rfl (hb C.2.1 hd) hl hr
theorem lstoreN (C : Ctx p s m meth c Z own nm B ml rt) {i : Fin 4} {v : Int64} (hd : decode B pc = .ok (.lstore_n i, 1)) (hq : pc + 1 = q) (hl : storeLocals L i.val (.long v) = some L') (k' : Go p l e R s m args below meth c Z n0 P kc ks μ k n (mkF m q L' st)) : Go p l e R s m args below meth c Z n0 P kc ks μ k n (mkF m pc L (.long v :: st)) := by
  subst hq
  exact Go.pure k' fun T h t hr => XS.lstoreN h C.1 rfl (hb C.2.1 hd) rfl hl hr
theorem lstore (C : Ctx p s m meth c Z own nm B ml rt) {i : Nat} {v : Int64} (hd : decode B pc = .ok (.lstore i, 2)) (hq : pc + 2 = q) (hl : storeLocals L i (.long v) = some L') (k' : Go p l e R s m args below meth c Z n0 P kc ks μ k n (mkF m q L' st)) : Go p l e R s m args below meth c Z n0 P kc ks μ k n (mkF m pc L (.long v :: st)) := by
  subst hq
  exact Go.pure k' fun T h t hr => XS.lstore h C.1 rfl (hb C.2.1 hd) rfl hl hr
theorem aloadN (C : Ctx p s m meth c Z own nm B ml rt) {i : Fin 4} {v : Value} (hd : decode B pc = .ok (.aload_n i, 1)) (hq : pc + 1 = q) (hl : L[i.val]? = some (.val v)) (hv : v.isRef = true) (k' : Go p l e R s m args below meth c Z n0 P kc ks μ k n (mkF m q L (v :: st))) : Go p l e R s m args below meth c Z n0 P kc ks μ k n (mkF m pc L st) := by
  subst hq
  exact Go.pure k' fun T h t hr => XS.aloadN h C.1 rfl (hb C.2.1 hd) hl hv hr
theorem aload (C : Ctx p s m meth c Z own nm B ml rt) {i : Nat} {v : Value} (hd : decode B pc = .ok (.aload i, 2)) (hq : pc + 2 = q) (hl : L[i]? = some (.val v)) (hv : v.isRef = true) (k' : Go p l e R s m args below meth c Z n0 P kc ks μ k n (mkF m q L (v :: st))) : Go p l e R s m args below meth c Z n0 P kc ks μ k n (mkF m pc L st) := by
  subst hq
  exact Go.pure k' fun T h t hr => XS.aload h C.1 rfl (hb C.2.1 hd) hl hv hr
theorem astoreN (C : Ctx p s m meth c Z own nm B ml rt) {i : Fin 4} {v : Value} (hd : decode B pc = .ok (.astore_n i, 1)) (hq : pc + 1 = q) (hl : storeLocals L i.val v = some L') (hv : v.isRef = true) (k' : Go p l e R s m args below meth c Z n0 P kc ks μ k n (mkF m q L' st)) : Go p l e R s m args below meth c Z n0 P kc ks μ k n (mkF m pc L (v :: st)) := by
  subst hq
  exact Go.pure k' fun T h t hr => XS.astoreN h C.1 rfl (hb C.2.1 hd) rfl hv hl hr
theorem astore (C : Ctx p s m meth c Z own nm B ml rt) {i : Nat} {v : Value} (hd : decode B pc = .ok (.astore i, 2)) (hq : pc + 2 = q) (hl : storeLocals L i v = some L') (hv : v.isRef = true) (k' : Go p l e R s m args below meth c Z n0 P kc ks μ k n (mkF m q L' st)) : Go p l e R s m args below meth c Z n0 P kc ks μ k n (mkF m pc L (v :: st)) := by
  subst hq
  exact Go.pure k' fun T h t hr => XS.astore h C.1 rfl (hb C.2.1 hd) rfl hv hl hr
theorem iconst (C : Ctx p s m meth c Z own nm B ml rt) {i : Int} {z : Int32} (hd : decode B pc = .ok (.iconst i, 1)) (hq : pc + 1 = q) (hz : Int32.ofInt i = z) (k' : Go p l e R s m args below meth c Z n0 P kc ks μ k n (mkF m q L (.int z :: st))) : Go p l e R s m args below meth c Z n0 P kc ks μ k n (mkF m pc L st) := by
  subst hq
  exact Go.pure k' fun T h t hr => XS.iconst h C.1 rfl (hb C.2.1 hd) (by rw [hz]; exact hr)
theorem bipush (C : Ctx p s m meth c Z own nm B ml rt) {i : Int} {z : Int32} (hd : decode B pc = .ok (.bipush i, 2)) (hq : pc + 2 = q) (hz : (Int8.ofInt i).toInt32 = z) (k' : Go p l e R s m args below meth c Z n0 P kc ks μ k n (mkF m q L (.int z :: st))) : Go p l e R s m args below meth c Z n0 P kc ks μ k n (mkF m pc L st) := by
  subst hq
  exact Go.pure k' fun T h t hr => XS.bipush h C.1 rfl (hb C.2.1 hd) (by rw [hz]; exact hr)
theorem sipush (C : Ctx p s m meth c Z own nm B ml rt) {i : Int} {z : Int32} (hd : decode B pc = .ok (.sipush i, 3)) (hq : pc + 3 = q) (hz : (Int16.ofInt i).toInt32 = z) (k' : Go p l e R s m args below meth c Z n0 P kc ks μ k n (mkF m q L (.int z :: st))) : Go p l e R s m args below meth c Z n0 P kc ks μ k n (mkF m pc L st) := by
  subst hq
  exact Go.pure k' fun T h t hr => XS.sipush h C.1 rfl (hb C.2.1 hd) (by rw [hz]; exact hr)
theorem lconst (C : Ctx p s m meth c Z own nm B ml rt) {i : Fin 2} {z : Int64} (hd : decode B pc = .ok (.lconst i, 1)) (hq : pc + 1 = q) (hz : Int64.ofNat i = z) (k' : Go p l e R s m args below meth c Z n0 P kc ks μ k n (mkF m q L (.long z :: st))) : Go p l e R s m args below meth c Z n0 P kc ks μ k n (mkF m pc L st) := by
  subst hq
  exact Go.pure k' fun T h t hr => XS.lconst h C.1 rfl (hb C.2.1 hd) (by rw [hz]; exact hr)
theorem aconstNull (C : Ctx p s m meth c Z own nm B ml rt)  (hd : decode B pc = .ok (.aconst_null, 1)) (hq : pc + 1 = q) (k' : Go p l e R s m args below meth c Z n0 P kc ks μ k n (mkF m q L (.null :: st))) : Go p l e R s m args below meth c Z n0 P kc ks μ k n (mkF m pc L st) := by
  subst hq
  exact Go.pure k' fun T h t hr => XS.aconstNull h C.1 rfl (hb C.2.1 hd) hr
theorem dup (C : Ctx p s m meth c Z own nm B ml rt) {v : Value} (hd : decode B pc = .ok (.dup, 1)) (hq : pc + 1 = q) (hv : v.category = 1) (k' : Go p l e R s m args below meth c Z n0 P kc ks μ k n (mkF m q L (v :: v :: st))) : Go p l e R s m args below meth c Z n0 P kc ks μ k n (mkF m pc L (v :: st)) := by
  subst hq
  exact Go.pure k' fun T h t hr => XS.dup h C.1 rfl (hb C.2.1 hd) rfl hv hr
theorem pop (C : Ctx p s m meth c Z own nm B ml rt) {v : Value} (hd : decode B pc = .ok (.pop, 1)) (hq : pc + 1 = q) (hv : v.category = 1) (k' : Go p l e R s m args below meth c Z n0 P kc ks μ k n (mkF m q L st)) : Go p l e R s m args below meth c Z n0 P kc ks μ k n (mkF m pc L (v :: st)) := by
  subst hq
  exact Go.pure k' fun T h t hr => XS.pop h C.1 rfl (hb C.2.1 hd) rfl hv hr
theorem dupX1 (C : Ctx p s m meth c Z own nm B ml rt) {v w : Value} (hd : decode B pc = .ok (.dup_x1, 1)) (hq : pc + 1 = q) (hv : v.category = 1) (hw : w.category = 1) (k' : Go p l e R s m args below meth c Z n0 P kc ks μ k n (mkF m q L (v :: w :: v :: st))) : Go p l e R s m args below meth c Z n0 P kc ks μ k n (mkF m pc L (v :: w :: st)) := by
  subst hq
  exact Go.pure k' fun T h t hr => XS.dupX1 h C.1 rfl (hb C.2.1 hd) rfl hv hw hr
theorem dup2 (C : Ctx p s m meth c Z own nm B ml rt) {v w : Value} (hd : decode B pc = .ok (.dup2, 1)) (hq : pc + 1 = q) (hv : v.category = 1) (hw : w.category = 1) (k' : Go p l e R s m args below meth c Z n0 P kc ks μ k n (mkF m q L (v :: w :: v :: w :: st))) : Go p l e R s m args below meth c Z n0 P kc ks μ k n (mkF m pc L (v :: w :: st)) := by
  subst hq
  exact Go.pure k' fun T h t hr => XT.dup2 h C.1 rfl (hb C.2.1 hd) rfl hv hw hr
theorem dup2L (C : Ctx p s m meth c Z own nm B ml rt) {x : Int64} (hd : decode B pc = .ok (.dup2, 1)) (hq : pc + 1 = q) (k' : Go p l e R s m args below meth c Z n0 P kc ks μ k n (mkF m q L (.long x :: .long x :: st))) : Go p l e R s m args below meth c Z n0 P kc ks μ k n (mkF m pc L (.long x :: st)) := by
  subst hq
  exact Go.pure k' fun T h t hr => XT.dup2L h C.1 rfl (hb C.2.1 hd) rfl hr
theorem iinc (C : Ctx p s m meth c Z own nm B ml rt) {i : Nat} {d : Int} {x z : Int32} (hd : decode B pc = .ok (.iinc i d, 3)) (hq : pc + 3 = q) (hl : L[i]? = some (.val (.int x))) (hz : x + Int32.ofInt d = z) (hl' : storeLocals L i (.int z) = some L') (k' : Go p l e R s m args below meth c Z n0 P kc ks μ k n (mkF m q L' st)) : Go p l e R s m args below meth c Z n0 P kc ks μ k n (mkF m pc L st) := by
  subst hq
  exact Go.pure k' fun T h t hr => XS.iinc h C.1 rfl (hb C.2.1 hd) hl (by rw [hz]; exact hl') hr
theorem goto (C : Ctx p s m meth c Z own nm B ml rt) {o : Int} (hd : decode B pc = .ok (.goto o, 3)) (hq : 0 ≤ (pc : Int) + o ∧ ((pc : Int) + o).toNat = q) (k' : Go p l e R s m args below meth c Z n0 P kc ks μ k n (mkF m q L st)) : Go p l e R s m args below meth c Z n0 P kc ks μ k n (mkF m pc L st) := Go.pure k' fun T h t hr => XS.goto h C.1 rfl rfl (hb C.2.1 hd) hq.1 hq.2 hr
theorem icmp_eq (C : Ctx p s m meth c Z own nm B ml rt) {x y : Int32} {o : Int} {r : Nat} (hd : decode B pc = .ok (.if_icmp .eq o, 3)) (hq : pc + 3 = q) (hr : 0 ≤ (pc : Int) + o ∧ ((pc : Int) + o).toNat = r) (ky : x = y → Go p l e R s m args below meth c Z n0 P kc ks μ k n (mkF m r L st)) (kn : ¬ x = y → Go p l e R s m args below meth c Z n0 P kc ks μ k n (mkF m q L st)) : Go p l e R s m args below meth c Z n0 P kc ks μ k n (mkF m pc L (.int y :: .int x :: st)) := by
  subst hq
  by_cases hc : x = y
  · exact Go.pure (ky hc) fun T h t k => XS.icmpYes h C.1 rfl rfl (hb C.2.1 hd) rfl (XT.ii_eq_t hc) hr.1 hr.2 k
  · exact Go.pure (kn (by first | exact hc | exact Decidable.of_not_not hc)) fun T h t k => XS.icmpNo h C.1 rfl (hb C.2.1 hd) rfl (XT.ii_eq_f (by first | exact hc | exact Decidable.of_not_not hc)) k
theorem if_eq (C : Ctx p s m meth c Z own nm B ml rt) {x : Int32} {o : Int} {r : Nat} (hd : decode B pc = .ok (.ifCond .eq o, 3)) (hq : pc + 3 = q) (hr : 0 ≤ (pc : Int) + o ∧ ((pc : Int) + o).toNat = r) (ky : x = 0 → Go p l e R s m args below meth c Z n0 P kc ks μ k n (mkF m r L st)) (kn : ¬ x = 0 → Go p l e R s m args below meth c Z n0 P kc ks μ k n (mkF m q L st)) : Go p l e R s m args below meth c Z n0 P kc ks μ k n (mkF m pc L (.int x :: st)) := by
  subst hq
  by_cases hc : x = 0
  · exact Go.pure (ky hc) fun T h t k => XS.ifYes h C.1 rfl rfl (hb C.2.1 hd) rfl (XT.i0_eq_t hc) hr.1 hr.2 k
  · exact Go.pure (kn (by first | exact hc | exact Decidable.of_not_not hc)) fun T h t k => XS.ifNo h C.1 rfl (hb C.2.1 hd) rfl (XT.i0_eq_f (by first | exact hc | exact Decidable.of_not_not hc)) k
theorem lcmp_eq (C : Ctx p s m meth c Z own nm B ml rt) {x y : Int64} {o : Int} {r pc1 : Nat} (hd0 : decode B pc = .ok (.lcmp, 1)) (h1 : pc + 1 = pc1) (hd : decode B pc1 = .ok (.ifCond .eq o, 3)) (hq : pc1 + 3 = q) (hr : 0 ≤ (pc1 : Int) + o ∧ ((pc1 : Int) + o).toNat = r) (ky : x = y → Go p l e R s m args below meth c Z n0 P kc ks μ k n (mkF m r L st)) (kn : ¬ x = y → Go p l e R s m args below meth c Z n0 P kc ks μ k n (mkF m q L st)) : Go p l e R s m args below meth c Z n0 P kc ks μ k n (mkF m pc L (.long y :: .long x :: st)) := by
  subst hq h1
  refine Go.pure (g' := mkF m (pc + 1) L (.int (XT.cmpL x y) :: st)) ?_ fun T h t k => XT.lcmp h C.1 rfl (hb C.2.1 hd0) rfl k
  by_cases hc : x = y
  · exact Go.pure (ky hc) fun T h t k => XS.ifYes h C.1 rfl rfl (hb C.2.1 hd) rfl (XT.ll_eq_t hc) hr.1 hr.2 k
  · exact Go.pure (kn (by first | exact hc | exact Decidable.of_not_not hc)) fun T h t k => XS.ifNo h C.1 rfl (hb C.2.1 hd) rfl (XT.ll_eq_f (by first | exact hc | exact Decidable.of_not_not hc)) k
theorem icmp_ne (C : Ctx p s m meth c Z own nm B ml rt) {x y : Int32} {o : Int} {r : Nat} (hd : decode B pc = .ok (.if_icmp .ne o, 3)) (hq : pc + 3 = q) (hr : 0 ≤ (pc : Int) + o ∧ ((pc : Int) + o).toNat = r) (ky : ¬ x = y → Go p l e R s m args below meth c Z n0 P kc ks μ k n (mkF m r L st)) (kn : x = y → Go p l e R s m args below meth c Z n0 P kc ks μ k n (mkF m q L st)) : Go p l e R s m args below meth c Z n0 P kc ks μ k n (mkF m pc L (.int y :: .int x :: st)) := by
  subst hq
  by_cases hc : ¬ x = y
  · exact Go.pure (ky hc) fun T h t k => XS.icmpYes h C.1 rfl rfl (hb C.2.1 hd) rfl (XT.ii_ne_t hc) hr.1 hr.2 k
  · exact Go.pure (kn (by first | exact hc | exact Decidable.of_not_not hc)) fun T h t k => XS.icmpNo h C.1 rfl (hb C.2.1 hd) rfl (XT.ii_ne_f (by first | exact hc | exact Decidable.of_not_not hc)) k
theorem if_ne (C : Ctx p s m meth c Z own nm B ml rt) {x : Int32} {o : Int} {r : Nat} (hd : decode B pc = .ok (.ifCond .ne o, 3)) (hq : pc + 3 = q) (hr : 0 ≤ (pc : Int) + o ∧ ((pc : Int) + o).toNat = r) (ky : ¬ x = 0 → Go p l e R s m args below meth c Z n0 P kc ks μ k n (mkF m r L st)) (kn : x = 0 → Go p l e R s m args below meth c Z n0 P kc ks μ k n (mkF m q L st)) : Go p l e R s m args below meth c Z n0 P kc ks μ k n (mkF m pc L (.int x :: st)) := by
  subst hq
  by_cases hc : ¬ x = 0
  · exact Go.pure (ky hc) fun T h t k => XS.ifYes h C.1 rfl rfl (hb C.2.1 hd) rfl (XT.i0_ne_t hc) hr.1 hr.2 k
  · exact Go.pure (kn (by first | exact hc | exact Decidable.of_not_not hc)) fun T h t k => XS.ifNo h C.1 rfl (hb C.2.1 hd) rfl (XT.i0_ne_f (by first | exact hc | exact Decidable.of_not_not hc)) k
theorem lcmp_ne (C : Ctx p s m meth c Z own nm B ml rt) {x y : Int64} {o : Int} {r pc1 : Nat} (hd0 : decode B pc = .ok (.lcmp, 1)) (h1 : pc + 1 = pc1) (hd : decode B pc1 = .ok (.ifCond .ne o, 3)) (hq : pc1 + 3 = q) (hr : 0 ≤ (pc1 : Int) + o ∧ ((pc1 : Int) + o).toNat = r) (ky : ¬ x = y → Go p l e R s m args below meth c Z n0 P kc ks μ k n (mkF m r L st)) (kn : x = y → Go p l e R s m args below meth c Z n0 P kc ks μ k n (mkF m q L st)) : Go p l e R s m args below meth c Z n0 P kc ks μ k n (mkF m pc L (.long y :: .long x :: st)) := by
  subst hq h1
  refine Go.pure (g' := mkF m (pc + 1) L (.int (XT.cmpL x y) :: st)) ?_ fun T h t k => XT.lcmp h C.1 rfl (hb C.2.1 hd0) rfl k
  by_cases hc : ¬ x = y
  · exact Go.pure (ky hc) fun T h t k => XS.ifYes h C.1 rfl rfl (hb C.2.1 hd) rfl (XT.ll_ne_t hc) hr.1 hr.2 k
  · exact Go.pure (kn (by first | exact hc | exact Decidable.of_not_not hc)) fun T h t k => XS.ifNo h C.1 rfl (hb C.2.1 hd) rfl (XT.ll_ne_f (by first | exact hc | exact Decidable.of_not_not hc)) k
theorem icmp_lt (C : Ctx p s m meth c Z own nm B ml rt) {x y : Int32} {o : Int} {r : Nat} (hd : decode B pc = .ok (.if_icmp .lt o, 3)) (hq : pc + 3 = q) (hr : 0 ≤ (pc : Int) + o ∧ ((pc : Int) + o).toNat = r) (ky : x < y → Go p l e R s m args below meth c Z n0 P kc ks μ k n (mkF m r L st)) (kn : ¬ x < y → Go p l e R s m args below meth c Z n0 P kc ks μ k n (mkF m q L st)) : Go p l e R s m args below meth c Z n0 P kc ks μ k n (mkF m pc L (.int y :: .int x :: st)) := by
  subst hq
  by_cases hc : x < y
  · exact Go.pure (ky hc) fun T h t k => XS.icmpYes h C.1 rfl rfl (hb C.2.1 hd) rfl (XT.ii_lt_t hc) hr.1 hr.2 k
  · exact Go.pure (kn (by first | exact hc | exact Decidable.of_not_not hc)) fun T h t k => XS.icmpNo h C.1 rfl (hb C.2.1 hd) rfl (XT.ii_lt_f (by first | exact hc | exact Decidable.of_not_not hc)) k
theorem if_lt (C : Ctx p s m meth c Z own nm B ml rt) {x : Int32} {o : Int} {r : Nat} (hd : decode B pc = .ok (.ifCond .lt o, 3)) (hq : pc + 3 = q) (hr : 0 ≤ (pc : Int) + o ∧ ((pc : Int) + o).toNat = r) (ky : x < 0 → Go p l e R s m args below meth c Z n0 P kc ks μ k n (mkF m r L st)) (kn : ¬ x < 0 → Go p l e R s m args below meth c Z n0 P kc ks μ k n (mkF m q L st)) : Go p l e R s m args below meth c Z n0 P kc ks μ k n (mkF m pc L (.int x :: st)) := by
  subst hq
  by_cases hc : x < 0
  · exact Go.pure (ky hc) fun T h t k => XS.ifYes h C.1 rfl rfl (hb C.2.1 hd) rfl (XT.i0_lt_t hc) hr.1 hr.2 k
  · exact Go.pure (kn (by first | exact hc | exact Decidable.of_not_not hc)) fun T h t k => XS.ifNo h C.1 rfl (hb C.2.1 hd) rfl (XT.i0_lt_f (by first | exact hc | exact Decidable.of_not_not hc)) k
theorem lcmp_lt (C : Ctx p s m meth c Z own nm B ml rt) {x y : Int64} {o : Int} {r pc1 : Nat} (hd0 : decode B pc = .ok (.lcmp, 1)) (h1 : pc + 1 = pc1) (hd : decode B pc1 = .ok (.ifCond .lt o, 3)) (hq : pc1 + 3 = q) (hr : 0 ≤ (pc1 : Int) + o ∧ ((pc1 : Int) + o).toNat = r) (ky : x < y → Go p l e R s m args below meth c Z n0 P kc ks μ k n (mkF m r L st)) (kn : ¬ x < y → Go p l e R s m args below meth c Z n0 P kc ks μ k n (mkF m q L st)) : Go p l e R s m args below meth c Z n0 P kc ks μ k n (mkF m pc L (.long y :: .long x :: st)) := by
  subst hq h1
  refine Go.pure (g' := mkF m (pc + 1) L (.int (XT.cmpL x y) :: st)) ?_ fun T h t k => XT.lcmp h C.1 rfl (hb C.2.1 hd0) rfl k
  by_cases hc : x < y
  · exact Go.pure (ky hc) fun T h t k => XS.ifYes h C.1 rfl rfl (hb C.2.1 hd) rfl (XT.ll_lt_t hc) hr.1 hr.2 k
  · exact Go.pure (kn (by first | exact hc | exact Decidable.of_not_not hc)) fun T h t k => XS.ifNo h C.1 rfl (hb C.2.1 hd) rfl (XT.ll_lt_f (by first | exact hc | exact Decidable.of_not_not hc)) k
theorem icmp_ge (C : Ctx p s m meth c Z own nm B ml rt) {x y : Int32} {o : Int} {r : Nat} (hd : decode B pc = .ok (.if_icmp .ge o, 3)) (hq : pc + 3 = q) (hr : 0 ≤ (pc : Int) + o ∧ ((pc : Int) + o).toNat = r) (ky : ¬ x < y → Go p l e R s m args below meth c Z n0 P kc ks μ k n (mkF m r L st)) (kn : x < y → Go p l e R s m args below meth c Z n0 P kc ks μ k n (mkF m q L st)) : Go p l e R s m args below meth c Z n0 P kc ks μ k n (mkF m pc L (.int y :: .int x :: st)) := by
  subst hq
  by_cases hc : ¬ x < y
  · exact Go.pure (ky hc) fun T h t k => XS.icmpYes h C.1 rfl rfl (hb C.2.1 hd) rfl (XT.ii_ge_t hc) hr.1 hr.2 k
  · exact Go.pure (kn (by first | exact hc | exact Decidable.of_not_not hc)) fun T h t k => XS.icmpNo h C.1 rfl (hb C.2.1 hd) rfl (XT.ii_ge_f (by first | exact hc | exact Decidable.of_not_not hc)) k
theorem if_ge (C : Ctx p s m meth c Z own nm B ml rt) {x : Int32} {o : Int} {r : Nat} (hd : decode B pc = .ok (.ifCond .ge o, 3)) (hq : pc + 3 = q) (hr : 0 ≤ (pc : Int) + o ∧ ((pc : Int) + o).toNat = r) (ky : ¬ x < 0 → Go p l e R s m args below meth c Z n0 P kc ks μ k n (mkF m r L st)) (kn : x < 0 → Go p l e R s m args below meth c Z n0 P kc ks μ k n (mkF m q L st)) : Go p l e R s m args below meth c Z n0 P kc ks μ k n (mkF m pc L (.int x :: st)) := by
  subst hq
  by_cases hc : ¬ x < 0
  · exact Go.pure (ky hc) fun T h t k => XS.ifYes h C.1 rfl rfl (hb C.2.1 hd) rfl (XT.i0_ge_t hc) hr.1 hr.2 k
  · exact Go.pure (kn (by first | exact hc | exact Decidable.of_not_not hc)) fun T h t k => XS.ifNo h C.1 rfl (hb C.2.1 hd) rfl (XT.i0_ge_f (by first | exact hc | exact Decidable.of_not_not hc)) k
theorem lcmp_ge (C : Ctx p s m meth c Z own nm B ml rt) {x y : Int64} {o : Int} {r pc1 : Nat} (hd0 : decode B pc = .ok (.lcmp, 1)) (h1 : pc + 1 = pc1) (hd : decode B pc1 = .ok (.ifCond .ge o, 3)) (hq : pc1 + 3 = q) (hr : 0 ≤ (pc1 : Int) + o ∧ ((pc1 : Int) + o).toNat = r) (ky : ¬ x < y → Go p l e R s m args below meth c Z n0 P kc ks μ k n (mkF m r L st)) (kn : x < y → Go p l e R s m args below meth c Z n0 P kc ks μ k n (mkF m q L st)) : Go p l e R s m args below meth c Z n0 P kc ks μ k n (mkF m pc L (.long y :: .long x :: st)) := by
  subst hq h1
  refine Go.pure (g' := mkF m (pc + 1) L (.int (XT.cmpL x y) :: st)) ?_ fun T h t k => XT.lcmp h C.1 rfl (hb C.2.1 hd0) rfl k
  by_cases hc : ¬ x < y
  · exact Go.pure (ky hc) fun T h t k => XS.ifYes h C.1 rfl rfl (hb C.2.1 hd) rfl (XT.ll_ge_t hc) hr.1 hr.2 k
  · exact Go.pure (kn (by first | exact hc | exact Decidable.of_not_not hc)) fun T h t k => XS.ifNo h C.1 rfl (hb C.2.1 hd) rfl (XT.ll_ge_f (by first | exact hc | exact Decidable.of_not_not hc)) k
theorem icmp_gt (C : Ctx p s m meth c Z own nm B ml rt) {x y : Int32} {o : Int} {r : Nat} (hd : decode B pc = .ok (.if_icmp .gt o, 3)) (hq : pc + 3 = q) (hr : 0 ≤ (pc : Int) + o ∧ ((pc : Int) + o).toNat = r) (ky : y < x → Go p l e R s m args below meth c Z n0 P kc ks μ k n (mkF m r L st)) (kn : ¬ y < x → Go p l e R s m args below meth c Z n0 P kc ks μ k n (mkF m q L st)) : Go p l e R s m args below meth c Z n0 P kc ks μ k n (mkF m pc L (.int y :: .int x :: st)) := by
  subst hq
  by_cases hc : y < x
  · exact Go.pure (ky hc) fun T h t k => XS.icmpYes h C.1 rfl rfl (hb C.2.1 hd) rfl (XT.ii_gt_t hc) hr.1 hr.2 k
  · exact Go.pure (kn (by first | exact hc | exact Decidable.of_not_not hc)) fun T h t k => XS.icmpNo h C.1 rfl (hb C.2.1 hd) rfl (XT.ii_gt_f (by first | exact hc | exact Decidable.of_not_not hc)) k
theorem if_gt (C : Ctx p s m meth c Z own nm B ml rt) {x : Int32} {o : Int} {r : Nat} (hd : decode B pc = .ok (.ifCond .gt o, 3)) (hq : pc + 3 = q) (hr : 0 ≤ (pc : Int) + o ∧ ((pc : Int) + o).toNat = r) (ky : 0 < x → Go p l e R s m args below meth c Z n0 P kc ks μ k n (mkF m r L st)) (kn : ¬ 0 < x → Go p l e R s m args below meth c Z n0 P kc ks μ k n (mkF m q L st)) : Go p l e R s m args below meth c Z n0 P kc ks μ k n (mkF m pc L (.int x :: st)) := by
  subst hq
  by_cases hc : 0 < x
  · exact Go.pure (ky hc) fun T h t k => XS.ifYes h C.1 rfl rfl (hb C.2.1 hd) rfl (XT.i0_gt_t hc) hr.1 hr.2 k
  · exact Go.pure (kn (by first | exact hc | exact Decidable.of_not_not hc)) fun T h t k => XS.ifNo h C.1 rfl (hb C.2.1 hd) rfl (XT.i0_gt_f (by first | exact hc | exact Decidable.of_not_not hc)) k
theorem lcmp_gt (C : Ctx p s m meth c Z own nm B ml rt) {x y : Int64} {o : Int} {r pc1 : Nat} (hd0 : decode B pc = .ok (.lcmp, 1)) (h1 : pc + 1 = pc1) (hd : decode B pc1 = .ok (.ifCond .gt o, 3)) (hq : pc1 + 3 = q) (hr : 0 ≤ (pc1 : Int) + o ∧ ((pc1 : Int) + o).toNat = r) (ky : y < x → Go p l e R s m args below meth c Z n0 P kc ks μ k n (mkF m r L st)) (kn : ¬ y < x → Go p l e R s m args below meth c Z n0 P kc ks μ k n (mkF m q L st)) : Go p l e R s m args below meth c Z n0 P kc ks μ k n (mkF m pc L (.long y :: .long x :: st)) := by
  subst hq h1
  refine Go.pure (g' := mkF m (pc + 1) L (.int (XT.cmpL x y) :: st)) ?_ fun T h t k => XT.lcmp h C.1 rfl (hb C.2.1 hd0) rfl k
  by_cases hc : y < x
  · exact Go.pure (ky hc) fun T h t k => XS.ifYes h C.1 rfl rfl (hb C.2.1 hd) rfl (XT.ll_gt_t hc) hr.1 hr.2 k
  · exact Go.pure (kn (by first | exact hc | exact Decidable.of_not_not hc)) fun T h t k => XS.ifNo h C.1 rfl (hb C.2.1 hd) rfl (XT.ll_gt_f (by first | exact hc | exact Decidable.of_not_not hc)) k
theorem icmp_le (C : Ctx p s m meth c Z own nm B ml rt) {x y : Int32} {o : Int} {r : Nat} (hd : decode B pc = .ok (.if_icmp .le o, 3)) (hq : pc + 3 = q) (hr : 0 ≤ (pc : Int) + o ∧ ((pc : Int) + o).toNat = r) (ky : ¬ y < x → Go p l e R s m args below meth c Z n0 P kc ks μ k n (mkF m r L st)) (kn : y < x → Go p l e R s m args below meth c Z n0 P kc ks μ k n (mkF m q L st)) : Go p l e R s m args below meth c Z n0 P kc ks μ k n (mkF m pc L (.int y :: .int x :: st)) := by
  subst hq
  by_cases hc : ¬ y < x
  · exact Go.pure (ky hc) fun T h t k => XS.icmpYes h C.1 rfl rfl (hb C.2.1 hd) rfl (XT.ii_le_t hc) hr.1 hr.2 k
  · exact Go.pure (kn (by first | exact hc | exact Decidable.of_not_not hc)) fun T h t k => XS.icmpNo h C.1 rfl (hb C.2.1 hd) rfl (XT.ii_le_f (by first | exact hc | exact Decidable.of_not_not hc)) k
theorem if_le (C : Ctx p s m meth c Z own nm B ml rt) {x : Int32} {o : Int} {r : Nat} (hd : decode B pc = .ok (.ifCond .le o, 3)) (hq : pc + 3 = q) (hr : 0 ≤ (pc : Int) + o ∧ ((pc : Int) + o).toNat = r) (ky : ¬ 0 < x → Go p l e R s m args below meth c Z n0 P kc ks μ k n (mkF m r L st)) (kn : 0 < x → Go p l e R s m args below meth c Z n0 P kc ks μ k n (mkF m q L st)) : Go p l e R s m args below meth c Z n0 P kc ks μ k n (mkF m pc L (.int x :: st)) := by
  subst hq
  by_cases hc : ¬ 0 < x
  · exact Go.pure (ky hc) fun T h t k => XS.ifYes h C.1 rfl rfl (hb C.2.1 hd) rfl (XT.i0_le_t hc) hr.1 hr.2 k
  · exact Go.pure (kn (by first | exact hc | exact Decidable.of_not_not hc)) fun T h t k => XS.ifNo h C.1 rfl (hb C.2.1 hd) rfl (XT.i0_le_f (by first | exact hc | exact Decidable.of_not_not hc)) k
theorem lcmp_le (C : Ctx p s m meth c Z own nm B ml rt) {x y : Int64} {o : Int} {r pc1 : Nat} (hd0 : decode B pc = .ok (.lcmp, 1)) (h1 : pc + 1 = pc1) (hd : decode B pc1 = .ok (.ifCond .le o, 3)) (hq : pc1 + 3 = q) (hr : 0 ≤ (pc1 : Int) + o ∧ ((pc1 : Int) + o).toNat = r) (ky : ¬ y < x → Go p l e R s m args below meth c Z n0 P kc ks μ k n (mkF m r L st)) (kn : y < x → Go p l e R s m args below meth c Z n0 P kc ks μ k n (mkF m q L st)) : Go p l e R s m args below meth c Z n0 P kc ks μ k n (mkF m pc L (.long y :: .long x :: st)) := by
  subst hq h1
  refine Go.pure (g' := mkF m (pc + 1) L (.int (XT.cmpL x y) :: st)) ?_ fun T h t k => XT.lcmp h C.1 rfl (hb C.2.1 hd0) rfl k
  by_cases hc : ¬ y < x
  · exact Go.pure (ky hc) fun T h t k => XS.ifYes h C.1 rfl rfl (hb C.2.1 hd) rfl (XT.ll_le_t hc) hr.1 hr.2 k
  · exact Go.pure (kn (by first | exact hc | exact Decidable.of_not_not hc)) fun T h t k => XS.ifNo h C.1 rfl (hb C.2.1 hd) rfl (XT.ll_le_f (by first | exact hc | exact Decidable.of_not_not hc)) k
theorem ifnullY (C : Ctx p s m meth c Z own nm B ml rt) {o : Int} {b : Addr} (hd : decode B pc = .ok (.ifnull o, 3)) (hq : 0 ≤ (pc : Int) + o ∧ ((pc : Int) + o).toNat = q) (k' : Go p l e R s m args below meth c Z n0 P kc ks μ k n (mkF m q L st)) : Go p l e R s m args below meth c Z n0 P kc ks μ k n (mkF m pc L (.null :: st)) := Go.pure k' fun T h t hr => XS.ifnullYes h C.1 rfl rfl (hb C.2.1 hd) rfl hq.1 hq.2 hr
theorem ifnullN (C : Ctx p s m meth c Z own nm B ml rt) {o : Int} {b : Addr} (hd : decode B pc = .ok (.ifnull o, 3)) (hq : pc + 3 = q) (k' : Go p l e R s m args below meth c Z n0 P kc ks μ k n (mkF m q L st)) : Go p l e R s m args below meth c Z n0 P kc ks μ k n (mkF m pc L ((.ref b) :: st)) := by
  subst hq
  exact Go.pure k' fun T h t hr => XS.ifnullNo h C.1 rfl (hb C.2.1 hd) rfl hr
theorem ifnonnullY (C : Ctx p s m meth c Z own nm B ml rt) {o : Int} {b : Addr} (hd : decode B pc = .ok (.ifnonnull o, 3)) (hq : 0 ≤ (pc : Int) + o ∧ ((pc : Int) + o).toNat = q) (k' : Go p l e R s m args below meth c Z n0 P kc ks μ k n (mkF m q L st)) : Go p l e R s m args below meth c Z n0 P kc ks μ k n (mkF m pc L ((.ref b) :: st)) := Go.pure k' fun T h t hr => XT.ifnonnullYes h C.1 rfl rfl (hb C.2.1 hd) rfl hq.1 hq.2 hr
theorem ifnonnullN (C : Ctx p s m meth c Z own nm B ml rt) {o : Int} {b : Addr} (hd : decode B pc = .ok (.ifnonnull o, 3)) (hq : pc + 3 = q) (k' : Go p l e R s m args below meth c Z n0 P kc ks μ k n (mkF m q L st)) : Go p l e R s m args below meth c Z n0 P kc ks μ k n (mkF m pc L (.null :: st)) := by
  subst hq
  exact Go.pure k' fun T h t hr => XT.ifnonnullNo h C.1 rfl (hb C.2.1 hd) rfl hr
theorem acmp_eq (C : Ctx p s m meth c Z own nm B ml rt) {x y : Value} {o : Int} {r : Nat} (hd : decode B pc = .ok (.if_acmp .eq o, 3)) (hq : pc + 3 = q) (hr : 0 ≤ (pc : Int) + o ∧ ((pc : Int) + o).toNat = r) (h1 : x.isRef = true) (h2 : y.isRef = true) (ky : x = y → Go p l e R s m args below meth c Z n0 P kc ks μ k n (mkF m r L st)) (kn : ¬ x = y → Go p l e R s m args below meth c Z n0 P kc ks μ k n (mkF m q L st)) : Go p l e R s m args below meth c Z n0 P kc ks μ k n (mkF m pc L (y :: x :: st)) := by
  subst hq
  by_cases hc : x = y
  · exact Go.pure (ky hc) fun T h t k => XT.acmpYes h C.1 rfl rfl (hb C.2.1 hd) rfl h1 h2 (XT.aa_eq_t hc) hr.1 hr.2 k
  · exact Go.pure (kn (by first | exact hc | exact Decidable.of_not_not hc)) fun T h t k => XT.acmpNo h C.1 rfl (hb C.2.1 hd) rfl h1 h2 (XT.aa_eq_f (by first | exact hc | exact Decidable.of_not_not hc)) k
theorem acmp_ne (C : Ctx p s m meth c Z own nm B ml rt) {x y : Value} {o : Int} {r : Nat} (hd : decode B pc = .ok (.if_acmp .ne o, 3)) (hq : pc + 3 = q) (hr : 0 ≤ (pc : Int) + o ∧ ((pc : Int) + o).toNat = r) (h1 : x.isRef = true) (h2 : y.isRef = true) (ky : ¬ x = y → Go p l e R s m args below meth c Z n0 P kc ks μ k n (mkF m r L st)) (kn : x = y → Go p l e R s m args below meth c Z n0 P kc ks μ k n (mkF m q L st)) : Go p l e R s m args below meth c Z n0 P kc ks μ k n (mkF m pc L (y :: x :: st)) := by
  subst hq
  by_cases hc : ¬ x = y
  · exact Go.pure (ky hc) fun T h t k => XT.acmpYes h C.1 rfl rfl (hb C.2.1 hd) rfl h1 h2 (XT.aa_ne_t hc) hr.1 hr.2 k
  · exact Go.pure (kn (by first | exact hc | exact Decidable.of_not_not hc)) fun T h t k => XT.acmpNo h C.1 rfl (hb C.2.1 hd) rfl h1 h2 (XT.aa_ne_f (by first | exact hc | exact Decidable.of_not_not hc)) k
theorem mem {μ' : Mem} {g : JFrame} (h : μ = μ') (k' : Go p l e R s m args below meth c Z n0 P kc ks μ' k n g) : Go p l e R s m args below meth c Z n0 P kc ks μ k n g := by subst h; exact k'
/-! constants of the pool -/
theorem ldcI (C : Ctx p s m meth c Z own nm B ml rt) {i : Nat} {v : Int32} (hd : decode B pc = .ok (.ldc i, 2)) (hq : pc + 2 = q) (w : (Cond.constant own i v).before a0 Z = true) (k' : Go p l e R s m args below meth c Z n0 P kc ks μ k n (mkF m q L (.int v :: st))) : Go p l e R s m args below meth c Z n0 P kc ks μ k n (mkF m pc L st) := by
  subst hq
  exact Go.stand k' fun T locs X H => ⟨T, X, rfl, X.ldcInt C.1 C.2.2.2.2.1 (mvT C.2.2.2.1 w) (g := mkF m pc L st) rfl (hb C.2.1 hd)⟩
theorem ldcwI (C : Ctx p s m meth c Z own nm B ml rt) {i : Nat} {v : Int32} (hd : decode B pc = .ok (.ldc_w i, 3)) (hq : pc + 3 = q) (w : (Cond.constant own i v).before a0 Z = true) (k' : Go p l e R s m args below meth c Z n0 P kc ks μ k n (mkF m q L (.int v :: st))) : Go p l e R s m args below meth c Z n0 P kc ks μ k n (mkF m pc L st) := by
  subst hq
  exact Go.stand k' fun T locs X H => ⟨T, X, rfl, X.ldcwInt C.1 C.2.2.2.2.1 (mvT C.2.2.2.1 w) (g := mkF m pc L st) rfl (hb C.2.1 hd)⟩
theorem ldcJ (C : Ctx p s m meth c Z own nm B ml rt) {i : Nat} {v : Int64} (hd : decode B pc = .ok (.ldc2_w i, 3)) (hq : pc + 3 = q) (w : (Cond.constantLong own i v).before a0 Z = true) (k' : Go p l e R s m args below meth c Z n0 P kc ks μ k n (mkF m q L (.long v :: st))) : Go p l e R s m args below meth c Z n0 P kc ks μ k n (mkF m pc L st) := by
  subst hq
  exact Go.stand k' fun T locs X H => ⟨T, X, rfl, X.ldc2Long C.1 C.2.2.2.2.1 (mvT C.2.2.2.1 w) (g := mkF m pc L st) rfl (hb C.2.1 hd)⟩
/-! fields -/
theorem getfield (C : Ctx p s m meth c Z own nm B ml rt) {i j : Nat} {R0 O f d host K : String} {fs : List (Key × Value)} {v : Value} {a : Addr} (hd : decode B pc = .ok (.getfield i, 3)) (hq : pc + 3 = q) (w : (Cond.fieldLink own i R0 f d).before a0 Z = true ∨ (Cond.fieldLinkNest own i R0 f d host).before a0 Z = true) (via : Via Z R0 O f d)
    (hμ : μ a = some (.inl (K, fs))) (hj : fs[j]? = some ((O, f, d), v)) (k' : Go p l e R s m args below meth c Z n0 P kc ks μ k n (mkF m q L (v :: st))) : Go p l e R s m args below meth c Z n0 P kc ks μ k n (mkF m pc L (.ref a :: st)) := by
  subst hq
  refine Go.stand k' fun T locs X H => ?_
  have I := H.2 a _ hμ
  exact getF X C.1 C.2.2.2.1 C.2.2.2.2.1 w via rfl (I.2.1 _ (List.mem_of_getElem? hj)) (g := mkF m pc L (.ref a :: st)) rfl rfl (hb C.2.1 hd)
theorem putfield (C : Ctx p s m meth c Z own nm B ml rt) {i j kk : Nat} {R0 O f d host K : String} {fs fs' : List (Key × Value)} {v old : Value} {a : Addr} {ty : FieldType} (hd : decode B pc = .ok (.putfield i, 3)) (hq : pc + 3 = q) (w : (Cond.fieldLink own i R0 f d).before a0 Z = true ∨ (Cond.fieldLinkNest own i R0 f d host).before a0 Z = true) (via : Via Z R0 O f d)
    (wl : (Cond.lays K O f d).before a0 Z = true ∨ ((Cond.laysFinal K O f d).before a0 Z = true ∧ own = O ∧ nm = "<init>")) (wi : (Cond.instantiable K kk).before a0 Z = true) (hty : parseFieldDescriptor d = some ty) (hn : narrow ty v = v) (hf : fits ty v = true)
    (hμ : μ a = some (.inl (K, fs))) (hj : fs[j]? = some ((O, f, d), old)) (hfs : fs.set j ((O, f, d), v) = fs') (ha : n0 ≤ a) (k' : Go p l e R s m args below meth c Z n0 P kc ks (upd μ a (.inl (K, fs'))) k n (mkF m q L st)) : Go p l e R s m args below meth c Z n0 P kc ks μ k n (mkF m pc L (v :: .ref a :: st)) := by
  subst hq
  intro T locs X F H
  have I := H.2 a _ hμ
  obtain ⟨T', h', X', e', W, stp⟩ := putF X C.1 C.2.2.2.1 C.2.2.2.2.1 w via rfl (I.2.1 _ (List.mem_of_getElem? hj)) I.1 (wl.imp id fun z => ⟨z.1, z.2.1, C.2.2.2.2.2.2.2.trans z.2.2⟩) wi hty hn hf (g := mkF m pc L (v :: .ref a :: st)) rfl rfl (hb C.2.1 hd)
  obtain ⟨s2, o, h1, h2⟩ := k' T' _ X' (Fr.snoc X' F ha) (by rw [e']; exact H.wr W ha (IsO.put I hj W hfs))
  exact ⟨s2, o, stp _ h1, h2⟩
theorem putfieldN (C : Ctx p s m meth c Z own nm B ml rt) {i j kk : Nat} {R0 O f d K : String} {fs fs' : List (Key × Value)} {v v' old : Value} {a : Addr} {ty : FieldType} (hd : decode B pc = .ok (.putfield i, 3)) (hq : pc + 3 = q) (w : (Cond.fieldLink own i R0 f d).before a0 Z = true) (via : Via Z R0 O f d)
    (wl : (Cond.lays K O f d).before a0 Z = true ∨ ((Cond.laysFinal K O f d).before a0 Z = true ∧ own = O ∧ nm = "<init>")) (wi : (Cond.instantiable K kk).before a0 Z = true) (hty : parseFieldDescriptor d = some ty) (hn : narrow ty v = v') (hf : fits ty v' = true)
    (hμ : μ a = some (.inl (K, fs))) (hj : fs[j]? = some ((O, f, d), old)) (hfs : fs.set j ((O, f, d), v') = fs') (ha : n0 ≤ a) (k' : Go p l e R s m args below meth c Z n0 P kc ks (upd μ a (.inl (K, fs'))) k n (mkF m q L st)) : Go p l e R s m args below meth c Z n0 P kc ks μ k n (mkF m pc L (v :: .ref a :: st)) := by
  subst hq
  intro T locs X F H
  have I := H.2 a _ hμ
  obtain ⟨T', h', X', e', W, stp⟩ := putFN X C.1 C.2.2.2.1 C.2.2.2.2.1 w via rfl (I.2.1 _ (List.mem_of_getElem? hj)) I.1 (wl.imp id fun z => ⟨z.1, z.2.1, C.2.2.2.2.2.2.2.trans z.2.2⟩) wi hty hn hf (g := mkF m pc L (v :: .ref a :: st)) rfl rfl (hb C.2.1 hd)
  obtain ⟨s2, o, h1, h2⟩ := k' T' _ X' (Fr.snoc X' F ha) (by rw [e']; exact H.wr W ha (IsO.put I hj W hfs))
  exact ⟨s2, o, stp _ h1, h2⟩
theorem getstatic (C : Ctx p s m meth c Z own nm B ml rt) {i : Nat} {R0 O f d host : String} {v : Value} (hd : decode B pc = .ok (.getstatic i, 3)) (hq : pc + 3 = q) (w : (Cond.fieldLink own i R0 f d).before a0 Z = true ∨ (Cond.fieldLinkNest own i R0 f d host).before a0 Z = true) (via : Via Z R0 O f d)
    (S : Sta Z Z.heap O f d v) (k' : Go p l e R s m args below meth c Z n0 P kc ks μ k n (mkF m q L (v :: st))) : Go p l e R s m args below meth c Z n0 P kc ks μ k n (mkF m pc L st) := by
  subst hq
  exact Go.stand k' fun T locs X H => getS2 X C.1 C.2.2.2.1 C.2.2.2.2.1 w via rfl (S.ext H.1.2) (g := mkF m pc L st) rfl (hb C.2.1 hd)
/-! new objects -/
def AllLaid (Z : State) (a0 : Array Value) (C : String) : List (Key × Value) → Prop
  | [] => True
  | q :: r => (∃ ty, Laid Z a0 C q.1.1 q.1.2.1 q.1.2.2 ∧ parseFieldDescriptor q.1.2.2 = some ty ∧ q.2 = defaultValue ty) ∧ AllLaid Z a0 C r
theorem AllLaid.mem {K : String} : ∀ {fs : List (Key × Value)}, AllLaid Z a0 K fs → ∀ q ∈ fs, ∃ ty, Laid Z a0 K q.1.1 q.1.2.1 q.1.2.2 ∧ parseFieldDescriptor q.1.2.2 = some ty ∧ q.2 = defaultValue ty
  | [], _, _, h => nomatch h
  | _ :: _, H, q, h => (List.mem_cons.mp h).elim (fun z => z ▸ H.1) (AllLaid.mem H.2 q)
theorem AllLaid.pw {K : String} : ∀ {fs : List (Key × Value)}, AllLaid Z a0 K fs → fs.Pairwise (fun q r => q.1.2.1 ≠ r.1.2.1) → fs.Pairwise fun q r => sl Z q ≠ sl Z r
  | [], _, _ => .nil
  | x :: r, H, N => by
    cases N with
    | cons h1 h2 =>
      refine .cons (fun y hy => ?_) (AllLaid.pw H.2 h2)
      obtain ⟨t1, L1, p1, -⟩ := H.1
      obtain ⟨t2, L2, p2, -⟩ := AllLaid.mem H.2 y hy
      exact RoadKit.slot_ne L1 L2 (h1 y hy) p1 p2
theorem new (C : Ctx p s m meth c Z own nm B ml rt) {i ns : Nat} {K : String} {fs : List (Key × Value)} (hd : decode B pc = .ok (.new i, 3)) (hq : pc + 3 = q) (w1 : (Cond.classLink own i K).before a0 Z = true) (w2 : (Cond.instantiable K ns).before a0 Z = true) (w3 : (Cond.initialized K).before a0 Z = true)
    (hl : AllLaid Z a0 K fs) (hnd : fs.Pairwise (fun q r => q.1.2.1 ≠ r.1.2.1)) (hc : k + 1 ≤ R.cells) (hs : n + ns ≤ R.slots)
    (k' : ∀ a : Addr, (∀ b o, μ b = some o → b ≠ a) → n0 ≤ a → Go p l e R s m args below meth c Z n0 P kc ks (upd μ a (.inl (K, fs))) (k + 1) (n + ns) (mkF m q L (.ref a :: st))) : Go p l e R s m args below meth c Z n0 P kc ks μ k n (mkF m pc L st) := by
  subst hq
  intro T locs X F H
  obtain ⟨T', h', X', e', E, A, D, -, stp⟩ := newO X C.1 C.2.2.2.1 C.2.2.2.2.1 w1 w2 w3 rfl (g := mkF m pc L st) rfl (hb C.2.1 hd) hc hs
  obtain ⟨s2, o, h1, h2⟩ := k' T.heap.size H.fresh H.ge T' _ X' F (by
    rw [e']
    refine Hp.set (H.ext E) ⟨A, fun z hz => ?_, hl.pw hnd⟩
    obtain ⟨ty, l1, l2, l3⟩ := hl.mem z hz
    rw [l3]; exact D l1 l2)
  exact ⟨s2, o, stp _ h1, h2⟩
theorem newArr (C : Ctx p s m meth c Z own nm B ml rt) {aty : ArrayType} {ty : FieldType} {z : Int32} {cap : Nat} {vs : List Value} (hd : decode B pc = .ok (.newarray aty, 2)) (hq : pc + 2 = q) (ht : newarray.typeOf aty = ty) (w : (Cond.arrayClass ty).before a0 Z = true) (hz : ¬ z < 0) (hcap : z.toNatClampNeg ≤ cap) (hbig : cap * 8 ≤ 536870912) (hvs : List.replicate z.toNatClampNeg (defaultValue ty) = vs)
    (hc : k + 1 ≤ R.cells) (hs : n + cap ≤ R.slots)
    (k' : ∀ a : Addr, (∀ b o, μ b = some o → b ≠ a) → n0 ≤ a → Go p l e R s m args below meth c Z n0 P kc ks (upd μ a (.inr (ty, vs))) (k + 1) (n + cap) (mkF m q L (.ref a :: st))) : Go p l e R s m args below meth c Z n0 P kc ks μ k n (mkF m pc L (.int z :: st)) := by
  subst hq hvs ht
  intro T locs X F H
  obtain ⟨T', h', cA, X', e', E, A, stp⟩ := newP X C.1 C.2.2.2.1 w rfl (g := mkF m pc L (.int z :: st)) rfl (hb C.2.1 hd) rfl hz hcap hbig hc hs
  obtain ⟨s2, o, h1, h2⟩ := k' T.heap.size H.fresh H.ge T' _ X' F (by
    rw [e']
    refine Hp.set (H.ext E) ⟨_, A, by simp [newA], by rw [List.length_replicate]; exact (back32 hz).2, fun v hv => ?_⟩
    rw [(List.mem_replicate.mp hv).2]; cases aty <;> rfl)
  exact ⟨s2, o, stp _ h1, h2⟩
/-! arrays -/
theorem inb {c : Cell} {vs : List Value} {j : Int32} (e : c.slots.toList = vs) (h0 : ¬ j < 0) (hj : j.toNatClampNeg < vs.length) : ¬ (j < 0 ∨ c.slots.size ≤ j.toNatClampNeg) := by
  subst e; rw [Array.length_toList] at hj; rintro (q | q)
  · exact h0 q
  · omega
theorem atL {c : Cell} {vs : List Value} {j : Nat} {v : Value} (e : c.slots.toList = vs) (hv : vs[j]? = some v) : c.slots[j]? = some v := by
  subst e; rw [Array.getElem?_toList] at hv; exact hv
theorem arraylength (C : Ctx p s m meth c Z own nm B ml rt) {ty : FieldType} {vs : List Value} {a : Addr} (hd : decode B pc = .ok (.arraylength, 1)) (hq : pc + 1 = q) (hμ : μ a = some (.inr (ty, vs))) (k' : ∀ z : Int32, z = Int32.ofNat vs.length → z.toInt = vs.length → Go p l e R s m args below meth c Z n0 P kc ks μ k n (mkF m q L (.int z :: st))) : Go p l e R s m args below meth c Z n0 P kc ks μ k n (mkF m pc L (.ref a :: st)) := by
  subst hq
  intro T locs X F H
  obtain ⟨cl, A, e1, hl, -⟩ := H.2 a _ hμ
  have e2 : cl.slots.size = vs.length := by subst e1; rw [Array.length_toList]
  obtain ⟨s2, o, h1, h2⟩ := k' (Int32.ofNat vs.length) rfl (Int32.toInt_ofNat_small hl) T _ X F H
  exact ⟨s2, o, X.arraylength C.1 A.1 (State.isArrayOf_alike C.2.2.2.1.alike A.2.1) (g := mkF m pc L (.ref a :: st)) rfl rfl (hb C.2.1 hd) _ (by rw [e2]; exact h1), h2⟩
theorem iaload (C : Ctx p s m meth c Z own nm B ml rt) {vs : List Value} {a : Addr} {j : Int32} {v : Value} (hd : decode B pc = .ok (.iaload, 1)) (hq : pc + 1 = q) (hμ : μ a = some (.inr (.int, vs))) (h0 : ¬ j < 0) (hv : vs[j.toNatClampNeg]? = some v) (k' : Go p l e R s m args below meth c Z n0 P kc ks μ k n (mkF m q L (v :: st))) : Go p l e R s m args below meth c Z n0 P kc ks μ k n (mkF m pc L (.int j :: .ref a :: st)) := by
  subst hq
  intro T locs X F H
  obtain ⟨cl, A, e1, -⟩ := H.2 a _ hμ
  obtain ⟨s2, o, h1, h2⟩ := k' T _ X F H
  exact ⟨s2, o, X.iaload C.1 A.1 (State.isArrayOf_alike C.2.2.2.1.alike A.2.1) A.2.2 (inb e1 h0 (List.getElem?_eq_some_iff.mp hv).1) (atL e1 hv) (g := mkF m pc L (.int j :: .ref a :: st)) rfl rfl (hb C.2.1 hd) _ h1, h2⟩
theorem laload (C : Ctx p s m meth c Z own nm B ml rt) {vs : List Value} {a : Addr} {j : Int32} {v : Value} (hd : decode B pc = .ok (.laload, 1)) (hq : pc + 1 = q) (hμ : μ a = some (.inr (.long, vs))) (h0 : ¬ j < 0) (hv : vs[j.toNatClampNeg]? = some v) (k' : Go p l e R s m args below meth c Z n0 P kc ks μ k n (mkF m q L (v :: st))) : Go p l e R s m args below meth c Z n0 P kc ks μ k n (mkF m pc L (.int j :: .ref a :: st)) := by
  subst hq
  intro T locs X F H
  obtain ⟨cl, A, e1, -⟩ := H.2 a _ hμ
  obtain ⟨s2, o, h1, h2⟩ := k' T _ X F H
  exact ⟨s2, o, X.laload C.1 A.1 (State.isArrayOf_alike C.2.2.2.1.alike A.2.1) A.2.2 (inb e1 h0 (List.getElem?_eq_some_iff.mp hv).1) (atL e1 hv) (g := mkF m pc L (.int j :: .ref a :: st)) rfl rfl (hb C.2.1 hd) _ h1, h2⟩
theorem caload (C : Ctx p s m meth c Z own nm B ml rt) {vs : List Value} {a : Addr} {j : Int32} {v : Value} (hd : decode B pc = .ok (.caload, 1)) (hq : pc + 1 = q) (hμ : μ a = some (.inr (.char, vs))) (h0 : ¬ j < 0) (hv : vs[j.toNatClampNeg]? = some v) (k' : Go p l e R s m args below meth c Z n0 P kc ks μ k n (mkF m q L (v :: st))) : Go p l e R s m args below meth c Z n0 P kc ks μ k n (mkF m pc L (.int j :: .ref a :: st)) := by
  subst hq
  intro T locs X F H
  obtain ⟨cl, A, e1, -⟩ := H.2 a _ hμ
  obtain ⟨s2, o, h1, h2⟩ := k' T _ X F H
  exact ⟨s2, o, X.caload C.1 A.1 (State.isArrayOf_alike C.2.2.2.1.alike A.2.1) A.2.2 (inb e1 h0 (List.getElem?_eq_some_iff.mp hv).1) (atL e1 hv) (g := mkF m pc L (.int j :: .ref a :: st)) rfl rfl (hb C.2.1 hd) _ h1, h2⟩
theorem baload (C : Ctx p s m meth c Z own nm B ml rt) {vs : List Value} {a : Addr} {j : Int32} {v : Value} (hd : decode B pc = .ok (.baload, 1)) (hq : pc + 1 = q) (hμ : μ a = some (.inr (.byte, vs))) (h0 : ¬ j < 0) (hv : vs[j.toNatClampNeg]? = some v) (k' : Go p l e R s m args below meth c Z n0 P kc ks μ k n (mkF m q L (v :: st))) : Go p l e R s m args below meth c Z n0 P kc ks μ k n (mkF m pc L (.int j :: .ref a :: st)) := by
  subst hq
  intro T locs X F H
  obtain ⟨cl, A, e1, -⟩ := H.2 a _ hμ
  obtain ⟨s2, o, h1, h2⟩ := k' T _ X F H
  exact ⟨s2, o, X.baloadBytes C.1 A.1 (State.isArrayOf_alike C.2.2.2.1.alike A.2.1) A.2.2 (inb e1 h0 (List.getElem?_eq_some_iff.mp hv).1) (atL e1 hv) (g := mkF m pc L (.int j :: .ref a :: st)) rfl rfl (hb C.2.1 hd) _ h1, h2⟩
theorem zaload (C : Ctx p s m meth c Z own nm B ml rt) {vs : List Value} {a : Addr} {j : Int32} {v : Value} (hd : decode B pc = .ok (.baload, 1)) (hq : pc + 1 = q) (hμ : μ a = some (.inr (.boolean, vs))) (h0 : ¬ j < 0) (hv : vs[j.toNatClampNeg]? = some v) (k' : Go p l e R s m args below meth c Z n0 P kc ks μ k n (mkF m q L (v :: st))) : Go p l e R s m args below meth c Z n0 P kc ks μ k n (mkF m pc L (.int j :: .ref a :: st)) := by
  subst hq
  intro T locs X F H
  obtain ⟨cl, A, e1, -⟩ := H.2 a _ hμ
  obtain ⟨s2, o, h1, h2⟩ := k' T _ X F H
  exact ⟨s2, o, X.baloadBooleans C.1 A.1 (State.isArrayOf_alike C.2.2.2.1.alike A.2.1) A.2.2 (inb e1 h0 (List.getElem?_eq_some_iff.mp hv).1) (atL e1 hv) (g := mkF m pc L (.int j :: .ref a :: st)) rfl rfl (hb C.2.1 hd) _ h1, h2⟩
theorem aaload (C : Ctx p s m meth c Z own nm B ml rt) {ty : FieldType} {vs : List Value} {a : Addr} {j : Int32} {v : Value} (hd : decode B pc = .ok (.aaload, 1)) (hq : pc + 1 = q) (hμ : μ a = some (.inr (ty, vs))) (hr : ty.isReference = true) (h0 : ¬ j < 0) (hv : vs[j.toNatClampNeg]? = some v) (k' : Go p l e R s m args below meth c Z n0 P kc ks μ k n (mkF m q L (v :: st))) : Go p l e R s m args below meth c Z n0 P kc ks μ k n (mkF m pc L (.int j :: .ref a :: st)) := by
  subst hq
  intro T locs X F H
  obtain ⟨cl, A, e1, -⟩ := H.2 a _ hμ
  obtain ⟨s2, o, h1, h2⟩ := k' T _ X F H
  exact ⟨s2, o, X.aaload C.1 A.1 (State.isArrayOf_alike C.2.2.2.1.alike A.2.1) hr A.2.2 (inb e1 h0 (List.getElem?_eq_some_iff.mp hv).1) (atL e1 hv) (g := mkF m pc L (.int j :: .ref a :: st)) rfl rfl (hb C.2.1 hd) _ h1, h2⟩
theorem iastore (C : Ctx p s m meth c Z own nm B ml rt) {vs : List Value} {a : Addr} {j : Int32} {x : Int32} (hd : decode B pc = .ok (.iastore, 1)) (hq : pc + 1 = q) (hμ : μ a = some (.inr (.int, vs))) (h0 : ¬ j < 0) (hj : j.toNatClampNeg < vs.length) (ha : n0 ≤ a) (k' : Go p l e R s m args below meth c Z n0 P kc ks (upd μ a (.inr (.int, vs.set j.toNatClampNeg (.int x)))) k n (mkF m q L st)) : Go p l e R s m args below meth c Z n0 P kc ks μ k n (mkF m pc L ((.int x) :: .int j :: .ref a :: st)) := by
  subst hq
  intro T locs X F H
  have I := H.2 a _ hμ
  obtain ⟨cl, A, e1, -⟩ := id I
  obtain ⟨T', h', X', e', W, stp⟩ := stI X C.1 C.2.2.2.1 rfl A (inb e1 h0 hj) (g := mkF m pc L ((.int x) :: .int j :: .ref a :: st)) rfl rfl (hb C.2.1 hd)
  obtain ⟨s2, o, h1, h2⟩ := k' T' _ X' (Fr.snoc X' F ha) (by rw [e']; exact H.wr W ha (IsA.put (n0 := n0) I rfl W))
  exact ⟨s2, o, stp _ h1, h2⟩
theorem lastore (C : Ctx p s m meth c Z own nm B ml rt) {vs : List Value} {a : Addr} {j : Int32} {x : Int64} (hd : decode B pc = .ok (.lastore, 1)) (hq : pc + 1 = q) (hμ : μ a = some (.inr (.long, vs))) (h0 : ¬ j < 0) (hj : j.toNatClampNeg < vs.length) (ha : n0 ≤ a) (k' : Go p l e R s m args below meth c Z n0 P kc ks (upd μ a (.inr (.long, vs.set j.toNatClampNeg (.long x)))) k n (mkF m q L st)) : Go p l e R s m args below meth c Z n0 P kc ks μ k n (mkF m pc L ((.long x) :: .int j :: .ref a :: st)) := by
  subst hq
  intro T locs X F H
  have I := H.2 a _ hμ
  obtain ⟨cl, A, e1, -⟩ := id I
  obtain ⟨T', h', X', e', W, stp⟩ := stJ X C.1 C.2.2.2.1 rfl A (inb e1 h0 hj) (g := mkF m pc L ((.long x) :: .int j :: .ref a :: st)) rfl rfl (hb C.2.1 hd)
  obtain ⟨s2, o, h1, h2⟩ := k' T' _ X' (Fr.snoc X' F ha) (by rw [e']; exact H.wr W ha (IsA.put (n0 := n0) I rfl W))
  exact ⟨s2, o, stp _ h1, h2⟩
theorem castore (C : Ctx p s m meth c Z own nm B ml rt) {vs : List Value} {a : Addr} {j : Int32} {x : Int32} (hd : decode B pc = .ok (.castore, 1)) (hq : pc + 1 = q) (hμ : μ a = some (.inr (.char, vs))) (h0 : ¬ j < 0) (hj : j.toNatClampNeg < vs.length) (ha : n0 ≤ a) (k' : Go p l e R s m args below meth c Z n0 P kc ks (upd μ a (.inr (.char, vs.set j.toNatClampNeg (.int (nar .char x))))) k n (mkF m q L st)) : Go p l e R s m args below meth c Z n0 P kc ks μ k n (mkF m pc L ((.int x) :: .int j :: .ref a :: st)) := by
  subst hq
  intro T locs X F H
  have I := H.2 a _ hμ
  obtain ⟨cl, A, e1, -⟩ := id I
  obtain ⟨T', h', X', e', W, stp⟩ := stC X C.1 C.2.2.2.1 rfl A (inb e1 h0 hj) (g := mkF m pc L ((.int x) :: .int j :: .ref a :: st)) rfl rfl (hb C.2.1 hd)
  obtain ⟨s2, o, h1, h2⟩ := k' T' _ X' (Fr.snoc X' F ha) (by rw [e']; exact H.wr W ha (IsA.put (n0 := n0) I (fits_nar_char _) W))
  exact ⟨s2, o, stp _ h1, h2⟩
theorem bastore (C : Ctx p s m meth c Z own nm B ml rt) {vs : List Value} {a : Addr} {j : Int32} {x : Int32} (hd : decode B pc = .ok (.bastore, 1)) (hq : pc + 1 = q) (hμ : μ a = some (.inr (.byte, vs))) (h0 : ¬ j < 0) (hj : j.toNatClampNeg < vs.length) (ha : n0 ≤ a) (k' : Go p l e R s m args below meth c Z n0 P kc ks (upd μ a (.inr (.byte, vs.set j.toNatClampNeg (.int x.toInt8.toInt32)))) k n (mkF m q L st)) : Go p l e R s m args below meth c Z n0 P kc ks μ k n (mkF m pc L ((.int x) :: .int j :: .ref a :: st)) := by
  subst hq
  intro T locs X F H
  have I := H.2 a _ hμ
  obtain ⟨cl, A, e1, -⟩ := id I
  obtain ⟨T', h', X', e', W, stp⟩ := stB X C.1 C.2.2.2.1 rfl A (inb e1 h0 hj) (g := mkF m pc L ((.int x) :: .int j :: .ref a :: st)) rfl rfl (hb C.2.1 hd)
  obtain ⟨s2, o, h1, h2⟩ := k' T' _ X' (Fr.snoc X' F ha) (by rw [e']; exact H.wr W ha (IsA.put (n0 := n0) I (fits_nar_byte _) W))
  exact ⟨s2, o, stp _ h1, h2⟩
theorem zastore (C : Ctx p s m meth c Z own nm B ml rt) {vs : List Value} {a : Addr} {j : Int32} {x : Int32} (hd : decode B pc = .ok (.bastore, 1)) (hq : pc + 1 = q) (hμ : μ a = some (.inr (.boolean, vs))) (h0 : ¬ j < 0) (hj : j.toNatClampNeg < vs.length) (ha : n0 ≤ a) (k' : Go p l e R s m args below meth c Z n0 P kc ks (upd μ a (.inr (.boolean, vs.set j.toNatClampNeg (.int (nar .boolean x))))) k n (mkF m q L st)) : Go p l e R s m args below meth c Z n0 P kc ks μ k n (mkF m pc L ((.int x) :: .int j :: .ref a :: st)) := by
  subst hq
  intro T locs X F H
  have I := H.2 a _ hμ
  obtain ⟨cl, A, e1, -⟩ := id I
  obtain ⟨T', h', X', e', W, stp⟩ := stZ X C.1 C.2.2.2.1 rfl A (inb e1 h0 hj) (g := mkF m pc L ((.int x) :: .int j :: .ref a :: st)) rfl rfl (hb C.2.1 hd)
  obtain ⟨s2, o, h1, h2⟩ := k' T' _ X' (Fr.snoc X' F ha) (by rw [e']; exact H.wr W ha (IsA.put (n0 := n0) I (fits_nar_bool _) W))
  exact ⟨s2, o, stp _ h1, h2⟩
/-! returns -/
theorem ireturn (C : Ctx p s m meth c Z own nm B ml (some .int)) {z : Int32} (hd : decode B pc = .ok (.ireturn, 1)) (hk : k ≤ kc) (hn : n ≤ ks) (h : P (some (.int z)) μ) : Go p l e R s m args below meth c Z n0 P kc ks μ k n (mkF m pc L (.int z :: st)) := fun T locs X F H => by
  obtain ⟨fs, hr, hrun, hended, hW, hsame⟩ := X.leave (v := some (.int z)) (fun h => by rw [C.2.2.2.2.2.1] at h; cases h) C.2.2.2.2.2.2.1
  exact ⟨_, _, retOut X C.1 C.2.2.2.2.2.1 rfl (Or.inl ⟨rfl, Or.inl rfl, z, rfl⟩) (hb C.2.1 hd) hr, hrun, hended, _, _, rfl, ⟨F, μ, H, h⟩, ⟨_, rfl⟩, hW, hsame.mono hk hn⟩
theorem nreturn {t : FieldType} (C : Ctx p s m meth c Z own nm B ml (some t)) {z z' : Int32} (hd : decode B pc = .ok (.ireturn, 1)) (ht : t = .boolean ∨ t = .byte ∨ t = .char ∨ t = .short) (hz : nar t z = z') (hk : k ≤ kc) (hn : n ≤ ks) (h : P (some (.int z')) μ) : Go p l e R s m args below meth c Z n0 P kc ks μ k n (mkF m pc L (.int z :: st)) := fun T locs X F H => by
  subst hz
  obtain ⟨fs, hr, hrun, hended, hW, hsame⟩ := X.leave (v := some (.int (nar t z))) (fun h => by rw [C.2.2.2.2.2.1] at h; cases h) C.2.2.2.2.2.2.1
  exact ⟨_, _, retN X C.1 C.2.2.2.2.2.1 ht (hb C.2.1 hd) hr, hrun, hended, _, _, rfl, ⟨F, μ, H, h⟩, ⟨_, rfl⟩, hW, hsame.mono hk hn⟩
theorem lreturn (C : Ctx p s m meth c Z own nm B ml (some .long)) {z : Int64} (hd : decode B pc = .ok (.lreturn, 1)) (hk : k ≤ kc) (hn : n ≤ ks) (h : P (some (.long z)) μ) : Go p l e R s m args below meth c Z n0 P kc ks μ k n (mkF m pc L (.long z :: st)) := fun T locs X F H => by
  obtain ⟨fs, hr, hrun, hended, hW, hsame⟩ := X.leave (v := some (.long z)) (fun h => by rw [C.2.2.2.2.2.1] at h; cases h) C.2.2.2.2.2.2.1
  exact ⟨_, _, retOut X C.1 C.2.2.2.2.2.1 rfl (Or.inr (Or.inl ⟨rfl, rfl, z, rfl⟩)) (hb C.2.1 hd) hr, hrun, hended, _, _, rfl, ⟨F, μ, H, h⟩, ⟨_, rfl⟩, hW, hsame.mono hk hn⟩
theorem nref {t : FieldType} {v : Value} (h1 : t.isReference = true) (h2 : v.isRef = true) : narrow t v = v := by
  cases t <;> first | (cases h1; done) | rfl
theorem areturn {t : FieldType} (C : Ctx p s m meth c Z own nm B ml (some t)) {v : Value} (ht : t.isReference = true) (hv : v.isRef = true) (hd : decode B pc = .ok (.areturn, 1)) (hk : k ≤ kc) (hn : n ≤ ks) (h : P (some v) μ) : Go p l e R s m args below meth c Z n0 P kc ks μ k n (mkF m pc L (v :: st)) := fun T locs X F H => by
  obtain ⟨fs, hr, hrun, hended, hW, hsame⟩ := X.leave (v := some v) (fun h => by rw [C.2.2.2.2.2.1] at h; cases h) C.2.2.2.2.2.2.1
  exact ⟨_, _, retOut X C.1 C.2.2.2.2.2.1 (nref ht hv) (Or.inr (Or.inr (Or.inr (Or.inr ⟨rfl, ht, hv⟩)))) (hb C.2.1 hd) hr, hrun, hended, _, _, rfl, ⟨F, μ, H, h⟩, ⟨_, rfl⟩, hW, hsame.mono hk hn⟩
theorem vreturn (C : Ctx p s m meth c Z own nm B ml none) (hd : decode B pc = .ok (.return_, 1)) (hk : k ≤ kc) (hn : n ≤ ks) (h : P none μ) : Go p l e R s m args below meth c Z n0 P kc ks μ k n (mkF m pc L []) := fun T locs X F H => by
  obtain ⟨fs, hr, hrun, hended, hW, hsame⟩ := X.leave (v := none) (fun _ => rfl) C.2.2.2.2.2.2.1
  exact ⟨_, _, X.returnOut C.1 C.2.2.2.2.2.1 (hb C.2.1 hd) hr, hrun, hended, _, _, rfl, ⟨F, μ, H, h⟩, ⟨_, rfl⟩, hW, hsame.mono hk hn⟩
/-! what a callee leaves, by the kind of its return -/
def RV (Q : Mem → Prop) : Option Value → Mem → Prop := fun v μ => v = none ∧ Q μ
def RI (Q : Int32 → Mem → Prop) : Option Value → Mem → Prop := fun v μ => ∃ z, v = some (.int z) ∧ Q z μ
def RJ (Q : Int64 → Mem → Prop) : Option Value → Mem → Prop := fun v μ => ∃ z, v = some (.long z) ∧ Q z μ
def RR (Q : Value → Mem → Prop) : Option Value → Mem → Prop := fun v μ => ∃ z : Value, v = some z ∧ z.isRef = true ∧ Q z μ
section Nx
variable {k2 n2 : Nat}
theorem nxV {Q : Mem → Prop} (h : ∀ μ', Q μ' → Go p l e R s m args below meth c Z n0 P kc ks μ' k2 n2 (mkF m q L st)) : ∀ v μ', RV Q v μ' → Go p l e R s m args below meth c Z n0 P kc ks μ' k2 n2 (mkF m q L (v.toList ++ st)) := fun v μ' ⟨e1, e2⟩ => by subst e1; exact h μ' e2
theorem nxI {Q : Int32 → Mem → Prop} (h : ∀ z μ', Q z μ' → Go p l e R s m args below meth c Z n0 P kc ks μ' k2 n2 (mkF m q L (.int z :: st))) : ∀ v μ', RI Q v μ' → Go p l e R s m args below meth c Z n0 P kc ks μ' k2 n2 (mkF m q L (v.toList ++ st)) := fun v μ' ⟨z, e1, e2⟩ => by subst e1; exact h z μ' e2
theorem nxJ {Q : Int64 → Mem → Prop} (h : ∀ z μ', Q z μ' → Go p l e R s m args below meth c Z n0 P kc ks μ' k2 n2 (mkF m q L (.long z :: st))) : ∀ v μ', RJ Q v μ' → Go p l e R s m args below meth c Z n0 P kc ks μ' k2 n2 (mkF m q L (v.toList ++ st)) := fun v μ' ⟨z, e1, e2⟩ => by subst e1; exact h z μ' e2
theorem nxR {Q : Value → Mem → Prop} (h : ∀ z μ', z.isRef = true → Q z μ' → Go p l e R s m args below meth c Z n0 P kc ks μ' k2 n2 (mkF m q L (z :: st))) : ∀ v μ', RR Q v μ' → Go p l e R s m args below meth c Z n0 P kc ks μ' k2 n2 (mkF m q L (v.toList ++ st)) := fun v μ' ⟨z, e1, e2, e3⟩ => by subst e1; exact h z μ' e2 e3
end Nx
/-! calls by contract -/
theorem backs {y : MethodName} {B' : ByteArray} {ml' : Nat} {rt' : Option FieldType} {rm : Room} {len W : Nat} {as' : Array Value} {P' : Option Value → Mem → Prop} {h : Heap}
    (con : Con l Z n0 y B' ml' rt' [] rm rm.cells rm.slots as' μ P') (H : Hp Z n0 μ h) (hZ : Z.Warmed39 s.vm) (wc : (Cond.code y B' ml' rt').before a0 Z = true) (wz : (Cond.initialized y.cls).before a0 Z = true) (hf : rm.frames + 1 ≤ R.frames) (hl : W + (ml' + 11) + rm.locals ≤ R.locals) :
    Back l R p e below s args y len W (fun A a => a = as' ∧ A.U.heap = h ∧ A.cells + rm.cells ≤ R.cells ∧ A.slots + rm.slots ≤ R.slots)
      (fun A _ v B => ∃ L, (Fr n0 L ∧ ∃ μ', Hp Z n0 μ' B.U.heap ∧ P' v μ') ∧ B.locs = A.locs ++ L ∧ B.cells = A.cells + rm.cells ∧ B.slots = A.slots + rm.slots) :=
  backOf (Q := fun v h' L => Fr n0 L ∧ ∃ μ', Hp Z n0 μ' h' ∧ P' v μ') (con h H) hZ wc wz hf hl
theorem callS (C : Ctx p s m meth c Z own nm B ml rt) {i : Nat} {y : MethodName} {B' : ByteArray} {ml' : Nat} {rt' : Option FieldType} {rm : Room} {W : Nat} {argsL : List Value} {P' : Option Value → Mem → Prop} {S : List Value} (hd : decode B pc = .ok (.invokestatic i, 3)) (hq : pc + 3 = q)
    (w1 : (Cond.methodLink own i y).before a0 Z = true) (w2 : (Cond.static y).before a0 Z = true) (w3 : (Cond.initialized y.cls).before a0 Z = true) (w4 : (Cond.code y B' ml' rt').before a0 Z = true) (hy : y.cls ≠ "java/lang/invoke/MethodHandle" ∧ y.cls ≠ "java/lang/invoke/VarHandle")
    (hlen : ∀ sig, parseMethodDescriptor y.desc = some sig → argsL.length = sig.parameters.length) (hS : S = argsL.reverse ++ st) (hsz : L.size = ml) (hW : 2 * 0 + (st.map fun v => v.category).sum ≤ W) (hf : rm.frames + 1 ≤ R.frames) (hl : W + (ml' + 11) + rm.locals ≤ R.locals) (hc : k + rm.cells ≤ R.cells) (hs : n + rm.slots ≤ R.slots)
    (con : Con l Z n0 y B' ml' rt' [] rm rm.cells rm.slots argsL.toArray μ P')
    (k' : ∀ v μ', P' v μ' → Go p l e R s m args below meth c Z n0 P kc ks μ' (k + rm.cells) (n + rm.slots) (mkF m q L (v.toList ++ st))) : Go p l e R s m args below meth c Z n0 P kc ks μ k n (mkF m pc L S) := by
  subst hq
  intro T locs X F H
  obtain ⟨v, vm1, ⟨T', L', k2, n2⟩, -, X', ⟨Lc, ⟨N, μ', H', hP⟩, e1, e2, e3⟩, stp⟩ := Jvm.LawKit.callS X C.1 (y := y) C.2.2.2.2.1 (mvT C.2.2.2.1 w1) (mvT C.2.2.2.1 w2) (mvT C.2.2.2.1 w3) (mvT C.2.2.2.1 w4) hy (backs (W := W) con H C.2.2.2.1 w4 w3 hf hl) (g := mkF m pc L S) rfl (hsz.trans C.2.2.1.symm) (argsL := argsL) (rest := st) hlen hS hW (hb C.2.1 hd) (fun _ _ => ⟨rfl, rfl, hc, hs⟩)
  dsimp only [Pt.U, Pt.locs, Pt.cells, Pt.slots] at X' e1 e2 e3 stp H'
  subst e1 e2 e3
  obtain ⟨s2, o, h1, h2⟩ := k' v μ' hP T' _ X' (F.app N) H'
  exact ⟨s2, o, stp _ h1, h2⟩
theorem callI (C : Ctx p s m meth c Z own nm B ml rt) {i : Nat} {y : MethodName} {B' : ByteArray} {ml' : Nat} {rm : Room} {W : Nat} {argsL : List Value} {P' : Option Value → Mem → Prop} {S : List Value} {a : Addr} (hd : decode B pc = .ok (.invokespecial i, 3)) (hq : pc + 3 = q) (hnm : y.name = "<init>")
    (w1 : (Cond.methodLink own i y).before a0 Z = true) (w2 : (Cond.instanceMethod y).before a0 Z = true) (w3 : (Cond.initialized y.cls).before a0 Z = true) (w4 : (Cond.code y B' ml' none).before a0 Z = true) (hy : y.cls ≠ "java/lang/invoke/MethodHandle" ∧ y.cls ≠ "java/lang/invoke/VarHandle")
    (hlen : ∀ sig, parseMethodDescriptor y.desc = some sig → argsL.length = sig.parameters.length) (hS : S = argsL.reverse ++ .ref a :: st) (hsz : L.size = ml) (hW : 2 * 0 + (st.map fun v => v.category).sum ≤ W) (hf : rm.frames + 1 ≤ R.frames) (hl : W + (ml' + 11) + rm.locals ≤ R.locals) (hc : k + rm.cells ≤ R.cells) (hs : n + rm.slots ≤ R.slots)
    (con : Con l Z n0 y B' ml' none [] rm rm.cells rm.slots (.ref a :: argsL).toArray μ P')
    (k' : ∀ v μ', P' v μ' → Go p l e R s m args below meth c Z n0 P kc ks μ' (k + rm.cells) (n + rm.slots) (mkF m q L (v.toList ++ st))) : Go p l e R s m args below meth c Z n0 P kc ks μ k n (mkF m pc L S) := by
  subst hq
  intro T locs X F H
  obtain ⟨v, vm1, ⟨T', L', k2, n2⟩, -, X', ⟨Lc, ⟨N, μ', H', hP⟩, e1, e2, e3⟩, stp⟩ := X.specialBack C.1 (y := y) hnm C.2.2.2.2.1 (mvT C.2.2.2.1 w1) (mvT C.2.2.2.1 w2) (mvT C.2.2.2.1 w4) hy (backs (W := W) con H C.2.2.2.1 w4 w3 hf hl) (g := mkF m pc L S) rfl (hsz.trans C.2.2.1.symm) (Steps.refl _) (a := a) (argsL := argsL) (rest := st) hlen hS hW (hb C.2.1 hd) (fun _ _ => ⟨rfl, rfl, hc, hs⟩)
  dsimp only [Pt.U, Pt.locs, Pt.cells, Pt.slots] at X' e1 e2 e3 stp H'
  subst e1 e2 e3
  obtain ⟨s2, o, h1, h2⟩ := k' v μ' hP T' _ X' (F.app N) H'
  exact ⟨s2, o, stp.trans h1, h2⟩
theorem initObj (C : Ctx p s m meth c Z own nm B ml rt) {i W : Nat} {a : Addr} (hd : decode B pc = .ok (.invokespecial i, 3)) (hq : pc + 3 = q) (w1 : (Cond.methodLink own i Lib.objectInit).before a0 Z = true) (w2 : (Cond.instanceMethod Lib.objectInit).before a0 Z = true) (w3 : (Cond.code Lib.objectInit ⟨#[0xb1]⟩ 1 none).before a0 Z = true)
    (hsz : L.size = ml) (hf : 1 ≤ R.frames) (hW : 2 * 0 + (st.map fun v => v.category).sum ≤ W) (hl : W + 12 ≤ R.locals) (k' : Go p l e R s m args below meth c Z n0 P kc ks μ k n (mkF m q L st)) : Go p l e R s m args below meth c Z n0 P kc ks μ k n (mkF m pc L (.ref a :: st)) := by
  subst hq
  exact Go.stand k' fun T locs X H => initO X C.1 C.2.2.2.1 C.2.2.2.2.1 w1 w2 w3 rfl (g := mkF m pc L (.ref a :: st)) rfl (hsz.trans C.2.2.1.symm) rfl (hb C.2.1 hd) hf hW hl
theorem callV (C : Ctx p s m meth c Z own nm B ml rt) {i : Nat} {y z : MethodName} {K : String} {fs : List (Key × Value)} {B' : ByteArray} {ml' : Nat} {rt' : Option FieldType} {rm : Room} {W : Nat} {argsL : List Value} {P' : Option Value → Mem → Prop} {S : List Value} {a : Addr} (hd : decode B pc = .ok (.invokevirtual i, 3)) (hq : pc + 3 = q)
    (w1 : (Cond.methodLink own i y).before a0 Z = true) (w2 : (Cond.declares y).before a0 Z = true) (hnf : NotFace s y) (w5 : (Cond.selects K y z).before a0 Z = true) (w6 : (Cond.instanceMethod z).before a0 Z = true) (w3 : (Cond.initialized z.cls).before a0 Z = true) (w4 : (Cond.code z B' ml' rt').before a0 Z = true) (hy : y.cls ≠ "java/lang/invoke/MethodHandle" ∧ y.cls ≠ "java/lang/invoke/VarHandle")
    (hlen : ∀ sig, parseMethodDescriptor y.desc = some sig → argsL.length = sig.parameters.length) (hS : S = argsL.reverse ++ .ref a :: st) (hsz : L.size = ml) (hW : 2 * 0 + (st.map fun v => v.category).sum ≤ W) (hf : rm.frames + 1 ≤ R.frames) (hl : W + (ml' + 11) + rm.locals ≤ R.locals) (hc : k + rm.cells ≤ R.cells) (hs : n + rm.slots ≤ R.slots)
    (hμ : μ a = some (.inl (K, fs))) (con : Con l Z n0 z B' ml' rt' [] rm rm.cells rm.slots (.ref a :: argsL).toArray μ P')
    (k' : ∀ v μ', P' v μ' → Go p l e R s m args below meth c Z n0 P kc ks μ' (k + rm.cells) (n + rm.slots) (mkF m q L (v.toList ++ st))) : Go p l e R s m args below meth c Z n0 P kc ks μ k n (mkF m pc L S) := by
  subst hq
  intro T locs X F H
  obtain ⟨cq, kq, qa, qb, qc⟩ := isOf (T := T) C.2.2.2.1 rfl (H.2 a _ hμ).1
  obtain ⟨v, vm1, ⟨T', L', k2, n2⟩, -, X', ⟨Lc, ⟨N, μ', H', hP⟩, e1, e2, e3⟩, stp⟩ := X.virtualBack C.1 (y := y) (z := z) C.2.2.2.2.1 (mvT C.2.2.2.1 w1) (mvT C.2.2.2.1 w2) hnf (mvT C.2.2.2.1 w5) (mvT C.2.2.2.1 w6) hy (backs (W := W) con H C.2.2.2.1 w4 w3 hf hl) qa qc (g := mkF m pc L S) rfl (hsz.trans C.2.2.1.symm) (Steps.refl _) (argsL := argsL) (rest := st) hlen hS hW (hb C.2.1 hd) (fun _ _ => ⟨rfl, rfl, hc, hs⟩)
  dsimp only [Pt.U, Pt.locs, Pt.cells, Pt.slots] at X' e1 e2 e3 stp H'
  subst e1 e2 e3
  obtain ⟨s2, o, h1, h2⟩ := k' v μ' hP T' _ X' (F.app N) H'
  exact ⟨s2, o, stp.trans h1, h2⟩
theorem callP (C : Ctx p s m meth c Z own nm B ml rt) {i : Nat} {y : MethodName} {K : String} {fs : List (Key × Value)} {B' : ByteArray} {ml' : Nat} {rt' : Option FieldType} {rm : Room} {W : Nat} {argsL : List Value} {P' : Option Value → Mem → Prop} {S : List Value} {a : Addr} (hd : decode B pc = .ok (.invokevirtual i, 3)) (hq : pc + 3 = q)
    (w1 : (Cond.methodLink own i y).before a0 Z = true) (w2 : (Cond.privateMethod y).before a0 Z = true) {kk : Nat} (w5 : (Cond.instantiable y.cls kk).before a0 Z = true) (w6 : (Cond.instanceMethod y).before a0 Z = true) (w3 : (Cond.initialized y.cls).before a0 Z = true) (w4 : (Cond.code y B' ml' rt').before a0 Z = true) (hy : y.cls ≠ "java/lang/invoke/MethodHandle" ∧ y.cls ≠ "java/lang/invoke/VarHandle")
    (hlen : ∀ sig, parseMethodDescriptor y.desc = some sig → argsL.length = sig.parameters.length) (hS : S = argsL.reverse ++ .ref a :: st) (hsz : L.size = ml) (hW : 2 * 0 + (st.map fun v => v.category).sum ≤ W) (hf : rm.frames + 1 ≤ R.frames) (hl : W + (ml' + 11) + rm.locals ≤ R.locals) (hc : k + rm.cells ≤ R.cells) (hs : n + rm.slots ≤ R.slots)
    (hμ : μ a = some (.inl (K, fs))) (con : Con l Z n0 y B' ml' rt' [] rm rm.cells rm.slots (.ref a :: argsL).toArray μ P')
    (k' : ∀ v μ', P' v μ' → Go p l e R s m args below meth c Z n0 P kc ks μ' (k + rm.cells) (n + rm.slots) (mkF m q L (v.toList ++ st))) : Go p l e R s m args below meth c Z n0 P kc ks μ k n (mkF m pc L S) := by
  subst hq
  intro T locs X F H
  obtain ⟨cq, q1, q2⟩ := (H.2 a _ hμ).1.cell
  have hp : s.PrivateAt y := Cond.privateMethod_at (mvP C.2.2.2.1 w2 (args := #[]))
  obtain ⟨c2, k2, i1, i2, -, i4, -⟩ := Cond.instantiable_spec (show (Cond.instantiable y.cls kk).before args s = true from mvT C.2.2.2.1 w5)
  have h5 : (Cond.selects y.cls y y).before args s = true := Jvm.Stand.selects_self_of_private i1 i2 (by simp only [Bool.or_eq_false_iff] at i4; exact i4.1) hp (mvT C.2.2.2.1 w6) hy
  obtain ⟨v, vm1, ⟨T', L', k2, n2⟩, -, X', ⟨Lc, ⟨N, μ', H', hP⟩, e1, e2, e3⟩, stp⟩ := X.privateBack C.1 (y := y) C.2.2.2.2.1 (mvT C.2.2.2.1 w1) (mvT C.2.2.2.1 w6) h5 hp (mvT C.2.2.2.1 w4) hy (backs (W := W) con H C.2.2.2.1 w4 w3 hf hl) (g := mkF m pc L S) rfl (hsz.trans C.2.2.1.symm) (Steps.refl _) (a := a) q1 q2 (argsL := argsL) (rest := st) hlen hS hW (hb C.2.1 hd) (fun _ _ => ⟨rfl, rfl, hc, hs⟩)
  dsimp only [Pt.U, Pt.locs, Pt.cells, Pt.slots] at X' e1 e2 e3 stp H'
  subst e1 e2 e3
  obtain ⟨s2, o, h1, h2⟩ := k' v μ' hP T' _ X' (F.app N) H'
  exact ⟨s2, o, stp.trans h1, h2⟩
end Rules
end Jvm.Own
namespace Jvm.Own
open Sem ClassFile Op Lib Jvm.Stand Jvm.Free Jvm.LawKit Jvm.RoadKit
section Clone
variable {p : Program} {l : Launch} {e : Env} {R : Room} {s : State} {m : MethodId} {args : Array Value} {below : List Frame} {meth : Method} {c : Code} {Z : State} {a0 : Array Value} {n0 : Nat} {P : Option Value → Mem → Prop} {kc ks : Nat} {μ : Mem} {k n : Nat}
  {own nm : String} {B : ByteArray} {ml : Nat} {rt : Option FieldType} {pc q : Nat} {L L' : Array Slot} {st : List Value}
/-- clone() of an array that stood at the start, and the cast behind it -/
theorem cloneCast (C : Ctx p s m meth c Z own nm B ml rt) {i i2 W cap pc1 : Nat} {ad : String} {ty : FieldType} {vs : List Value} {a : Addr} (hd : decode B pc = .ok (.invokevirtual i, 3)) (h1 : pc + 3 = pc1) (hd2 : decode B pc1 = .ok (.checkcast i2, 3)) (hq : pc1 + 3 = q)
    (w1 : (Cond.methodLink own i ⟨ad, "clone", "()Ljava/lang/Object;"⟩).before a0 Z = true) (w2 : (Cond.sameMethod ad "java/lang/Object" "clone" "()Ljava/lang/Object;").before a0 Z = true) (w3 : (Cond.native ⟨"java/lang/Object", "clone", "()Ljava/lang/Object;"⟩).before a0 Z = true)
    (w4 : (Cond.instanceMethod ⟨"java/lang/Object", "clone", "()Ljava/lang/Object;"⟩).before a0 Z = true) (w5 : (Cond.selects ad ⟨ad, "clone", "()Ljava/lang/Object;"⟩ ⟨"java/lang/Object", "clone", "()Ljava/lang/Object;"⟩).before a0 Z = true) (w6 : (Cond.castable ad "java/lang/Cloneable").before a0 Z = true) (w7 : (Cond.classLink own i2 ad).before a0 Z = true)
    (hμ : μ a = some (.inr (ty, vs))) (hE : Exa Z Z.heap a ad) (hF : ∀ cl : Cell, Z.heap[a]? = some cl → FitC Z cl) (hcap : vs.length ≤ cap) (hsz : L.size = ml) (hW : 2 * 0 + (st.map fun v => v.category).sum ≤ W) (hf : 1 ≤ R.frames) (hl : W + 14 ≤ R.locals) (hc : k + 1 ≤ R.cells) (hs : n + cap ≤ R.slots)
    (k' : ∀ b : Addr, (∀ x o, μ x = some o → x ≠ b) → n0 ≤ b → Go p l e R s m args below meth c Z n0 P kc ks (upd μ b (.inr (ty, vs))) (k + 1) (n + cap) (mkF m q L (.ref b :: st))) : Go p l e R s m args below meth c Z n0 P kc ks μ k n (mkF m pc L (.ref a :: st)) := by
  subst hq h1
  intro T locs X F H
  obtain ⟨cl, A, e1, hlen, hfit⟩ := H.2 a _ hμ
  have hcl : Z.heap[a]? = some cl := by
    obtain ⟨c0, _, q0, -⟩ := hE
    rw [q0]; exact (H.1.2.2 _ _ q0).symm.trans A.1
  have e2 : cl.slots.size = vs.length := by subst e1; rw [Array.length_toList]
  obtain ⟨T', h', X', e', E, A', Ex, stp⟩ := cloneA X C.1 C.2.2.2.1 C.2.2.2.2.1 w1 w2 w3 w4 w5 w6 rfl A (hE.ext H.1.2) (hF cl hcl) (g := mkF m pc L (.ref a :: st)) rfl (hsz.trans C.2.2.1.symm) rfl (hb C.2.1 hd) hf hW hl (by rw [e2]; exact hcap) hc hs
  obtain ⟨T2, X2, e2', stp2⟩ := castY X' C.1 C.2.2.2.1 C.2.2.2.2.1 w7 e' (Ins.self Ex) (g := mkF m (pc + 3) L (.ref T.heap.size :: st)) rfl rfl (hb C.2.1 hd2)
  obtain ⟨s2, o, h1, h2⟩ := k' T.heap.size H.fresh H.ge T2 _ X2 F (by
    rw [e2']
    exact Hp.set (H.ext E) ⟨cloneOf cl, A', e1, hlen, hfit⟩)
  exact ⟨s2, o, stp _ (stp2 _ h1), h2⟩
end Clone
end Jvm.Own
namespace Jvm.Pilot.@@N@@
open Jvm Jvm.ClassFile Sem Op Lib Jvm.Free Jvm.Stand Jvm.LawKit Jvm.RoadKit Bundle Jvm.Own Jvm.Pilot.@@N@@.Jvm.D
abbrev o_K (v : Value) : Obj := .inl ("com/example/toehold/toehold/piv/ManagementKeyAlgorithm", [(("com/example/toehold/toehold/piv/ManagementKeyAlgorithm", "id", "I"), v)])
def pk (x : Int32) (E0 E1 E2 E3 : Addr) : Value := if x = 3 then .ref E0 else if x = 8 then .ref E1 else if x = 10 then .ref E2 else if x = 12 then .ref E3 else .null
abbrev rm_1 : Room := { frames := 0, cells := 0, slots := 0, locals := 0 }
theorem d1_0 : decode method_3_code 0 = .ok (.iload_n 0, 1) := by decide +kernel
theorem d1_1 : decode method_3_code 1 = .ok (.iconst 3, 1) := by decide +kernel
theorem d1_2 : decode method_3_code 2 = .ok (.if_icmp .ne 7, 3) := by decide +kernel
theorem d1_5 : decode method_3_code 5 = .ok (.getstatic 18, 3) := by decide +kernel
theorem d1_8 : decode method_3_code 8 = .ok (.areturn, 1) := by decide +kernel
theorem d1_9 : decode method_3_code 9 = .ok (.iload_n 0, 1) := by decide +kernel
theorem d1_10 : decode method_3_code 10 = .ok (.bipush 8, 2) := by decide +kernel
theorem d1_12 : decode method_3_code 12 = .ok (.if_icmp .ne 7, 3) := by decide +kernel
theorem d1_15 : decode method_3_code 15 = .ok (.getstatic 22, 3) := by decide +kernel
theorem d1_18 : decode method_3_code 18 = .ok (.areturn, 1) := by decide +kernel
theorem d1_19 : decode method_3_code 19 = .ok (.iload_n 0, 1) := by decide +kernel
theorem d1_20 : decode method_3_code 20 = .ok (.bipush 10, 2) := by decide +kernel
theorem d1_22 : decode method_3_code 22 = .ok (.if_icmp .ne 7, 3) := by decide +kernel
theorem d1_25 : decode method_3_code 25 = .ok (.getstatic 25, 3) := by decide +kernel
theorem d1_28 : decode method_3_code 28 = .ok (.areturn, 1) := by decide +kernel
theorem d1_29 : decode method_3_code 29 = .ok (.iload_n 0, 1) := by decide +kernel
theorem d1_30 : decode method_3_code 30 = .ok (.bipush 12, 2) := by decide +kernel
theorem d1_32 : decode method_3_code 32 = .ok (.if_icmp .ne 7, 3) := by decide +kernel
theorem d1_35 : decode method_3_code 35 = .ok (.getstatic 28, 3) := by decide +kernel
theorem d1_38 : decode method_3_code 38 = .ok (.areturn, 1) := by decide +kernel
theorem d1_39 : decode method_3_code 39 = .ok (.aconst_null, 1) := by decide +kernel
theorem d1_40 : decode method_3_code 40 = .ok (.areturn, 1) := by decide +kernel
set_option maxRecDepth 65536 in
set_option maxHeartbeats 4000000 in
theorem c_exp (l : Launch) (Z : State) (a0 : Array Value) (hw : ∀ d ∈ tables_1, d.before a0 Z = true) (n0 : Nat) (μ : Mem) (x : Int32) (E0 E1 E2 E3 : Addr) (S0 : Sta Z Z.heap "com/example/toehold/toehold/piv/ManagementKeyAlgorithm" "TDES" "Lcom/example/toehold/toehold/piv/ManagementKeyAlgorithm;" (.ref E0)) (S1 : Sta Z Z.heap "com/example/toehold/toehold/piv/ManagementKeyAlgorithm" "AES_128" "Lcom/example/toehold/toehold/piv/ManagementKeyAlgorithm;" (.ref E1)) (S2 : Sta Z Z.heap "com/example/toehold/toehold/piv/ManagementKeyAlgorithm" "AES_192" "Lcom/example/toehold/toehold/piv/ManagementKeyAlgorithm;" (.ref E2)) (S3 : Sta Z Z.heap "com/example/toehold/toehold/piv/ManagementKeyAlgorithm" "AES_256" "Lcom/example/toehold/toehold/piv/ManagementKeyAlgorithm;" (.ref E3)) :
    Con l Z n0 (⟨"com/example/toehold/toehold/piv/ManagementKeyAlgorithmWithIdPinLaw", "expected", "(I)Lcom/example/toehold/toehold/piv/ManagementKeyAlgorithm;"⟩ : MethodName) method_3_code 1 (some (.object "com/example/toehold/toehold/piv/ManagementKeyAlgorithm")) [] rm_1 rm_1.cells rm_1.slots #[(.int x)] μ (RR fun z μ' => μ' = μ ∧ z = pk x E0 E1 E2 E3) := by
  refine Con.intro (L0 := #[.val (.int x)]) (plainFor_of_name (by first | (simp [plainName, overriddenIn]; done) | decide +kernel)) (fun m => by first | (simp [entryFrame, mkF, argsToLocals, Value.category]; done) | rfl) ?_
  intro p e s m below meth c C
  have C : Ctx p s m meth c Z "com/example/toehold/toehold/piv/ManagementKeyAlgorithmWithIdPinLaw" "expected" method_3_code 1 (some (.object "com/example/toehold/toehold/piv/ManagementKeyAlgorithm")) := C
  refine Own.iloadN C d1_0 (q := 1) rfl rfl ?_
  refine Own.iconst C d1_1 (q := 2) rfl (z := 3) (by decide) ?_
  refine Own.icmp_ne C d1_2 (q := 5) rfl (r := 9) (by decide) (fun h2 => ?_) (fun h2 => ?_)
  · refine Own.iloadN C d1_9 (q := 10) rfl rfl ?_
    refine Own.bipush C d1_10 (q := 12) rfl (z := 8) (by decide) ?_
    refine Own.icmp_ne C d1_12 (q := 15) rfl (r := 19) (by decide) (fun h12 => ?_) (fun h12 => ?_)
    · refine Own.iloadN C d1_19 (q := 20) rfl rfl ?_
      refine Own.bipush C d1_20 (q := 22) rfl (z := 10) (by decide) ?_
      refine Own.icmp_ne C d1_22 (q := 25) rfl (r := 29) (by decide) (fun h22 => ?_) (fun h22 => ?_)
      · refine Own.iloadN C d1_29 (q := 30) rfl rfl ?_
        refine Own.bipush C d1_30 (q := 32) rfl (z := 12) (by decide) ?_
        refine Own.icmp_ne C d1_32 (q := 35) rfl (r := 39) (by decide) (fun h32 => ?_) (fun h32 => ?_)
        · refine Own.aconstNull C d1_39 (q := 40) rfl ?_
          refine Own.areturn C rfl rfl d1_40 (by decide) (by decide) ?_
          exact ⟨_, rfl, rfl, rfl, by simp [pk, h2, h12, h22, h32]⟩
        · refine Own.getstatic C d1_35 (q := 38) rfl (host := "") (Or.inl (hw _ (List.mem_of_getElem? (i := 30) rfl))) Via.refl S3 ?_
          refine Own.areturn C rfl rfl d1_38 (by decide) (by decide) ?_
          exact ⟨_, rfl, rfl, rfl, by simp [pk, h2, h12, h22, h32]⟩
      · refine Own.getstatic C d1_25 (q := 28) rfl (host := "") (Or.inl (hw _ (List.mem_of_getElem? (i := 32) rfl))) Via.refl S2 ?_
        refine Own.areturn C rfl rfl d1_28 (by decide) (by decide) ?_
        exact ⟨_, rfl, rfl, rfl, by simp [pk, h2, h12, h22]⟩
    · refine Own.getstatic C d1_15 (q := 18) rfl (host := "") (Or.inl (hw _ (List.mem_of_getElem? (i := 29) rfl))) Via.refl S1 ?_
      refine Own.areturn C rfl rfl d1_18 (by decide) (by decide) ?_
      exact ⟨_, rfl, rfl, rfl, by simp [pk, h2, h12]⟩
  · refine Own.getstatic C d1_5 (q := 8) rfl (host := "") (Or.inl (hw _ (List.mem_of_getElem? (i := 31) rfl))) Via.refl S0 ?_
    refine Own.areturn C rfl rfl d1_8 (by decide) (by decide) ?_
    exact ⟨_, rfl, rfl, rfl, by simp [pk, h2]⟩
abbrev rm_3 : Room := { frames := 1, cells := 1, slots := 4, locals := 14 }
theorem d3_0 : decode prog_28_method_1_code 0 = .ok (.getstatic 16, 3) := by decide +kernel
theorem d3_3 : decode prog_28_method_1_code 3 = .ok (.invokevirtual 20, 3) := by decide +kernel
theorem d3_6 : decode prog_28_method_1_code 6 = .ok (.checkcast 21, 3) := by decide +kernel
theorem d3_9 : decode prog_28_method_1_code 9 = .ok (.areturn, 1) := by decide +kernel
set_option maxRecDepth 65536 in
set_option maxHeartbeats 4000000 in
theorem c_values (l : Launch) (Z : State) (a0 : Array Value) (hw : ∀ d ∈ tables_1, d.before a0 Z = true) (n0 : Nat) (μ : Mem)  (V : Addr) (E0 E1 E2 E3 : Addr) (SV : Sta Z Z.heap "com/example/toehold/toehold/piv/ManagementKeyAlgorithm" "$VALUES" "[Lcom/example/toehold/toehold/piv/ManagementKeyAlgorithm;" (.ref V)) (hE : Exa Z Z.heap V "[Lcom/example/toehold/toehold/piv/ManagementKeyAlgorithm;") (hF : ∀ cl : Cell, Z.heap[V]? = some cl → FitC Z cl) (hV : μ V = some (.inr ((.object "com/example/toehold/toehold/piv/ManagementKeyAlgorithm"), [(.ref E0), (.ref E1), (.ref E2), (.ref E3)]))) :
    Con l Z n0 (⟨"com/example/toehold/toehold/piv/ManagementKeyAlgorithm", "values", "()[Lcom/example/toehold/toehold/piv/ManagementKeyAlgorithm;"⟩ : MethodName) prog_28_method_1_code 0 (some (.array (.object "com/example/toehold/toehold/piv/ManagementKeyAlgorithm"))) [] rm_3 rm_3.cells rm_3.slots #[] μ (RR fun z μ' => ∃ b, z = .ref b ∧ n0 ≤ b ∧ (∀ x o, μ x = some o → x ≠ b) ∧ μ' = upd μ b (.inr ((.object "com/example/toehold/toehold/piv/ManagementKeyAlgorithm"), [(.ref E0), (.ref E1), (.ref E2), (.ref E3)]))) := by
  refine Con.intro (L0 := #[]) (plainFor_of_name (by first | (simp [plainName, overriddenIn]; done) | decide +kernel)) (fun m => by first | (simp [entryFrame, mkF, argsToLocals, Value.category]; done) | rfl) ?_
  intro p e s m below meth c C
  have C : Ctx p s m meth c Z "com/example/toehold/toehold/piv/ManagementKeyAlgorithm" "values" prog_28_method_1_code 0 (some (.array (.object "com/example/toehold/toehold/piv/ManagementKeyAlgorithm"))) := C
  refine Own.getstatic C d3_0 (q := 3) rfl (host := "") (Or.inl (hw _ (List.mem_of_getElem? (i := 11) rfl))) Via.refl SV ?_
  refine Own.cloneCast C d3_3 (pc1 := 6) rfl d3_6 (q := 9) rfl (hw _ (List.mem_of_getElem? (i := 13) rfl)) (hw _ (List.mem_of_getElem? (i := 14) rfl)) (hw _ (List.mem_of_getElem? (i := 18) rfl)) (hw _ (List.mem_of_getElem? (i := 16) rfl)) (hw _ (List.mem_of_getElem? (i := 17) rfl)) (hw _ (List.mem_of_getElem? (i := 19) rfl)) (hw _ (List.mem_of_getElem? (i := 25) rfl)) hV hE hF (cap := 4) (Nat.le_of_ble_eq_true rfl) rfl (W := 0) (Nat.le_of_eq rfl) (by decide) (by decide) (by decide) (by decide) fun b3 b3_f b3_g => ?_
  have ne_V_b3 := b3_f _ _ hV
  refine Own.areturn C rfl rfl d3_9 (by decide) (by decide) ?_
  exact ⟨_, rfl, rfl, _, rfl, b3_g, b3_f, rfl⟩
theorem pd_0 : parseMethodDescriptor "()[Lcom/example/toehold/toehold/piv/ManagementKeyAlgorithm;" = some ⟨[], some (.array (.object "com/example/toehold/toehold/piv/ManagementKeyAlgorithm"))⟩ := by decide +kernel
abbrev rm_2 : Room := { frames := 2, cells := 1, slots := 4, locals := 25 }
theorem d2_0 : decode prog_28_method_5_code 0 = .ok (.invokestatic 57, 3) := by decide +kernel
theorem d2_3 : decode prog_28_method_5_code 3 = .ok (.astore_n 1, 1) := by decide +kernel
theorem d2_4 : decode prog_28_method_5_code 4 = .ok (.aload_n 1, 1) := by decide +kernel
theorem d2_5 : decode prog_28_method_5_code 5 = .ok (.arraylength, 1) := by decide +kernel
theorem d2_6 : decode prog_28_method_5_code 6 = .ok (.istore_n 2, 1) := by decide +kernel
theorem d2_7 : decode prog_28_method_5_code 7 = .ok (.iconst 0, 1) := by decide +kernel
theorem d2_8 : decode prog_28_method_5_code 8 = .ok (.istore_n 3, 1) := by decide +kernel
theorem d2_9 : decode prog_28_method_5_code 9 = .ok (.iload_n 3, 1) := by decide +kernel
theorem d2_10 : decode prog_28_method_5_code 10 = .ok (.iload_n 2, 1) := by decide +kernel
theorem d2_11 : decode prog_28_method_5_code 11 = .ok (.if_icmp .ge 26, 3) := by decide +kernel
theorem d2_14 : decode prog_28_method_5_code 14 = .ok (.aload_n 1, 1) := by decide +kernel
theorem d2_15 : decode prog_28_method_5_code 15 = .ok (.iload_n 3, 1) := by decide +kernel
theorem d2_16 : decode prog_28_method_5_code 16 = .ok (.aaload, 1) := by decide +kernel
theorem d2_17 : decode prog_28_method_5_code 17 = .ok (.astore 4, 2) := by decide +kernel
theorem d2_19 : decode prog_28_method_5_code 19 = .ok (.aload 4, 2) := by decide +kernel
theorem d2_21 : decode prog_28_method_5_code 21 = .ok (.getfield 35, 3) := by decide +kernel
theorem d2_24 : decode prog_28_method_5_code 24 = .ok (.iload_n 0, 1) := by decide +kernel
theorem d2_25 : decode prog_28_method_5_code 25 = .ok (.if_icmp .ne 6, 3) := by decide +kernel
theorem d2_28 : decode prog_28_method_5_code 28 = .ok (.aload 4, 2) := by decide +kernel
theorem d2_30 : decode prog_28_method_5_code 30 = .ok (.areturn, 1) := by decide +kernel
theorem d2_31 : decode prog_28_method_5_code 31 = .ok (.iinc 3 1, 3) := by decide +kernel
theorem d2_34 : decode prog_28_method_5_code 34 = .ok (.goto (-25), 3) := by decide +kernel
theorem d2_37 : decode prog_28_method_5_code 37 = .ok (.aconst_null, 1) := by decide +kernel
theorem d2_38 : decode prog_28_method_5_code 38 = .ok (.areturn, 1) := by decide +kernel
set_option maxRecDepth 65536 in
set_option maxHeartbeats 4000000 in
theorem c_with (l : Launch) (Z : State) (a0 : Array Value) (hw : ∀ d ∈ tables_1, d.before a0 Z = true) (n0 : Nat) (μ : Mem) (x : Int32) (V : Addr) (E0 E1 E2 E3 : Addr) (SV : Sta Z Z.heap "com/example/toehold/toehold/piv/ManagementKeyAlgorithm" "$VALUES" "[Lcom/example/toehold/toehold/piv/ManagementKeyAlgorithm;" (.ref V)) (hE : Exa Z Z.heap V "[Lcom/example/toehold/toehold/piv/ManagementKeyAlgorithm;") (hF : ∀ cl : Cell, Z.heap[V]? = some cl → FitC Z cl) (hV : μ V = some (.inr ((.object "com/example/toehold/toehold/piv/ManagementKeyAlgorithm"), [(.ref E0), (.ref E1), (.ref E2), (.ref E3)]))) (h0' : μ E0 = some (o_K (.int (3 : Int32)))) (h1' : μ E1 = some (o_K (.int (8 : Int32)))) (h2' : μ E2 = some (o_K (.int (10 : Int32)))) (h3' : μ E3 = some (o_K (.int (12 : Int32)))) :
    Con l Z n0 (⟨"com/example/toehold/toehold/piv/ManagementKeyAlgorithm", "withId", "(I)Lcom/example/toehold/toehold/piv/ManagementKeyAlgorithm;"⟩ : MethodName) prog_28_method_5_code 5 (some (.object "com/example/toehold/toehold/piv/ManagementKeyAlgorithm")) [] rm_2 rm_2.cells rm_2.slots #[(.int x)] μ (RR fun z μ' => z = pk x E0 E1 E2 E3) := by
  refine Con.intro (L0 := #[.val (.int x), .unset, .unset, .unset, .unset]) (plainFor_of_name (by first | (simp [plainName, overriddenIn]; done) | decide +kernel)) (fun m => by first | (simp [entryFrame, mkF, argsToLocals, Value.category]; done) | rfl) ?_
  intro p e s m below meth c C
  have C : Ctx p s m meth c Z "com/example/toehold/toehold/piv/ManagementKeyAlgorithm" "withId" prog_28_method_5_code 5 (some (.object "com/example/toehold/toehold/piv/ManagementKeyAlgorithm")) := C
  refine Own.callS C d2_0 (q := 3) rfl (hw _ (List.mem_of_getElem? (i := 8) rfl)) (hw _ (List.mem_of_getElem? (i := 9) rfl)) (hw _ (List.mem_of_getElem? (i := 6) rfl)) (hw _ (List.mem_of_getElem? (i := 10) rfl)) (by decide) (W := 0) (rm := rm_3) (argsL := []) (st := []) (lenOf pd_0 rfl) rfl rfl (Nat.le_of_eq rfl) (by decide) (by decide) (by decide) (by decide) (c_values l Z a0 hw n0 _ V E0 E1 E2 E3 SV hE hF hV) (nxR fun z0 μ0 z0_r h0 => ?_)
  obtain ⟨b, rfl, b_g, b_f, rfl⟩ := h0
  have ne_V_b := b_f _ _ hV
  have ne_E0_b := b_f _ _ h0'
  have ne_E1_b := b_f _ _ h1'
  have ne_E2_b := b_f _ _ h2'
  have ne_E3_b := b_f _ _ h3'
  refine Own.astoreN C d2_3 (q := 4) rfl (L' := #[.val (.int x), .val (.ref b), .unset, .unset, .unset]) rfl rfl ?_
  refine Own.aloadN C d2_4 (q := 5) rfl rfl rfl ?_
  refine Own.arraylength C d2_5 (q := 6) rfl upd_same fun z5 e5 e5i => ?_
  obtain rfl : z5 = (4 : Int32) := e5.trans (by rfl)
  refine Own.istoreN C d2_6 (q := 7) rfl (L' := #[.val (.int x), .val (.ref b), .val (.int (4 : Int32)), .unset, .unset]) rfl ?_
  refine Own.iconst C d2_7 (q := 8) rfl (z := 0) (by decide) ?_
  refine Own.istoreN C d2_8 (q := 9) rfl (L' := #[.val (.int x), .val (.ref b), .val (.int (4 : Int32)), .val (.int (0 : Int32)), .unset]) rfl ?_
  refine Own.iloadN C d2_9 (q := 10) rfl rfl ?_
  refine Own.iloadN C d2_10 (q := 11) rfl rfl ?_
  refine Own.icmp_ge C d2_11 (q := 14) rfl (r := 37) (by decide) (fun h11 => ?_) (fun h11 => ?_)
  · exact absurd h11 (by decide)
  · refine Own.aloadN C d2_14 (q := 15) rfl rfl rfl ?_
    refine Own.iloadN C d2_15 (q := 16) rfl rfl ?_
    refine Own.aaload C d2_16 (q := 17) rfl upd_same rfl (by decide) (v := (.ref E0)) rfl ?_
    refine Own.astore C d2_17 (q := 19) rfl (L' := #[.val (.int x), .val (.ref b), .val (.int (4 : Int32)), .val (.int (0 : Int32)), .val (.ref E0)]) rfl rfl ?_
    refine Own.aload C d2_19 (q := 21) rfl rfl rfl ?_
    refine Own.getfield C d2_21 (q := 24) rfl (host := "") (Or.inl (hw _ (List.mem_of_getElem? (i := 27) rfl))) Via.refl (upd_at ne_E0_b h0') (j := 0) rfl ?_
    refine Own.iloadN C d2_24 (q := 25) rfl rfl ?_
    refine Own.icmp_ne C d2_25 (q := 28) rfl (r := 31) (by decide) (fun h25 => ?_) (fun h25 => ?_)
    · refine Own.iinc C d2_31 (q := 34) rfl rfl (z := (1 : Int32)) (by decide) (L' := #[.val (.int x), .val (.ref b), .val (.int (4 : Int32)), .val (.int (1 : Int32)), .val (.ref E0)]) rfl ?_
      refine Own.goto C d2_34 (q := 9) (by decide) ?_
      refine Own.iloadN C d2_9 (q := 10) rfl rfl ?_
      refine Own.iloadN C d2_10 (q := 11) rfl rfl ?_
      refine Own.icmp_ge C d2_11 (q := 14) rfl (r := 37) (by decide) (fun h11_1 => ?_) (fun h11_1 => ?_)
      · exact absurd h11_1 (by decide)
      · refine Own.aloadN C d2_14 (q := 15) rfl rfl rfl ?_
        refine Own.iloadN C d2_15 (q := 16) rfl rfl ?_
        refine Own.aaload C d2_16 (q := 17) rfl upd_same rfl (by decide) (v := (.ref E1)) rfl ?_
        refine Own.astore C d2_17 (q := 19) rfl (L' := #[.val (.int x), .val (.ref b), .val (.int (4 : Int32)), .val (.int (1 : Int32)), .val (.ref E1)]) rfl rfl ?_
        refine Own.aload C d2_19 (q := 21) rfl rfl rfl ?_
        refine Own.getfield C d2_21 (q := 24) rfl (host := "") (Or.inl (hw _ (List.mem_of_getElem? (i := 27) rfl))) Via.refl (upd_at ne_E1_b h1') (j := 0) rfl ?_
        refine Own.iloadN C d2_24 (q := 25) rfl rfl ?_
        refine Own.icmp_ne C d2_25 (q := 28) rfl (r := 31) (by decide) (fun h25_1 => ?_) (fun h25_1 => ?_)
        · refine Own.iinc C d2_31 (q := 34) rfl rfl (z := (2 : Int32)) (by decide) (L' := #[.val (.int x), .val (.ref b), .val (.int (4 : Int32)), .val (.int (2 : Int32)), .val (.ref E1)]) rfl ?_
          refine Own.goto C d2_34 (q := 9) (by decide) ?_
          refine Own.iloadN C d2_9 (q := 10) rfl rfl ?_
          refine Own.iloadN C d2_10 (q := 11) rfl rfl ?_
          refine Own.icmp_ge C d2_11 (q := 14) rfl (r := 37) (by decide) (fun h11_2 => ?_) (fun h11_2 => ?_)
          · exact absurd h11_2 (by decide)
          · refine Own.aloadN C d2_14 (q := 15) rfl rfl rfl ?_
            refine Own.iloadN C d2_15 (q := 16) rfl rfl ?_
            refine Own.aaload C d2_16 (q := 17) rfl upd_same rfl (by decide) (v := (.ref E2)) rfl ?_
            refine Own.astore C d2_17 (q := 19) rfl (L' := #[.val (.int x), .val (.ref b), .val (.int (4 : Int32)), .val (.int (2 : Int32)), .val (.ref E2)]) rfl rfl ?_
            refine Own.aload C d2_19 (q := 21) rfl rfl rfl ?_
            refine Own.getfield C d2_21 (q := 24) rfl (host := "") (Or.inl (hw _ (List.mem_of_getElem? (i := 27) rfl))) Via.refl (upd_at ne_E2_b h2') (j := 0) rfl ?_
            refine Own.iloadN C d2_24 (q := 25) rfl rfl ?_
            refine Own.icmp_ne C d2_25 (q := 28) rfl (r := 31) (by decide) (fun h25_2 => ?_) (fun h25_2 => ?_)
            · refine Own.iinc C d2_31 (q := 34) rfl rfl (z := (3 : Int32)) (by decide) (L' := #[.val (.int x), .val (.ref b), .val (.int (4 : Int32)), .val (.int (3 : Int32)), .val (.ref E2)]) rfl ?_
              refine Own.goto C d2_34 (q := 9) (by decide) ?_
              refine Own.iloadN C d2_9 (q := 10) rfl rfl ?_
              refine Own.iloadN C d2_10 (q := 11) rfl rfl ?_
              refine Own.icmp_ge C d2_11 (q := 14) rfl (r := 37) (by decide) (fun h11_3 => ?_) (fun h11_3 => ?_)
              · exact absurd h11_3 (by decide)
              · refine Own.aloadN C d2_14 (q := 15) rfl rfl rfl ?_
                refine Own.iloadN C d2_15 (q := 16) rfl rfl ?_
                refine Own.aaload C d2_16 (q := 17) rfl upd_same rfl (by decide) (v := (.ref E3)) rfl ?_
                refine Own.astore C d2_17 (q := 19) rfl (L' := #[.val (.int x), .val (.ref b), .val (.int (4 : Int32)), .val (.int (3 : Int32)), .val (.ref E3)]) rfl rfl ?_
                refine Own.aload C d2_19 (q := 21) rfl rfl rfl ?_
                refine Own.getfield C d2_21 (q := 24) rfl (host := "") (Or.inl (hw _ (List.mem_of_getElem? (i := 27) rfl))) Via.refl (upd_at ne_E3_b h3') (j := 0) rfl ?_
                refine Own.iloadN C d2_24 (q := 25) rfl rfl ?_
                refine Own.icmp_ne C d2_25 (q := 28) rfl (r := 31) (by decide) (fun h25_3 => ?_) (fun h25_3 => ?_)
                · refine Own.iinc C d2_31 (q := 34) rfl rfl (z := (4 : Int32)) (by decide) (L' := #[.val (.int x), .val (.ref b), .val (.int (4 : Int32)), .val (.int (4 : Int32)), .val (.ref E3)]) rfl ?_
                  refine Own.goto C d2_34 (q := 9) (by decide) ?_
                  refine Own.iloadN C d2_9 (q := 10) rfl rfl ?_
                  refine Own.iloadN C d2_10 (q := 11) rfl rfl ?_
                  refine Own.icmp_ge C d2_11 (q := 14) rfl (r := 37) (by decide) (fun h11_4 => ?_) (fun h11_4 => ?_)
                  · refine Own.aconstNull C d2_37 (q := 38) rfl ?_
                    refine Own.areturn C rfl rfl d2_38 (by decide) (by decide) ?_
                    rw [eq_comm] at h25
                    rw [eq_comm] at h25_1
                    rw [eq_comm] at h25_2
                    rw [eq_comm] at h25_3
                    exact ⟨_, rfl, rfl, by simp [pk, h25, h25_1, h25_2, h25_3]⟩
                  · exact absurd h11_4 (by decide)
                · refine Own.aload C d2_28 (q := 30) rfl rfl rfl ?_
                  refine Own.areturn C rfl rfl d2_30 (by decide) (by decide) ?_
                  rw [eq_comm] at h25
                  rw [eq_comm] at h25_1
                  rw [eq_comm] at h25_2
                  rw [eq_comm] at h25_3
                  exact ⟨_, rfl, rfl, by simp [pk, h25, h25_1, h25_2, h25_3]⟩
            · refine Own.aload C d2_28 (q := 30) rfl rfl rfl ?_
              refine Own.areturn C rfl rfl d2_30 (by decide) (by decide) ?_
              rw [eq_comm] at h25
              rw [eq_comm] at h25_1
              rw [eq_comm] at h25_2
              exact ⟨_, rfl, rfl, by simp [pk, h25, h25_1, h25_2]⟩
        · refine Own.aload C d2_28 (q := 30) rfl rfl rfl ?_
          refine Own.areturn C rfl rfl d2_30 (by decide) (by decide) ?_
          rw [eq_comm] at h25
          rw [eq_comm] at h25_1
          exact ⟨_, rfl, rfl, by simp [pk, h25, h25_1]⟩
    · refine Own.aload C d2_28 (q := 30) rfl rfl rfl ?_
      refine Own.areturn C rfl rfl d2_30 (by decide) (by decide) ?_
      rw [eq_comm] at h25
      exact ⟨_, rfl, rfl, by simp [pk, h25]⟩
theorem pd_1 : parseMethodDescriptor "(I)Lcom/example/toehold/toehold/piv/ManagementKeyAlgorithm;" = some ⟨[.int], some (.object "com/example/toehold/toehold/piv/ManagementKeyAlgorithm")⟩ := by decide +kernel
set_option maxRecDepth 65536 in
set_option maxHeartbeats 4000000 in
theorem c_law (l : Launch) (Z : State) (a0 : Array Value) (hw : ∀ d ∈ tables_1, d.before a0 Z = true) (n0 : Nat) (μ : Mem) (u : Int32) (w : Int32) (V : Addr) (E0 E1 E2 E3 : Addr) (SV : Sta Z Z.heap "com/example/toehold/toehold/piv/ManagementKeyAlgorithm" "$VALUES" "[Lcom/example/toehold/toehold/piv/ManagementKeyAlgorithm;" (.ref V)) (hE : Exa Z Z.heap V "[Lcom/example/toehold/toehold/piv/ManagementKeyAlgorithm;") (hF : ∀ cl : Cell, Z.heap[V]? = some cl → FitC Z cl) (hV : μ V = some (.inr ((.object "com/example/toehold/toehold/piv/ManagementKeyAlgorithm"), [(.ref E0), (.ref E1), (.ref E2), (.ref E3)]))) (h0' : μ E0 = some (o_K (.int (3 : Int32)))) (h1' : μ E1 = some (o_K (.int (8 : Int32)))) (h2' : μ E2 = some (o_K (.int (10 : Int32)))) (h3' : μ E3 = some (o_K (.int (12 : Int32)))) (S0 : Sta Z Z.heap "com/example/toehold/toehold/piv/ManagementKeyAlgorithm" "TDES" "Lcom/example/toehold/toehold/piv/ManagementKeyAlgorithm;" (.ref E0)) (S1 : Sta Z Z.heap "com/example/toehold/toehold/piv/ManagementKeyAlgorithm" "AES_128" "Lcom/example/toehold/toehold/piv/ManagementKeyAlgorithm;" (.ref E1)) (S2 : Sta Z Z.heap "com/example/toehold/toehold/piv/ManagementKeyAlgorithm" "AES_192" "Lcom/example/toehold/toehold/piv/ManagementKeyAlgorithm;" (.ref E2)) (S3 : Sta Z Z.heap "com/example/toehold/toehold/piv/ManagementKeyAlgorithm" "AES_256" "Lcom/example/toehold/toehold/piv/ManagementKeyAlgorithm;" (.ref E3)) :
    Con l Z n0 x code maxLocals ret tables_1 room_1 room_1.cells room_1.slots #[(.int u), (.int w)] μ (fun v _ => v = some (.int 1)) := by
  refine Con.intro (L0 := #[.val (.int u), .val (.int w), .unset, .unset]) (plainFor_of_name (by first | (simp [plainName, overriddenIn]; done) | decide +kernel)) (fun m => by first | (simp [entryFrame, mkF, argsToLocals, Value.category, maxLocals]; done) | rfl) ?_
  intro p e s m below meth c C
  have C : Ctx p s m meth c Z "com/example/toehold/toehold/piv/ManagementKeyAlgorithmWithIdPinLaw" "law" code maxLocals (some .boolean) := C
  refine Own.iloadN C at_0 (q := 1) rfl rfl ?_
  refine Own.iconst C at_1 (q := 2) rfl (z := 1) (by decide) ?_
  refine Own.iand C at_2 (q := 3) rfl fun z2 e2 => ?_
  refine Own.if_eq C at_3 (q := 6) rfl (r := 10) (by decide) (fun h3 => ?_) (fun h3 => ?_)
  · refine Own.iloadN C at_10 (q := 11) rfl rfl ?_
    refine Own.bipush C at_11 (q := 13) rfl (z := 17) (by decide) ?_
    refine Own.irem C at_13 (q := 14) rfl (by decide) fun z13 e13 => ?_
    refine Own.istoreN C at_14 (q := 15) rfl (L' := #[.val (.int u), .val (.int w), .val (.int z13), .unset]) rfl ?_
    refine Own.iloadN C at_15 (q := 16) rfl rfl ?_
    refine Own.callS C at_16 (q := 19) rfl (hw _ (List.mem_of_getElem? (i := 0) rfl)) (hw _ (List.mem_of_getElem? (i := 1) rfl)) (hw _ (List.mem_of_getElem? (i := 2) rfl)) (hw _ (List.mem_of_getElem? (i := 3) rfl)) (by decide) (W := 0) (rm := rm_1) (argsL := [(.int z13)]) (st := []) (lenOf pd_1 rfl) rfl rfl (Nat.le_of_eq rfl) (by decide) (by decide) (by decide) (by decide) (c_exp l Z a0 hw n0 _ z13 E0 E1 E2 E3 S0 S1 S2 S3) (nxR fun z16 μ16 z16_r h16 => ?_)
    obtain ⟨h16m, h16⟩ := h16
    refine Own.mem h16m ?_
    refine Own.astoreN C at_19 (q := 20) rfl (L' := #[.val (.int u), .val (.int w), .val (.int z13), .val z16]) (Jvm.Free.XS.store1 rfl (Or.inl rfl) (Jvm.Free.XT.cat1 z16_r)) z16_r ?_
    refine Own.iloadN C at_20 (q := 21) rfl rfl ?_
    refine Own.callS C at_21 (q := 24) rfl (hw _ (List.mem_of_getElem? (i := 4) rfl)) (hw _ (List.mem_of_getElem? (i := 5) rfl)) (hw _ (List.mem_of_getElem? (i := 6) rfl)) (hw _ (List.mem_of_getElem? (i := 7) rfl)) (by decide) (W := 0) (rm := rm_2) (argsL := [(.int z13)]) (st := []) (lenOf pd_1 rfl) rfl rfl (Nat.le_of_eq rfl) (by decide) (by decide) (by decide) (by decide) (c_with l Z a0 hw n0 _ z13 V E0 E1 E2 E3 SV hE hF hV h0' h1' h2' h3') (nxR fun z21 μ21 z21_r h21 => ?_)
    refine Own.aloadN C at_24 (q := 25) rfl rfl z16_r ?_
    refine Own.acmp_ne C at_25 (q := 28) rfl (r := 32) (by decide) z21_r z16_r (fun h25 => ?_) (fun h25 => ?_)
    · exact absurd (h21.trans h16.symm) h25
    · refine Own.iconst C at_28 (q := 29) rfl (z := 1) (by decide) ?_
      refine Own.goto C at_29 (q := 33) (by decide) ?_
      refine Own.nreturn C at_33 (by simp) (z' := (1 : Int32)) (by decide) (by decide) (by decide) ?_
      rfl
  · refine Own.iloadN C at_6 (q := 7) rfl rfl ?_
    refine Own.goto C at_7 (q := 14) (by decide) ?_
    refine Own.istoreN C at_14 (q := 15) rfl (L' := #[.val (.int u), .val (.int w), .val (.int u), .unset]) rfl ?_
    refine Own.iloadN C at_15 (q := 16) rfl rfl ?_
    refine Own.callS C at_16 (q := 19) rfl (hw _ (List.mem_of_getElem? (i := 0) rfl)) (hw _ (List.mem_of_getElem? (i := 1) rfl)) (hw _ (List.mem_of_getElem? (i := 2) rfl)) (hw _ (List.mem_of_getElem? (i := 3) rfl)) (by decide) (W := 0) (rm := rm_1) (argsL := [(.int u)]) (st := []) (lenOf pd_1 rfl) rfl rfl (Nat.le_of_eq rfl) (by decide) (by decide) (by decide) (by decide) (c_exp l Z a0 hw n0 _ u E0 E1 E2 E3 S0 S1 S2 S3) (nxR fun z16 μ16 z16_r h16 => ?_)
    obtain ⟨h16m, h16⟩ := h16
    refine Own.mem h16m ?_
    refine Own.astoreN C at_19 (q := 20) rfl (L' := #[.val (.int u), .val (.int w), .val (.int u), .val z16]) (Jvm.Free.XS.store1 rfl (Or.inl rfl) (Jvm.Free.XT.cat1 z16_r)) z16_r ?_
    refine Own.iloadN C at_20 (q := 21) rfl rfl ?_
    refine Own.callS C at_21 (q := 24) rfl (hw _ (List.mem_of_getElem? (i := 4) rfl)) (hw _ (List.mem_of_getElem? (i := 5) rfl)) (hw _ (List.mem_of_getElem? (i := 6) rfl)) (hw _ (List.mem_of_getElem? (i := 7) rfl)) (by decide) (W := 0) (rm := rm_2) (argsL := [(.int u)]) (st := []) (lenOf pd_1 rfl) rfl rfl (Nat.le_of_eq rfl) (by decide) (by decide) (by decide) (by decide) (c_with l Z a0 hw n0 _ u V E0 E1 E2 E3 SV hE hF hV h0' h1' h2' h3') (nxR fun z21 μ21 z21_r h21 => ?_)
    refine Own.aloadN C at_24 (q := 25) rfl rfl z16_r ?_
    refine Own.acmp_ne C at_25 (q := 28) rfl (r := 32) (by decide) z21_r z16_r (fun h25 => ?_) (fun h25 => ?_)
    · exact absurd (h21.trans h16.symm) h25
    · refine Own.iconst C at_28 (q := 29) rfl (z := 1) (by decide) ?_
      refine Own.goto C at_29 (q := 33) (by decide) ?_
      refine Own.nreturn C at_33 (by simp) (z' := (1 : Int32)) (by decide) (by decide) (by decide) ?_
      rfl
section Pins
variable {args : Array Value} {s : State} {t u : Term} {a b : Addr} {cl : Cell} {ty : FieldType}
theorem eq_int {x y : Int32} (h : (Cond.eq t u).value args s none s [] = some true) (ha : t.eval args s none [] s = some (.int x)) (hb : u.eval args s none [] s = some (.int y)) : x = y := by
  simpa [Cond.value, ha, hb] using h
theorem fldeq {C n d : String} {z : Int32} (h : (Cond.eq (.field t C n d) (.int z)).value args s none s [] = some true) (ht : t.eval args s none [] s = some (.ref a)) : s.fieldOf? a C n d = some (.int z) := by
  obtain ⟨x, y, h1, h2, -, h3⟩ := cmp_v (Or.inl h)
  cases (Option.some.inj h2 : Value.int z = y)
  obtain ⟨x', rfl⟩ := h3
  have e := eq_int h h1 h2
  subst e
  rw [fld_at ht] at h1; exact h1
theorem leneq {z : Int32} (h : (Cond.eq (.length t) (.int z)).value args s none s [] = some true) (ht : t.eval args s none [] s = some (.ref a)) (A : Arr s s.heap a cl ty) : (cl.slots.size : Int) = z.toInt := by
  have hA : s.arrayAt? a = some cl := A.fin (Vm.Alike.refl _)
  by_cases hl : cl.slots.size < 2 ^ 31
  · have e := eq_int h (len_f ht hA hl) (Term.int_eval z)
    rw [← e, len_toInt hl]
  · obtain ⟨x, y, h1, -⟩ := cmp_v (Or.inl h)
    simp [Term.eval, ht, hA] at h1
    omega
theorem elemeq {z : Int32} (h : (Cond.eq (.elem t (.int z)) u).value args s none s [] = some true) (ht : t.eval args s none [] s = some (.ref a)) (A : Arr s s.heap a cl ty) (hu : u.eval args s none [] s = some (.ref b)) : cl.slots[z.toNatClampNeg]? = some (.ref b) := by
  obtain ⟨x, y, h1, h2, -, h3⟩ := cmp_v (Or.inl h)
  cases hu.symm.trans h2
  obtain ⟨-, q⟩ := elem_in h1 ht (Term.int_eval z) A.1
  have e := gotT (eq_R h1 hu h3.2 rfl) h
  rw [q, e]
theorem list4 {v0 v1 v2 v3 : Value} (h : (cl.slots.size : Int) = (4 : Int32).toInt) (h0 : cl.slots[(0 : Int32).toNatClampNeg]? = some v0) (h1 : cl.slots[(1 : Int32).toNatClampNeg]? = some v1) (h2 : cl.slots[(2 : Int32).toNatClampNeg]? = some v2) (h3 : cl.slots[(3 : Int32).toNatClampNeg]? = some v3) : cl.slots.toList = [v0, v1, v2, v3] := by
  have h : cl.slots.size = 4 := by have e : (4 : Int32).toInt = 4 := rfl; omega
  have h0 : cl.slots[0]? = some v0 := h0
  have h1 : cl.slots[1]? = some v1 := h1
  have h2 : cl.slots[2]? = some v2 := h2
  have h3 : cl.slots[3]? = some v3 := h3
  apply List.ext_getElem?
  intro i
  rw [Array.getElem?_toList]
  match i with
  | 0 => exact h0
  | 1 => exact h1
  | 2 => exact h2
  | 3 => exact h3
  | i + 4 => rw [Array.getElem?_eq_none (by omega)]; rfl
end Pins
set_option maxRecDepth 65536 in
set_option maxHeartbeats 4000000 in
theorem comes_1 {Post : Tables → Env → Array Value → State → Outcome → State → Prop} (hpost : ∀ tb e args s v u, (limb_1_1.after args s (.returned v) u = true ∧ limb_1_2.after args s (.returned v) u = true ∧ True) → FrameEnd s (.returned v) u (Jvm.fieldLocs frame_1_writes args s ++ Jvm.arrayLocs frame_1_arrays args s ++ Jvm.staticLocs frame_1_statics s) 16 128 → Post tb e args s (.returned v) u) :
    ArmFor flags0 classFile x code maxLocals ret World_1 tables_1 room_1 Calls_1 rest_1 Pre_1 Post := by
  intro l hfl _ _ p e ha hc hk s m args below hf hA hF happ hP
  obtain ⟨hcalls, hrest, hpre⟩ := hP
  obtain ⟨-, -, -, hnamed, -, -, -, hat⟩ := (Spec.applies_iff hf).mp happ
  obtain ⟨hg, hn⟩ := and_e (Cond.before_iff.mp (show (Jvm.Cond.and given_1 narrow_1).before args s = true from hpre))
  obtain ⟨g0, hg⟩ := and_e hg
  obtain ⟨g1, hg⟩ := and_e hg
  have g2 := hg
  obtain ⟨w0, w1, rfl⟩ : ∃ w0 w1 : Value, args = #[w0, w1] := by
    have hs : args.size = 2 := by simpa [Cond.value, given_1] using g0
    obtain ⟨L⟩ := args
    match L, hs with
    | [w0, w1], _ => exact ⟨w0, w1, rfl⟩
  have hw := fun d (hd : d ∈ tables_1) => atoms_spec (ws := Jvm.Cond.code x code maxLocals ret :: tables_1) hat d (List.mem_cons_of_mem _ hd)
  have hfit : Fit s := fun {y c} hc i hi => by
    obtain ⟨ha, rfl⟩ := Array.getElem?_eq_some_iff.mp hc
    have q := List.all_eq_true.mp ((Array.all_eq_true_iff_forall_mem.mp hF) _ (Array.getElem_mem ha)) i (List.mem_range.mpr hi)
    simpa [Array.getElem?_eq_getElem hi] using q
  obtain ⟨i0, ei0⟩ := is_v g1
  obtain rfl : w0 = (.int i0) := Option.some.inj ei0
  obtain ⟨i1, ei1⟩ := is_v g2
  obtain rfl : w1 = (.int i1) := Option.some.inj ei1
  obtain ⟨c0, hn⟩ := and_e hn
  obtain ⟨c1, hn⟩ := and_e hn
  obtain ⟨c2, hn⟩ := and_e hn
  obtain ⟨c3, hn⟩ := and_e hn
  obtain ⟨c4, hn⟩ := and_e hn
  obtain ⟨c5, hn⟩ := and_e hn
  obtain ⟨c6, hn⟩ := and_e hn
  obtain ⟨c7, hn⟩ := and_e hn
  obtain ⟨c8, hn⟩ := and_e hn
  obtain ⟨c9, hn⟩ := and_e hn
  obtain ⟨c10, hn⟩ := and_e hn
  obtain ⟨c11, hn⟩ := and_e hn
  obtain ⟨c12, hn⟩ := and_e hn
  obtain ⟨c13, hn⟩ := and_e hn
  have c14 := hn
  obtain ⟨V, ev⟩ := arr_v c0
  obtain ⟨cV, AV⟩ := Arr.start ev c0
  have hE := Exa.start ev c1
  obtain ⟨E0, ee0⟩ := exa_v c3
  have X0 := Exa.start ee0 c3
  obtain ⟨E1, ee1⟩ := exa_v c5
  have X1 := Exa.start ee1 c5
  obtain ⟨E2, ee2⟩ := exa_v c7
  have X2 := Exa.start ee2 c7
  obtain ⟨E3, ee3⟩ := exa_v c9
  have X3 := Exa.start ee3 c9
  have F0 : Fld s s.heap E0 "com/example/toehold/toehold/piv/ManagementKeyAlgorithm" "id" "I" (.int 3) := Fld.start (by have q := fldeq c11 ee0; exact q)
  have F1 : Fld s s.heap E1 "com/example/toehold/toehold/piv/ManagementKeyAlgorithm" "id" "I" (.int 8) := Fld.start (by have q := fldeq c12 ee1; exact q)
  have F2 : Fld s s.heap E2 "com/example/toehold/toehold/piv/ManagementKeyAlgorithm" "id" "I" (.int 10) := Fld.start (by have q := fldeq c13 ee2; exact q)
  have F3 : Fld s s.heap E3 "com/example/toehold/toehold/piv/ManagementKeyAlgorithm" "id" "I" (.int 12) := Fld.start (by have q := fldeq c14 ee3; exact q)
  have hl4 := leneq c2 ev AV
  have q0 := elemeq c4 ev AV ee0
  have q1 := elemeq c6 ev AV ee1
  have q2 := elemeq c8 ev AV ee2
  have q3 := elemeq c10 ev AV ee3
  have hvs : cV.slots.toList = [.ref E0, .ref E1, .ref E2, .ref E3] := list4 hl4 q0 q1 q2 q3
  have S0 := Sta.start ee0 (Or.inr ⟨(hw _ (List.mem_of_getElem? (i := 6) rfl)), (hw _ (List.mem_of_getElem? (i := 20) rfl))⟩)
  have S1 := Sta.start ee1 (Or.inr ⟨(hw _ (List.mem_of_getElem? (i := 6) rfl)), (hw _ (List.mem_of_getElem? (i := 21) rfl))⟩)
  have S2 := Sta.start ee2 (Or.inr ⟨(hw _ (List.mem_of_getElem? (i := 6) rfl)), (hw _ (List.mem_of_getElem? (i := 22) rfl))⟩)
  have S3 := Sta.start ee3 (Or.inr ⟨(hw _ (List.mem_of_getElem? (i := 6) rfl)), (hw _ (List.mem_of_getElem? (i := 23) rfl))⟩)
  have SV := Sta.start ev (Or.inr ⟨(hw _ (List.mem_of_getElem? (i := 6) rfl)), (hw _ (List.mem_of_getElem? (i := 12) rfl))⟩)
  have hF : ∀ cl : Cell, s.heap[V]? = some cl → FitC s cl := fun cl hcl => by cases AV.1.symm.trans hcl; exact FitC.start hfit AV
  have IV : Is s s.heap.size s.heap V (.inr ((.object "com/example/toehold/toehold/piv/ManagementKeyAlgorithm"), [(.ref E0), (.ref E1), (.ref E2), (.ref E3)])) := ⟨cV, AV, hvs, (by show 4 < 2 ^ 31; decide), fun v hv => by simp at hv; rcases hv with rfl | rfl | rfl | rfl <;> rfl⟩
  have I0 : Is s s.heap.size s.heap E0 (o_K (.int (3 : Int32))) := ⟨X0, fun q hq => by cases List.mem_singleton.mp hq; exact F0, List.pairwise_singleton _ _⟩
  have I1 : Is s s.heap.size s.heap E1 (o_K (.int (8 : Int32))) := ⟨X1, fun q hq => by cases List.mem_singleton.mp hq; exact F1, List.pairwise_singleton _ _⟩
  have I2 : Is s s.heap.size s.heap E2 (o_K (.int (10 : Int32))) := ⟨X2, fun q hq => by cases List.mem_singleton.mp hq; exact F2, List.pairwise_singleton _ _⟩
  have I3 : Is s s.heap.size s.heap E3 (o_K (.int (12 : Int32))) := ⟨X3, fun q hq => by cases List.mem_singleton.mp hq; exact F3, List.pairwise_singleton _ _⟩
  have nv0 : V ≠ E0 := ne_exa hE X0 (by decide)
  have nv1 : V ≠ E1 := ne_exa hE X1 (by decide)
  have nv2 : V ≠ E2 := ne_exa hE X2 (by decide)
  have nv3 : V ≠ E3 := ne_exa hE X3 (by decide)
  have n01 : E0 ≠ E1 := F0.ne F1 (by decide)
  have n02 : E0 ≠ E2 := F0.ne F2 (by decide)
  have n03 : E0 ≠ E3 := F0.ne F3 (by decide)
  have n12 : E1 ≠ E2 := F1.ne F2 (by decide)
  have n13 : E1 ≠ E3 := F1.ne F3 (by decide)
  have n23 : E2 ≠ E3 := F2.ne F3 (by decide)
  have HP : Hp s s.heap.size (upd (upd (upd (upd (upd (fun _ => none) V (.inr ((.object "com/example/toehold/toehold/piv/ManagementKeyAlgorithm"), [(.ref E0), (.ref E1), (.ref E2), (.ref E3)]))) E0 (o_K (.int (3 : Int32)))) E1 (o_K (.int (8 : Int32)))) E2 (o_K (.int (10 : Int32)))) E3 (o_K (.int (12 : Int32)))) s.heap := ((((Hp.set (Hp.set (⟨Old.start s, fun _ _ q => nomatch q⟩ : Hp s s.heap.size (fun _ => none) s.heap) IV) I0).set I1).set I2).set I3)
  obtain ⟨n, o, h1, h2, h3, _, L, rfl, ⟨N, _, -, rfl⟩, hq⟩ := c_law l s _ hw s.heap.size _ i0 i1 V E0 E1 E2 E3 SV hE hF (upd_at nv3 (upd_at nv2 (upd_at nv1 (upd_at nv0 upd_same)))) (upd_at n03 (upd_at n02 (upd_at n01 upd_same))) (upd_at n13 (upd_at n12 upd_same)) (upd_at n23 upd_same) upd_same S0 S1 S2 S3 s.heap HP p e ha hc hk s m _ below hf ((Spec.applies_iff_loose hf).mp happ).1 ⟨rfl, State.Warmed39.refl s, rfl⟩ trivial
  refine ⟨n, _, h1, h2, h3, hpost _ _ _ _ _ _ ⟨Cond.after_iff.mpr rfl, Cond.after_iff.mpr (eq_i res_at (Term.int_eval (1)) rfl), trivial⟩ ⟨hq.1, hq.2.1, (hq.2.2.sift fun y hy => Or.inr (N y hy)).mono (by decide) (by decide)⟩⟩
theorem main_1_1 : Claimed_1_1 := comes_1 fun _ _ _ _ _ _ h hF => ⟨h.1, hF⟩
theorem main_1_2 : Claimed_1_2 := comes_1 fun _ _ _ _ _ _ h hF => ⟨h.2.1, hF⟩
end Jvm.Pilot.@@N@@
namespace Jvm.Pilot.@@N@@
open Jvm Jvm.ClassFile Sem Op Lib Jvm.Free Jvm.Stand Jvm.Pilot.@@N@@.Jvm.D
/-! MADE BY PROGRAM (witnessworld.py) out of the Statement's table words and the real class files: 13 classes; the members and pool entries that the words name. The judged class is class 1, her method 1. -/
namespace start1
open Jvm.ClassFile
def u (s : String) : CpInfo := .utf8 (stringToUtf16 s)
/-- a pool by its gaps: so many unusable entries, then the entry; so many at the end -/
def gap : Nat → List CpInfo → List CpInfo
  | 0, r => r
  | n + 1, r => .unusable :: gap n r
def poolList (es : List (Nat × CpInfo)) (last : Nat) : List CpInfo := es.foldr (fun e r => gap e.1 (e.2 :: r)) (gap last [])
def pool (es : List (Nat × CpInfo)) (last : Nat) : Array CpInfo := ⟨poolList es last⟩
def fileOf (pool : Array CpInfo) (this : Nat) (attrs : Array Attribute := #[]) (ms : Array MethodInfo := #[]) (fl : Nat := 33) (sup : Nat := 0) (ifs : Array Nat := #[]) (fds : Array FieldInfo := #[]) : ClassFile where
  minorVersion := 0
  majorVersion := 65
  constantPool := pool
  accessFlags := fl
  thisClass := this
  superClass := sup
  interfaces := ifs
  fields := fds
  methods := ms
  attributes := attrs
def plain (name : String) (sup : Option ClassId) : Class where
  name := name
  kind := .ordinary
  loader := none
  accessFlags := 33
  super := sup
  interfaces := #[]
  cf := none
  fields := #[]
  methods := #[]
  instanceTypes := #[]
  staticTypes := #[]
  resolved := #[]
  callSites := []
  init := .initialized
  statics := none
  mirror := none

def pool0 : Array CpInfo := pool [(5, u "<init>"), (0, u "()V"), (1, .class_ 10), (1, u "java/lang/Object"), (85, u "clone"), (0, u "()Ljava/lang/Object;")] 26

def k0m0 : Method := { name := "<init>", desc := "()V", sig := { parameters := [], returnType := none }, accessFlags := 1, code := none }
def k0m1 : Method := { name := "clone", desc := "()Ljava/lang/Object;", sig := { parameters := [], returnType := some (.object "java/lang/Object") }, accessFlags := 260, code := none }
/-- java/lang/Object -/
def k0 : Class := { plain "java/lang/Object" none with
  accessFlags := 33
  interfaces := #[]
  cf := some (fileOf pool0 8 #[] #[{ accessFlags := 1, nameIndex := 5, descriptorIndex := 6, attributes := #[] }, { accessFlags := 260, nameIndex := 96, descriptorIndex := 97, attributes := #[] }] 33 0 #[] #[])
  fields := #[]
  methods := #[k0m0, k0m1]
  instanceTypes := #[]
  staticTypes := #[]
  resolved := Array.replicate 124 none
  statics := none }

def pool1 : Array CpInfo := pool [(2, .class_ 4), (1, u "java/lang/Object"), (0, u "<init>"), (0, u "()V"), (0, .methodref 8 9), (0, .class_ 10), (0, .nameAndType 11 12), (0, u "com/example/toehold/toehold/piv/ManagementKeyAlgorithmWithIdPinLaw"), (0, u "expected"), (0, u "(I)Lcom/example/toehold/toehold/piv/ManagementKeyAlgorithm;"), (0, .methodref 14 15), (0, .class_ 16), (0, .nameAndType 17 12), (0, u "com/example/toehold/toehold/piv/ManagementKeyAlgorithm"), (0, u "withId"), (0, .fieldref 14 19), (0, .nameAndType 20 21), (0, u "TDES"), (0, u "Lcom/example/toehold/toehold/piv/ManagementKeyAlgorithm;"), (0, .fieldref 14 23), (0, .nameAndType 24 21), (0, u "AES_128"), (0, .fieldref 14 26), (0, .nameAndType 27 21), (0, u "AES_192"), (0, .fieldref 14 29), (0, .nameAndType 30 21), (0, u "AES_256"), (2, u "law"), (0, u "(II)Z")] 3

def k1m0 : Method := { name := "<init>", desc := "()V", sig := { parameters := [], returnType := none }, accessFlags := 1, code := none }
def k1c1 : Code := { maxStack := 2, maxLocals := 4, code := code, exceptionTable := #[], attributes := #[] }
def k1m1 : Method := { name := "law", desc := "(II)Z", sig := { parameters := [.int, .int], returnType := some .boolean }, accessFlags := 9, code := some k1c1 }
def k1c2 : Code := { maxStack := 2, maxLocals := 1, code := method_3_code, exceptionTable := #[], attributes := #[] }
def k1m2 : Method := { name := "expected", desc := "(I)Lcom/example/toehold/toehold/piv/ManagementKeyAlgorithm;", sig := { parameters := [.int], returnType := some (.object "com/example/toehold/toehold/piv/ManagementKeyAlgorithm") }, accessFlags := 10, code := some k1c2 }
/-- com/example/toehold/toehold/piv/ManagementKeyAlgorithmWithIdPinLaw -/
def k1 : Class := { plain "com/example/toehold/toehold/piv/ManagementKeyAlgorithmWithIdPinLaw" (some 0) with
  accessFlags := 49
  interfaces := #[]
  cf := some (fileOf pool1 8 #[] #[{ accessFlags := 1, nameIndex := 5, descriptorIndex := 6, attributes := #[] }, { accessFlags := 9, nameIndex := 33, descriptorIndex := 34, attributes := #[] }, { accessFlags := 10, nameIndex := 11, descriptorIndex := 12, attributes := #[] }] 49 2 #[] #[])
  fields := #[]
  methods := #[k1m0, k1m1, k1m2]
  instanceTypes := #[]
  staticTypes := #[]
  resolved := Array.replicate 38 none
  statics := none }

def pool2 : Array CpInfo := pool [(1, .class_ 2), (0, u "java/lang/constant/Constable"), (0, .class_ 4), (0, u "java/lang/Object")] 6

/-- java/lang/constant/Constable -/
def k2 : Class := { plain "java/lang/constant/Constable" (some 0) with
  accessFlags := 1537
  interfaces := #[]
  cf := some (fileOf pool2 1 #[] #[] 1537 3 #[] #[])
  fields := #[]
  methods := #[]
  instanceTypes := #[]
  staticTypes := #[]
  resolved := Array.replicate 11 none
  statics := none }

def pool3 : Array CpInfo := pool [(1, .class_ 2), (0, u "java/lang/Comparable"), (0, .class_ 4), (0, u "java/lang/Object")] 7

/-- java/lang/Comparable -/
def k3 : Class := { plain "java/lang/Comparable" (some 0) with
  accessFlags := 1537
  interfaces := #[]
  cf := some (fileOf pool3 1 #[] #[] 1537 3 #[] #[])
  fields := #[]
  methods := #[]
  instanceTypes := #[]
  staticTypes := #[]
  resolved := Array.replicate 12 none
  statics := none }

def pool4 : Array CpInfo := pool [(1, .class_ 2), (0, u "java/io/Serializable"), (0, .class_ 4), (0, u "java/lang/Object")] 2

/-- java/io/Serializable -/
def k4 : Class := { plain "java/io/Serializable" (some 0) with
  accessFlags := 1537
  interfaces := #[]
  cf := some (fileOf pool4 1 #[] #[] 1537 3 #[] #[])
  fields := #[]
  methods := #[]
  instanceTypes := #[]
  staticTypes := #[]
  resolved := Array.replicate 7 none
  statics := none }

def pool5 : Array CpInfo := pool [(2, .class_ 4), (1, u "java/lang/Enum"), (0, u "name"), (0, u "Ljava/lang/String;"), (2, u "ordinal"), (0, u "I"), (1, .class_ 14), (1, u "java/lang/Object"), (4, u "hash"), (86, .class_ 108), (1, u "java/lang/Enum$EnumDesc"), (2, .class_ 112), (0, u "java/lang/constant/Constable"), (0, .class_ 114), (0, u "java/lang/Comparable"), (0, .class_ 116), (0, u "java/io/Serializable")] 87

/-- java/lang/Enum -/
def k5 : Class := { plain "java/lang/Enum" (some 0) with
  accessFlags := 1057
  interfaces := #[2, 3, 4]
  cf := some (fileOf pool5 2 #[.nestMembers #[106]] #[] 1057 12 #[111, 113, 115] #[{ accessFlags := 18, nameIndex := 5, descriptorIndex := 6, attributes := #[] }, { accessFlags := 18, nameIndex := 9, descriptorIndex := 10, attributes := #[] }, { accessFlags := 2, nameIndex := 19, descriptorIndex := 10, attributes := #[] }])
  fields := #[{ name := "name", type := (.object "java/lang/String"), accessFlags := 18, slot := 0, constantValue := 0 }, { name := "ordinal", type := .int, accessFlags := 18, slot := 1, constantValue := 0 }, { name := "hash", type := .int, accessFlags := 2, slot := 2, constantValue := 0 }]
  methods := #[]
  instanceTypes := #[(.object "java/lang/String"), .int, .int]
  staticTypes := #[]
  resolved := Array.replicate 204 none
  statics := none }

def pool6 : Array CpInfo := pool [(1, .class_ 2), (0, u "com/example/toehold/toehold/piv/ManagementKeyAlgorithm"), (2, u "TDES"), (0, u "Lcom/example/toehold/toehold/piv/ManagementKeyAlgorithm;"), (2, u "AES_128"), (2, u "AES_192"), (2, u "AES_256"), (0, .fieldref 1 17), (0, .nameAndType 18 19), (0, u "$VALUES"), (0, u "[Lcom/example/toehold/toehold/piv/ManagementKeyAlgorithm;"), (0, .methodref 21 22), (0, .class_ 19), (0, .nameAndType 23 24), (0, u "clone"), (0, u "()Ljava/lang/Object;"), (1, .class_ 28), (1, u "java/lang/Enum"), (6, .fieldref 1 36), (0, .nameAndType 37 38), (0, u "id"), (0, u "I"), (2, u "name"), (0, u "Ljava/lang/String;"), (2, u "cipher"), (2, u "keyLength"), (2, u "blockLength"), (5, .methodref 1 58), (0, .nameAndType 59 60), (0, u "values"), (0, u "()[Lcom/example/toehold/toehold/piv/ManagementKeyAlgorithm;"), (84, u "withId"), (0, u "(I)Lcom/example/toehold/toehold/piv/ManagementKeyAlgorithm;")] 31

def k6c0 : Code := { maxStack := 1, maxLocals := 0, code := prog_28_method_1_code, exceptionTable := #[], attributes := #[] }
def k6m0 : Method := { name := "values", desc := "()[Lcom/example/toehold/toehold/piv/ManagementKeyAlgorithm;", sig := { parameters := [], returnType := some (.array (.object "com/example/toehold/toehold/piv/ManagementKeyAlgorithm")) }, accessFlags := 9, code := some k6c0 }
def k6c1 : Code := { maxStack := 2, maxLocals := 5, code := prog_28_method_5_code, exceptionTable := #[], attributes := #[] }
def k6m1 : Method := { name := "withId", desc := "(I)Lcom/example/toehold/toehold/piv/ManagementKeyAlgorithm;", sig := { parameters := [.int], returnType := some (.object "com/example/toehold/toehold/piv/ManagementKeyAlgorithm") }, accessFlags := 8, code := some k6c1 }
/-- com/example/toehold/toehold/piv/ManagementKeyAlgorithm -/
def k6 : Class := { plain "com/example/toehold/toehold/piv/ManagementKeyAlgorithm" (some 5) with
  accessFlags := 16433
  interfaces := #[]
  cf := some (fileOf pool6 1 #[] #[{ accessFlags := 9, nameIndex := 59, descriptorIndex := 60, attributes := #[] }, { accessFlags := 8, nameIndex := 145, descriptorIndex := 146, attributes := #[] }] 16433 26 #[] #[{ accessFlags := 16409, nameIndex := 5, descriptorIndex := 6, attributes := #[] }, { accessFlags := 16409, nameIndex := 9, descriptorIndex := 6, attributes := #[] }, { accessFlags := 16409, nameIndex := 12, descriptorIndex := 6, attributes := #[] }, { accessFlags := 16409, nameIndex := 15, descriptorIndex := 6, attributes := #[] }, { accessFlags := 18, nameIndex := 37, descriptorIndex := 38, attributes := #[] }, { accessFlags := 18, nameIndex := 41, descriptorIndex := 42, attributes := #[] }, { accessFlags := 18, nameIndex := 45, descriptorIndex := 42, attributes := #[] }, { accessFlags := 18, nameIndex := 48, descriptorIndex := 38, attributes := #[] }, { accessFlags := 18, nameIndex := 51, descriptorIndex := 38, attributes := #[] }, { accessFlags := 4122, nameIndex := 18, descriptorIndex := 19, attributes := #[] }])
  fields := #[{ name := "TDES", type := (.object "com/example/toehold/toehold/piv/ManagementKeyAlgorithm"), accessFlags := 16409, slot := 0, constantValue := 0 }, { name := "AES_128", type := (.object "com/example/toehold/toehold/piv/ManagementKeyAlgorithm"), accessFlags := 16409, slot := 1, constantValue := 0 }, { name := "AES_192", type := (.object "com/example/toehold/toehold/piv/ManagementKeyAlgorithm"), accessFlags := 16409, slot := 2, constantValue := 0 }, { name := "AES_256", type := (.object "com/example/toehold/toehold/piv/ManagementKeyAlgorithm"), accessFlags := 16409, slot := 3, constantValue := 0 }, { name := "id", type := .int, accessFlags := 18, slot := 3, constantValue := 0 }, { name := "name", type := (.object "java/lang/String"), accessFlags := 18, slot := 4, constantValue := 0 }, { name := "cipher", type := (.object "java/lang/String"), accessFlags := 18, slot := 5, constantValue := 0 }, { name := "keyLength", type := .int, accessFlags := 18, slot := 6, constantValue := 0 }, { name := "blockLength", type := .int, accessFlags := 18, slot := 7, constantValue := 0 }, { name := "$VALUES", type := (.array (.object "com/example/toehold/toehold/piv/ManagementKeyAlgorithm")), accessFlags := 4122, slot := 4, constantValue := 0 }]
  methods := #[k6m0, k6m1]
  instanceTypes := #[(.object "java/lang/String"), .int, .int, .int, (.object "java/lang/String"), (.object "java/lang/String"), .int, .int]
  staticTypes := #[(.object "com/example/toehold/toehold/piv/ManagementKeyAlgorithm"), (.object "com/example/toehold/toehold/piv/ManagementKeyAlgorithm"), (.object "com/example/toehold/toehold/piv/ManagementKeyAlgorithm"), (.object "com/example/toehold/toehold/piv/ManagementKeyAlgorithm"), (.array (.object "com/example/toehold/toehold/piv/ManagementKeyAlgorithm"))]
  resolved := Array.replicate 178 none
  statics := some 0 }

def pool7 : Array CpInfo := pool [(1, .class_ 2), (0, u "java/lang/Cloneable"), (0, .class_ 4), (0, u "java/lang/Object")] 2

/-- java/lang/Cloneable -/
def k7 : Class := { plain "java/lang/Cloneable" (some 0) with
  accessFlags := 1537
  interfaces := #[]
  cf := some (fileOf pool7 1 #[] #[] 1537 3 #[] #[])
  fields := #[]
  methods := #[]
  instanceTypes := #[]
  staticTypes := #[]
  resolved := Array.replicate 7 none
  statics := none }

/-- the primitive byte -/
def k8 : Class := { plain "byte" none with kind := .primitive 'B', accessFlags := 0x411 }
/-- [B -/
def k9 : Class := { plain "[B" (some 0) with kind := .array 8 .byte, interfaces := #[7, 4], accessFlags := 1041 }

/-- the primitive int -/
def k10 : Class := { plain "int" none with kind := .primitive 'I', accessFlags := 0x411 }
/-- [I -/
def k11 : Class := { plain "[I" (some 0) with kind := .array 10 .int, interfaces := #[7, 4], accessFlags := 1041 }

/-- [Lcom/example/toehold/toehold/piv/ManagementKeyAlgorithm; -/
def k12 : Class := { plain "[Lcom/example/toehold/toehold/piv/ManagementKeyAlgorithm;" (some 0) with kind := .array 6 (.object "com/example/toehold/toehold/piv/ManagementKeyAlgorithm"), interfaces := #[7, 4], accessFlags := 1041 }

def heap : Heap := #[{ cls := 6, slots := #[.ref 2, .ref 3, .ref 4, .ref 5, .ref 1], vm := .statics 6 },
  { cls := 12, slots := #[.ref 2, .ref 3, .ref 4, .ref 5], vm := .none },
  { cls := 6, slots := #[.null, .int 0, .int 0, .int 3, .null, .null, .int 0, .int 0], vm := .none },
  { cls := 6, slots := #[.null, .int 1, .int 0, .int 8, .null, .null, .int 0, .int 0], vm := .none },
  { cls := 6, slots := #[.null, .int 2, .int 0, .int 10, .null, .null, .int 0, .int 0], vm := .none },
  { cls := 6, slots := #[.null, .int 3, .int 0, .int 12, .null, .null, .int 0, .int 0], vm := .none }]
def classes : Array Class := #[k0, k1, k2, k3, k4, k5, k6, k7, k8, k9, k10, k11, k12]
def interned : List (Array UInt16 × Addr) := []
def slotsUsed : Nat := 41
def theMethod : MethodId := ⟨1, 1⟩
def args0 : Array Value := #[.int 5, .int 6]
def aboutOver (below : List Frame) : State where
  vm := { classes := classes, interned := interned.toArray }
  heap := heap
  slotsUsed := slotsUsed
  threads := #[{ frames := .invoking theMethod args0 :: below }]
def below0 : List Frame := [.native { method := ⟨0, 0⟩, args := #[] }]
def about1 : State := aboutOver below0
def p0 : Program := .bare "" "" ""
def e0 : Env := launch0.env 0 0 0
theorem w_frames : about1.frames = Frame.invoking theMethod args0 :: below0 := rfl
set_option maxRecDepth 65536 in
theorem w_args : argsFit about1.vm theMethod args0 = true := by decide +kernel
set_option maxRecDepth 65536 in
theorem w_heap : heapFits about1 = true := by decide +kernel
set_option maxRecDepth 65536 in
theorem w_runnable : about1.curStatus? = some .runnable := by decide +kernel
set_option maxRecDepth 65536 in
theorem w_alone : about1.alone = true := by decide +kernel
set_option maxRecDepth 65536 in
theorem w_named : about1.methodNamed? x = some theMethod := by decide +kernel
set_option maxRecDepth 65536 in
theorem w_hears : about1.hears theMethod below0 = true := by decide +kernel
set_option maxRecDepth 65536 in
theorem w_ripe : about1.ripe theMethod args0 below0 = true := by decide +kernel
theorem w_running : about1.status = .running := rfl
set_option maxRecDepth 65536 in
theorem w_room : about1.hasRoom e0.platform room_1 = true :=
  launch0.hasRoom_least _ room_1 (by decide +kernel) (by decide +kernel) (by decide +kernel) (by decide +kernel) (by decide +kernel) (by decide +kernel)
theorem allAtoms_all (ts : List Jvm.Cond) (a : Array Jvm.Value) (st : Jvm.State) : (allAtoms ts).before a st = ts.all (fun c => c.before a st) := by
  induction ts with
  | nil => rfl
  | cons c t ih =>
    show (Jvm.Cond.and c (allAtoms t)).before a st = _
    rw [Jvm.Cond.before_and, ih, List.all_cons]
def words1 : List Jvm.Cond := Jvm.Cond.code x code maxLocals ret :: tables_1
/-- a 'code' word, met by the world's own term for the bytes: nothing is compared byte by byte -/
theorem code_word {y : MethodName} {bytes : ByteArray} {mx : Nat} {rt : Option FieldType} {a : Array Value} {s : State} {m : MethodId} {meth : Method} {c : Code} (h1 : s.methodNamed? y = some m) (h2 : s.vm.method? m = some meth) (h3 : meth.code = some c) (h4 : c.code = bytes)
    (h5 : (c.maxLocals == mx && c.exceptionTable.isEmpty && decide (c.maxStack ≤ mostOperands) && decide (meth.sig.returnType = rt) && !meth.locks && decide (parseMethodDescriptor y.desc = some meth.sig)) = true) : (Jvm.Cond.code y bytes mx rt).before a s = true := by
  simp only [Bool.and_eq_true, beq_iff_eq, Bool.not_eq_true', decide_eq_true_eq] at h5
  obtain ⟨⟨⟨⟨⟨g1, g2⟩, g3⟩, g4⟩, g5⟩, g6⟩ := h5
  simp [Cond.before, Cond.holds, Cond.value, h1, h2, h3, h4, g1, g2, g3, g4, g5, g6]
def isCode : Jvm.Cond → Bool
  | .code _ _ _ _ => true
  | _ => false
theorem all_split {L : List Jvm.Cond} {P : Jvm.Cond → Bool} (h1 : L.all (fun c => isCode c || P c) = true) (h2 : ∀ c ∈ L.filter isCode, P c = true) : L.all P = true := by
  refine List.all_eq_true.mpr fun c hc => ?_
  have h := List.all_eq_true.mp h1 c hc
  rcases Bool.eq_false_or_eq_true (isCode c) with hi | hi
  · exact h2 c (List.mem_filter.mpr ⟨hc, hi⟩)
  · simpa [hi] using h
set_option maxRecDepth 65536 in
theorem w_c0 : (Jvm.Cond.code x code maxLocals ret).before args0 about1 = true := code_word (m := ⟨1, 1⟩) (meth := k1m1) (c := k1c1) (by decide +kernel) rfl rfl rfl (by decide +kernel)
set_option maxRecDepth 65536 in
theorem w_c1 : (Jvm.Cond.code ({ cls := "com/example/toehold/toehold/piv/ManagementKeyAlgorithmWithIdPinLaw", name := "expected", desc := "(I)Lcom/example/toehold/toehold/piv/ManagementKeyAlgorithm;" } : Jvm.MethodName) method_3_code (1 : Nat) (Option.some (Jvm.ClassFile.FieldType.object "com/example/toehold/toehold/piv/ManagementKeyAlgorithm"))).before args0 about1 = true := code_word (m := ⟨1, 2⟩) (meth := k1m2) (c := k1c2) (by decide +kernel) rfl rfl rfl (by decide +kernel)
set_option maxRecDepth 65536 in
theorem w_c2 : (Jvm.Cond.code ({ cls := "com/example/toehold/toehold/piv/ManagementKeyAlgorithm", name := "withId", desc := "(I)Lcom/example/toehold/toehold/piv/ManagementKeyAlgorithm;" } : Jvm.MethodName) prog_28_method_5_code (5 : Nat) (Option.some (Jvm.ClassFile.FieldType.object "com/example/toehold/toehold/piv/ManagementKeyAlgorithm"))).before args0 about1 = true := code_word (m := ⟨6, 1⟩) (meth := k6m1) (c := k6c1) (by decide +kernel) rfl rfl rfl (by decide +kernel)
set_option maxRecDepth 65536 in
theorem w_c3 : (Jvm.Cond.code ({ cls := "com/example/toehold/toehold/piv/ManagementKeyAlgorithm", name := "values", desc := "()[Lcom/example/toehold/toehold/piv/ManagementKeyAlgorithm;" } : Jvm.MethodName) prog_28_method_1_code (0 : Nat) (Option.some (Jvm.ClassFile.FieldType.array (Jvm.ClassFile.FieldType.object "com/example/toehold/toehold/piv/ManagementKeyAlgorithm")))).before args0 about1 = true := code_word (m := ⟨6, 0⟩) (meth := k6m0) (c := k6c0) (by decide +kernel) rfl rfl rfl (by decide +kernel)
def codes1 : List Jvm.Cond := [Jvm.Cond.code x code maxLocals ret, Jvm.Cond.code ({ cls := "com/example/toehold/toehold/piv/ManagementKeyAlgorithmWithIdPinLaw", name := "expected", desc := "(I)Lcom/example/toehold/toehold/piv/ManagementKeyAlgorithm;" } : Jvm.MethodName) method_3_code (1 : Nat) (Option.some (Jvm.ClassFile.FieldType.object "com/example/toehold/toehold/piv/ManagementKeyAlgorithm")), Jvm.Cond.code ({ cls := "com/example/toehold/toehold/piv/ManagementKeyAlgorithm", name := "withId", desc := "(I)Lcom/example/toehold/toehold/piv/ManagementKeyAlgorithm;" } : Jvm.MethodName) prog_28_method_5_code (5 : Nat) (Option.some (Jvm.ClassFile.FieldType.object "com/example/toehold/toehold/piv/ManagementKeyAlgorithm")), Jvm.Cond.code ({ cls := "com/example/toehold/toehold/piv/ManagementKeyAlgorithm", name := "values", desc := "()[Lcom/example/toehold/toehold/piv/ManagementKeyAlgorithm;" } : Jvm.MethodName) prog_28_method_1_code (0 : Nat) (Option.some (Jvm.ClassFile.FieldType.array (Jvm.ClassFile.FieldType.object "com/example/toehold/toehold/piv/ManagementKeyAlgorithm")))]
set_option maxRecDepth 65536 in
theorem codes_eq : words1.filter isCode = codes1 := rfl
theorem w_codes : ∀ c ∈ words1.filter isCode, c.before args0 about1 = true := by
  rw [codes_eq]
  intro c hc
  simp only [codes1, List.mem_cons, List.not_mem_nil, or_false] at hc
  rcases hc with rfl | rfl | rfl | rfl
  · exact w_c0
  · exact w_c1
  · exact w_c2
  · exact w_c3
set_option maxRecDepth 65536 in
theorem w_t1 : (words1.take 24).all (fun c => isCode c || c.before args0 about1) = true := by decide +kernel
set_option maxRecDepth 65536 in
theorem w_t2 : (words1.drop 24).all (fun c => isCode c || c.before args0 about1) = true := by decide +kernel
theorem w_tables : (allAtoms (Jvm.Cond.code x code maxLocals ret :: tables_1)).before args0 about1 = true := by
  rw [allAtoms_all]
  show words1.all (fun c => c.before args0 about1) = true
  refine all_split ?_ w_codes
  rw [← List.take_append_drop 24 words1, List.all_append, w_t1, w_t2]
  rfl
set_option maxRecDepth 65536 in
theorem w_case : (Jvm.Cond.and given_1 narrow_1).before args0 about1 = true := by decide +kernel
theorem w_applies : (headSpec (Jvm.Cond.code x code maxLocals ret :: tables_1) room_1).applies x e0.platform about1 = true :=
  (Spec.applies_iff w_frames).mpr ⟨w_running, w_runnable, w_alone, w_named, w_hears, w_ripe, w_room, w_tables⟩
theorem atStart : AtStart classFile x code maxLocals ret World_1 tables_1 room_1 Calls_1 rest_1 Pre_1 launch0 p0 e0 about1 theMethod args0 below0 :=
  ⟨lists_1, trivial, launch0.admits_env _ _ _, launch0.least_env, fairChoices_fair.cas, fairChoices_fair.clock, w_frames, w_args, w_heap, w_applies, trivial, trivial, w_case⟩
end start1
theorem witness_1 : WitnessClaimed_1 := ⟨start1.p0, start1.e0, start1.about1, start1.theMethod, start1.args0, start1.below0, start1.atStart⟩
end Jvm.Pilot.@@N@@
